import PyProof.Rows.All
import Wide.All
import OpenK.AllK
import Wide.FinOn
import PySem.Challenge.RW_iv0072_01
open PySem PySem.W PyProof.Rows
set_option Elab.async false
set_option maxRecDepth 100000
set_option linter.all false
local macro_rules | `(tactic| walk_at $s:str) => `(tactic| k_extra $s)
local macro_rules | `(tactic| k_ne) => `(tactic| k_extra "ne9")
namespace Mine
noncomputable section
set_option maxHeartbeats 8000000
open_top hd for PySem.Challenge.rw_iv0072_01
theorem freshFun1 : True := by
  k_with_none
  trivial
def Does (n : Nat) (w : World) (f : Addr) (vs : List Value) (Ret : Value → Prop) : Prop :=
  ∀ (dp un : Nat) (gd : Option (List Code)) (cn : Str) (cs : Scope) (a : Addr) (ccd : Value) (cl : List (Str × Addr)) (outer : List Env) (A₀ : Around) (base h₀ : Heap) (L : Addr) (m : Str → Option Value) (news : List (Addr × Obj)) (s : Shared) (Q E : Value → Shared → Prop)
    (p : Program) (loose : List Str) (mean : ExcName → Option Value) (mg mb : Str → Option Value),
    Below A₀ base outer h₀ → Fr h₀ L s.heap m → (hd.heap_39 w.params).In h₀ → News h₀ L s.heap news → Top p loose mean mg mb h₀ → cs.kind = .function → dp + n < recursionLimit → un + 8 * n < cLine →
    (∀ v h' tk', Ret v → Fr h₀ L h' m → News h₀ L h' news → Q v { s with heap := h', toks := tk' }) →
    wpAny (model PySem.Challenge.rw_iv0072_01.row.prog w) (ktrTop dp un gd cn cs L a ccd cl outer) (call (.ref f) vs) Q E s
theorem Does.use {n : Nat} {w : World} {f : Addr} {vs : List Value} {Ret : Value → Prop} {dp un : Nat} {gd : Option (List Code)} {cn : Str} {cs : Scope} {a : Addr} {ccd : Value} {cl : List (Str × Addr)} {outer : List Env} {A₀ : Around} {base h₀ : Heap} {L : Addr} {m : Str → Option Value} {news : List (Addr × Obj)} {s : Shared} {Q E : Value → Shared → Prop}
    {p : Program} {loose : List Str} {mean : ExcName → Option Value} {mg mb : Str → Option Value} (C : Does n w f vs Ret)
    (B : Below A₀ base outer h₀) (F : Fr h₀ L s.heap m) (X : (hd.heap_39 w.params).In h₀) (N : News h₀ L s.heap news) (T : Top p loose mean mg mb h₀) (hk : cs.kind = .function) (hd : dp + n < recursionLimit) (hu : un + 8 * n < cLine)
    (h : ∀ v h' tk', Ret v → Fr h₀ L h' m → News h₀ L h' news → Q v { s with heap := h', toks := tk' }) :
    wpAny (model PySem.Challenge.rw_iv0072_01.row.prog w) (ktrTop dp un gd cn cs L a ccd cl outer) (call (.ref f) vs) Q E s := C _ _ _ _ _ _ _ _ _ _ _ _ _ _ _ _ _ _ _ _ _ _ _ B F X N T hk hd hu h
section
variable {M : Model} {A : Around} {E : Value → Shared → Prop} {env : Env} {pos : Pos} {s : Shared}
def Ev (M : Model) (A : Around) (E : Value → Shared → Prop) (env : Env) (e : PySem.Expr) (s : Shared) (v : Value) (s' : Shared) : Prop := ∀ Q : Value → Shared → Prop, Q v s' → wpAny M A (eval e env) Q E s
def Evs (M : Model) (A : Around) (E : Value → Shared → Prop) (env : Env) (es : List PySem.Expr) (s : Shared) (vs : List Value) (s' : Shared) : Prop :=
  ∀ (pos : Pos) (Q : List Value → Shared → Prop), Q vs s' → wpAny M A (spliced (backTo pos (starEach es env))) Q E s
theorem args1 {e1 : PySem.Expr} {v1 : Value} {ss1 : Shared} (hst1 : starEach [e1] env = [(false, eval e1 env)]) (he1 : Ev M A E env e1 s v1 ss1) : Evs M A E env [e1] s [v1] ss1 :=
  fun pos Q h => hst1 ▸ Calls.spliced_cons (he1 _ (Calls.spliced_nil h))
theorem argsC {e1 e2 : PySem.Expr} {es : List PySem.Expr} {v1 : Value} {vs : List Value} {ss1 ssr : Shared} (hst1 : starEach (e1 :: e2 :: es) env = (false, eval e1 env) :: starEach (e2 :: es) env) (he1 : Ev M A E env e1 s v1 ss1) (h : Evs M A E env (e2 :: es) ss1 vs ssr) : Evs M A E env (e1 :: e2 :: es) s (v1 :: vs) ssr :=
  fun pos Q hq => hst1 ▸ Calls.spliced_cons (he1 _ (h pos _ hq))
theorem callK {x : Str} {px : Pos} {e : PySem.Expr} {rest : List PySem.Expr} {f : Value} {vs : List Value} {K : Frag} {ss0 ssr : Shared} {h₀ : Heap} {L : Addr} {mm : Str → Option Value} {Q : Value → Shared → Prop} (hfun : Ev M A E env (.Name x px) s f ss0) (hargs : Evs M A E env (e :: rest) ss0 vs ssr) (hFr : Fr h₀ L ssr.heap mm) (hIn : K.In h₀) (hkeep : keepIn K f = true)
    (h : wpAny M A (call f vs) Q E ssr) (hst : starEach (e :: rest) env = (false, eval e env) :: starEach rest env) (hpl : (backTo pos (starEach rest env)).any (·.1) = false) : wpAny M A (eval (.Call (.Name x px) (e :: rest) [] pos) env) Q E s :=
  Call_ (hfun _ (callWith_K (first := []) hIn hkeep (hargs pos _ ⟨hIn.keeps hFr.keep, h⟩) hst hpl)) rfl
theorem callB {x : Str} {px : Pos} {e : PySem.Expr} {rest : List PySem.Expr} {id : String} {vs : List Value} {ss0 ssr : Shared} {Q : Value → Shared → Prop} (hfun : Ev M A E env (.Name x px) s (.builtin id) ss0) (hargs : Evs M A E env (e :: rest) ss0 vs ssr)
    (h : wpAny M A (call (.builtin id) vs) Q E ssr) (hst : starEach (e :: rest) env = (false, eval e env) :: starEach rest env) (hpl : (backTo pos (starEach rest env)).any (·.1) = false) : wpAny M A (eval (.Call (.Name x px) (e :: rest) [] pos) env) Q E s :=
  Call_ (hfun _ (callWith_builtin1 (hargs pos _ h) hst hpl)) rfl
end
theorem units_in {un n c : Nat} (h : un + 8 * (n + 1) < c) : un + 3 + 8 * n < c := by
  rw [Nat.mul_add] at h
  exact Nat.lt_of_le_of_lt (by rw [Nat.add_right_comm, Nat.add_assoc]; exact Nat.add_le_add_left (Nat.add_le_add_left (by decide) _) _) h
theorem Does.of_body {n : Nat} {w : World} {f : Addr} {vs : List Value} {Ret : Value → Prop} {name qual : Str} {params : Arguments} {body : List Stmt} {scope : Scope} {dV kV doc pm cdv ct oc : Value} {an od : Option Addr} {osl : Array (Option Value)} {binds : List (Str × Value)}
    (ho : (hd.heap_39 w.params).lookup f = some ⟨oc, od, .func (fnOf name qual params body scope dV kV doc pm an cdv ct), osl⟩) (hcd : codeIn (hd.heap_39 w.params) cdv qual = true)
    (hb : ∀ s : Shared, (hd.heap_39 w.params).In s.heap → BindsTo s (fnOf name qual params body scope dV kV doc pm an cdv ct) ⟨vs, []⟩ binds) (hl : ∀ y ∈ binds, scope.names.lookup y.1 = some .local) (hco : scope.isCoroutine = false) (hgen : scope.isGenerator = false) (hk : scope.kind = .function) (hcell : ∀ x ∈ scope.names, x.2 ≠ .cell)
    (H : ∀ (dp un : Nat) (gd : Option (List Code)) (L : Addr) (outer : List Env) (A₀ : Around) (base h₀ : Heap) (news : List (Addr × Obj)) (s : Shared) (Q : Flow → Shared → Prop) (p : Program) (loose : List Str) (mean : ExcName → Option Value) (mg mb : Str → Option Value),
      Below A₀ base outer h₀ → Fr h₀ L s.heap (fun y => binds.reverse.lookup y) → (hd.heap_39 w.params).In h₀ → News h₀ L s.heap news → Top p loose mean mg mb h₀ → dp + n < recursionLimit → un + 8 * n < cLine →
      (∀ v m' h' tk', Ret v → Fr h₀ L h' m' → News h₀ L h' news → Q (.ret v) { s with heap := h', toks := tk' }) →
      wpAny (model PySem.Challenge.rw_iv0072_01.row.prog w) (ktrTop dp un gd qual scope L f cdv [] outer) (execs body (envX qual scope L f cdv [])) Q (fun _ _ => False) s) : Does (n + 1) w f vs Ret := by
  intro dp un gd cn cs a ccd cl outer A₀ base h₀ L m news s Q E p loose mean mg mb B F X N T hk' hdp hun hret
  refine wpAny_call (code_def B F X N T rfl rfl hk' ho hcd (Nat.lt_of_le_of_lt (Nat.le_add_right _ _) hdp) (hb s (X.keeps F.keep)) hl ?_ hco hgen hk hcell)
  intro g L' h₁ FG F' N' B' X' T'
  refine wpAny_noRaise (H (dp + 1) (un + 3) gd L' _ _ _ g news _ _ p loose mean mg mb B' F' X' N' T' ?_ ?_ ?_)
  · rw [Nat.add_assoc, Nat.add_comm 1 n]; exact hdp
  · exact units_in hun
  · intro v m' h' tk' hr F2 N2
    exact leaveK_ F2 N2 fun F3 N3 => hret v h' tk' hr F3 N3
def numOf (size : Int) (signed : Bool) (x : Int) : Int := if signed then x - 2 ^ (size - 1).toNat else x
def keyOf (size : Int) (signed : Bool) (x : Int) : Int := if signed then x + 2 ^ (size - 1).toNat else x
theorem fmod_small {x n : Int} (h0 : 0 ≤ x) (h1 : x < n) : Int.fmod x n = x := by
  rw [Int.fmod_eq_emod_of_nonneg _ (Int.le_of_lt (Int.lt_of_le_of_lt h0 h1)), Int.emod_eq_of_lt h0 h1]
theorem value_little : ∀ (n : Nat) (x : Int), 0 ≤ x → x < 256 ^ n → KFB.value (KTBy.little n x).reverse = x := by
  have key : ∀ (n : Nat) (x : Int), 0 ≤ x → x < 256 ^ n → (KTBy.little n x).foldr (fun k a => a * 256 + k) 0 = x := by
    intro n
    induction n with
    | zero => exact fun x h0 h1 => Int.le_antisymm h0 (Int.le_of_lt_add_one h1)
    | succ n ih =>
      intro x h0 h1
      have h2 : x / 256 < 256 ^ n := by
        rw [Int.pow_succ] at h1
        exact Int.ediv_lt_of_lt_mul (by decide) h1
      rw [KTBy.little, List.foldr_cons, ih _ (Int.ediv_nonneg h0 (by decide)) h2, Int.mul_comm]
      exact Int.mul_ediv_add_emod x 256
  intro n x h0 h1
  unfold KFB.value
  rw [List.foldl_reverse]
  exact key n x h0 h1
section
variable {prog : Program} {w : World} {A : Around} {E : Value → Shared → Prop} {s : Shared}
theorem call_big_x {h₀ : Heap} {L : Addr} {news : List (Addr × Obj)} {x : Addr} {b : Array UInt8} {t u : Tok} {n : Int} {Q : Value → Shared → Prop} (N : News h₀ L s.heap news) (hm : (x, KFB.bound) ∈ news) (hl : b.size ≤ 8) (hv : KFB.value (KBw.bInts b) = n)
    (h : ∀ t' k, Q (.int n t') { s with toks := k }) : wpAny (model prog w) A (call (.ref x) [.bytes b t, .str (PySem.Str.ofString "big") u]) Q E s := by
  subst hv
  exact KFB.call_big N hm rfl (by rw [KBw.ints_length]; exact hl) h
theorem to_big_x {x : Int} {k : Nat} {t u v : Tok} {Q : Value → Shared → Prop} (hk : k ≤ 8) (h0 : 0 ≤ x) (h1 : x < 256 ^ k)
    (h : ∀ (b : Array UInt8) t' k', KBw.bInts b = (KTBy.little k x).reverse → Q (.bytes b t') { s with toks := k' }) :
    wpAny (model prog w) A (call (.builtin "int.to_bytes") [.int (x.fmod (256 ^ (k : Int).toNat)) t, .int (k : Int) u, .str (PySem.Str.ofString "big") v]) Q E s := by
  rw [Int.toNat_natCast, fmod_small h0 h1]
  exact KTBy.to_big hk rfl h0 h1 fun b t' k' hb _ => h b t' k' hb
end
theorem in_tails {α : Type} {a : α} {l r : List α} (h : ∀ p ∈ l, p ∈ r) : ∀ p ∈ l, p ∈ a :: r := fun p hp => .tail _ (h p hp)
theorem in_under {α : Type} {a : α} {l r : List α} (h : ∀ p ∈ l, p ∈ r) : ∀ p ∈ a :: l, p ∈ a :: r := fun p hp => by
  cases hp with
  | head _ => exact .head _
  | tail _ hp => exact .tail _ (h p hp)
theorem frame_op {h₀ h : Heap} {L : Addr} {m : Str → Option Value} (P : (Str → Option Value) → Prop) (F : Fr h₀ L h m) (hp : P m) : ∃ m', Fr h₀ L h m' ∧ P m' := ⟨m, F, hp⟩
def DoesT (n : Nat) (w : World) (f : Addr) (vs : List Value) (x : Int) : Prop :=
  ∀ (dp un : Nat) (gd : Option (List Code)) (cn : Str) (cs : Scope) (a : Addr) (ccd : Value) (cl : List (Str × Addr)) (outer : List Env) (A₀ : Around) (base h₀ : Heap) (L : Addr) (m : Str → Option Value) (news : List (Addr × Obj)) (s : Shared) (Q E : Value → Shared → Prop)
    (p : Program) (loose : List Str) (mean : ExcName → Option Value) (mg mb : Str → Option Value),
    Below A₀ base outer h₀ → Fr h₀ L s.heap m → (hd.heap_39 w.params).In h₀ → News h₀ L s.heap news → Top p loose mean mg mb h₀ → cs.kind = .function → dp + n < recursionLimit → un + 8 * n < cLine →
    (∀ D t h' tk', Fr h₀ L h' m → News h₀ L h' ((D, ({ cls := .type "tuple", data := .seq #[Value.int x t] } : Obj)) :: news) → Q (.ref D) { s with heap := h', toks := tk' }) →
    wpAny (model PySem.Challenge.rw_iv0072_01.row.prog w) (ktrTop dp un gd cn cs L a ccd cl outer) (call (.ref f) vs) Q E s
theorem DoesT.use {n : Nat} {w : World} {f : Addr} {vs : List Value} {x : Int} {dp un : Nat} {gd : Option (List Code)} {cn : Str} {cs : Scope} {a : Addr} {ccd : Value} {cl : List (Str × Addr)} {outer : List Env} {A₀ : Around} {base h₀ : Heap} {L : Addr} {m : Str → Option Value} {news : List (Addr × Obj)} {s : Shared} {Q E : Value → Shared → Prop}
    {p : Program} {loose : List Str} {mean : ExcName → Option Value} {mg mb : Str → Option Value} (C : DoesT n w f vs x)
    (B : Below A₀ base outer h₀) (F : Fr h₀ L s.heap m) (X : (hd.heap_39 w.params).In h₀) (N : News h₀ L s.heap news) (T : Top p loose mean mg mb h₀) (hk : cs.kind = .function) (hd : dp + n < recursionLimit) (hu : un + 8 * n < cLine)
    (h : ∀ D t h' tk', Fr h₀ L h' m → News h₀ L h' ((D, ({ cls := .type "tuple", data := .seq #[Value.int x t] } : Obj)) :: news) → Q (.ref D) { s with heap := h', toks := tk' }) :
    wpAny (model PySem.Challenge.rw_iv0072_01.row.prog w) (ktrTop dp un gd cn cs L a ccd cl outer) (call (.ref f) vs) Q E s := C _ _ _ _ _ _ _ _ _ _ _ _ _ _ _ _ _ _ _ _ _ _ _ B F X N T hk hd hu h
theorem DoesT.of_body {n : Nat} {w : World} {f : Addr} {vs : List Value} {x : Int} {name qual : Str} {params : Arguments} {body : List Stmt} {scope : Scope} {dV kV doc pm cdv ct oc : Value} {an od : Option Addr} {osl : Array (Option Value)} {binds : List (Str × Value)}
    (ho : (hd.heap_39 w.params).lookup f = some ⟨oc, od, .func (fnOf name qual params body scope dV kV doc pm an cdv ct), osl⟩) (hcd : codeIn (hd.heap_39 w.params) cdv qual = true)
    (hb : ∀ s : Shared, (hd.heap_39 w.params).In s.heap → BindsTo s (fnOf name qual params body scope dV kV doc pm an cdv ct) ⟨vs, []⟩ binds) (hl : ∀ y ∈ binds, scope.names.lookup y.1 = some .local) (hco : scope.isCoroutine = false) (hgen : scope.isGenerator = false) (hk : scope.kind = .function) (hcell : ∀ x ∈ scope.names, x.2 ≠ .cell)
    (H : ∀ (dp un : Nat) (gd : Option (List Code)) (L : Addr) (outer : List Env) (A₀ : Around) (base h₀ : Heap) (news : List (Addr × Obj)) (s : Shared) (Q : Flow → Shared → Prop) (p : Program) (loose : List Str) (mean : ExcName → Option Value) (mg mb : Str → Option Value),
      Below A₀ base outer h₀ → Fr h₀ L s.heap (fun y => binds.reverse.lookup y) → (hd.heap_39 w.params).In h₀ → News h₀ L s.heap news → Top p loose mean mg mb h₀ → dp + n < recursionLimit → un + 8 * n < cLine →
      (∀ D t m' h' tk', Fr h₀ L h' m' → News h₀ L h' ((D, ({ cls := .type "tuple", data := .seq #[Value.int x t] } : Obj)) :: news) → Q (.ret (.ref D)) { s with heap := h', toks := tk' }) →
      wpAny (model PySem.Challenge.rw_iv0072_01.row.prog w) (ktrTop dp un gd qual scope L f cdv [] outer) (execs body (envX qual scope L f cdv [])) Q (fun _ _ => False) s) : DoesT (n + 1) w f vs x := by
  intro dp un gd cn cs a ccd cl outer A₀ base h₀ L m news s Q E p loose mean mg mb B F X N T hk' hdp hun hret
  refine wpAny_call (code_def B F X N T rfl rfl hk' ho hcd (Nat.lt_of_le_of_lt (Nat.le_add_right _ _) hdp) (hb s (X.keeps F.keep)) hl ?_ hco hgen hk hcell)
  intro g L' h₁ FG F' N' B' X' T'
  refine wpAny_noRaise (H (dp + 1) (un + 3) gd L' _ _ _ g news _ _ p loose mean mg mb B' F' X' N' T' ?_ ?_ ?_)
  · rw [Nat.add_assoc, Nat.add_comm 1 n]; exact hdp
  · exact units_in hun
  · intro D t m' h' tk' F2 N2
    exact leaveK_ F2 N2 fun F3 N3 => hret D t h' tk' F3 N3
theorem filled : True := by first | ((suffices hx : ∀ w : World, (hd.heap_39 w.params).In (PySem.Challenge.rw_iv0072_01.row.prog, default).2 from trivial); k_fill; fail) | trivial
theorem words1 : True := by
  k_with "ite" => (k_here; first | (refine ite_neg (by simp <;> omega) ?_) | (refine ite_pos (by simp <;> omega) ?_))
  k_with "read" => k_dflt (refine' nameX_L ?q1 ?q2 ?_ ?q3 ?q4; (case q3 => rfl); (case q1 => k_asm); (case q4 => rfl); (case q2 => assumption); k_whole)
  k_with "eval Name" => (k_here; (with_reducible show wpAny _ _ (eval (PySem.Expr.Name _ _) _) _ _ _); k_extra "read")
  k_with "loadName" => (k_here; (refine ldn (by k_asm) (by assumption) ?_))
  k_with "ev" => (first | ((with_reducible show wpAny _ _ (eval (PySem.Expr.Name _ _) _) _ _ _); walk_at "eval Name"; exact he9) | ((with_reducible show wpAny _ _ (eval (PySem.Expr.Constant _ _ _) _) _ _ _); (first | walk_at "eval Constant str" | walk_at "eval Constant int" | walk_at "eval Constant bool"); exact he9))
  k_with "evs" => (first | (apply args1; (case hst1 => exact rfl); (case he1 => (intro Qe he9; k_extra "ev"))) | (apply argsC; (case hst1 => exact rfl); (case he1 => (intro Qe he9; k_extra "ev")); k_extra "evs"))
  k_with "eval Call" => (k_here; (with_reducible show wpAny _ _ (eval (PySem.Expr.Call (PySem.Expr.Name _ _) (_ :: _) [] _) _) _ _ _); k_dflt (first | (apply callK; (case hfun => (intro Qe he9; k_extra "ev")); (case hst => exact rfl); (case hpl => exact rfl); (case hargs => k_extra "evs"); (case hFr => k_asm); (case hIn => k_asm); (case hkeep => k_is)) | (apply callB; (case hfun => (intro Qe he9; k_extra "ev")); (case hst => exact rfl); (case hpl => exact rfl); (case hargs => k_extra "evs"))))
  k_with "body" => (refine' Does.of_body ?ho ?hcd ?hb ?hl ?hco ?hgen ?hkk ?hcell ?_; (case ho => k_is); (case hcd => k_is); (case hb => first | exact fun _ _ => BindsTo.of_eq rfl | exact fun _ x9 => binds_K x9 rfl (by k_is) rfl rfl rfl); (case hl => exact locs rfl); (case hco => exact rfl); (case hgen => exact rfl); (case hkk => exact rfl); (case hcell => decide))
  k_with "in" => (k_extra "body"; intro dp un gd L outer A₀ base h₀ news s Q p loose mean mg mb B F X N T hdp hun hret; k_extra "frame"; clear F; k_steps)
  k_with "out" => (refine hret _ _ _ _ ?_ (by k_asm) ?_; rotate_left; (exact cb_drop (by assumption) (by first | exact fun _ h => h | exact in_tails fun _ h => h | exact in_tails (in_tails fun _ h => h))))
  trivial
theorem to_sortable_does {w : World} {size x : Int} {signed : Bool} {t1 t2 t3 : Tok} (hs0 : 8 ≤ size) (hs1 : size ≤ 64) :
    Does 2 w 112 [.str (PySem.Str.ofString "int") t1, .int size t2, .bool signed, .int x t3] (fun v => ∃ t, v = .int (keyOf size signed x) t) := by
  k_with "frame" => (obtain ⟨m, F', q09, q19, q29, q39⟩ := frame_op (fun m => m (PySem.Str.ofString "numtype") = some _ ∧ m (PySem.Str.ofString "intsize") = some _ ∧ m (PySem.Str.ofString "signed") = some _ ∧ m (PySem.Str.ofString "x") = some _) F ⟨rfl, rfl, rfl, rfl⟩)
  k_extra "in"
  all_goals (k_extra "out"; exact ktn_int (by simp [keyOf, *]))
theorem from_sortable_does {w : World} {size x : Int} {signed : Bool} {t1 t2 t3 : Tok} (hs0 : 8 ≤ size) (hs1 : size ≤ 64) :
    Does 2 w 119 [.str (PySem.Str.ofString "int") t1, .int size t2, .bool signed, .int x t3] (fun v => ∃ t, v = .int (numOf size signed x) t) := by
  k_extra "in"
  all_goals (k_extra "out"; exact ktn_int (by simp [numOf, *]))
theorem packed_does {w : World} {k : Nat} {x : Int} {t1 t2 t3 : Tok} (hk1 : k ≤ 8) (h0 : 0 ≤ x) (h1 : x < 256 ^ k) :
    Does 2 w 42 [.int x t1, .int 0 t2, .int (k : Int) t3] (fun v => ∃ b t, v = .bytes b t ∧ KBw.bInts b = (KTBy.little k x).reverse) := by
  k_with "call builtin:int.to_bytes" => (k_here; k_dflt (refine to_big_x (by assumption) (by assumption) (by assumption) ?_); intro _ _ _ _)
  k_with "frame" => (obtain ⟨m, F', q09, q19, q29⟩ := frame_op (fun m => m (PySem.Str.ofString "n") = some _ ∧ m (PySem.Str.ofString "low") = some _ ∧ m (PySem.Str.ofString "size") = some _) F ⟨rfl, rfl, rfl⟩)
  k_extra "in"
  all_goals (k_extra "out"; exact ⟨_, _, rfl, by assumption⟩)
def Fits (size x : Int) : Prop := 0 ≤ x ∧ ((size = 8 ∧ x < 256) ∨ (size = 16 ∧ x < 65536) ∨ (size = 32 ∧ x < 4294967296) ∨ (size = 64 ∧ x < 18446744073709551616))
theorem Fits.pow {size x : Int} (h : Fits size x) : x < 256 ^ (size / 8).toNat := by
  rcases h.2 with ⟨rfl, h'⟩ | ⟨rfl, h'⟩ | ⟨rfl, h'⟩ | ⟨rfl, h'⟩ <;> exact h'
theorem Fits.last {size x : Int} (h : Fits size x) (a : size ≠ 8) (b : size ≠ 16) (c : size ≠ 32) : size = 8 * ((8 : Nat) : Int) := by
  rcases h.2 with h | h | h | h
  · exact absurd h.1 a
  · exact absurd h.1 b
  · exact absurd h.1 c
  · exact h.1
theorem size_nat {k : Nat} : (8 * (k : Int) / 8).toNat = k := by rw [Int.mul_ediv_cancel_left _ (by decide), Int.toNat_natCast]
theorem packed_use {w : World} {size : Int} {k : Nat} {x : Int} {t1 t2 t3 : Tok} {f : Addr} {vs : List Value} (hf : f = 42) (hs : size = 8 * (k : Int)) (hx : Fits size x) (hv : vs = [.int x t1, .int 0 t2, .int (k : Int) t3]) (hk1 : k ≤ 8) :
    Does 2 w f vs (fun v => ∃ b t, v = .bytes b t ∧ KBw.bInts b = (KTBy.little (size / 8).toNat x).reverse) := by
  subst hf hv hs
  have e : (8 * (k : Int) / 8).toNat = k := size_nat
  have hp := hx.pow
  rw [e] at hp ⊢
  exact packed_does hk1 hx.1 hp
section
variable {w : World} {size x : Int} {k : Nat} {t1 : Tok} {f : Addr} {name qual y : Str} {params : Arguments} {scope : Scope} {dV kV doc pm cdv ct oc : Value} {an od : Option Addr} {osl : Array (Option Value)} {p1 p2 p3 p4 p5 p6 p7 : Pos} {k1 k2 k3 : Nat}
theorem pack_gen (hs : size = 8 * (k : Int)) (hx : Fits size x) (hk1 : k ≤ 8)
    (ho : (hd.heap_39 w.params).lookup f = some ⟨oc, od, .func (fnOf name qual params [.Return (some (.Call (.Name (Str.ofString "_packed") p1) [.Name (Str.ofString "n") p2, .Constant (.int 0) k1 p3, .Constant (.int (k : Int)) k2 p4] [] p5)) p6] scope dV kV doc pm an cdv ct), osl⟩) (hcd : codeIn (hd.heap_39 w.params) cdv qual = true)
    (hb : ∀ s : Shared, (hd.heap_39 w.params).In s.heap → BindsTo s (fnOf name qual params [.Return (some (.Call (.Name (Str.ofString "_packed") p1) [.Name (Str.ofString "n") p2, .Constant (.int 0) k1 p3, .Constant (.int (k : Int)) k2 p4] [] p5)) p6] scope dV kV doc pm an cdv ct) ⟨[.int x t1], []⟩ [(Str.ofString "n", .int x t1)]) (hl : scope.names.lookup (Str.ofString "n") = some .local) (hco : scope.isCoroutine = false) (hgen : scope.isGenerator = false) (hk : scope.kind = .function) (hcell : ∀ x ∈ scope.names, x.2 ≠ .cell)
    (hn : ∀ L, (envX qual scope L f cdv []).kindOf (Str.ofString "n") = some .local) (hg : ∀ L, (envX qual scope L f cdv []).kindOf (Str.ofString "_packed") = some .globalImplicit) :
    Does 3 w f [.int x t1] (fun v => ∃ b t, v = .bytes b t ∧ KBw.bInts b = (KTBy.little (size / 8).toNat x).reverse) := by
  refine Does.of_body ho hcd hb (fun y hy => by rw [List.mem_singleton.mp hy]; exact hl) hco hgen hk hcell ?_
  intro dp un gd L outer A₀ base h₀ news s Q p loose mean mg mb B F X N T hdp hun hret
  refine wpAny_execs_cons (wpAny_Return_some (callK (fun Q h => nameX_K F X (topRead_of T) (by k_is) h hk (hg L)) (argsC rfl (fun Q h => nameX_L F rfl h hk (hn L)) (argsC rfl (fun Q h => wpAny_Constant_int h) (args1 rfl fun Q h => wpAny_Constant_int h))) F X (by k_is) (Does.use (packed_use rfl hs hx rfl hk1) B F X N T hk hdp hun fun v h' tk' hr F' N' => hret v _ h' tk' hr F' N') rfl rfl))
end
theorem pack_byte_does {w : World} {size x : Int} {t1 : Tok} (hs : size = 8 * ((1 : Nat) : Int)) (hf : Fits size x) : Does 3 w 56 [.int x t1] (fun v => ∃ b t, v = .bytes b t ∧ KBw.bInts b = (KTBy.little (size / 8).toNat x).reverse) := by
  refine' pack_gen hs hf ?hk1 ?ho ?hcd ?hb ?hl ?hco ?hgen ?hk ?hcell ?hn ?hg
  case ho => k_is
  case hcd => k_is
  case hb => exact fun _ _ => BindsTo.of_eq rfl
  case hn => exact fun _ => rfl
  case hg => exact fun _ => rfl
  case hk1 => decide
  case hcell => decide
  all_goals exact rfl
theorem pack_ushort_does {w : World} {size x : Int} {t1 : Tok} (hs : size = 8 * ((2 : Nat) : Int)) (hf : Fits size x) : Does 3 w 63 [.int x t1] (fun v => ∃ b t, v = .bytes b t ∧ KBw.bInts b = (KTBy.little (size / 8).toNat x).reverse) := by
  refine' pack_gen hs hf ?hk1 ?ho ?hcd ?hb ?hl ?hco ?hgen ?hk ?hcell ?hn ?hg
  case ho => k_is
  case hcd => k_is
  case hb => exact fun _ _ => BindsTo.of_eq rfl
  case hn => exact fun _ => rfl
  case hg => exact fun _ => rfl
  case hk1 => decide
  case hcell => decide
  all_goals exact rfl
theorem pack_uint_does {w : World} {size x : Int} {t1 : Tok} (hs : size = 8 * ((4 : Nat) : Int)) (hf : Fits size x) : Does 3 w 70 [.int x t1] (fun v => ∃ b t, v = .bytes b t ∧ KBw.bInts b = (KTBy.little (size / 8).toNat x).reverse) := by
  refine' pack_gen hs hf ?hk1 ?ho ?hcd ?hb ?hl ?hco ?hgen ?hk ?hcell ?hn ?hg
  case ho => k_is
  case hcd => k_is
  case hb => exact fun _ _ => BindsTo.of_eq rfl
  case hn => exact fun _ => rfl
  case hg => exact fun _ => rfl
  case hk1 => decide
  case hcell => decide
  all_goals exact rfl
theorem pack_ulong_does {w : World} {size x : Int} {t1 : Tok} (hs : size = 8 * ((8 : Nat) : Int)) (hf : Fits size x) : Does 3 w 77 [.int x t1] (fun v => ∃ b t, v = .bytes b t ∧ KBw.bInts b = (KTBy.little (size / 8).toNat x).reverse) := by
  refine' pack_gen hs hf ?hk1 ?ho ?hcd ?hb ?hl ?hco ?hgen ?hk ?hcell ?hn ?hg
  case ho => k_is
  case hcd => k_is
  case hb => exact fun _ _ => BindsTo.of_eq rfl
  case hn => exact fun _ => rfl
  case hg => exact fun _ => rfl
  case hk1 => decide
  case hcell => decide
  all_goals exact rfl
theorem law_packed_does {w : World} {size x : Int} {t1 t2 : Tok} (hf : Fits size x) :
    Does 4 w 126 [.int size t1, .int x t2] (fun v => ∃ b t, v = .bytes b t ∧ KBw.bInts b = (KTBy.little (size / 8).toNat x).reverse) := by
  k_with "contract" => (refine' Does.use ?kC ?k1 ?k2 ?k3 ?k4 ?k5 ?k6 ?k7 ?k8 ?_; (case k1 => k_asm); (case k2 => k_asm); (case k3 => k_asm); (case k4 => k_asm); (case k5 => k_asm); (case k6 => first | exact rfl | assumption))
  k_with "call ref" => (k_here; (with_reducible show wpAny _ _ (call (Value.ref _) [Value.int _ _]) _ _ _); k_dflt (k_extra "contract"; (case kC => first | exact pack_byte_does (by assumption) hf | exact pack_ushort_does (by assumption) hf | exact pack_uint_does (by assumption) hf | exact pack_ulong_does (hf.last (by assumption) (by assumption) (by assumption)) hf); (case k7 => exact hdp); (case k8 => exact hun)); (rintro _ _ _ hq _ _))
  k_with "frame" => (obtain ⟨m, F', q09, q19⟩ := frame_op (fun m => m (PySem.Str.ofString "size") = some _ ∧ m (PySem.Str.ofString "number") = some _) F ⟨rfl, rfl⟩)
  k_extra "in"
  all_goals (k_extra "out"; assumption)
theorem unpacked_does {w : World} {k : Nat} {x : Int} {b : Array UInt8} {t1 t2 t3 : Tok} (hk : k ≤ 8) (hl : b.size = k) (hv : KFB.value (KBw.bInts b) = x) (h1 : x < 256 ^ k) :
    DoesT 2 w 49 [.bytes b t1, .int 0 t2, .int (k : Int) t3] x := by
  k_with "call ref" => (k_here; (with_reducible show wpAny _ _ (call (Value.ref _) [Value.bytes _ _, Value.str _ _]) _ _ _); k_dflt (refine call_big_x (by k_asm) (by k_mem) (hl ▸ hk) (by assumption) ?_); intro _ _)
  k_with "body" => (refine' DoesT.of_body ?ho ?hcd ?hb ?hl ?hco ?hgen ?hkk ?hcell ?_; (case ho => k_is); (case hcd => k_is); (case hb => first | exact fun _ _ => BindsTo.of_eq rfl | exact fun _ x9 => binds_K x9 rfl (by k_is) rfl rfl rfl); (case hl => exact locs rfl); (case hco => exact rfl); (case hgen => exact rfl); (case hkk => exact rfl); (case hcell => decide))
  k_with "frame" => (obtain ⟨m, F', q09, q19, q29⟩ := frame_op (fun m => m (PySem.Str.ofString "octets") = some _ ∧ m (PySem.Str.ofString "low") = some _ ∧ m (PySem.Str.ofString "size") = some _) F ⟨rfl, rfl, rfl⟩)
  k_extra "in"
  all_goals (apply hret; k_asm; exact cb_drop (by assumption) (by first | exact fun _ h => h | exact in_under (in_tails fun _ h => h)))
theorem unpacked_use {w : World} {size : Int} {k : Nat} {x : Int} {b : Array UInt8} {t1 t2 t3 : Tok} {f : Addr} {vs : List Value} (hf : f = 49) (hs : size = 8 * (k : Int)) (hx : Fits size x) (hb : KBw.bInts b = (KTBy.little (size / 8).toNat x).reverse) (hvs : vs = [.bytes b t1, .int 0 t2, .int (k : Int) t3]) (hk : k ≤ 8) :
    DoesT 2 w f vs x := by
  subst hf hvs hs
  have e : (8 * (k : Int) / 8).toNat = k := size_nat
  have hp := hx.pow
  rw [e] at hb hp
  exact unpacked_does hk (by rw [← KBw.ints_length, hb, List.length_reverse, KTBy.little_length]) (by rw [hb]; exact value_little _ _ hx.1 hp) hp
section
variable {w : World} {size x : Int} {k : Nat} {t1 : Tok} {b : Array UInt8} {f : Addr} {name qual y : Str} {params : Arguments} {scope : Scope} {dV kV doc pm cdv ct oc : Value} {an od : Option Addr} {osl : Array (Option Value)} {p1 p2 p3 p4 p5 p6 p7 : Pos} {k1 k2 k3 : Nat}
theorem unpack_gen (hs : size = 8 * (k : Int)) (hx : Fits size x) (hbs : KBw.bInts b = (KTBy.little (size / 8).toNat x).reverse) (hk1 : k ≤ 8)
    (ho : (hd.heap_39 w.params).lookup f = some ⟨oc, od, .func (fnOf name qual params [.Return (some (.Call (.Name (Str.ofString "_unpacked") p1) [.Name (Str.ofString "octets") p2, .Constant (.int 0) k1 p3, .Constant (.int (k : Int)) k2 p4] [] p5)) p6] scope dV kV doc pm an cdv ct), osl⟩) (hcd : codeIn (hd.heap_39 w.params) cdv qual = true)
    (hb : ∀ s : Shared, (hd.heap_39 w.params).In s.heap → BindsTo s (fnOf name qual params [.Return (some (.Call (.Name (Str.ofString "_unpacked") p1) [.Name (Str.ofString "octets") p2, .Constant (.int 0) k1 p3, .Constant (.int (k : Int)) k2 p4] [] p5)) p6] scope dV kV doc pm an cdv ct) ⟨[.bytes b t1], []⟩ [(Str.ofString "octets", .bytes b t1)]) (hl : scope.names.lookup (Str.ofString "octets") = some .local) (hco : scope.isCoroutine = false) (hgen : scope.isGenerator = false) (hk : scope.kind = .function) (hcell : ∀ x ∈ scope.names, x.2 ≠ .cell)
    (hn : ∀ L, (envX qual scope L f cdv []).kindOf (Str.ofString "octets") = some .local) (hg : ∀ L, (envX qual scope L f cdv []).kindOf (Str.ofString "_unpacked") = some .globalImplicit) :
    DoesT 3 w f [.bytes b t1] x := by
  refine DoesT.of_body ho hcd hb (fun y hy => by rw [List.mem_singleton.mp hy]; exact hl) hco hgen hk hcell ?_
  intro dp un gd L outer A₀ base h₀ news s Q p loose mean mg mb B F X N T hdp hun hret
  refine wpAny_execs_cons (wpAny_Return_some (callK (fun Q h => nameX_K F X (topRead_of T) (by k_is) h hk (hg L)) (argsC rfl (fun Q h => nameX_L F rfl h hk (hn L)) (argsC rfl (fun Q h => wpAny_Constant_int h) (args1 rfl fun Q h => wpAny_Constant_int h))) F X (by k_is) (DoesT.use (unpacked_use rfl hs hx hbs rfl hk1) B F X N T hk hdp hun fun D t h' tk' F' N' => hret D t _ h' tk' F' N') rfl rfl))
end
theorem unpack_byte_does {w : World} {size x : Int} {b : Array UInt8} {t1 : Tok} (hs : size = 8 * ((1 : Nat) : Int)) (hf : Fits size x) (hb : KBw.bInts b = (KTBy.little (size / 8).toNat x).reverse) : DoesT 3 w 84 [.bytes b t1] x := by
  refine' unpack_gen hs hf hb ?hk1 ?ho ?hcd ?hb ?hl ?hco ?hgen ?hk ?hcell ?hn ?hg
  case ho => k_is
  case hcd => k_is
  case hb => exact fun _ _ => BindsTo.of_eq rfl
  case hn => exact fun _ => rfl
  case hg => exact fun _ => rfl
  case hk1 => decide
  case hcell => decide
  all_goals exact rfl
theorem unpack_ushort_does {w : World} {size x : Int} {b : Array UInt8} {t1 : Tok} (hs : size = 8 * ((2 : Nat) : Int)) (hf : Fits size x) (hb : KBw.bInts b = (KTBy.little (size / 8).toNat x).reverse) : DoesT 3 w 91 [.bytes b t1] x := by
  refine' unpack_gen hs hf hb ?hk1 ?ho ?hcd ?hb ?hl ?hco ?hgen ?hk ?hcell ?hn ?hg
  case ho => k_is
  case hcd => k_is
  case hb => exact fun _ _ => BindsTo.of_eq rfl
  case hn => exact fun _ => rfl
  case hg => exact fun _ => rfl
  case hk1 => decide
  case hcell => decide
  all_goals exact rfl
theorem unpack_uint_does {w : World} {size x : Int} {b : Array UInt8} {t1 : Tok} (hs : size = 8 * ((4 : Nat) : Int)) (hf : Fits size x) (hb : KBw.bInts b = (KTBy.little (size / 8).toNat x).reverse) : DoesT 3 w 98 [.bytes b t1] x := by
  refine' unpack_gen hs hf hb ?hk1 ?ho ?hcd ?hb ?hl ?hco ?hgen ?hk ?hcell ?hn ?hg
  case ho => k_is
  case hcd => k_is
  case hb => exact fun _ _ => BindsTo.of_eq rfl
  case hn => exact fun _ => rfl
  case hg => exact fun _ => rfl
  case hk1 => decide
  case hcell => decide
  all_goals exact rfl
theorem unpack_ulong_does {w : World} {size x : Int} {b : Array UInt8} {t1 : Tok} (hs : size = 8 * ((8 : Nat) : Int)) (hf : Fits size x) (hb : KBw.bInts b = (KTBy.little (size / 8).toNat x).reverse) : DoesT 3 w 105 [.bytes b t1] x := by
  refine' unpack_gen hs hf hb ?hk1 ?ho ?hcd ?hb ?hl ?hco ?hgen ?hk ?hcell ?hn ?hg
  case ho => k_is
  case hcd => k_is
  case hb => exact fun _ _ => BindsTo.of_eq rfl
  case hn => exact fun _ => rfl
  case hg => exact fun _ => rfl
  case hk1 => decide
  case hcell => decide
  all_goals exact rfl
theorem law_unpacked_does {w : World} {size x : Int} {b : Array UInt8} {t1 t2 : Tok} (hf : Fits size x) (hb : KBw.bInts b = (KTBy.little (size / 8).toNat x).reverse) :
    Does 4 w 133 [.int size t1, .bytes b t2] (fun v => ∃ t, v = .int x t) := by
  k_with "contract" => (refine' DoesT.use ?kC ?k1 ?k2 ?k3 ?k4 ?k5 ?k6 ?k7 ?k8 ?_; (case k1 => k_asm); (case k2 => k_asm); (case k3 => k_asm); (case k4 => k_asm); (case k5 => k_asm); (case k6 => first | exact rfl | assumption))
  k_with "call ref" => (k_here; (with_reducible show wpAny _ _ (call (Value.ref _) [Value.bytes _ _]) _ _ _); k_dflt (k_extra "contract"; (case kC => first | exact unpack_byte_does (by assumption) hf hb | exact unpack_ushort_does (by assumption) hf hb | exact unpack_uint_does (by assumption) hf hb | exact unpack_ulong_does (hf.last (by assumption) (by assumption) (by assumption)) hf hb); (case k7 => exact hdp); (case k8 => exact hun)); (intro _ _ _ _ _ _))
  k_with "frame" => (obtain ⟨m, F', q09, q19⟩ := frame_op (fun m => m (PySem.Str.ofString "size") = some _ ∧ m (PySem.Str.ofString "octets") = some _) F ⟨rfl, rfl⟩)
  k_extra "in"
  all_goals (k_extra "out"; exact ⟨_, rfl⟩)
theorem freshFun2 : True := by
  k_with_none
  trivial
theorem words2 : True := by
  k_with "ite" => (k_here; first | (refine ite_neg (by simp <;> omega) ?_) | (refine ite_pos (by simp <;> omega) ?_))
  k_with "read" => k_dflt (refine' nameX_L ?q1 ?q2 ?_ ?q3 ?q4; (case q3 => rfl); (case q1 => k_asm); (case q4 => rfl); (case q2 => assumption); k_whole)
  k_with "eval Name" => (k_here; (with_reducible show wpAny _ _ (eval (PySem.Expr.Name _ _) _) _ _ _); k_extra "read")
  k_with "loadName" => (k_here; (refine ldn (by k_asm) (by assumption) ?_))
  k_with "ev" => (first | ((with_reducible show wpAny _ _ (eval (PySem.Expr.Name _ _) _) _ _ _); walk_at "eval Name"; exact he9) | ((with_reducible show wpAny _ _ (eval (PySem.Expr.Constant _ _ _) _) _ _ _); (first | walk_at "eval Constant str" | walk_at "eval Constant int" | walk_at "eval Constant bool"); exact he9))
  k_with "evs" => (first | (apply args1; (case hst1 => exact rfl); (case he1 => (intro Qe he9; k_extra "ev"))) | (apply argsC; (case hst1 => exact rfl); (case he1 => (intro Qe he9; k_extra "ev")); k_extra "evs"))
  k_with "eval Call" => (k_here; (with_reducible show wpAny _ _ (eval (PySem.Expr.Call (PySem.Expr.Name _ _) (_ :: _) [] _) _) _ _ _); k_dflt (first | (apply callK; (case hfun => (intro Qe he9; k_extra "ev")); (case hst => exact rfl); (case hpl => exact rfl); (case hargs => k_extra "evs"); (case hFr => k_asm); (case hIn => k_asm); (case hkeep => k_is)) | (apply callB; (case hfun => (intro Qe he9; k_extra "ev")); (case hst => exact rfl); (case hpl => exact rfl); (case hargs => k_extra "evs"))))
  k_with "body" => (refine' Does.of_body ?ho ?hcd ?hb ?hl ?hco ?hgen ?hkk ?hcell ?_; (case ho => k_is); (case hcd => k_is); (case hb => first | exact fun _ _ => BindsTo.of_eq rfl | exact fun _ x9 => binds_K x9 rfl (by k_is) rfl rfl rfl); (case hl => exact locs rfl); (case hco => exact rfl); (case hgen => exact rfl); (case hkk => exact rfl); (case hcell => decide))
  k_with "in" => (k_extra "body"; intro dp un gd L outer A₀ base h₀ news s Q p loose mean mg mb B F X N T hdp hun hret; k_extra "frame"; clear F; k_steps)
  k_with "out" => (refine hret _ _ _ _ ?_ (by k_asm) ?_; rotate_left; (exact cb_drop (by assumption) (by first | exact fun _ h => h | exact in_tails fun _ h => h | exact in_tails (in_tails fun _ h => h))))
  trivial
theorem filled2 : True := by first | ((suffices hx : ∀ w : World, (hd.heap_39 w.params).In (PySem.Challenge.rw_iv0072_01.row.prog, default).2 from trivial); k_fill; fail) | trivial
def chr85 (d : Int) : Str := Txt.item (Str.ofString "!$%&*+,-./0123456789:;<=>?@ABCDEFGHIJKLMNOPQRSTUVWXYZ^_abcdefghijklmnopqrstuvwxyz{|}~") d
def b85 : Nat → Int → Str
  | 0, _ => Str.ofString ""
  | n + 1, x => chr85 ((x / 85 ^ n).fmod 85) ++ b85 n x
def B85 (x0 : Int) (pre : List Int) (rems : Str) (x : Int) : Prop := rems = b85 pre.length x0 ∧ rems.length = pre.length ∧ x = x0 / 85 ^ pre.length
theorem ifExp_ints {M : Model} {A : Around} {E : Value → Shared → Prop} {s : Shared} {env : Env} {test : Expr} {a b : Int} {ka kb : Nat} {pa pb pos : Pos} {Q : Value → Shared → Prop}
    (h : wpAny M A (isTrue test env (eval test env)) (fun c s₁ => ∀ z, z = (if c = true then a else b) → Q (.int z s₁.toks) { s₁ with toks := s₁.toks + 1 }) E s) :
    wpAny M A (eval (.IfExp test (.Constant (.int a) ka pa) (.Constant (.int b) kb pb) pos) env) Q E s := by
  refine wpAny_IfExp (wpAny_mono h (fun c s₁ hc => ?_) fun _ _ x => x)
  cases c
  · exact wpAny_Constant_int (hc b rfl)
  · exact wpAny_Constant_int (hc a rfl)
theorem B85.start (x0 : Int) : B85 x0 [] (Str.ofString "") x0 := ⟨rfl, rfl, by simp⟩
theorem chr85_length {d : Int} (h0 : 0 ≤ d) (h1 : d < 85) : (chr85 d).length = 1 := by
  have : ∀ k : Fin 85, (chr85 ((k.val : Nat) : Int)).length = 1 := by decide +kernel
  have h := this ⟨d.toNat, (Int.toNat_lt h0).mpr h1⟩
  rwa [Int.toNat_of_nonneg h0] at h
theorem B85.turn {x0 : Int} {pre : List Int} {rems : Str} {x k : Int} (h : B85 x0 pre rems x) : B85 x0 (pre ++ [k]) (chr85 (x.fmod 85) ++ rems) (x.fdiv 85) := by
  obtain ⟨rfl, h2, rfl⟩ := h
  refine ⟨?_, ?_, ?_⟩
  · rw [List.length_append, List.length_singleton]; rfl
  · rw [Str.length_append, h2, chr85_length (fmod_lo _ (by decide)) (fmod_hi _ (by decide)), List.length_append, List.length_singleton, Nat.add_comm]
  · rw [List.length_append, List.length_singleton, Int.fdiv_eq_ediv_of_nonneg _ (by decide), Int.pow_succ]; first | rw [Int.ediv_ediv (Int.pow_nonneg (by decide))] | rw [Int.ediv_ediv_of_nonneg (Int.pow_nonneg (by decide))] | exact Int.ediv_ediv_of_nonneg (Int.pow_nonneg (by decide))
def Hid (p : Prop) : Prop := p
theorem Hid.mk {p : Prop} (h : p) : Hid p := h
theorem size85 {wide : Bool} {z : Int} (h : z = if wide = true then 10 else 5) : 5 ≤ z ∧ z ≤ 10 := by cases wide <;> (subst h; decide)
theorem to_base85_does {w : World} {x0 : Int} {wide : Bool} {t1 : Tok} :
    Does 2 w 28 [.int x0 t1, .bool wide] (fun v => ∃ t, v = .str (b85 (if wide then 10 else 5) x0) t) := by
  k_with "eval IfExp" => (refine ifExp_ints ?_)
  k_with "forall" => (intro z hz0; (have hz1 := size85 hz0); (have hz := Hid.mk hz0); clear hz0)
  k_with "pyIter ref" => (k_state (fun pre rems x => B85 x0 pre rems x ∧ rems.length = pre.length) "rems" "x")
  k_with "state" => (first | exact ⟨B85.start x0, rfl⟩ | (rename B85 _ _ _ _ => hI; exact ⟨hI.turn, hI.turn.2.1⟩))
  k_with "frame" => (have F' := F)
  k_extra "in"
  rename B85 _ _ _ _ => hI
  k_extra "out"
  refine ⟨_, congrArg (Value.str · _) (hI.1.trans ?_)⟩
  rw [rangeKs_length, show z = _ from hz]
  cases wide <;> rfl
theorem freshFun3 : True := by
  k_with_none
  trivial
theorem words3 : True := by
  k_with "ite" => (k_here; first | (refine ite_neg (by simp <;> omega) ?_) | (refine ite_pos (by simp <;> omega) ?_))
  k_with "read" => k_dflt (refine' nameX_L ?q1 ?q2 ?_ ?q3 ?q4; (case q3 => rfl); (case q1 => k_asm); (case q4 => rfl); (case q2 => assumption); k_whole)
  k_with "eval Name" => (k_here; (with_reducible show wpAny _ _ (eval (PySem.Expr.Name _ _) _) _ _ _); k_extra "read")
  k_with "loadName" => (k_here; (refine ldn (by k_asm) (by assumption) ?_))
  k_with "ev" => (first | ((with_reducible show wpAny _ _ (eval (PySem.Expr.Name _ _) _) _ _ _); walk_at "eval Name"; exact he9) | ((with_reducible show wpAny _ _ (eval (PySem.Expr.Constant _ _ _) _) _ _ _); (first | walk_at "eval Constant str" | walk_at "eval Constant int" | walk_at "eval Constant bool"); exact he9))
  k_with "evs" => (first | (apply args1; (case hst1 => exact rfl); (case he1 => (intro Qe he9; k_extra "ev"))) | (apply argsC; (case hst1 => exact rfl); (case he1 => (intro Qe he9; k_extra "ev")); k_extra "evs"))
  k_with "eval Call" => (k_here; (with_reducible show wpAny _ _ (eval (PySem.Expr.Call (PySem.Expr.Name _ _) (_ :: _) [] _) _) _ _ _); k_dflt (first | (apply callK; (case hfun => (intro Qe he9; k_extra "ev")); (case hst => exact rfl); (case hpl => exact rfl); (case hargs => k_extra "evs"); (case hFr => k_asm); (case hIn => k_asm); (case hkeep => k_is)) | (apply callB; (case hfun => (intro Qe he9; k_extra "ev")); (case hst => exact rfl); (case hpl => exact rfl); (case hargs => k_extra "evs"))))
  k_with "body" => (refine' Does.of_body ?ho ?hcd ?hb ?hl ?hco ?hgen ?hkk ?hcell ?_; (case ho => k_is); (case hcd => k_is); (case hb => first | exact fun _ _ => BindsTo.of_eq rfl | exact fun _ x9 => binds_K x9 rfl (by k_is) rfl rfl rfl); (case hl => exact locs rfl); (case hco => exact rfl); (case hgen => exact rfl); (case hkk => exact rfl); (case hcell => decide))
  k_with "in" => (k_extra "body"; intro dp un gd L outer A₀ base h₀ news s Q p loose mean mg mb B F X N T hdp hun hret; k_extra "frame"; clear F; k_steps)
  k_with "out" => (refine hret _ _ _ _ ?_ (by k_asm) ?_; rotate_left; (exact cb_drop (by assumption) (by first | exact fun _ h => h | exact in_tails fun _ h => h | exact in_tails (in_tails fun _ h => h))))
  trivial
theorem filled3 : True := by first | ((suffices hx : ∀ w : World, (hd.heap_39 w.params).In (PySem.Challenge.rw_iv0072_01.row.prog, default).2 from trivial); k_fill; fail) | trivial
def signs85 : List Nat := (Str.ofString "!$%&*+,-./0123456789:;<=>?@ABCDEFGHIJKLMNOPQRSTUVWXYZ^_abcdefghijklmnopqrstuvwxyz{|}~").cps.toList
def place85 (c : Int) : Int := (signs85.idxOf c.toNat : Int)
def val85 (l : List Int) : Int := l.foldl (fun a c => a * 85 + place85 c) 0
noncomputable def decAt (P : Params) (c : Nat) : Option Int := match nsIn (hd.heap_39 P) 17 ⟨#[c]⟩ with
  | some (some (.int v _)) => some v
  | _ => none
theorem dec_all (P : Params) : signs85.map (decAt P) = signs85.map (fun c : Nat => some (place85 (c : Int))) := by kernel_rfl
theorem dec_at (P : Params) {c : Nat} (h : c ∈ signs85) : ∃ t, nsIn (hd.heap_39 P) 17 ⟨#[c]⟩ = some (some (.int (place85 (c : Int)) t)) := by
  have e := dec_all P
  have e1 : decAt P c = some (place85 (c : Int)) := by
    obtain ⟨i, hi, hc⟩ := List.getElem_of_mem h
    have := congrArg (fun l => l[i]?) e
    simp only [List.getElem?_map, List.getElem?_eq_getElem hi, Option.map_some, hc] at this
    exact Option.some.inj this
  unfold decAt at e1
  split at e1
  · rename_i v t h'
    cases e1
    exact ⟨t, h'⟩
  · cases e1
theorem place_lt {c : Nat} (h : c ∈ signs85) : place85 (c : Int) < 85 := by
  have h1 := List.idxOf_lt_length_of_mem h
  have h2 : signs85.length = 85 := by decide +kernel
  show ((signs85.idxOf ((c : Int).toNat) : Nat) : Int) < 85
  rw [Int.toNat_natCast]
  exact Int.ofNat_lt.mpr (Nat.lt_of_lt_of_eq h1 h2)
theorem place_nonneg (c : Int) : 0 ≤ place85 c := Int.natCast_nonneg _
theorem val85_snoc (l : List Int) (c : Int) : val85 (l ++ [c]) = val85 l * 85 + place85 c := by simp [val85, List.foldl_append]
noncomputable def decEs (P : Params) : Array DictEntry := match (hd.heap_39 P).lookup 17 with
  | some ⟨_, _, .dict es _, _⟩ => es
  | _ => #[]
noncomputable def decN (P : Params) : Nat := match (hd.heap_39 P).lookup 17 with
  | some ⟨_, _, .dict _ n, _⟩ => n
  | _ => 0
def hashOf (P : Params) (e : DictEntry) : Option Int := match e.key with
  | .str x _ => some (PyData.keyHash P x)
  | _ => none
theorem dec_lookup (P : Params) : (hd.heap_39 P).lookup 17 = some ⟨.type "dict", none, .dict (decEs P) (decN P), #[]⟩ := by kernel_rfl
theorem dec_hash (P : Params) : (decEs P).toList.map (fun e => some e.hash) = (decEs P).toList.map (hashOf P) := by kernel_rfl
theorem keys_of {P : Params} : ∀ {l : List DictEntry}, l.map (fun e => some e.hash) = l.map (hashOf P) → KeysLit P l
  | [], _ => trivial
  | e :: r, h => by
    have h1 := List.cons.inj h
    refine ⟨?_, keys_of h1.2⟩
    have h2 := h1.1
    unfold hashOf at h2
    split at h2
    · rename_i x t hk
      exact ⟨x, t, hk, Option.some.inj h2⟩
    · cases h2
theorem dict_item {w : World} {A : Around} {E : Value → Shared → Prop} {s : Shared} {h₀ : Heap} {L : Addr} {m : Str → Option Value} {value slice : PySem.Expr} {c : Nat} {t : Tok} {Q : Value → Shared → Prop} (F : Fr h₀ L s.heap m) (X : (hd.heap_39 w.params).In h₀) (hc : c ∈ signs85)
    (h : ∀ u, Q (.int (place85 (c : Int)) u) { s with toks := s.toks + 1 })
    (hs : subscripted slice false (.ref 17) (.str ⟨#[c]⟩ t) = operate [.ref 17, .str ⟨#[c]⟩ t] (getItem (.ref 17) (.str ⟨#[c]⟩ t)) := by with_unfolding_all rfl) :
    wpAny (model PySem.Challenge.rw_iv0072_01.row.prog w) A (subscriptTail value slice (.ref 17) (.str ⟨#[c]⟩ t)) Q E s := by
  obtain ⟨u, e⟩ := dec_at w.params hc
  exact topItem_K F X (dec_lookup w.params) (keys_of (dec_hash w.params)) e (h u) hs
def AllSigns (text : Str) : Prop := ∀ c ∈ text.cps.toList, c ∈ signs85
def V85 (pre : List Int) (acc : Int) : Prop := acc = val85 pre ∧ 0 ≤ acc ∧ acc < 85 ^ pre.length
theorem V85.start : V85 [] 0 := ⟨rfl, by decide, by decide⟩
theorem V85.turn {pre : List Int} {acc : Int} {c : Nat} (h : V85 pre acc) (hc : c ∈ signs85) : V85 (pre ++ [(c : Int)]) (acc * 85 + place85 (c : Int)) := by
  obtain ⟨rfl, h0, h1⟩ := h
  have p0 := place_nonneg (c : Int)
  have p1 := place_lt hc
  refine ⟨(val85_snoc _ _).symm, Int.add_nonneg (Int.mul_nonneg h0 (by decide)) p0, ?_⟩
  rw [List.length_append, List.length_singleton, Int.pow_succ]
  have h3 := Int.mul_le_mul_of_nonneg_right (Int.add_one_le_of_lt h1) (by decide : (0 : Int) ≤ 85)
  rw [Int.add_mul, Int.one_mul] at h3
  exact Int.lt_of_lt_of_le (Int.add_lt_add_left p1 _) h3
theorem in_signs {text : Str} {pre post : List Int} {c : Nat} (h : AllSigns text) (e : KStt.codes text = pre ++ (c : Int) :: post) : c ∈ signs85 := by
  refine h c ?_
  have : (c : Int) ∈ KStt.codes text := by rw [e]; simp
  obtain ⟨d, hd, he⟩ := List.mem_map.mp this
  rwa [← Int.ofNat.inj he]
theorem pre_short {text : Str} {pre post : List Int} {c : Int} (h : text.length ≤ 12) (e : KStt.codes text = pre ++ c :: post) : pre.length < 12 := by
  have := congrArg List.length e
  rw [KStt.codes_length, List.length_append, List.length_cons] at this
  exact Nat.lt_of_lt_of_le (Nat.lt_add_of_pos_right (Nat.succ_pos _)) (this ▸ h)
theorem V85.small {pre : List Int} {acc : Int} (h : V85 pre acc) (hl : pre.length < 12) : 0 ≤ acc ∧ acc < 142241757136172119140625 := by
  refine ⟨h.2.1, Int.lt_of_lt_of_le h.2.2 ?_⟩
  have : (85 : Int) ^ pre.length ≤ 85 ^ 12 := by
    exact_mod_cast Nat.pow_le_pow_right (by decide : 0 < 85) (Nat.le_of_lt hl)
  exact Int.le_trans this (by decide)
theorem from_base85_does {w : World} {text : Str} {t1 : Tok} (hS : AllSigns text) (hlen : text.length ≤ 12) :
    Does 2 w 35 [.str text t1] (fun v => ∃ t, v = .int (val85 (KStt.codes text)) t) := by
  k_with "pyIter str" => (k_state (fun pre acc => V85 pre acc) "acc")
  k_with "state" => (first | exact V85.start | (rename V85 _ _ => hI; exact hI.turn (in_signs hS kEq)))
  k_with "subscriptTail" => (k_here; (with_reducible show wpAny _ _ (subscriptTail _ _ (Value.ref _) (Value.str _ _)) _ _ _); k_dflt (refine dict_item (by k_asm) (by k_asm) (in_signs hS kEq) ?_); intro _)
  k_with "frame" => (have F' := F)
  k_extra "in"
  rename V85 _ _ => hI
  k_extra "out"
  exact ⟨_, congrArg (Value.int · _) hI.1⟩
theorem freshFun4 : True := by
  k_with_none
  trivial
theorem words4 : True := by
  k_with "ite" => (k_here; first | (refine ite_neg (by simp <;> omega) ?_) | (refine ite_pos (by simp <;> omega) ?_))
  k_with "read" => k_dflt (refine' nameX_L ?q1 ?q2 ?_ ?q3 ?q4; (case q3 => rfl); (case q1 => k_asm); (case q4 => rfl); (case q2 => assumption); k_whole)
  k_with "eval Name" => (k_here; (with_reducible show wpAny _ _ (eval (PySem.Expr.Name _ _) _) _ _ _); k_extra "read")
  k_with "loadName" => (k_here; (refine ldn (by k_asm) (by assumption) ?_))
  k_with "ev" => (first | ((with_reducible show wpAny _ _ (eval (PySem.Expr.Name _ _) _) _ _ _); walk_at "eval Name"; exact he9) | ((with_reducible show wpAny _ _ (eval (PySem.Expr.Constant _ _ _) _) _ _ _); (first | walk_at "eval Constant str" | walk_at "eval Constant int" | walk_at "eval Constant bool"); exact he9))
  k_with "evs" => (first | (apply args1; (case hst1 => exact rfl); (case he1 => (intro Qe he9; k_extra "ev"))) | (apply argsC; (case hst1 => exact rfl); (case he1 => (intro Qe he9; k_extra "ev")); k_extra "evs"))
  k_with "eval Call" => (k_here; (with_reducible show wpAny _ _ (eval (PySem.Expr.Call (PySem.Expr.Name _ _) (_ :: _) [] _) _) _ _ _); k_dflt (first | (apply callK; (case hfun => (intro Qe he9; k_extra "ev")); (case hst => exact rfl); (case hpl => exact rfl); (case hargs => k_extra "evs"); (case hFr => k_asm); (case hIn => k_asm); (case hkeep => k_is)) | (apply callB; (case hfun => (intro Qe he9; k_extra "ev")); (case hst => exact rfl); (case hpl => exact rfl); (case hargs => k_extra "evs"))))
  k_with "body" => (refine' Does.of_body ?ho ?hcd ?hb ?hl ?hco ?hgen ?hkk ?hcell ?_; (case ho => k_is); (case hcd => k_is); (case hb => first | exact fun _ _ => BindsTo.of_eq rfl | exact fun _ x9 => binds_K x9 rfl (by k_is) rfl rfl rfl); (case hl => exact locs rfl); (case hco => exact rfl); (case hgen => exact rfl); (case hkk => exact rfl); (case hcell => decide))
  k_with "in" => (k_extra "body"; intro dp un gd L outer A₀ base h₀ news s Q p loose mean mg mb B F X N T hdp hun hret; k_extra "frame"; clear F; k_steps)
  k_with "out" => (refine hret _ _ _ _ ?_ (by k_asm) ?_; rotate_left; (exact cb_drop (by assumption) (by first | exact fun _ h => h | exact in_tails fun _ h => h | exact in_tails (in_tails fun _ h => h))))
  trivial
theorem filled4 : True := by first | ((suffices hx : ∀ w : World, (hd.heap_39 w.params).In (PySem.Challenge.rw_iv0072_01.row.prog, default).2 from trivial); k_fill; fail) | trivial
def DoesOn (n : Nat) (w : World) (f : Addr) (vs : List Value) (Pre : List (Addr × Obj) → Prop) (Ret : Value → Prop) : Prop :=
  ∀ (dp un : Nat) (gd : Option (List Code)) (cn : Str) (cs : Scope) (a : Addr) (ccd : Value) (cl : List (Str × Addr)) (outer : List Env) (A₀ : Around) (base h₀ : Heap) (L : Addr) (m : Str → Option Value) (news : List (Addr × Obj)) (s : Shared) (Q E : Value → Shared → Prop)
    (p : Program) (loose : List Str) (mean : ExcName → Option Value) (mg mb : Str → Option Value),
    Below A₀ base outer h₀ → Fr h₀ L s.heap m → (hd.heap_39 w.params).In h₀ → News h₀ L s.heap news → Top p loose mean mg mb h₀ → cs.kind = .function → dp + n < recursionLimit → un + 8 * n < cLine → Pre news →
    (∀ v h' tk', Ret v → Fr h₀ L h' m → News h₀ L h' news → Q v { s with heap := h', toks := tk' }) →
    wpAny (model PySem.Challenge.rw_iv0072_01.row.prog w) (ktrTop dp un gd cn cs L a ccd cl outer) (call (.ref f) vs) Q E s
theorem DoesOn.of_body {n : Nat} {w : World} {f : Addr} {vs : List Value} {Pre : List (Addr × Obj) → Prop} {Ret : Value → Prop} {name qual : Str} {params : Arguments} {body : List Stmt} {scope : Scope} {dV kV doc pm cdv ct oc : Value} {an od : Option Addr} {osl : Array (Option Value)} {binds : List (Str × Value)}
    (ho : (hd.heap_39 w.params).lookup f = some ⟨oc, od, .func (fnOf name qual params body scope dV kV doc pm an cdv ct), osl⟩) (hcd : codeIn (hd.heap_39 w.params) cdv qual = true)
    (hb : ∀ s : Shared, (hd.heap_39 w.params).In s.heap → BindsTo s (fnOf name qual params body scope dV kV doc pm an cdv ct) ⟨vs, []⟩ binds) (hl : ∀ y ∈ binds, scope.names.lookup y.1 = some .local) (hco : scope.isCoroutine = false) (hgen : scope.isGenerator = false) (hk : scope.kind = .function) (hcell : ∀ x ∈ scope.names, x.2 ≠ .cell)
    (H : ∀ (dp un : Nat) (gd : Option (List Code)) (L : Addr) (outer : List Env) (A₀ : Around) (base h₀ : Heap) (news : List (Addr × Obj)) (s : Shared) (Q : Flow → Shared → Prop) (p : Program) (loose : List Str) (mean : ExcName → Option Value) (mg mb : Str → Option Value),
      Below A₀ base outer h₀ → Fr h₀ L s.heap (fun y => binds.reverse.lookup y) → (hd.heap_39 w.params).In h₀ → News h₀ L s.heap news → Top p loose mean mg mb h₀ → dp + n < recursionLimit → un + 8 * n < cLine → Pre news →
      (∀ v m' h' tk', Ret v → Fr h₀ L h' m' → News h₀ L h' news → Q (.ret v) { s with heap := h', toks := tk' }) →
      wpAny (model PySem.Challenge.rw_iv0072_01.row.prog w) (ktrTop dp un gd qual scope L f cdv [] outer) (execs body (envX qual scope L f cdv [])) Q (fun _ _ => False) s) : DoesOn (n + 1) w f vs Pre Ret := by
  intro dp un gd cn cs a ccd cl outer A₀ base h₀ L m news s Q E p loose mean mg mb B F X N T hk' hdp hun hp hret
  refine wpAny_call (code_def B F X N T rfl rfl hk' ho hcd (Nat.lt_of_le_of_lt (Nat.le_add_right _ _) hdp) (hb s (X.keeps F.keep)) hl ?_ hco hgen hk hcell)
  intro g L' h₁ FG F' N' B' X' T'
  refine wpAny_noRaise (H (dp + 1) (un + 3) gd L' _ _ _ g news _ _ p loose mean mg mb B' F' X' N' T' ?_ ?_ hp ?_)
  · rw [Nat.add_assoc, Nat.add_comm 1 n]; exact hdp
  · exact units_in hun
  · intro v m' h' tk' hr F2 N2
    exact leaveK_ F2 N2 fun F3 N3 => hret v h' tk' hr F3 N3
def ahead : List Int → List Int → Bool
  | x :: xs, y :: ys => if x = y then ahead xs ys else decide (x < y)
  | _, _ => false
theorem AllObj.mono {k k' : List (Addr × Obj) → Prop} : ∀ {ws : List (Addr × String)}, (∀ its, k its → k' its) → AllObj ws k → AllObj ws k'
  | [], h, x => h _ x
  | w :: r, h, x => fun o ho => AllObj.mono (ws := r) (fun its => h _) (x o ho)
section
variable {prog : Program} {w : World} {A : Around} {E : Value → Shared → Prop} {s : Shared} {env : Env} {h₀ : Heap} {target : PySem.Expr} {body : List Stmt} {Q : Flow → Shared → Prop} {ws : List (Addr × String)} {keep news : List (Addr × Obj)}
theorem zip_rest (P : (Str → Option Value) → Prop) (Inv : List Int → List Int → Prop) (hk : SubL keep news)
    (turn : ∀ x y tx ty (xs ys : List Int) m T h tk, P m → Inv (x :: xs) (y :: ys) → IsTup h T #[.int x tx, .int y ty] → Fr h₀ env.locals h m →
      AllObj ws (fun its => News h₀ env.locals h (its ++ news) → wpAny (model prog w) A (assign target env (.ref T)) (fun _ s₂ => wpAny (model prog w) A (execs body env) (UnrPostW h₀ env.locals { s with heap := h, toks := tk } its (fun m' n' => n' = news ∧ P m' ∧ Inv xs ys) Q) E s₂) E { s with heap := h, toks := tk }))
    (done : ∀ m h tk, P m → Inv [] [] → Fr h₀ env.locals h m → News h₀ env.locals h news → Q .next { s with heap := h, toks := tk }) :
    ∀ {vs us : List Value} {xs ys : List Int}, IntsAre vs xs → IntsAre us ys → xs.length = ys.length → ∀ m, P m → Inv xs ys → ItemsRest prog w A E h₀ env target body Q s ws keep (zipItems vs us) m news := by
  intro vs us xs ys hi
  induction hi generalizing us ys with
  | nil =>
    intro hj hl m hp hI
    cases hj with
    | nil => exact fun h tk F N => done m h tk hp hI F N
    | cons _ _ _ => cases hl
  | @cons x tx vs' xs' hi ih =>
    intro hj hl m hp hI
    cases hj with
    | nil => cases hl
    | @cons y ty us' ys' hj =>
      refine ItemsRest.pair fun T t h tk hT F => AllObj.mono (fun its hw N => ?_) (turn x y tx ty _ _ m T h tk hp hI hT F)
      refine wpAny_mono (hw N) (fun _ s₂ h₂ => wpAny_mono h₂ (fun f s₃ p => ?_) fun _ _ e => e) fun _ _ e => e
      have fin : UnrEndW h₀ env.locals { s with heap := h, toks := tk } its (fun m' n' => n' = news ∧ P m' ∧ Inv xs' ys') s₃ → UnrEndW h₀ env.locals { s with heap := h, toks := tk } its (fun m' n' => SubL keep n' ∧ ItemsRest prog w A E h₀ env target body Q s ws keep (zipItems vs' us') m' n') s₃ := by
        rintro ⟨h', tk', m', n', e, F', N', o, rfl, hP, hI'⟩
        exact ⟨h', tk', m', n', e, F', N', o, hk, ih hj (by simpa using hl) m' hP hI'⟩
      cases f with
      | ret v => exact p
      | brk => exact p
      | next => exact fin p
      | cont => exact fin p
end
theorem len_ints {prog : Program} {w : World} {A : Around} {E : Value → Shared → Prop} {s : Shared} {h₀ : Heap} {L l : Addr} {news : List (Addr × Obj)} {vs : List Value} {xs : List Int} {n : Nat} {Q : Value → Shared → Prop} (N : News h₀ L s.heap news) (hm : (l, ({ cls := .type "list", data := .seq vs.toArray n } : Obj)) ∈ news) (hi : IntsAre vs xs) (hz : xs.length ≤ 63)
    (h : ∀ t k, Q (.int (xs.length : Int) t) { s with toks := k }) : wpAny (model prog w) A (call (.builtin "len") [.ref l]) Q E s := by
  have e : (vs.toArray.size : Int) = (xs.length : Int) := by rw [List.size_toArray, hi.length]
  exact PySem.Calls.call_len_list (items := vs.toArray) ⟨_, (N _ hm).1, rfl, n, rfl⟩ (by rw [e]; exact Int.lt_of_le_of_lt (Int.ofNat_le.mpr hz) (by decide)) (by rw [e]; exact h _ _)
theorem off_zip {news : List (Addr × Obj)} {I : Nat} (h : ∀ p ∈ news, @LT.lt Nat _ p.1 I) {o1 o2 o3 o4 o5 : Obj} : ∀ p ∈ news, ∀ q ∈ [((I + 4 : Nat), o1), (I + 2, o2), (I + 3, o3), (I, o4), (I + 1, o5)], p.1 ≠ q.1 := by
  intro p hp q hq e
  have := h p hp
  simp only [List.mem_cons, List.not_mem_nil, or_false] at hq
  rcases hq with rfl | rfl | rfl | rfl | rfl <;> (have e' : @Eq Nat p.1 _ := e; exact absurd this (Nat.not_lt.mpr (by rw [e']; first | exact Nat.le_add_right _ _ | exact Nat.le_refl _)))
def two (m : Str → Option Value) (va vb : Option Value) : Str → Option Value := fun y => if y = Str.ofString "far" then vb else if y = Str.ofString "near" then va else m y
theorem two_start (m : Str → Option Value) : ∃ va vb, m = two m va vb := by
  refine ⟨m (Str.ofString "near"), m (Str.ofString "far"), funext fun y => ?_⟩
  unfold two
  split
  · rename_i h; rw [h]
  · split
    · rename_i h; rw [h]
    · rfl
theorem two_again {m : Str → Option Value} {va vb : Option Value} {u v : Value} : ∃ va' vb', (fun y => if y = Str.ofString "far" then some v else if y = Str.ofString "near" then some u else two m va vb y) = two m va' vb' := by
  refine ⟨some u, some v, funext fun y => ?_⟩
  unfold two
  by_cases h1 : y = Str.ofString "far"
  · simp only [h1, if_true]
  · by_cases h2 : y = Str.ofString "near" <;> simp [h1, h2]
set_option maxHeartbeats 8000000 in
theorem law_ahead_does {w : World} {a1 b1 : Addr} {vs us : List Value} {xs ys : List Int} {na nb : Nat} (hi : IntsAre vs xs) (hj : IntsAre us ys) (hl : xs.length = ys.length) (hsz : xs.length ≤ 12) :
    DoesOn 4 w 140 [.ref a1, .ref b1] (fun news => (a1, ({ cls := .type "list", data := .seq vs.toArray na } : Obj)) ∈ news ∧ (b1, ({ cls := .type "list", data := .seq us.toArray nb } : Obj)) ∈ news) (fun v => v = .bool (ahead xs ys)) := by
  k_with "exec For Tuple Call" => (k_here; (rename Fr _ _ _ _ => lF'); (with_unfolding_all refine' For_turns lF' ?_); k_whole)
  k_with "call type:zip" => (k_here; (rename Fr _ _ _ _ => lF'); (rename News _ _ _ _ => lN'); (with_unfolding_all refine ktu_zip (xs := vs) (ys := us) (by rfl) lF' lN' hpre.1 (by rfl) (by rfl) hpre.2 (by rfl) (by rfl) ?_); intro I' hlI)
  k_with "ItemsRest" => k_dflt (refine zip_rest (fun m' => ∃ va vb, m' = two _ va vb) (fun xs' ys' => ahead xs' ys' = ahead xs ys) ?hk ?_ ?_ hi hj hl _ (two_start _) rfl; (case hk => exact ⟨hpre.1, hpre.2, trivial⟩); rotate_left; (intro m' h2 tk2 hP hInv F2 N2; obtain ⟨va, vb, rfl⟩ := hP; unfold two at F2); rotate_left; (intro x y tx ty xs' ys' m' T2 h2 tk2 hP hInv hT2 F2; obtain ⟨va, vb, rfl⟩ := hP; ktu_objs))
  k_with "call builtin:len" => (k_here; (rename News _ _ _ _ => lN'); k_dflt (first | refine len_ints lN' hpre.1 hi (Nat.le_trans hsz (by decide)) ?_ | refine len_ints lN' hpre.2 hj (Nat.le_trans (hl ▸ hsz) (by decide)) ?_); intro _ _)
  k_with "UnrEndW" => k_dflt (rename News _ _ _ _ => lN'; exact ⟨_, _, _, news, rfl, by k_asm, lN', off_zip hlI, rfl, two_again, by simpa [ahead, *] using hInv⟩)
  (refine' DoesOn.of_body ?ho ?hcd ?hb ?hl ?hco ?hgen ?hkk ?hcell ?_; (case ho => k_is); (case hcd => k_is); (case hb => exact fun _ _ => BindsTo.of_eq rfl); (case hl => exact locs rfl); (case hco => exact rfl); (case hgen => exact rfl); (case hkk => exact rfl); (case hcell => decide))
  intro dp un gd L outer A₀ base h₀ news s Q p loose mean mg mb B F X N T hdp hun hpre hret
  obtain ⟨m, F', q09, q19⟩ := frame_op (fun m => m (PySem.Str.ofString "one") = some _ ∧ m (PySem.Str.ofString "other") = some _) F ⟨rfl, rfl⟩
  clear F
  k_steps
  all_goals refine hret _ _ _ _ ?_ (by k_asm) (cb_drop (by assumption) (by first | exact fun _ h => h | exact in_tails (in_tails (in_tails (in_tails (in_tails fun _ h => h))))))
  all_goals exact congrArg Value.bool (by rw [← hInv]; simp [ahead, *])
theorem freshFun5 : True := by
  k_with_none
  trivial
inductive All2 (S : Int → Value → Prop) : List Int → List Value → Prop
  | nil : All2 S [] []
  | cons {a v as vs} : S a v → All2 S as vs → All2 S (a :: as) (v :: vs)
theorem All2.length {S : Int → Value → Prop} {as vs} (h : All2 S as vs) : vs.length = as.length := by
  induction h with
  | nil => rfl
  | cons _ _ ih => rw [List.length_cons, List.length_cons, ih]
theorem All2.snoc {S : Int → Value → Prop} {as vs a v} (h : All2 S as vs) (x : S a v) : All2 S (as ++ [a]) (vs ++ [v]) := by
  induction h with
  | nil => exact .cons x .nil
  | cons y _ ih => exact .cons y ih
theorem All2.get {S : Int → Value → Prop} {as vs} (h : All2 S as vs) : ∀ {i : Nat} {v : Value}, vs[i]? = some v → ∃ a, as[i]? = some a ∧ S a v := by
  induction h with
  | nil => intro i v e; simp at e
  | @cons a v as vs x _ ih =>
    intro i u e
    cases i with
    | zero => simp at e; subst e; exact ⟨a, by simp, x⟩
    | succ i => simpa using ih (by simpa using e)
theorem All2.at {S : Int → Value → Prop} {as vs} (h : All2 S as vs) : ∀ {i : Nat} {a : Int}, as[i]? = some a → ∃ v, vs[i]? = some v ∧ S a v := by
  induction h with
  | nil => intro i v e; simp at e
  | @cons a v as vs x _ ih =>
    intro i u e
    cases i with
    | zero => simp at e; subst e; exact ⟨v, by simp, x⟩
    | succ i => simpa using ih (by simpa using e)
def Num (n : Int) (v : Value) : Prop := ∃ t, v = .int n t
theorem All2.ints {g : Int → Int} {as vs} (h : All2 (fun n v => ∃ t, v = .int (g n) t) as vs) : IntsAre vs (as.map g) := by
  induction h with
  | nil => exact .nil
  | cons x _ ih => obtain ⟨t, rfl⟩ := x; exact .cons _ t ih
theorem All2.of_ints {as vs} (h : IntsAre vs as) : All2 Num as vs := by
  induction h with
  | nil => exact .nil
  | cons n t _ ih => exact .cons ⟨t, rfl⟩ ih
def TurnEnd (h₀ : Heap) (L : Addr) (m : Str → Option Value) (s : Shared) (big : List (Addr × Obj)) (S : Value → Prop) (y : Value) (s₂ : Shared) : Prop :=
  ∃ h' tk', s₂ = { s with heap := h', toks := tk' } ∧ Fr h₀ L h' m ∧ News h₀ L h' big ∧ S y
structure CompWord (S : Int → Value → Prop) : Prop where
section
variable {prog : Program} {w : World} {A : Around} {h₀ : Heap} {L : Addr} {m : Str → Option Value} {env : Env} {elt : PySem.Expr} {x : Str} {scope : Scope} {cl : List (Str × Addr)} {s : Shared} {S' : List (Addr × Obj) → Prop} {Fin : List Value → List (Addr × Obj) → Prop} {news : List (Addr × Obj)}
def Turn (prog : Program) (w : World) (A : Around) (h₀ : Heap) (L : Addr) (m : Str → Option Value) (env : Env) (elt : PySem.Expr) (x : Str) (scope : Scope) (cl : List (Str × Addr)) (news : List (Addr × Obj)) (as : List Int) (R S : Int → Value → Prop) : Prop :=
  ∀ (s : Shared) a v I oI C oC D m₂ ys h tk (E' : Value → Shared → Prop), a ∈ as → R a v → LCg.NsObj oC m₂ → m₂ x = some v → Fr h₀ L h m → News h₀ L h ((I, oI) :: (C, oC) :: (D, LCg.lst ys) :: news) →
      wpAny (model prog w) A (eval elt (compEnvC scope cl C env)) (TurnEnd h₀ L m { s with heap := h, toks := tk } ((I, oI) :: (C, oC) :: (D, LCg.lst ys) :: news) (S a)) E' { s with heap := h, toks := tk }
theorem comp_gen {R S : Int → Value → Prop} {as : List Int} {P : Nat → Value → Prop} (hP : ∀ i v, i < as.length → P i v → ∃ a, as[i]? = some a ∧ R a v) (src : S' news)
    (turn : ∀ m', Turn prog w A h₀ L m' env elt x scope cl news as R S) (fin : ∀ ys, All2 S as ys → Fin ys news) : LCg.CompRest prog w A h₀ L m env elt x scope cl s S' P Fin as.length 0 [] news := by
  have key : ∀ (j i : Nat) (ys : List Value), i + j = as.length → All2 S (as.take i) ys → LCg.CompRest prog w A h₀ L m env elt x scope cl s S' P Fin j i ys news := by
    intro j
    induction j with
    | zero =>
      intro i ys hi hy
      have e : i = as.length := hi
      subst e
      rw [List.take_length] at hy
      exact LCg.CompRest.zero (fin ys hy)
    | succ j ih =>
      intro i ys hi hy
      refine LCg.CompRest.succ ?_
      intro v I oI C oC D m₂ h tk E' hv hC hx F N off ne
      obtain ⟨a, ha, hr⟩ := hP i v (by rw [← hi]; exact Nat.lt_add_of_pos_right (Nat.succ_pos j)) hv
      refine wpAny_mono (turn m s a v I oI C oC D m₂ ys h tk E' (List.mem_of_getElem? ha) hr hC hx F N) (fun y s₂ hq => ?_) fun _ _ e => e
      obtain ⟨h', tk', e, F', N', hS⟩ := hq
      refine ⟨h', tk', news, e, F', N', off, src, ih (i + 1) _ ((Nat.add_right_comm i 1 j).trans hi) ?_⟩
      rw [List.take_add_one, ha]
      exact hy.snoc hS
  exact key as.length 0 [] (Nat.zero_add _) .nil
theorem comp_src {R S : Int → Value → Prop} {as : List Int} {vs : List Value} {ax : Addr} {k : Nat} {s₁ : Shared} {Fin' : Shared → List Value → List (Addr × Obj) → Prop} (hh : A.handled = none) (F : Fr h₀ L s₁.heap m) (N : News h₀ L s₁.heap news) (hm : (ax, ({ cls := .type "list", data := .seq vs.toArray k } : Obj)) ∈ news)
    (_w : CompWord S) (hR : All2 R as vs) (hl : as.length ≤ 15) (turn : ∀ m', Turn prog w A h₀ L m' env elt x scope cl news as R S)
    (fin : ∀ g ys, All2 S as ys → Fin' { s₁ with heap := g } ys news) : LCg.CompSrc prog w A h₀ L m env elt x scope cl Fin' (.ref ax) s₁ :=
  have e : vs.toArray.size = as.length := hR.length
  LCg.CompSrc.ledger hh F N hm (by rw [e]; exact Nat.le_trans hl (by decide)) fun g => by
    rw [e]
    exact comp_gen (fun i v _ hv => hR.get (by simpa using hv)) (.inr ⟨_, hm, rfl, k, rfl⟩) turn (fin g)
end
structure Nums (size : Int) (sg : Bool) (ns : List Int) : Prop where
  fits : ∀ n ∈ ns, Fits size (keyOf size sg n)
  short : ns.length ≤ 15
  sorted : List.Pairwise (fun a b => a ≤ b) ns
theorem fits_key {size half : Int} {sg : Bool} (hs : size = 8 ∨ size = 16 ∨ size = 32 ∨ size = 64) (hh : half = if sg = true then 2 ^ (size - 1).toNat else 0) (k : Int) : Fits size (keyOf size sg (k.fmod (1 * 2 ^ size.toNat) - half)) := by
  have e : keyOf size sg (k.fmod (1 * 2 ^ size.toNat) - half) = k.fmod (1 * 2 ^ size.toNat) := by
    rw [hh]
    unfold keyOf
    cases sg <;> simp
  rw [e]
  refine ⟨fmod_lo _ ?_, ?_⟩
  · rcases hs with rfl | rfl | rfl | rfl <;> decide
  · rcases hs with rfl | rfl | rfl | rfl
    · exact .inl ⟨rfl, fmod_hi k (by decide)⟩
    · exact .inr (.inl ⟨rfl, fmod_hi k (by decide)⟩)
    · exact .inr (.inr (.inl ⟨rfl, fmod_hi k (by decide)⟩))
    · exact .inr (.inr (.inr ⟨rfl, fmod_hi k (by decide)⟩))
theorem nums_of {size half kind : Int} {ns src : List Int} {l : Nat} (hs : size = 8 ∨ size = 16 ∨ size = 32 ∨ size = 64) (hh : half = if kind < 4 then 2 ^ (size - 1).toNat else 0)
    (hp : ns.Perm ((src.take (min 16 l - 1)).map fun k => k.fmod (1 * 2 ^ size.toNat) - half)) (ho : List.Pairwise (fun a b => a ≤ b) ns) : Nums size (decide (kind < 4)) ns where
  fits n hn := by
    obtain ⟨k, _, e⟩ := List.mem_map.mp (hp.mem_iff.mp hn)
    rw [← e]
    exact fits_key hs (by simpa using hh) k
  short := by
    rw [hp.length_eq, List.length_map, List.length_take]
    exact Nat.le_trans (Nat.min_le_left _ _) (Nat.sub_le_sub_right (Nat.min_le_left 16 l) 1)
  sorted := ho
theorem octets_len {size n : Int} {sg : Bool} {b : Array UInt8} (hs : size = 8 ∨ size = 16 ∨ size = 32 ∨ size = 64) (hb : KBw.bInts b = (KTBy.little (size / 8).toNat (keyOf size sg n)).reverse) : (b.size : Int) = size.fdiv 8 := by
  have h : b.size = (size / 8).toNat := by rw [← KBw.ints_length, hb, List.length_reverse, KTBy.little_length]
  rw [h]
  rcases hs with rfl | rfl | rfl | rfl <;> rfl
theorem b85_length : ∀ (n : Nat) (x : Int), (b85 n x).length = n
  | 0, _ => rfl
  | n + 1, x => by
    show (chr85 _ ++ b85 n x).length = n + 1
    rw [Str.length_append, chr85_length (fmod_lo _ (by decide)) (fmod_hi _ (by decide)), b85_length n x, Nat.add_comm]
theorem text_len {c : Prop} [Decidable c] {x : Int} : ((b85 (if c then 10 else 5) x).length : Int) = if c then 10 else 5 := by
  rw [b85_length]
  split <;> rfl
theorem oct_fit {size n : Int} {sg : Bool} {b : Array UInt8} (hs : size = 8 ∨ size = 16 ∨ size = 32 ∨ size = 64) (hb : KBw.bInts b = (KTBy.little (size / 8).toNat (keyOf size sg n)).reverse) : b.size ≤ 1099511627776 := by
  have h : b.size = (size / 8).toNat := by rw [← KBw.ints_length, hb, List.length_reverse, KTBy.little_length]
  rw [h]
  rcases hs with rfl | rfl | rfl | rfl <;> decide
theorem text_fit {c : Prop} [Decidable c] {x : Int} : ¬ ((b85 (if c then 10 else 5) x).length : Int) ≥ 2 ^ 63 := by
  rw [text_len]
  split <;> decide
section
variable {prog : Program} {w : World} {A : Around} {E : Value → Shared → Prop} {s : Shared} {h₀ : Heap} {L : Addr} {m : Str → Option Value} {news : List (Addr × Obj)}
theorem len_oct {size n : Int} {sg : Bool} {v : Value} {Q : Value → Shared → Prop} (hs : size = 8 ∨ size = 16 ∨ size = 32 ∨ size = 64) (hv : ∃ b t, v = Value.bytes b t ∧ KBw.bInts b = (KTBy.little (size / 8).toNat (keyOf size sg n)).reverse)
    (h : Q (.int (size.fdiv 8) (s.toks + 1)) { s with toks := s.toks + 1 + 1 }) : wpAny (model prog w) A (call (.builtin "len") [v]) Q E s := by
  obtain ⟨b, t, rfl, hb⟩ := hv
  refine len_bytes (oct_fit hs hb) ?_
  rw [octets_len hs hb]
  exact h
theorem len_text {c : Prop} [Decidable c] {x : Int} {v : Value} {Q : Value → Shared → Prop} (hv : ∃ t, v = Value.str (b85 (if c then 10 else 5) x) t)
    (h : Q (.int (if c then 10 else 5) (s.toks + 1)) { s with toks := s.toks + 1 + 1 }) : wpAny (model prog w) A (call (.builtin "len") [v]) Q E s := by
  obtain ⟨t, rfl⟩ := hv
  refine len_str text_fit ?_
  rw [text_len]
  exact h
theorem ints_rep {c : Int} {t : Tok} : ∀ ns : List Int, IntsAre (List.replicate ns.length [Value.int c t]).flatten (ns.map fun _ => c)
  | [] => .nil
  | _ :: r => .cons c t (ints_rep r)
theorem mul_one {l : Addr} {c : Int} {t u : Tok} {k : Nat} {ns : List Int} {Q : Value → Shared → Prop} (F : Fr h₀ L s.heap m) (N : News h₀ L s.heap news) (hm : (l, ({ cls := .type "list", data := .seq [Value.int c t].toArray k } : Obj)) ∈ news) (hx : ns.length ≤ 15)
    (h : ∀ D h' ws, Fr h₀ L h' m → News h₀ L h' ((D, listOf ws.toArray 0) :: news) → IntsAre ws (ns.map fun _ => c) → Q (.ref D) { s with heap := h' }) : wpAny (model prog w) A (binaryOp .Mult (.ref l) (.int (ns.length : Int) u)) Q E s :=
  KMa.mul F N ⟨_, (N _ hm).1, rfl, k, rfl⟩ (Int.le_trans (by decide) (Int.natCast_nonneg _)) (Int.lt_of_le_of_lt (Int.ofNat_le.mpr hx) (by decide)) (by rw [Int.toNat_natCast, List.length_singleton, Nat.one_mul]; exact Nat.le_trans hx (by decide)) rfl fun D h' F' N' _ => h D h' _ F' N' (by rw [Int.toNat_natCast]; exact ints_rep ns)
theorem ne_false {a b : Addr} {vs us : List Value} {xs ys : List Int} {j k : Nat} {Q : Value → Shared → Prop} (N : News h₀ L s.heap news) (hm1 : (a, ({ cls := .type "list", data := .seq vs.toArray j } : Obj)) ∈ news) (h1 : IntsAre vs xs)
    (hm2 : (b, ({ cls := .type "list", data := .seq us.toArray k } : Obj)) ∈ news) (h2 : IntsAre us ys) (e : xs = ys) (hu : A.units + 64 < cLine) (h : Q (.bool false) s) : wpAny (model prog w) A (compareOp .NotEq (.ref a) (.ref b)) Q E s :=
  ne_intsK ⟨_, (N _ hm1).1, rfl, j, rfl⟩ h1 ⟨_, (N _ hm2).1, rfl, k, rfl⟩ h2 hu (by rw [decide_eq_true e]; exact h)
end
theorem freshFun6 : True := by
  k_with_none
  trivial
def valB (B : Int) (l : List Int) : Int := l.foldl (fun a d => a * B + d) 0
theorem valB_from (B : Int) : ∀ (l : List Int) (a : Int), l.foldl (fun a d => a * B + d) a = a * B ^ l.length + valB B l
  | [], a => by simp [valB]
  | d :: r, a => by
    have e1 := valB_from B r (a * B + d)
    have e2 := valB_from B r (0 * B + d)
    unfold valB
    rw [List.foldl_cons, List.foldl_cons, e1, e2, List.length_cons, Int.pow_succ]
    have : a * (B ^ r.length * B) = a * B * B ^ r.length := by rw [Int.mul_comm (B ^ r.length) B, Int.mul_assoc]
    rw [this, Int.add_mul, Int.zero_mul, Int.zero_add, Int.add_assoc]
theorem valB_cons (B d : Int) (l : List Int) : valB B (d :: l) = d * B ^ l.length + valB B l := by
  have e := valB_from B l (0 * B + d)
  unfold valB
  rw [List.foldl_cons, e]
  simp [valB]
def Digits (B : Int) (l : List Int) : Prop := ∀ d ∈ l, 0 ≤ d ∧ d < B
theorem valB_bound {B : Int} (hB : 0 < B) : ∀ {l : List Int}, Digits B l → 0 ≤ valB B l ∧ valB B l < B ^ l.length
  | [], _ => by simp [valB]
  | d :: r, h => by
    have hd := h d (List.mem_cons_self ..)
    have hr := valB_bound hB (l := r) fun x hx => h x (List.mem_cons_of_mem _ hx)
    have hp : 0 < B ^ r.length := Int.pow_pos hB
    rw [valB_cons, List.length_cons, Int.pow_succ]
    refine ⟨Int.add_nonneg (Int.mul_nonneg hd.1 (Int.le_of_lt hp)) hr.1, ?_⟩
    have h1 : (d + 1) * B ^ r.length ≤ B * B ^ r.length := Int.mul_le_mul_of_nonneg_right (Int.add_one_le_of_lt hd.2) (Int.le_of_lt hp)
    rw [Int.add_mul, Int.one_mul] at h1
    rw [Int.mul_comm (B ^ r.length) B]
    exact Int.lt_of_lt_of_le (Int.add_lt_add_left hr.2 _) h1
theorem top_lt {x y p vx vy : Int} (hp : 0 ≤ p) (h : x < y) (b1 : vx < p) (b2 : 0 ≤ vy) : x * p + vx < y * p + vy := by
  have h3 := Int.mul_le_mul_of_nonneg_right (Int.add_one_le_of_lt h) hp
  rw [Int.add_mul, Int.one_mul] at h3
  exact Int.lt_of_lt_of_le (Int.add_lt_add_left b1 _) (Int.le_trans h3 (Int.le_add_of_nonneg_right b2))
theorem ahead_val {B : Int} (hB : 0 < B) : ∀ {l1 l2 : List Int}, l1.length = l2.length → Digits B l1 → Digits B l2 → ahead l1 l2 = decide (valB B l1 < valB B l2)
  | [], [], _, _, _ => rfl
  | [], _ :: _, h, _, _ => by cases h
  | _ :: _, [], h, _, _ => by cases h
  | x :: xs, y :: ys, h, h1, h2 => by
    have hl : xs.length = ys.length := Nat.succ.inj h
    have d1 : Digits B xs := fun d hd => h1 d (List.mem_cons_of_mem _ hd)
    have d2 : Digits B ys := fun d hd => h2 d (List.mem_cons_of_mem _ hd)
    have b1 := valB_bound hB d1
    have b2 := valB_bound hB d2
    have hp : 0 ≤ B ^ ys.length := Int.le_of_lt (Int.pow_pos hB)
    have ih := ahead_val hB hl d1 d2
    unfold ahead
    rw [valB_cons, valB_cons, hl]
    rw [hl] at b1
    by_cases e : x = y
    · rw [if_pos e, ih, e]
      exact decide_eq_decide.mpr (Int.add_lt_add_iff_left _).symm
    · rw [if_neg e]
      exact decide_eq_decide.mpr ⟨fun hxy => top_lt hp hxy b1.2 b2.1, fun hv => Int.not_le.mp fun hle => Int.lt_asymm hv (top_lt hp (Int.lt_iff_le_and_ne.mpr ⟨hle, Ne.symm e⟩) b2.2 b1.1)⟩
theorem digits_little : ∀ (n : Nat) (x : Int), Digits 256 (KTBy.little n x)
  | 0, _ => fun _ h => nomatch h
  | n + 1, x => fun d hd => by
    rw [KTBy.little] at hd
    rcases List.mem_cons.mp hd with rfl | hd
    · exact ⟨Int.emod_nonneg _ (by decide), Int.emod_lt_of_pos _ (by decide)⟩
    · exact digits_little n _ d hd
theorem ahead_octets {n : Nat} {x y : Int} (hx : 0 ≤ x) (hx' : x < 256 ^ n) (hy : 0 ≤ y) (hy' : y < 256 ^ n) : ahead (KTBy.little n x).reverse (KTBy.little n y).reverse = decide (x < y) := by
  rw [ahead_val (B := 256) (by decide) (by rw [List.length_reverse, List.length_reverse, KTBy.little_length, KTBy.little_length]) (fun d hd => digits_little n x d (List.mem_reverse.mp hd)) (fun d hd => digits_little n y d (List.mem_reverse.mp hd))]
  have e1 : valB 256 (KTBy.little n x).reverse = x := value_little n x hx hx'
  have e2 : valB 256 (KTBy.little n y).reverse = y := value_little n y hy hy'
  rw [e1, e2]
def dg : Nat → Int → List Int
  | 0, _ => []
  | n + 1, x => (x / 85 ^ n).fmod 85 :: dg n x
theorem dg_length : ∀ (n : Nat) (x : Int), (dg n x).length = n
  | 0, _ => rfl
  | n + 1, x => by rw [dg, List.length_cons, dg_length n x]
theorem dg_digits : ∀ (n : Nat) (x : Int), Digits 85 (dg n x)
  | 0, _ => fun _ h => nomatch h
  | n + 1, x => fun d hd => by
    rw [dg] at hd
    rcases List.mem_cons.mp hd with rfl | hd
    · exact ⟨fmod_lo _ (by decide), fmod_hi _ (by decide)⟩
    · exact dg_digits n x d hd
theorem val_dg : ∀ (n : Nat) (x : Int), 0 ≤ x → valB 85 (dg n x) = x % 85 ^ n := by
  intro n x hx
  obtain ⟨X, rfl⟩ := Int.eq_ofNat_of_zero_le hx
  induction n with
  | zero => simp [dg, valB, Int.emod_one]
  | succ n ih =>
    rw [dg, valB_cons, ih, dg_length, Int.fmod_eq_emod_of_nonneg _ (by decide)]
    have e := Nat.mod_mul (x := X) (a := 85 ^ n) (b := 85)
    have e' : ((X % (85 ^ n * 85) : Nat) : Int) = ((X % 85 ^ n + 85 ^ n * (X / 85 ^ n % 85) : Nat) : Int) := by rw [e]
    push_cast at e'
    rw [Int.pow_succ, e', Int.mul_comm (85 ^ n), Int.add_comm]
theorem dg_val : ∀ {l : List Int}, Digits 85 l → dg l.length (valB 85 l) = l := by
  have key : ∀ (l : List Int) (a : Int), Digits 85 l → dg l.length (a * 85 ^ l.length + valB 85 l) = l := by
    intro l
    induction l with
    | nil => intro a _; rfl
    | cons d r ih =>
      intro a h
      have hd := h d (List.mem_cons_self ..)
      have dr : Digits 85 r := fun x hx => h x (List.mem_cons_of_mem _ hx)
      have hb := valB_bound (by decide : (0:Int) < 85) dr
      have hp : (0 : Int) < 85 ^ r.length := Int.pow_pos (by decide)
      rw [List.length_cons, dg]
      have e1 : a * 85 ^ (r.length + 1) + valB 85 (d :: r) = (a * 85 + d) * 85 ^ r.length + valB 85 r := by
        rw [valB_cons, Int.pow_succ, Int.add_mul, ← Int.add_assoc, Int.mul_assoc a 85, Int.mul_comm (85 ^ r.length) 85]
      rw [e1, ih _ dr]
      have e2 : ((a * 85 + d) * 85 ^ r.length + valB 85 r) / 85 ^ r.length = a * 85 + d := by
        rw [Int.add_comm, Int.add_mul_ediv_right _ _ (Int.ne_of_gt hp), Int.ediv_eq_zero_of_lt hb.1 hb.2, Int.zero_add]
      rw [e2, Int.fmod_eq_emod_of_nonneg _ (by decide)]
      rw [Int.add_comm (a * 85), Int.add_mul_emod_self_right, Int.emod_eq_of_lt hd.1 hd.2]
  intro l h
  have := key l 0 h
  rwa [Int.zero_mul, Int.zero_add] at this
def codeOf (d : Int) : Int := ((signs85.getD d.toNat 0 : Nat) : Int)
theorem fin85 {P : Int → Prop} (h : ∀ k : Fin 85, P ((k.val : Nat) : Int)) {d : Int} (h0 : 0 ≤ d) (h1 : d < 85) : P d := by
  have := h ⟨d.toNat, (Int.toNat_lt h0).mpr h1⟩
  rwa [Int.toNat_of_nonneg h0] at this
theorem codes_chr {d : Int} (h0 : 0 ≤ d) (h1 : d < 85) : KStt.codes (chr85 d) = [codeOf d] :=
  fin85 (P := fun d => KStt.codes (chr85 d) = [codeOf d]) (by decide +kernel) h0 h1
theorem place_code {d : Int} (h0 : 0 ≤ d) (h1 : d < 85) : place85 (codeOf d) = d :=
  fin85 (P := fun d => place85 (codeOf d) = d) (by decide +kernel) h0 h1
theorem code_in {d : Int} (h0 : 0 ≤ d) (h1 : d < 85) : (codeOf d).toNat ∈ signs85 :=
  fin85 (P := fun d => (codeOf d).toNat ∈ signs85) (by decide +kernel) h0 h1
theorem code_mono {d e : Int} (h0 : 0 ≤ d) (h : d < e) (h1 : e < 85) : codeOf d < codeOf e := by
  have key : ∀ a b : Fin 85, a.val < b.val → codeOf (a.val : Int) < codeOf (b.val : Int) := by decide +kernel
  obtain ⟨a, rfl⟩ := Int.eq_ofNat_of_zero_le h0
  obtain ⟨b, rfl⟩ := Int.eq_ofNat_of_zero_le (Int.le_trans h0 (Int.le_of_lt h))
  have hb := Int.ofNat_lt.mp h1
  have hab := Int.ofNat_lt.mp h
  exact key ⟨a, Nat.lt_trans hab hb⟩ ⟨b, hb⟩ hab
theorem codes_append (x y : Str) : KStt.codes (x ++ y) = KStt.codes x ++ KStt.codes y := by
  unfold KStt.codes
  rw [Str.cps_append, Array.toList_append, List.map_append]
theorem codes_b85 : ∀ (n : Nat) (x : Int), KStt.codes (b85 n x) = (dg n x).map codeOf
  | 0, _ => rfl
  | n + 1, x => by
    show KStt.codes (chr85 _ ++ b85 n x) = _
    rw [codes_append, codes_chr (fmod_lo _ (by decide)) (fmod_hi _ (by decide)), codes_b85 n x, dg, List.map_cons]
    rfl
theorem val85_codes : ∀ {l : List Int}, Digits 85 l → val85 (l.map codeOf) = valB 85 l := by
  have key : ∀ (l : List Int) (a : Int), Digits 85 l → (l.map codeOf).foldl (fun a c => a * 85 + place85 c) a = l.foldl (fun a d => a * 85 + d) a := by
    intro l
    induction l with
    | nil => intro a _; rfl
    | cons d r ih =>
      intro a h
      have hd := h d (List.mem_cons_self ..)
      rw [List.map_cons, List.foldl_cons, List.foldl_cons, place_code hd.1 hd.2]
      exact ih _ fun x hx => h x (List.mem_cons_of_mem _ hx)
  intro l h
  exact key l 0 h
theorem val85_b85 {n : Nat} {x : Int} (h0 : 0 ≤ x) (h1 : x < 85 ^ n) : val85 (KStt.codes (b85 n x)) = x := by
  rw [codes_b85, val85_codes (dg_digits n x), val_dg n x h0, Int.emod_eq_of_lt h0 h1]
theorem signs_of_codes {t : Str} {l : List Int} (h : KStt.codes t = l.map codeOf) (hd : Digits 85 l) : AllSigns t := by
  intro c hc
  have : (c : Int) ∈ KStt.codes t := List.mem_map.mpr ⟨c, hc, rfl⟩
  rw [h] at this
  obtain ⟨d, hd', e⟩ := List.mem_map.mp this
  have := code_in (hd d hd').1 (hd d hd').2
  rw [e] at this
  simpa using this
theorem signs_b85 (n : Nat) (x : Int) : AllSigns (b85 n x) := signs_of_codes (codes_b85 n x) (dg_digits n x)
theorem ahead_codes : ∀ {l1 l2 : List Int}, Digits 85 l1 → Digits 85 l2 → ahead (l1.map codeOf) (l2.map codeOf) = ahead l1 l2
  | [], [], _, _ => rfl
  | [], _ :: _, _, _ => rfl
  | _ :: _, [], _, _ => rfl
  | x :: xs, y :: ys, h1, h2 => by
    have a := h1 x (List.mem_cons_self ..)
    have b := h2 y (List.mem_cons_self ..)
    have ih := ahead_codes (l1 := xs) (l2 := ys) (fun d hd => h1 d (List.mem_cons_of_mem _ hd)) (fun d hd => h2 d (List.mem_cons_of_mem _ hd))
    rw [List.map_cons, List.map_cons, ahead, ahead, ih]
    by_cases e : x = y
    · rw [if_pos e, if_pos (by rw [e])]
    · rcases Int.lt_or_gt_of_ne e with h | h
      · have := code_mono a.1 h b.2
        rw [if_neg e, if_neg (Int.ne_of_lt this)]
        exact decide_eq_decide.mpr (iff_of_true this h)
      · have := code_mono b.1 h a.2
        rw [if_neg e, if_neg (Int.ne_of_gt this)]
        exact decide_eq_decide.mpr (iff_of_false (Int.lt_asymm this) (Int.lt_asymm h))
theorem ahead_texts {n : Nat} {x y : Int} (hx : 0 ≤ x) (hx' : x < 85 ^ n) (hy : 0 ≤ y) (hy' : y < 85 ^ n) : ahead (KStt.codes (b85 n x)) (KStt.codes (b85 n y)) = decide (x < y) := by
  rw [codes_b85, codes_b85, ahead_codes (dg_digits n x) (dg_digits n y), ahead_val (B := 85) (by decide) (by rw [dg_length, dg_length]) (dg_digits n x) (dg_digits n y), val_dg n x hx, val_dg n y hy, Int.emod_eq_of_lt hx hx', Int.emod_eq_of_lt hy hy']
theorem codes_inj {x y : Str} (h : KStt.codes x = KStt.codes y) : x = y := by rw [← KStt.txt_codes x, ← KStt.txt_codes y, h]
theorem b85_val {t : Str} {l : List Int} (h : KStt.codes t = l.map codeOf) (hd : Digits 85 l) : b85 l.length (val85 (KStt.codes t)) = t := by
  refine codes_inj ?_
  rw [h, val85_codes hd, codes_b85, dg_val hd]
theorem Fits.pow85 {size x : Int} (h : Fits size x) : x < 85 ^ (if (size == 64) = true then 10 else 5) := by
  rcases h.2 with ⟨rfl, h'⟩ | ⟨rfl, h'⟩ | ⟨rfl, h'⟩ | ⟨rfl, h'⟩
  · exact Int.lt_trans h' (by decide)
  · exact Int.lt_trans h' (by decide)
  · exact Int.lt_trans h' (by decide)
  · exact Int.lt_trans h' (by decide)
theorem num_key {size n : Int} {sg : Bool} : numOf size sg (keyOf size sg n) = n := by
  unfold numOf keyOf
  cases sg <;> simp
theorem key_lt {size n n' : Int} {sg : Bool} : (keyOf size sg n < keyOf size sg n') ↔ n < n' := by
  unfold keyOf
  cases sg <;> simp
theorem from_sortable_key {w : World} {size n : Int} {signed : Bool} {t1 t2 t3 : Tok} (hs0 : 8 ≤ size) (hs1 : size ≤ 64) :
    Does 2 w 119 [.str (PySem.Str.ofString "int") t1, .int size t2, .bool signed, .int (keyOf size signed n) t3] (fun v => ∃ t, v = .int n t) := by
  have h := from_sortable_does (w := w) (x := keyOf size signed n) (signed := signed) (t1 := t1) (t2 := t2) (t3 := t3) hs0 hs1
  rwa [num_key] at h
theorem from_base85_key {w : World} {size x : Int} {t1 : Tok} (hf : Fits size x) :
    Does 2 w 35 [.str (b85 (if (size == 64) = true then 10 else 5) x) t1] (fun v => ∃ t, v = .int x t) := by
  have h := from_base85_does (w := w) (text := b85 (if (size == 64) = true then 10 else 5) x) (t1 := t1) (signs_b85 _ _) (by rw [b85_length]; split <;> decide)
  rwa [val85_b85 hf.1 hf.pow85] at h
section
variable {w : World} {size n x : Int} {signed wide : Bool} {t1 t2 t3 : Tok} {v : Value}
theorem to_sortable_arg (hs0 : 8 ≤ size) (hs1 : size ≤ 64) (hv : ∃ t, v = .int x t) : Does 2 w 112 [.str (PySem.Str.ofString "int") t1, .int size t2, .bool signed, v] (fun v => ∃ t, v = .int (keyOf size signed x) t) := by
  obtain ⟨t, rfl⟩ := hv
  exact to_sortable_does hs0 hs1
theorem from_sortable_arg (hs0 : 8 ≤ size) (hs1 : size ≤ 64) (hv : ∃ t, v = .int (keyOf size signed n) t) : Does 2 w 119 [.str (PySem.Str.ofString "int") t1, .int size t2, .bool signed, v] (fun v => ∃ t, v = .int n t) := by
  obtain ⟨t, rfl⟩ := hv
  exact from_sortable_key hs0 hs1
theorem law_packed_arg (hf : Fits size x) (hv : ∃ t, v = .int x t) : Does 4 w 126 [.int size t1, v] (fun v => ∃ b t, v = .bytes b t ∧ KBw.bInts b = (KTBy.little (size / 8).toNat x).reverse) := by
  obtain ⟨t, rfl⟩ := hv
  exact law_packed_does hf
theorem law_unpacked_arg (hf : Fits size x) (hv : ∃ b t, v = .bytes b t ∧ KBw.bInts b = (KTBy.little (size / 8).toNat x).reverse) : Does 4 w 133 [.int size t1, v] (fun v => ∃ t, v = .int x t) := by
  obtain ⟨b, t, rfl, hb⟩ := hv
  exact law_unpacked_does hf hb
theorem to_base85_arg (hv : ∃ t, v = .int x t) : Does 2 w 28 [v, .bool wide] (fun v => ∃ t, v = .str (b85 (if wide then 10 else 5) x) t) := by
  obtain ⟨t, rfl⟩ := hv
  exact to_base85_does
theorem from_base85_arg (hf : Fits size x) (hv : ∃ t, v = .str (b85 (if (size == 64) = true then 10 else 5) x) t) : Does 2 w 35 [v] (fun v => ∃ t, v = .int x t) := by
  obtain ⟨t, rfl⟩ := hv
  exact from_base85_key hf
end
theorem freshFun7 : True := by
  k_with_none
  trivial
def OctAt (b : Array UInt8) (i : Nat) (v : Value) : Prop := ∃ c u, b[i]? = some c ∧ v = .int (c.toNat : Int) u
theorem bytes_len_look : typeLookup (.type "bytes") "__len__" = pure (some (.builtin "bytes.__len__")) := by rw [typeLookup_type, builtinLookup_eq_fast]; kernel_rfl
theorem ints_of_at : ∀ {vs : List Value} {ns : List Int}, vs.length = ns.length → (∀ (i : Nat) v, vs[i]? = some v → ∃ n t, ns[i]? = some n ∧ v = Value.int n t) → IntsAre vs ns
  | [], [], _, _ => .nil
  | [], _ :: _, h, _ => by cases h
  | _ :: _, [], h, _ => by cases h
  | v :: vs, n :: ns, hl, h => by
    obtain ⟨n', t, e, hv⟩ := h 0 v (by simp)
    simp at e
    subst e hv
    exact .cons _ t (ints_of_at (by simpa using hl) fun i v hv => by simpa using h (i + 1) v (by simpa using hv))
section
variable {prog : Program} {w : World} {A : Around} {E : Value → Shared → Prop} {s : Shared}
theorem extend_octets {R : Result → Shared → Prop} (hh : A.handled = none) (b : Array UInt8) (t : Tok) (D : Addr) (res : Value) (c₀ : Nat) (hD : s.heap.get? D = some { cls := .type "list", data := .seq #[] c₀ })
    (hR : ∀ h' tk acc' c', (∀ b' o, b' ≠ D → s.heap.get? b' = some o → h'.get? b' = some o) → h'.get? D = some { cls := .type "list", dict := none, data := .seq acc' c', slots := #[] } →
      ItemsOf (OctAt b) acc' b.size → R (.ok (.ret res)) { s with heap := h', toks := tk }) (hn : b.size ≤ sizeLine) :
    wpAny (model prog w) A.in1 (Builtin.List.listExtendWith (.ref D) (.bytes b t) res)
      (fun fin s' => match fin with | .done f => R (.ok f) s' | .again c' => c'.quiet = true ∧ codeAny (model prog w) A c' R s') (fun e s' => R (.error e) s') s := by
  have hDI : D ≠ s.heap.objs.size := Nat.ne_of_lt (Heap.lt_size hD)
  have hDf : D ∉ [s.heap.objs.size] := fun hm => hDI (List.mem_singleton.mp hm)
  unfold Builtin.List.listExtendWith
  refine wpAny_bind (wpAny_typeOf (T := "bytes") (v := .bytes b t) rfl ?_)
  have g1 : Builtin.List.listSameRef (.ref D) (.bytes b t) = false := rfl
  have g2 : (Value.type "bytes" == Value.type "list") = false := by decide
  have g3 : (Value.type "bytes" == Value.type "tuple") = false := by decide
  simp only [g1, g2, g3, Bool.or_false, Bool.false_eq_true, if_false]
  refine wpAny_bind (KBw.pyIter_bytes ?_)
  refine wpAny_bind (wpAny_holding ?_)
  unfold Builtin.List.listLengthHint
  refine wpAny_bind (wpAny_specialOf (T := "bytes") (v := .bytes b t) rfl bytes_len_look ?_)
  wp_delta
  refine wpAny_bind (wpAny_isInstance (T := "bytes") (v := .bytes b t) (b := true) rfl (by rw [isSubtype_type]; kernel_rfl) ?_)
  show wpAny _ _ (typeOf (Value.bytes b t) >>= _) _ _ _
  refine wpAny_bind (wpAny_typeOf (T := "bytes") (v := .bytes b t) rfl ?_)
  refine wpAny_pure ?_
  rw [if_neg (by decide)]
  refine wpAny_pure ⟨plainId_quiet F.plain_extend_loop _, codeAny_extend_loopS (KBw.walks (A := A.in1) hh s.heap.objs.size b t).toS hn _ hDf _ b.size 0 _ _ _ rfl (Nat.zero_le _) ⟨_, Heap.get?_push_size _ rfl, rfl, rfl⟩ (Heap.get?_push_of_some _ hD) (ItemsOf.nil _) fun s' acc' c' hm hD' hacc => ?_⟩
  rw [Moved.eq_with hm]
  refine hR s'.heap s'.toks acc' c' (fun b' ob hb e => hm.heap b' ob (fun hmem => ?_) (Heap.get?_push_of_some _ e)) hD' hacc
  rcases List.mem_cons.mp hmem with e' | hmem
  · exact hb e'
  · exact absurd (Heap.lt_size e) (by rw [List.mem_singleton.mp hmem]; exact Nat.lt_irrefl _)
theorem init_octets {R : Result → Shared → Prop} (hh : A.handled = none) (b : Array UInt8) (t : Tok) (D : Addr) (hD : s.heap.get? D = some { cls := .type "list", data := .seq #[] })
    (hR : ∀ h' tk acc' c', (∀ b' o, b' ≠ D → s.heap.get? b' = some o → h'.get? b' = some o) → h'.get? D = some { cls := .type "list", dict := none, data := .seq acc' c', slots := #[] } →
      ItemsOf (OctAt b) acc' b.size → R (.ok (.ret .none)) { s with heap := h', toks := tk }) (hn : b.size ≤ sizeLine) :
    wpAny (model prog w) A.in1 (Builtin.«list.__init__» ⟨[.ref D, .bytes b t], []⟩)
      (fun fin s' => match fin with | .done f => R (.ok f) s' | .again c' => c'.quiet = true ∧ codeAny (model prog w) A c' R s') (fun e s' => R (.error e) s') s := by
  show wpAny _ _ (do let old ← Builtin.List.listItems (.ref D); Builtin.List.listUpdate (.ref D) (fun _ => #[]); letGo old.toList.reverse; Builtin.List.listExtendWith (.ref D) (.bytes b t) .none) _ _ s
  refine wpAny_bind ?_
  unfold Builtin.List.listItems
  refine wpAny_bind (wpAny_seqItems hD rfl (wpAny_pure ?_))
  show wpAny _ _ (updateSeq D (fun _ => #[]) >>= fun _ => letGo (#[] : Array Value).toList.reverse >>= fun _ => Builtin.List.listExtendWith (.ref D) (.bytes b t) .none) _ _ s
  refine wpAny_bind (wpAny_updateSeq hD rfl ?_)
  have hD₂ := Heap.get?_update_self (Obj.mapSeq (fun _ => (#[] : Array Value))) hD rfl
  refine wpAny_bind (wpAny_letGo ?_)
  refine extend_octets hh b t D .none _ hD₂ (fun h' tk acc' c' hk hD' hacc => ?_) hn
  exact hR h' tk acc' c' (fun b' o hb e => hk b' o hb ((Heap.get?_update_other _ _ (Ne.symm hb)).trans e)) hD' hacc
theorem list_octets {h₀ : Heap} {L : Addr} {m : Str → Option Value} {news : List (Addr × Obj)} {b : Array UInt8} {t : Tok} {Q : Value → Shared → Prop} (hh : A.handled = none) (Fh : Fr h₀ L s.heap m) (N : News h₀ L s.heap news) (hn : b.size ≤ 8)
    (h : ∀ D h' tk ys c, Fr h₀ L h' m → News h₀ L h' ((D, listOf ys.toArray c) :: news) → IntsAre ys (KBw.bInts b) → Q (.ref D) { s with heap := h', toks := tk }) : wpAny (model prog w) A (call (.type "list") [.bytes b t]) Q E s := by
  have hn' : b.size ≤ sizeLine := by rw [sizeLine_eq]; exact Nat.le_trans hn (by decide)
  refine callType_codes (Q₁ := fun obj s₁ => obj = .ref s.heap.objs.size ∧ s₁ = { s with heap := s.heap.push { cls := .type "list", data := .seq #[] } }) F.called_list (F.typeCall_list_1 _) F.entry_list_init
    (code_list_new _ ⟨rfl, rfl⟩) fun obj s₁ h₁ => ?_
  obtain ⟨rfl, rfl⟩ := h₁
  have hS : (s.heap.push { cls := .type "list", data := .seq #[] }).get? s.heap.objs.size = some { cls := .type "list", data := .seq #[] } := Heap.get?_push_size _ rfl
  refine ⟨⟨_, hS, rfl⟩, F.args_list_init_2 _ _, init_octets (A := A.in1) hh b t _ hS (fun h' tk acc' c' hk hS' hacc => ⟨rfl, ?_⟩) hn'⟩
  have up : ∀ b' o, s.heap.get? b' = some o → h'.get? b' = some o := fun b' o e => hk b' o (Nat.ne_of_lt (Heap.lt_size e)) (Heap.get?_push_of_some _ e)
  have hi : IntsAre acc'.toList (KBw.bInts b) := by
    have hl : acc'.toList.length = (KBw.bInts b).length := by rw [KBw.ints_length, Array.length_toList]; exact hacc.1
    refine ints_of_at hl fun i v hv => ?_
    obtain ⟨c, u, hc, e⟩ := hacc.2 i v (by simpa using hv)
    exact ⟨_, u, KBw.ints_get hc, e⟩
  refine h _ h' tk acc'.toList c' (Fh.keeps up) (fun p hp => ?_) hi
  rcases List.mem_cons.mp hp with rfl | hp
  · refine ⟨by simpa using hS', Nat.ne_of_gt Fh.ns.lt, ?_⟩
    exact next_is_new Fh
  · exact ⟨up _ _ (N p hp).1, (N p hp).2⟩
end
theorem freshFun8 : True := by
  k_with_none
  trivial
section
variable {prog : Program} {w : World} {A : Around} {E : Value → Shared → Prop} {s : Shared} {h₀ : Heap} {L : Addr} {m : Str → Option Value} {news : List (Addr × Obj)}
theorem item_all {R : Int → Value → Prop} {value slice : PySem.Expr} {l : Addr} {ns : List Int} {vs : List Value} {j : Nat} {k : Int} {u : Tok} {Q : Value → Shared → Prop} (N : News h₀ L s.heap news) (hm : (l, ({ cls := .type "list", data := .seq vs.toArray j } : Obj)) ∈ news) (hR : All2 R ns vs)
    (h0 : 0 ≤ k) (h1 : k < (ns.length : Int)) (hl : ns.length ≤ 15) (h : ∀ v, R (ns.getD k.toNat 0) v → ns.getD k.toNat 0 ∈ ns → Q v s)
    (hs : subscripted slice false (.ref l) (.int k u) = operate [.ref l, .int k u] (getItem (.ref l) (.int k u)) := by with_unfolding_all rfl) (hg : ∀ r, letTemporaryGo value (.ref l) r = pure () := by intro _; with_unfolding_all rfl) :
    wpAny (model prog w) A (subscriptTail value slice (.ref l) (.int k u)) Q E s := by
  have hk : k.toNat < ns.length := (Int.toNat_lt h0).mpr h1
  have e : ns[k.toNat]? = some (ns.getD k.toNat 0) := by rw [List.getD_eq_getElem?_getD, List.getElem?_eq_getElem hk]; rfl
  obtain ⟨v, hv, hr⟩ := hR.at e
  exact item_listL ⟨_, (N _ hm).1, rfl, j, rfl⟩ h0 (Int.lt_trans h1 (Int.lt_of_le_of_lt (Int.ofNat_le.mpr hl) (by decide))) hv (h v hr (List.mem_of_getElem? e)) hs hg
end
theorem DoesOn.use {n : Nat} {w : World} {f : Addr} {vs : List Value} {Pre : List (Addr × Obj) → Prop} {Ret : Value → Prop} {dp un : Nat} {gd : Option (List Code)} {cn : Str} {cs : Scope} {a : Addr} {ccd : Value} {cl : List (Str × Addr)} {outer : List Env} {A₀ : Around} {base h₀ : Heap} {L : Addr} {m : Str → Option Value} {news : List (Addr × Obj)} {s : Shared} {Q E : Value → Shared → Prop}
    {p : Program} {loose : List Str} {mean : ExcName → Option Value} {mg mb : Str → Option Value} (C : DoesOn n w f vs Pre Ret)
    (B : Below A₀ base outer h₀) (F : Fr h₀ L s.heap m) (X : (hd.heap_39 w.params).In h₀) (N : News h₀ L s.heap news) (T : Top p loose mean mg mb h₀) (hk : cs.kind = .function) (hd : dp + n < recursionLimit) (hu : un + 8 * n < cLine) (hp : Pre news)
    (h : ∀ v h' tk', Ret v → Fr h₀ L h' m → News h₀ L h' news → Q v { s with heap := h', toks := tk' }) :
    wpAny (model PySem.Challenge.rw_iv0072_01.row.prog w) (ktrTop dp un gd cn cs L a ccd cl outer) (call (.ref f) vs) Q E s := C _ _ _ _ _ _ _ _ _ _ _ _ _ _ _ _ _ _ _ _ _ _ _ B F X N T hk hd hu hp h
section
variable {prog : Program} {w : World} {A : Around} {E : Value → Shared → Prop} {s : Shared} {h₀ : Heap} {L : Addr} {m : Str → Option Value} {env : Env}
def TextSrc (prog : Program) (w : World) (A : Around) (h₀ : Heap) (L : Addr) (m : Str → Option Value) (env : Env) (elt : PySem.Expr) (x : Str) (scope : Scope) (cl : List (Str × Addr)) (Q : Value → Shared → Prop) (xv : Value) (s₁ : Shared) : Prop :=
  ∃ t tt news, xv = .str t tt ∧ A.handled = none ∧ Fr h₀ L s₁.heap m ∧ News h₀ L s₁.heap news ∧ t.cps.all (· < 128) = true ∧ t.cps.size ≤ sizeLine ∧
    ∀ g, LCg.CompRest prog w A h₀ L m env elt x scope cl { s₁ with heap := g } (fun _ => True) (SignAt t) (LCg.FinE h₀ L m { s₁ with heap := g } Q) t.cps.size 0 [] news
theorem ListComp_text {elt iter : PySem.Expr} {x : Str} {px : Pos} {scope : Scope} {cl : List (Str × Addr)} {pos : Pos} {Q : Value → Shared → Prop} (F₀ : Fr h₀ L s.heap m)
    (hclos : closureFor scope env = pure cl) (hcell : ∀ y ∈ scope.names, y.2 ≠ .cell) (hkind : scope.kind = .function)
    (hnames : ∀ y ∈ scope.names, y.2 = .local → scope.names.lookup y.1 = some .local) (hx : scope.names.lookup x = some .local)
    (h : wpAny (model prog w) A (eval iter env) (TextSrc prog w A h₀ L m env elt x scope cl Q) E s)
    (hs : ∀ x, foldedSetIterable iter env x = pure x := by intro _; rfl) :
    wpAny (model prog w) A (eval (.ListComp elt [⟨.Name x px, iter, [], 0⟩] scope pos) env) Q E s := by
  rw [eval_ListComp]
  refine wpAny_comprehension_free (use := none) rfl hs hclos hkind hnames (wpAny_mono h (fun xv s₁ h₁ => ?_) fun _ _ e => e)
  obtain ⟨t, tt, news, rfl, hh, F, N, ha, hsz, R⟩ := h₁
  refine wpAny_pyIter_ascii ha ?_
  have up : ∀ b o, s₁.heap.get? b = some o → (s₁.heap.push { cls := .type "str_ascii_iterator", data := .fields #[.str t tt, .int 0 0] }).get? b = some o := fun b o e => Heap.get?_push_of_some _ e
  refine LCg.block_U (S := fun _ => True) (Walks.strAscii hh s₁.heap.objs.size t tt) hsz (fun i h st => by obtain ⟨o, e, _⟩ := st; exact ⟨o, e⟩)
    (fun i h h' o nw st e e' _ _ _ => by obtain ⟨o', q, r⟩ := st; rw [e] at q; cases q; exact ⟨o, e', r⟩) hcell hkind hx ⟨_, Heap.get?_push_size _ rfl, rfl, rfl⟩ (fun b hb => ?_)
    (F.keeps up) (N.grown up) (Nat.ne_of_lt F.ns.lt) (next_is_new F) (fun p hp => Nat.ne_of_lt (Heap.lt_size (N p hp).1)) trivial (R _) ?_
  · rw [List.mem_singleton.mp hb]
    show s₁.heap.objs.size < (s₁.heap.push _).objs.size
    rw [Heap.size_push]; exact Nat.lt_succ_self _
  · intro D C h tk m' ys news' F' N' o1 hn hC₀ hD₀ hCL hDL hCD offC fin
    refine ⟨m', hn, fun h'' hs'' => fin D h'' tk (F'.change hs'' hCL hC₀) (fun p hp => ?_) o1⟩
    refine ⟨hs''.extBut _ _ ?_ (N' p hp).1, (N' p hp).2⟩
    rcases List.mem_cons.mp hp with rfl | hp
    · exact Ne.symm hCD
    · exact offC p hp
def SignV (c : Int) (v : Value) : Prop := ∃ (n : Nat) (t : Tok), c = (n : Int) ∧ n ∈ signs85 ∧ v = .str ⟨#[n]⟩ t
theorem small_sign {c : Nat} (h : c ∈ signs85) : c < 128 := by
  have : ∀ c ∈ signs85, c < 128 := by decide +kernel
  exact this c h
theorem text_src {xv : Value} {elt : PySem.Expr} {x : Str} {scope : Scope} {cl : List (Str × Addr)} {Q : Value → Shared → Prop} {t : Str} {news : List (Addr × Obj)} {S : Int → Value → Prop} {s₁ : Shared} (hv : ∃ tt, xv = .str t tt) (hh : A.handled = none) (F : Fr h₀ L s₁.heap m) (N : News h₀ L s₁.heap news) (_w : CompWord S) (hS : AllSigns t) (hl : t.length ≤ 12)
    (turn : ∀ m', Turn prog w A h₀ L m' env elt x scope cl news (KStt.codes t) SignV S)
    (fin : ∀ g ys, All2 S (KStt.codes t) ys → LCg.FinE h₀ L m { s₁ with heap := g } Q ys news) : TextSrc prog w A h₀ L m env elt x scope cl Q xv s₁ := by
  obtain ⟨tt, rfl⟩ := hv
  refine ⟨t, tt, news, rfl, hh, F, N, ?_, by rw [sizeLine_eq]; exact Nat.le_trans hl (by decide), fun g => ?_⟩
  · rw [← Array.all_toList, List.all_eq_true]
    exact fun c hc => by simpa using small_sign (hS c hc)
  · have e : t.cps.size = (KStt.codes t).length := (KStt.codes_length t).symm
    rw [e]
    refine comp_gen (R := SignV) (fun i v _ hv => ?_) trivial turn (fin g)
    obtain ⟨c, u, hc, rfl⟩ := hv
    exact ⟨(c : Int), KStt.code_at hc, c, u, rfl, hS c (List.mem_of_getElem? (i := i) (by simpa using hc)), rfl⟩
end
theorem All2.num_ints {as vs} (h : All2 Num as vs) : IntsAre vs as := by
  induction h with
  | nil => exact .nil
  | cons x _ ih => obtain ⟨t, rfl⟩ := x; exact .cons _ t ih
section
variable {size n1 n2 : Int} {sg : Bool} {b1 b2 : Array UInt8}
theorem oct_len (hs : size = 8 ∨ size = 16 ∨ size = 32 ∨ size = 64) (hb : KBw.bInts b1 = (KTBy.little (size / 8).toNat (keyOf size sg n1)).reverse) : (KBw.bInts b1).length = (size / 8).toNat ∧ (size / 8).toNat ≤ 8 := by
  refine ⟨by rw [hb, List.length_reverse, KTBy.little_length], ?_⟩
  rcases hs with rfl | rfl | rfl | rfl <;> decide
theorem oct8 (hs : size = 8 ∨ size = 16 ∨ size = 32 ∨ size = 64) (hb : KBw.bInts b1 = (KTBy.little (size / 8).toNat (keyOf size sg n1)).reverse) : b1.size ≤ 8 := by
  have := oct_len hs hb
  rw [KBw.ints_length] at this
  exact Nat.le_trans (Nat.le_of_eq this.1) this.2
theorem text_apart (hf1 : Fits size (keyOf size sg n1)) (hf2 : Fits size (keyOf size sg n2)) :
    ahead (KStt.codes (b85 (if (size == 64) = true then 10 else 5) (keyOf size sg n1))) (KStt.codes (b85 (if (size == 64) = true then 10 else 5) (keyOf size sg n2))) = decide (n1 < n2) := by
  rw [ahead_texts hf1.1 hf1.pow85 hf2.1 hf2.pow85]
  exact decide_eq_decide.mpr key_lt
theorem text_codes_len {c : Prop} [Decidable c] {x : Int} : (KStt.codes (b85 (if c then 10 else 5) x)).length = (if c then 10 else 5) ∧ (if c then 10 else 5) ≤ 12 := by
  refine ⟨by rw [KStt.codes_length, b85_length], ?_⟩
  split <;> decide
theorem text12 {c : Prop} [Decidable c] {x : Int} : (b85 (if c then 10 else 5) x).length ≤ 12 := by
  rw [b85_length]
  split <;> decide
end
theorem law_ahead_octets {w : World} {size n1 n2 : Int} {sg : Bool} {a1 a2 : Addr} {vs us : List Value} {na nb : Nat} (hs : size = 8 ∨ size = 16 ∨ size = 32 ∨ size = 64) (hf1 : Fits size (keyOf size sg n1)) (hf2 : Fits size (keyOf size sg n2))
    (hi : IntsAre vs (KTBy.little (size / 8).toNat (keyOf size sg n1)).reverse) (hj : IntsAre us (KTBy.little (size / 8).toNat (keyOf size sg n2)).reverse) :
    DoesOn 4 w 140 [.ref a1, .ref a2] (fun news => (a1, ({ cls := .type "list", data := .seq vs.toArray na } : Obj)) ∈ news ∧ (a2, ({ cls := .type "list", data := .seq us.toArray nb } : Obj)) ∈ news) (fun v => v = .bool (decide (n1 < n2))) := by
  have h := law_ahead_does (w := w) (a1 := a1) (b1 := a2) (na := na) (nb := nb) hi hj (by rw [List.length_reverse, List.length_reverse, KTBy.little_length, KTBy.little_length]) (by rw [List.length_reverse, KTBy.little_length]; rcases hs with rfl | rfl | rfl | rfl <;> decide)
  rwa [ahead_octets hf1.1 hf1.pow hf2.1 hf2.pow, decide_eq_decide.mpr key_lt] at h
theorem law_ahead_texts {w : World} {size n1 n2 : Int} {sg : Bool} {a1 a2 : Addr} {vs us : List Value} {na nb : Nat} (hf1 : Fits size (keyOf size sg n1)) (hf2 : Fits size (keyOf size sg n2))
    (hi : IntsAre vs (KStt.codes (b85 (if (size == 64) = true then 10 else 5) (keyOf size sg n1)))) (hj : IntsAre us (KStt.codes (b85 (if (size == 64) = true then 10 else 5) (keyOf size sg n2)))) :
    DoesOn 4 w 140 [.ref a1, .ref a2] (fun news => (a1, ({ cls := .type "list", data := .seq vs.toArray na } : Obj)) ∈ news ∧ (a2, ({ cls := .type "list", data := .seq us.toArray nb } : Obj)) ∈ news) (fun v => v = .bool (decide (n1 < n2))) := by
  have h := law_ahead_does (w := w) (a1 := a1) (b1 := a2) (na := na) (nb := nb) hi hj (by rw [text_codes_len.1, text_codes_len.1]) (by rw [text_codes_len.1]; split <;> decide)
  rwa [text_apart hf1 hf2] at h
theorem keep_map {x y : Str} {v v' : Option Value} {u m₀ : Str → Option Value} {z : Str} (h1 : z ≠ x) (h3 : [y].contains z = false) :
    (if z = y then v else if z = x then v' else kstB (fun z => if [y].contains z then u z else m₀ z) [] z) = m₀ z := by
  have h4 : z ≠ y := fun e => by subst e; simp at h3
  rw [if_neg h4, if_neg h1]
  show (if [y].contains z = true then u z else m₀ z) = m₀ z
  rw [h3]
  rfl
theorem in_left {α : Type} {l r : List α} : ∀ p ∈ l, p ∈ l ++ r := fun _ h => List.mem_append_left _ h
theorem in_right {α : Type} {l r : List α} : ∀ p ∈ r, p ∈ l ++ r := fun _ h => List.mem_append_right _ h
theorem freshFun9 : True := by
  k_with_none
  trivial
structure TextOf (t : Str) (ds : List Int) : Prop where
  codes : KStt.codes t = ds.map codeOf
  dig : Digits 85 ds
  short : ds.length ≤ 12
theorem TextOf.length {t : Str} {ds : List Int} (h : TextOf t ds) : t.length = ds.length := by
  rw [← KStt.codes_length, h.codes, List.length_map]
theorem TextOf.le12 {t : Str} {ds : List Int} (h : TextOf t ds) : t.length ≤ 12 := h.length ▸ h.short
theorem TextOf.signs {t : Str} {ds : List Int} (h : TextOf t ds) : AllSigns t := signs_of_codes h.codes h.dig
theorem TextOf.val {t : Str} {ds : List Int} (h : TextOf t ds) : val85 (KStt.codes t) = valB 85 ds := by rw [h.codes, val85_codes h.dig]
theorem join_chr : ∀ as : List Int, KStt.codes (Str.join ⟨#[]⟩ (as.map fun n => chr85 (n.fmod 85))) = (as.map (·.fmod 85)).map codeOf
  | [] => rfl
  | a :: r => by
    rw [List.map_cons, join_nil_cons, codes_append, codes_chr (fmod_lo _ (by decide)) (fmod_hi _ (by decide)), join_chr r]
    rfl
theorem text_of_join (as : List Int) (hl : as.length ≤ 12) : TextOf (Txt.join (Str.ofString "") (as.map fun n => chr85 (n.fmod 85))) (as.map (·.fmod 85)) where
  codes := by
    have e : Txt.join (Str.ofString "") (as.map fun n => chr85 (n.fmod 85)) = Str.join ⟨#[]⟩ (as.map fun n => chr85 (n.fmod 85)) := StrLaws.glued_eq_join _ _
    rw [e]
    exact join_chr as
  dig d hd := by
    obtain ⟨n, _, rfl⟩ := List.mem_map.mp hd
    exact ⟨fmod_lo _ (by decide), fmod_hi _ (by decide)⟩
  short := by rw [List.length_map]; exact hl
theorem carried_of {as vs} (h : All2 (fun n v => ∃ t, v = Value.str (chr85 (n.fmod 85)) t) as vs) : CarriedAll vs (as.map fun a => PyData.str (chr85 (a.fmod 85))) := by
  induction h with
  | nil => exact .nil
  | cons x _ ih => obtain ⟨t, rfl⟩ := x; exact .cons (.str _ _) ih
section
variable {prog : Program} {w : World} {A : Around} {E : Value → Shared → Prop} {s : Shared} {h₀ : Heap} {L : Addr} {m : Str → Option Value} {news : List (Addr × Obj)}
theorem join_text {D : Addr} {as : List Int} {ys : List Value} {k : Nat} {tk : Tok} {Q : Value → Shared → Prop} (N : News h₀ L s.heap news) (hm : (D, ({ cls := .type "list", data := .seq ys.toArray k } : Obj)) ∈ news)
    (hys : All2 (fun n v => ∃ t, v = Value.str (chr85 (n.fmod 85)) t) as ys) (hl : as.length ≤ 12) (h : ∀ t ds t' k, TextOf t ds → Q (.str t t') { s with toks := k }) :
    wpAny (model prog w) A (call (.builtin "str.join") [.str (Str.ofString "") tk, .ref D]) Q E s :=
  KT.join_1 (l := as) (g := fun n => chr85 (n.fmod 85)) ⟨_, (N _ hm).1, rfl, k, rfl⟩ (carried_of hys) (fun a _ => chr85_length (fmod_lo _ (by decide)) (fmod_hi _ (by decide))) (Nat.le_trans hl (by decide)) fun t' k' _ => h _ _ t' k' (text_of_join as hl)
theorem item_text {value slice : PySem.Expr} {t : Str} {ds : List Int} {tt u : Tok} {k : Int} {Q : Value → Shared → Prop} (T : TextOf t ds) (h0 : 0 ≤ k) (h1 : k < (t.length : Int))
    (h : 0 ≤ ds.getD k.toNat 0 ∧ ds.getD k.toNat 0 < 85 → Q (.str (chr85 (ds.getD k.toNat 0)) s.toks) { s with toks := s.toks + 1 })
    (hs : subscripted slice false (.str t tt) (.int k u) = operate [.str t tt, .int k u] (getItem (.str t tt) (.int k u)) := by with_unfolding_all rfl)
    (ht : ∀ r, letTemporaryGo value (.str t tt) r = pure () := by intro _; with_unfolding_all rfl) :
    wpAny (model prog w) A (subscriptTail value slice (.str t tt) (.int k u)) Q E s := by
  have hl := T.length
  have hsh := T.short
  have hk : k.toNat < ds.length := hl ▸ (Int.toNat_lt h0).mpr h1
  have e : ds[k.toNat]? = some (ds.getD k.toNat 0) := by rw [List.getD_eq_getElem?_getD, List.getElem?_eq_getElem hk]; rfl
  have hd := T.dig _ (List.mem_of_getElem? e)
  have hc : (KStt.codes t)[k.toNat]? = some (codeOf (ds.getD k.toNat 0)) := by rw [T.codes, List.getElem?_map, e]; rfl
  have hn : t.cps[k.toNat]? = some (codeOf (ds.getD k.toNat 0)).toNat := by
    unfold KStt.codes at hc
    rw [List.getElem?_map, Option.map_eq_some_iff] at hc
    obtain ⟨c, hc1, hc2⟩ := hc
    rw [← hc2, Int.toNat_natCast]
    simpa using hc1
  have ei : Txt.item t k = chr85 (ds.getD k.toNat 0) := by
    rw [item_meets h0 hn]
    exact (fin85 (P := fun d => chr85 d = ⟨#[(codeOf d).toNat]⟩) (by decide +kernel) hd.1 hd.2).symm
  refine item_str (fitsSsize_of (N := 9223372036854775808) (Int.le_trans (by decide) h0) (Int.lt_trans h1 (Int.lt_of_le_of_lt (Int.ofNat_le.mpr T.le12) (by decide))) (Int.le_refl _)) (Int.le_trans (Int.neg_nonpos_of_nonneg (Int.natCast_nonneg _)) h0) h1 (fun _ => ?_) hs ht
  rw [ei]
  exact h hd
theorem find_sign {d : Int} {t u : Tok} {Q : Value → Shared → Prop} (h0 : 0 ≤ d ∧ d < 85) (h : Q (.int d s.toks) { s with toks := s.toks + 1 }) :
    wpAny (model prog w) A (call (.builtin "str.find") [.str (Str.ofString "!$%&*+,-./0123456789:;<=>?@ABCDEFGHIJKLMNOPQRSTUVWXYZ^_abcdefghijklmnopqrstuvwxyz{|}~") t, .str (chr85 d) u]) Q E s := by
  refine SC.find ?_
  have e : Txt.find (Str.ofString "!$%&*+,-./0123456789:;<=>?@ABCDEFGHIJKLMNOPQRSTUVWXYZ^_abcdefghijklmnopqrstuvwxyz{|}~") (chr85 d) = d :=
    fin85 (P := fun d => Txt.find (Str.ofString "!$%&*+,-./0123456789:;<=>?@ABCDEFGHIJKLMNOPQRSTUVWXYZ^_abcdefghijklmnopqrstuvwxyz{|}~") (chr85 d) = d) (by decide +kernel) h0.1 h0.2
  rw [e]
  exact h
theorem range_src {elt : PySem.Expr} {x : Str} {scope : Scope} {cl : List (Str × Addr)} {env : Env} {r : Addr} {b : Int} {t u v : Tok} {n : Nat} {s₁ : Shared} {S : Int → Value → Prop} {Fin' : Shared → List Value → List (Addr × Obj) → Prop} (hh : A.handled = none) (F : Fr h₀ L s₁.heap m) (N : News h₀ L s₁.heap news) (hr : IsRange s₁.heap r 0 b 1 t u v) (hb : b = (n : Int)) (hn : n ≤ 12) (_w : CompWord S)
    (turn : ∀ m', Turn prog w A h₀ L m' env elt x scope cl news (rangeKs 0 n) (fun a v => (0 ≤ a ∧ a < (n : Int)) ∧ Num a v) S)
    (fin : ∀ g ys, All2 S (rangeKs 0 n) ys → Fin' { s₁ with heap := g } ys news) : LCg.CompSrc prog w A h₀ L m env elt x scope cl Fin' (.ref r) s₁ := by
  subst hb
  have hsz : Builtin.Range.rangeSize 0 (n : Int) 1 = ((n : Nat) : Int) := by
    have := rangeSize_nat 0 (n : Int)
    rwa [Int.sub_zero, Int.toNat_natCast] at this
  refine LCg.CompSrc.range hh F N hr (small_one (by decide) (by decide) (Int.le_trans (by decide) (Int.natCast_nonneg n)) (Int.lt_of_le_of_lt (Int.ofNat_le.mpr hn) (by decide))) hsz (Nat.le_trans hn (by decide)) fun g => ?_
  have hl : (rangeKs 0 n).length = n := rangeKs_length 0 n
  have key := comp_gen (prog := prog) (w := w) (A := A) (h₀ := h₀) (L := L) (m := m) (env := env) (elt := elt) (x := x) (scope := scope) (cl := cl) (s := { s₁ with heap := g }) (S' := fun _ => True) (Fin := Fin' { s₁ with heap := g }) (news := news) (S := S) (as := rangeKs 0 n) (P := fun i v => ∃ t, v = .int (0 + (i : Int)) t)
    (fun i v hi hv => ⟨0 + (i : Int), by simp [rangeKs, hl ▸ hi], ⟨Int.add_nonneg (Int.le_refl 0) (Int.natCast_nonneg i), (Int.zero_add (i : Int)).symm ▸ Int.ofNat_lt.mpr (hl ▸ hi)⟩, hv⟩) trivial turn (fin g)
  rwa [hl] at key
end
theorem idx_nat {n i : Nat} : n + 1 - 1 - (i + 1) = n - 1 - i := by rw [Nat.add_sub_cancel, Nat.sub_sub, Nat.add_comm 1 i]
theorem idx_int {n i : Nat} : ((n : Int) - 1 - (i : Int)).toNat = n - 1 - i := by
  have e : (n : Int) - 1 - (i : Int) = (n : Int) - ((1 + i : Nat) : Int) := Int.sub_sub _ _ _
  rw [e, Int.toNat_sub, Nat.sub_sub]
theorem sum_digits : ∀ ds : List Int, ((List.range ds.length).map fun i => ds.getD i 0 * 85 ^ (ds.length - 1 - i)).sum = valB 85 ds
  | [] => rfl
  | d :: r => by
    have ih := sum_digits r
    rw [valB_cons, ← ih, List.length_cons, List.range_succ_eq_map, List.map_cons, List.sum_cons, List.map_map]
    congr 1
    refine congrArg List.sum (List.map_congr_left fun i _ => ?_)
    show (d :: r).getD (i + 1) 0 * 85 ^ (r.length + 1 - 1 - (i + 1)) = _
    rw [List.getD_cons_succ, idx_nat]
theorem sum_range {t : Str} {ds : List Int} (h : TextOf t ds) : ((rangeKs 0 t.length).map fun k => ds.getD k.toNat 0 * 85 ^ ((t.length : Int) - 1 - k).toNat).sum = valB 85 ds := by
  rw [← sum_digits ds, h.length]
  unfold rangeKs
  rw [List.map_map]
  congr 1
  refine List.map_congr_left fun i _ => ?_
  simp only [Function.comp, Int.zero_add, Int.toNat_natCast, idx_int]
inductive UpdG (c : Addr) (o : Obj) : List (Addr × Obj) → (Obj → List (Addr × Obj)) → Prop
  | head {r} : (∀ p ∈ r, p.1 ≠ c) → UpdG c o ((c, o) :: r) (fun o' => (c, o') :: r)
  | tail {p r g} : (∃ a n, p.2.data = .seq a n) → UpdG c o r g → UpdG c o (p :: r) (fun o' => p :: g o')
theorem UpdG.mem {c : Addr} {o : Obj} {l g} (U : UpdG c o l g) : (c, o) ∈ l := by
  induction U with
  | head _ => exact .head _
  | tail _ _ ih => exact .tail _ ih
theorem UpdG.toF {c : Addr} {o : Obj} {l g} {h : Heap} {v : Option Value} (U : UpdG c o l g) (hN : ∀ p ∈ l, h.get? p.1 = some p.2) (hd : o.data = .cell v) : UpdF c o l g := by
  induction U with
  | head x => exact .head x
  | @tail p r g x U ih =>
    refine .tail (fun e => ?_) (ih fun q hq => hN q (.tail _ hq))
    obtain ⟨a, n, hx⟩ := x
    have e1 := hN p (.head _)
    have e2 := hN _ (.tail _ U.mem)
    rw [e] at e1
    have e3 : p.2 = o := Option.some.inj (e1.symm.trans e2)
    rw [e3, hd] at hx
    cases hx
theorem freshFun10 : True := by
  k_with_none
  trivial
theorem filled10 : True := by first | ((suffices hx : ∀ w : World, (hd.heap_39 w.params).In (PySem.Challenge.rw_iv0072_01.row.prog, default).2 from trivial); k_fill; fail) | trivial
theorem slice_codes {x : Str} {j : Int} (h0 : 0 ≤ j) : KStt.codes (Txt.slice x none (some j)) = (KStt.codes x).take j.toNat := by
  have key : ∀ j : Int, 0 ≤ j → j ≤ x.length → KStt.codes (Txt.slice x none (some j)) = (KStt.codes x).take j.toNat := by
    intro j h0 h2
    have e := eq_of_beq (slice_closes_toL (x := x) h0 h2)
    rw [e]
    unfold KStt.codes
    simp [List.map_take]
  by_cases h : j ≤ x.length
  · exact key j h0 h
  · have hx : (x.length : Int) ≤ j := Int.le_of_lt (Int.not_le.mp h)
    rw [slice_to_beyond hx, key _ (Int.natCast_nonneg _) (Int.le_refl _)]
    rw [List.take_of_length_le (by rw [KStt.codes_length, Int.toNat_natCast]; exact Nat.le_refl _), List.take_of_length_le (by rw [KStt.codes_length]; exact (Int.le_toNat h0).mpr hx)]
theorem TextOf.head {t : Str} {ds : List Int} {j : Int} (h : TextOf t ds) (h0 : 0 ≤ j) : TextOf (Txt.slice t none (some j)) (ds.take j.toNat) where
  codes := by rw [slice_codes h0, h.codes, List.map_take]
  dig d hd := h.dig d (List.mem_of_mem_take hd)
  short := by
    rw [List.length_take]
    exact Nat.le_trans (Nat.min_le_right _ _) h.short
theorem from_text {w : World} {text : Str} {ds : List Int} {t1 : Tok} (h : TextOf text ds) : Does 2 w 35 [.str text t1] (fun v => ∃ t, v = .int (valB 85 ds) t) := by
  have k := from_base85_does (w := w) (text := text) (t1 := t1) h.signs (h.length ▸ h.short)
  rwa [h.val] at k
theorem text_back {w : World} {text : Str} {ds : List Int} {t1 : Tok} {wide : Bool} (h : TextOf text ds) (hl : text.length = if wide then 10 else 5) :
    Does 2 w 28 [.int (valB 85 ds) t1, .bool wide] (fun v => ∃ t, v = .str text t) := by
  have k := to_base85_does (w := w) (x0 := valB 85 ds) (wide := wide) (t1 := t1)
  have e := b85_val h.codes h.dig
  rw [h.val] at e
  rwa [← hl, h.length, e] at k
theorem TextOf.fit {t : Str} {ds : List Int} (h : TextOf t ds) : ¬ (t.length : Int) ≥ 2 ^ 63 := by
  have hs : t.length ≤ 12 := h.length ▸ h.short
  exact Int.not_le.mpr (Int.lt_of_le_of_lt (Int.ofNat_le.mpr hs) (by decide))
section
variable {prog : Program} {w : World} {A : Around} {E : Value → Shared → Prop} {s : Shared} {h₀ : Heap} {L : Addr} {m : Str → Option Value} {news : List (Addr × Obj)}
theorem ne_same {a : Int} {t u : Tok} {Q : Value → Shared → Prop} (h : Q (.bool false) s) : wpAny (model prog w) A (compareOp .NotEq (.int a t) (.int a u)) Q E s :=
  ne_int (by rw [bne_self_eq_false]; exact h)
theorem ne_same_text {a : Str} {t u : Tok} {Q : Value → Shared → Prop} (h : Q (.bool false) s) : wpAny (model prog w) A (compareOp .NotEq (.str a t) (.str a u)) Q E s :=
  ne_str (by rw [bne_self_eq_false]; exact h)
theorem head_text {value slice : PySem.Expr} {x : Str} {t uj : Tok} {ds : List Int} {j : Int} {Q : Value → Shared → Prop} (T : TextOf x ds) (h0 : 0 ≤ j) (F : Fr h₀ L s.heap m) (N : News h₀ L s.heap news)
    (h : ∀ y h' t' k, TextOf y (ds.take j.toNat) → Fr h₀ L h' m → News h₀ L h' news → Q (.str y t') { s with heap := h', toks := k })
    (hs : subscripted slice false (.str x t) (.ref s.heap.objs.size) = operate [.ref s.heap.objs.size, .str x t] (getItem (.str x t) (.ref s.heap.objs.size)) := by with_unfolding_all rfl)
    (ht : ∀ r, letTemporaryGo value (.str x t) r = pure () := by intro _; with_unfolding_all rfl) :
    wpAny (model prog w) A (subscriptTail value slice (.str x t) (.ref s.heap.objs.size)) Q E { s with heap := s.heap.push { cls := .type "slice", data := .fields #[.none, .int j uj, .none] } } :=
  slice_strN_ns F N (fun h' t' k F' N' => h _ h' t' k (T.head h0) F' N') hs ht (T.length ▸ Nat.le_trans T.short (by decide))
end
section
variable {prog : Program} {w : World} {A : Around} {E : Value → Shared → Prop} {s : Shared} {h₀ : Heap} {L : Addr} {m : Str → Option Value} {news : List (Addr × Obj)} {v v' : Value} {Q : Value → Shared → Prop}
theorem ord_sign {a : Int} (hv : SignV a v) (h : Q (.int a s.toks) { s with toks := s.toks + 1 }) : wpAny (model prog w) A (call (.builtin "ord") [v]) Q E s := by
  obtain ⟨c, t, rfl, _, rfl⟩ := hv
  exact P.ord_of_char h
theorem lt_num {a b : Int} (h1 : ∃ t, v = .int a t) (h2 : ∃ t, v' = .int b t) (h : Q (.bool (decide (a < b))) s) : wpAny (model prog w) A (compareOp .Lt v v') Q E s := by
  obtain ⟨t, rfl⟩ := h1
  obtain ⟨u, rfl⟩ := h2
  exact lt_int h
theorem list_octets_arg {size n : Int} {sg : Bool} (hs : size = 8 ∨ size = 16 ∨ size = 32 ∨ size = 64) (hv : ∃ b t, v = Value.bytes b t ∧ KBw.bInts b = (KTBy.little (size / 8).toNat (keyOf size sg n)).reverse) (hh : A.handled = none) (F : Fr h₀ L s.heap m) (N : News h₀ L s.heap news)
    (h : ∀ D h' tk ys c, Fr h₀ L h' m → News h₀ L h' ((D, listOf ys.toArray c) :: news) → IntsAre ys (KTBy.little (size / 8).toNat (keyOf size sg n)).reverse → Q (.ref D) { s with heap := h', toks := tk }) : wpAny (model prog w) A (call (.type "list") [v]) Q E s := by
  obtain ⟨b, t, rfl, hb⟩ := hv
  refine list_octets hh F N (oct8 hs hb) ?_
  rw [hb]
  exact h
end
section
variable {n : Nat} {w : World} {f : Addr} {vs : List Value} {dp un : Nat} {gd : Option (List Code)} {cn : Str} {cs : Scope} {a : Addr} {ccd : Value} {cl : List (Str × Addr)} {outer : List Env} {A₀ : Around} {base h₀ : Heap} {L : Addr} {m : Str → Option Value} {news : List (Addr × Obj)} {s : Shared} {Q E : Value → Shared → Prop}
    {p : Program} {loose : List Str} {mean : ExcName → Option Value} {mg mb : Str → Option Value}
theorem Does.useInt {x : Int} (C : Does n w f vs (fun v => ∃ t, v = .int x t)) (B : Below A₀ base outer h₀) (F : Fr h₀ L s.heap m) (X : (hd.heap_39 w.params).In h₀) (N : News h₀ L s.heap news) (T : Top p loose mean mg mb h₀) (hk : cs.kind = .function) (hd : dp + n < recursionLimit) (hu : un + 8 * n < cLine)
    (h : ∀ t h' tk', Fr h₀ L h' m → News h₀ L h' news → Q (.int x t) { s with heap := h', toks := tk' }) :
    wpAny (model PySem.Challenge.rw_iv0072_01.row.prog w) (ktrTop dp un gd cn cs L a ccd cl outer) (call (.ref f) vs) Q E s :=
  C.use B F X N T hk hd hu fun _ h' tk' ⟨t, e⟩ F' N' => e ▸ h t h' tk' F' N'
theorem Does.useStr {x : Str} (C : Does n w f vs (fun v => ∃ t, v = .str x t)) (B : Below A₀ base outer h₀) (F : Fr h₀ L s.heap m) (X : (hd.heap_39 w.params).In h₀) (N : News h₀ L s.heap news) (T : Top p loose mean mg mb h₀) (hk : cs.kind = .function) (hd : dp + n < recursionLimit) (hu : un + 8 * n < cLine)
    (h : ∀ t h' tk', Fr h₀ L h' m → News h₀ L h' news → Q (.str x t) { s with heap := h', toks := tk' }) :
    wpAny (model PySem.Challenge.rw_iv0072_01.row.prog w) (ktrTop dp un gd cn cs L a ccd cl outer) (call (.ref f) vs) Q E s :=
  C.use B F X N T hk hd hu fun _ h' tk' ⟨t, e⟩ F' N' => e ▸ h t h' tk' F' N'
theorem DoesOn.useBool {b : Bool} {Pre : List (Addr × Obj) → Prop} (C : DoesOn n w f vs Pre (fun v => v = .bool b)) (B : Below A₀ base outer h₀) (F : Fr h₀ L s.heap m) (X : (hd.heap_39 w.params).In h₀) (N : News h₀ L s.heap news) (T : Top p loose mean mg mb h₀) (hk : cs.kind = .function) (hd : dp + n < recursionLimit) (hu : un + 8 * n < cLine) (hp : Pre news)
    (h : ∀ h' tk', Fr h₀ L h' m → News h₀ L h' news → Q (.bool b) { s with heap := h', toks := tk' }) :
    wpAny (model PySem.Challenge.rw_iv0072_01.row.prog w) (ktrTop dp un gd cn cs L a ccd cl outer) (call (.ref f) vs) Q E s :=
  C.use B F X N T hk hd hu hp fun _ h' tk' e F' N' => e ▸ h h' tk' F' N'
end
section
variable {w : World} {y : Str} {ds : List Int} {long : Bool} {c : Int} {t1 t2 : Tok} {dp un : Nat} {gd : Option (List Code)} {cn : Str} {cs : Scope} {a : Addr} {ccd : Value} {cl : List (Str × Addr)} {outer : List Env} {A₀ : Around} {base h₀ : Heap} {L : Addr} {m : Str → Option Value} {news : List (Addr × Obj)} {s : Shared} {Q : Bool → Shared → Prop} {E : Value → Shared → Prop}
    {p : Program} {loose : List Str} {mean : ExcName → Option Value} {mg mb : Str → Option Value} {p1 p2 p3 p4 p5 p6 p7 p8 p9 p10 p11 p12 p13 p14 : Pos} {whole : Sem Value}
theorem back_check (B : Below A₀ base outer h₀) (F : Fr h₀ L s.heap m) (X : (hd.heap_39 w.params).In h₀) (N : News h₀ L s.heap news) (T : Top p loose mean mg mb h₀) (hk : cs.kind = .function) (hdp : dp + 2 < recursionLimit) (hun : un + 8 * 2 < cLine)
    (H : TextOf y ds) (hc : c = if long then 10 else 5) (e1 : m (Str.ofString "head") = some (.str y t1)) (e2 : m (Str.ofString "count") = some (.int c t2)) (e3 : m (Str.ofString "long_one") = some (.bool long))
    (k1 : (envX cn cs L a ccd cl).kindOf (Str.ofString "head") = some .local) (k2 : (envX cn cs L a ccd cl).kindOf (Str.ofString "count") = some .local) (k3 : (envX cn cs L a ccd cl).kindOf (Str.ofString "long_one") = some .local)
    (k4 : (envX cn cs L a ccd cl).kindOf (Str.ofString "len") = some .globalImplicit) (k5 : (envX cn cs L a ccd cl).kindOf (Str.ofString "to_base85") = some .globalImplicit) (k6 : (envX cn cs L a ccd cl).kindOf (Str.ofString "from_base85") = some .globalImplicit)
    (h : ∀ h' tk', Fr h₀ L h' m → News h₀ L h' news → Q false { s with heap := h', toks := tk' }) :
    wpAny (model PySem.Challenge.rw_iv0072_01.row.prog w) (ktrTop dp un gd cn cs L a ccd cl outer) (isTrue (.BoolOp .And [.Compare (.Call (.Name (Str.ofString "len") p1) [.Name (Str.ofString "head") p2] [] p3) [.Eq] [.Name (Str.ofString "count") p4] p5, .Compare (.Call (.Name (Str.ofString "to_base85") p6) [.Call (.Name (Str.ofString "from_base85") p7) [.Name (Str.ofString "head") p8] [] p9, .Name (Str.ofString "long_one") p10] [] p11) [.NotEq] [.Name (Str.ofString "head") p12] p13] p14) (envX cn cs L a ccd cl) whole) Q E s := by
  have TR := topRead_of T
  refine isTrue_and (wpAny_isTrue_Compare1 (callB (fun Q h => nameX_B F X TR (by k_is) rfl (by decide) h hk k4) (args1 rfl fun Q h => nameX_L F e1 h hk k1) (len_str H.fit ?_) rfl rfl))
  refine nameX_L F e2 (eq_int (wpAny_truthy_bool ?_)) hk k2
  by_cases hl : (y.length : Int) = c
  · rw [beq_iff_eq.mpr hl, if_pos rfl]
    refine isTrue_and (wpAny_isTrue_Compare1 (Call_ (nameX_K F X TR (by k_is) (callWith_K (first := []) X (by k_is) (args_cons (callK (fun Q h => nameX_K F X TR (by k_is) h hk k6) (args1 rfl fun Q h => nameX_L F e1 h hk k1) F X (by k_is) (Does.useInt (from_text H) B F X N T hk hdp hun ?_) rfl rfl) rfl) rfl rfl) hk k5) rfl))
    intro t h' tk' F' N'
    refine args_cons (nameX_L F' e3 (args_nil ⟨X.keeps F'.keep, Does.useStr (text_back H (Int.ofNat.inj (hl.trans (hc.trans (by cases long <;> rfl))))) B F' X N' T hk hdp hun ?_⟩) hk k3) rfl
    intro t h2 tk2 F2 N2
    exact nameX_L F2 e1 (ne_same_text (wpAny_truthy_bool (h _ _ F2 N2))) hk k1
  · rw [beq_eq_false_iff_ne.mpr hl, if_neg (by decide)]
    exact h _ _ F N
end
theorem place_facts {place : Int} {k n : Nat} (h : place = 1 + (k : Int)) (h2 : k < ((n : Int) - 1).toNat) : (0 ≤ place - 1 ∧ place - 1 < (n : Int)) ∧ 0 ≤ place ∧ place < (n : Int) := by
  subst h
  have h3 : (k : Int) < n - 1 := Int.lt_toNat.mp h2
  rw [Int.add_comm 1, Int.add_sub_cancel]
  exact ⟨⟨Int.natCast_nonneg k, Int.lt_of_lt_of_le h3 (Int.sub_le_self _ (by decide))⟩, Int.add_nonneg (Int.natCast_nonneg k) (by decide), Int.add_lt_of_lt_sub_right h3⟩
theorem small_range {n : Nat} (h : n ≤ 15) : Builtin.Range.small 1 (n : Int) 1 = true :=
  small_one (by decide) (by decide) (Int.le_trans (by decide) (Int.natCast_nonneg n)) (Int.lt_of_le_of_lt (Int.ofNat_le.mpr h) (by decide))
theorem digit_ok {d b : Int} (h : 0 ≤ d ∧ d < 85) : IntMulOk d b := IntMulOk.of_left (intBits_le_64 (Int.lt_of_lt_of_le (by decide) h.1) (Int.lt_trans h.2 (by decide)))
theorem pow_text {prog : Program} {w : World} {A : Around} {E : Value → Shared → Prop} {s : Shared} {x : Str} {ds : List Int} {t u : Tok} {k : Int} {Q : Value → Shared → Prop} (T : TextOf x ds) (hb : 0 ≤ k ∧ k < (x.length : Int))
    (h : Q (.int (85 ^ ((x.length : Int) - 1 - k).toNat) s.toks) { s with toks := s.toks + 1 }) : wpAny (model prog w) A (binaryOp .Pow (.int 85 t) (.int ((x.length : Int) - 1 - k) u)) Q E s :=
  pow_int_small (Int.sub_nonneg_of_le (Int.le_sub_one_of_lt hb.2)) (Int.le_trans (Int.sub_le_self _ hb.1) (Int.le_trans (Int.sub_le_self _ (by decide)) (Int.le_trans (Int.ofNat_le.mpr T.le12) (by decide)))) (by decide) h
theorem take12 {α : Type} {n j : Nat} {l : List α} : (List.take (min 12 n - j) l).length ≤ 12 := Nat.le_trans (List.length_take_le _ _) (Nat.le_trans (Nat.sub_le _ _) (Nat.min_le_left _ _))
theorem room_2 : 302 + 2 < recursionLimit := by decide
theorem room_4 : 302 + 4 < recursionLimit := by decide
theorem units_2 : 7 + 8 * 2 < cLine := by rw [cLine_is]; decide
theorem units_4 : 7 + 8 * 4 < cLine := by rw [cLine_is]; decide
theorem frame_cps {h₀ h : Heap} {L : Addr} {m : Str → Option Value} {x y z q : Str} {v u t r : Value} {G : Prop} (F : Fr h₀ L h m) (e : m x = some v) (e2 : m y = some u) (e3 : m z = some t) (e4 : m q = some r)
    (k : ∀ m', Fr h₀ L h m' → m' x = some v → m' y = some u → m' z = some t → m' q = some r → G) : G := k m F e e2 e3 e4
def Sz (z : Int) : Prop := z = 8 ∨ z = 16 ∨ z = 32 ∨ z = 64
section
variable {w : World} {ei : PySem.Expr} {k size : Int} {sg : Bool} {ns : List Int} {us : List Value} {al : Addr} {j : Nat} {A : Around} {cn : Str} {cs : Scope} {a : Addr} {ccd : Value} {cl : List (Str × Addr)} {h₀ : Heap} {L : Addr} {m : Str → Option Value} {news : List (Addr × Obj)} {s : Shared} {Q E : Value → Shared → Prop}
    {p : Program} {loose : List Str} {mean : ExcName → Option Value} {mg mb : Str → Option Value} {p1 p2 p3 p4 p5 px pos : Pos}
theorem oct_item (F : Fr h₀ L s.heap m) (X : (hd.heap_39 w.params).In h₀) (N : News h₀ L s.heap news) (T : Top p loose mean mg mb h₀) (hk : cs.kind = .function) (hh : A.handled = none) (hsz : Sz size)
    (e1 : m (Str.ofString "packed") = some (.ref al)) (kp : (envX cn cs L a ccd cl).kindOf (Str.ofString "packed") = some .local) (kl : (envX cn cs L a ccd cl).kindOf (Str.ofString "list") = some .globalImplicit) (hm : (al, ({ cls := .type "list", data := .seq us.toArray j } : Obj)) ∈ news)
    (hR : All2 (fun n v => ∃ b t, v = Value.bytes b t ∧ KBw.bInts b = (KTBy.little (size / 8).toNat (keyOf size sg n)).reverse) ns us) (hl : ns.length ≤ 15) (hpl : 0 ≤ k ∧ k < (ns.length : Int))
    (hi : ∀ Q' : Value → Shared → Prop, (∀ t tk, Q' (.int k t) { s with toks := tk }) → wpAny (model PySem.Challenge.rw_iv0072_01.row.prog w) A (eval ei (envX cn cs L a ccd cl)) Q' E s)
    (hei : ∀ l k u, subscripted ei false (.ref l) (.int k u) = operate [.ref l, .int k u] (getItem (.ref l) (.int k u)))
    (h : ∀ D h' tk ys c, Fr h₀ L h' m → News h₀ L h' ((D, listOf ys.toArray c) :: news) → IntsAre ys (KTBy.little (size / 8).toNat (keyOf size sg (ns.getD k.toNat 0))).reverse → Q (.ref D) { s with heap := h', toks := tk }) :
    wpAny (model PySem.Challenge.rw_iv0072_01.row.prog w) A (eval (.Call (.Name (Str.ofString "list") p1) [.Subscript (.Name (Str.ofString "packed") p2) ei p3] [] p4) (envX cn cs L a ccd cl)) Q E s := by
  refine Call_ (nameX_B F X (topRead_of T) (by k_is) rfl (by decide) (callWith_type1 (args_cons (Subscript_ (nameX_L F e1 (hi _ fun t tk => ?_) hk kp)) rfl) rfl rfl) hk kl) rfl
  refine item_all (s := { s with toks := tk }) N hm hR hpl.1 hpl.2 hl (fun v hv _ => args_nil (list_octets_arg hsz hv hh F N h)) (hei _ _ _)
theorem ord_item {scope : Scope} {cl2 : List (Str × Addr)} (F : Fr h₀ L s.heap m) (X : (hd.heap_39 w.params).In h₀) (N : News h₀ L s.heap news) (T : Top p loose mean mg mb h₀) (hk : cs.kind = .function) (hh : A.handled = none)
    (e1 : m (Str.ofString "texts") = some (.ref al)) (kp : (envX cn cs L a ccd cl).kindOf (Str.ofString "texts") = some .local) (hm : (al, ({ cls := .type "list", data := .seq us.toArray j } : Obj)) ∈ news)
    (hR : All2 (fun n v => ∃ t, v = Value.str (b85 (if (size == 64) = true then 10 else 5) (keyOf size sg n)) t) ns us) (hl : ns.length ≤ 15) (hpl : 0 ≤ k ∧ k < (ns.length : Int))
    (hi : ∀ Q' : Value → Shared → Prop, (∀ t tk, Q' (.int k t) { s with toks := tk }) → wpAny (model PySem.Challenge.rw_iv0072_01.row.prog w) A (eval ei (envX cn cs L a ccd cl)) Q' E s)
    (hei : ∀ l k u, subscripted ei false (.ref l) (.int k u) = operate [.ref l, .int k u] (getItem (.ref l) (.int k u)))
    (hclos : closureFor scope (envX cn cs L a ccd cl) = pure cl2) (hcell : ∀ y ∈ scope.names, y.2 ≠ .cell) (hkind : scope.kind = .function) (hnames : ∀ y ∈ scope.names, y.2 = .local → scope.names.lookup y.1 = some .local) (hx : scope.names.lookup (Str.ofString "sign") = some .local)
    (hfold : ∀ x, foldedSetIterable (.Subscript (.Name (Str.ofString "texts") p4) ei p5) (envX cn cs L a ccd cl) x = pure x)
    (ho : ∀ C, (compEnvC scope cl2 C (envX cn cs L a ccd cl)).kindOf (Str.ofString "ord") = some .globalImplicit) (hsg : ∀ C, (compEnvC scope cl2 C (envX cn cs L a ccd cl)).kindOf (Str.ofString "sign") = some .local)
    (h : ∀ D ys h' tk, Fr h₀ L h' m → News h₀ L h' ((D, LCg.lst ys) :: news) → IntsAre ys (KStt.codes (b85 (if (size == 64) = true then 10 else 5) (keyOf size sg (ns.getD k.toNat 0)))) → Q (.ref D) { s with heap := h', toks := tk }) :
    wpAny (model PySem.Challenge.rw_iv0072_01.row.prog w) A (eval (.ListComp (.Call (.Name (Str.ofString "ord") p1) [.Name (Str.ofString "sign") p2] [] p3) [⟨.Name (Str.ofString "sign") px, .Subscript (.Name (Str.ofString "texts") p4) ei p5, [], 0⟩] scope pos) (envX cn cs L a ccd cl)) Q E s := by
  refine ListComp_text F hclos hcell hkind hnames hx (Subscript_ (nameX_L F e1 (hi _ fun t tk => ?_) hk kp)) hfold
  refine item_all (s := { s with toks := tk }) N hm hR hpl.1 hpl.2 hl (fun v hv _ => text_src (S := Num) hv hh F N ⟨⟩ (signs_b85 _ _) text12 (fun m' s0 a v I oI C oC D m₂ ys h tk E' ha hv hC hx F' N' => ?_) fun g ys hys D h' tk' F' N' _ => h D ys h' tk' F' N' (All2.num_ints hys)) (hei _ _ _)
  exact callB (fun Q h => LCgL.ld_built F' X T (by k_is) rfl (by decide) h rfl rfl hkind (ho C)) (args1 rfl fun Q h => LCgL.ld_own N' (.tail _ (.head _)) hC hx h hkind (hsg C)) (ord_sign hv ⟨_, _, rfl, F', N', _, rfl⟩) rfl rfl
end
theorem freshLaw : True := by
  k_with_none
  trivial
theorem up1 {a : Nat} : a + 1 ≠ a := Nat.succ_ne_self a
theorem up2 {a : Nat} : a + 1 + 1 ≠ a := Nat.ne_of_gt (Nat.lt_add_of_pos_right (k := 2) (by decide))
theorem up3 {a : Nat} : a + 1 + 1 + 1 ≠ a := Nat.ne_of_gt (Nat.lt_add_of_pos_right (k := 3) (by decide))
theorem up4 {a : Nat} : a + 1 + 1 + 1 + 1 ≠ a := Nat.ne_of_gt (Nat.lt_add_of_pos_right (k := 4) (by decide))
theorem shl_size {prog : Program} {w : World} {A : Around} {E : Value → Shared → Prop} {s : Shared} {n : Int} {t u : Tok} {Q : Value → Shared → Prop} (h0 : 0 ≤ n) (h1 : n ≤ 64) (h : Q (.int (1 * 2 ^ n.toNat) s.toks) { s with toks := s.toks + 1 }) : wpAny (model prog w) A (binaryOp .LShift (.int 1 t) (.int n u)) Q E s :=
  lshift_int_small h0 (Int.le_trans h1 (by decide)) (by decide) h
theorem words5 : True := by
  k_with "ne9" => (refine neN ?_; first | exact up1 | exact up2 | exact up3 | exact up4 | exact up1.symm | exact up2.symm | exact up3.symm | exact up4.symm)
  k_with "call ref" => (k_here; (with_reducible show wpAny _ _ (call (Value.ref _) _) _ _ _); (refine wpAny_call ?_); (have hKind : ScopeKind.function = ScopeKind.function := rfl); k_dflt (k_extra "enter"))
  k_with "enter" => (refine' code_def ?k1 ?k2 ?k3 ?k4 ?k5 ?kA ?kF ?kK ?k6 ?k7 ?k8 ?k9 ?kB ?_ ?c2 ?c3 ?c4 ?c5; (case kA => exact rfl); (case kF => exact rfl); (case kK => first | exact rfl | assumption); (case k1 => k_asm); (case k2 => k_asm); (case k3 => k_asm); (case k4 => k_asm); (case k5 => k_asm); (case k6 => k_is); (case k7 => k_is); (case k8 => ktr_room); (case k9 => first | exact BindsTo.of_eq rfl | exact binds_K (by k_in) rfl (by k_is) rfl rfl rfl); (case c5 => decide); (case kB => exact locs rfl); (case c2 => exact rfl); (case c3 => exact rfl); (case c4 => exact rfl); k_whole; intro g' L' h' FG' F' N' B' X' T'; (try dsimp only); (try k_lift B'); (try k_fold))
  k_with "ite" => (k_here; first | (refine ite_neg (by simp <;> omega) ?_) | (refine ite_pos (by simp <;> omega) ?_))
  k_with "in" => (unfold Does; k_fill; intro dp un gd cn cs a ccd cl outer A₀ base h₀ L m news s Q E p loose mean mg mb B F X N T hk hdp hun hret; refine wpAny_call ?_; k_dflt (k_extra "enter"); k_steps)
  k_with "out" => (refine hret _ _ _ ?_ (by k_asm) ?_; rotate_left; (exact cb_drop (by assumption) (by first | exact fun _ h => h | exact in_tails fun _ h => h | exact in_tails (in_tails fun _ h => h))))
  trivial
theorem in_nil {α : Type} {l : List α} : ∀ p ∈ ([] : List α), p ∈ l := fun _ h => nomatch h
theorem size_getD (k : Int) : Sz ([(8 : Int), 16, 32, 64].getD (k.fmod 4).toNat 0) ∧ 8 ≤ [(8 : Int), 16, 32, 64].getD (k.fmod 4).toNat 0 ∧ [(8 : Int), 16, 32, 64].getD (k.fmod 4).toNat 0 ≤ 64 := by
  have h0 : 0 ≤ k.fmod 4 := fmod_lo _ (by decide)
  have h1 : k.fmod 4 < 4 := fmod_hi _ (by decide)
  generalize k.fmod 4 = j at h0 h1
  obtain ⟨n, rfl⟩ := Int.eq_ofNat_of_zero_le h0
  have key : ∀ n : Fin 4, ([(8 : Int), 16, 32, 64].getD n.val 0 = 8 ∨ [(8 : Int), 16, 32, 64].getD n.val 0 = 16 ∨ [(8 : Int), 16, 32, 64].getD n.val 0 = 32 ∨ [(8 : Int), 16, 32, 64].getD n.val 0 = 64) ∧ 8 ≤ [(8 : Int), 16, 32, 64].getD n.val 0 ∧ [(8 : Int), 16, 32, 64].getD n.val 0 ≤ 64 := by decide
  exact key ⟨n, Int.ofNat_lt.mp h1⟩
theorem eval_join {M : Model} {A : Around} {E : Value → Shared → Prop} {s : Shared} {h₀ : Heap} {L : Addr} {m : Str → Option Value} {news : List (Addr × Obj)} {t : Sem Value} {Q : Value → Shared → Prop} (P : Int → Prop) (_F : Fr h₀ L s.heap m) (_N : News h₀ L s.heap news)
    (h1 : ∀ Q' : Value → Shared → Prop, (∀ k u h' tk, P k → Fr h₀ L h' m → News h₀ L h' news → Q' (.int k u) { s with heap := h', toks := tk }) → wpAny M A t Q' E s)
    (h2 : ∀ k u h' tk, P k → Fr h₀ L h' m → News h₀ L h' news → Q (.int k u) { s with heap := h', toks := tk }) : wpAny M A t Q E s := h1 Q h2
theorem eval_join1 {M : Model} {A : Around} {E : Value → Shared → Prop} {s : Shared} {h₀ : Heap} {L : Addr} {m : Str → Option Value} {news : List (Addr × Obj)} {t : Sem Value} {Q : Value → Shared → Prop} {x1 : Str} {v1 : Value} (P : Int → Prop) (F : Fr h₀ L s.heap m) (N : News h₀ L s.heap news) (e1 : m x1 = some v1)
    (h1 : ∀ m' nw Q', Fr h₀ L s.heap m' → News h₀ L s.heap nw → m' x1 = some v1 → (∀ k u h' tk, P k → Fr h₀ L h' m' → News h₀ L h' nw → Q' (.int k u) { s with heap := h', toks := tk }) → wpAny M A t Q' E s)
    (h2 : ∀ k u h' tk, P k → Fr h₀ L h' m → News h₀ L h' news → Q (.int k u) { s with heap := h', toks := tk }) : wpAny M A t Q E s :=
  h1 m news Q F N e1 h2
theorem store_cell {M : Model} {A : Around} {E : Value → Shared → Prop} {s : Shared} {h₀ : Heap} {L a : Addr} {m : Str → Option Value} {cn : Str} {cs : Scope} {ccd : Value} {cl : List (Str × Addr)}
  {x : Str} {v : Value} {Q : Unit → Shared → Prop} {news : List (Addr × Obj)} {g : Obj → List (Addr × Obj)} {c : Addr} {o : Obj} {v₀ : Option Value} (F : Fr h₀ L s.heap m) (N : News h₀ L s.heap news) (hc : cl.lookup x = some c) (_hm : (c, o) ∈ news) (hd : o.data = .cell v₀) (U : UpdG c o news g)
    (h : ∀ h' o', Fr h₀ L h' m → News h₀ L h' (g o') → o'.data = .cell (some v) → Q () { s with heap := h' })
    (hk : cs.kind = .function := by rfl) (hx : (envX cn cs L a ccd cl).kindOf x = some .cell := by rfl) : wpAny M A (storeName (envX cn cs L a ccd cl) x v) Q E s :=
  storeX_C F N hc (U.toF (fun p hp => (N p hp).1) hd) hd h hk hx
end
end Mine
open Mine
set_option maxHeartbeats 8000000 in
theorem PySem.Challenge.cw_iv0072_01_holds : PySem.Challenge.rw_iv0072_01.Holds := by
  k_with "contractI" => (refine' Does.useInt ?kC ?k1 ?k2 ?k3 ?k4 ?k5 ?k6 ?k7 ?k8 ?_; (case k1 => k_asm); (case k2 => k_asm); (case k3 => k_asm); (case k4 => k_asm); (case k5 => k_asm); (case k6 => exact rfl))
  k_with "contractS" => (refine' Does.useStr ?kC ?k1 ?k2 ?k3 ?k4 ?k5 ?k6 ?k7 ?k8 ?_; (case k1 => k_asm); (case k2 => k_asm); (case k3 => k_asm); (case k4 => k_asm); (case k5 => k_asm); (case k6 => exact rfl))
  k_with "contract" => (refine' Does.use ?kC ?k1 ?k2 ?k3 ?k4 ?k5 ?k6 ?k7 ?k8 ?_; (case k1 => k_asm); (case k2 => k_asm); (case k3 => k_asm); (case k4 => k_asm); (case k5 => k_asm); (case k6 => exact rfl))
  k_with "assign comp" => (refine LCg.Assign_ListComp_U (F₀ := by k_asm) (by rfl) (by with_unfolding_all rfl) (by with_unfolding_all rfl) (by decide) (by rfl) (by decide) (by rfl) (by rfl) (by rfl) ?_)
  k_with "exec Assign cons ListComp" => (k_here; (with_reducible show wpAny _ _ (exec (PySem.Stmt.Assign [PySem.Expr.Name (PySem.Str.ofString "keys") _] _ _) _) _ _ _); (rename List.Perm _ _ => pP); (rename List.Pairwise _ _ => pS); (rename IntsAre _ _ => hI0); k_dflt (have nums := nums_of hsize.1 hhalf pP pS); k_extra "join"; (replace lN' := cb_drop lN' (in_under (in_tails (in_tails (in_under (in_tails fun _ h => h)))))); (have hNum := All2.of_ints hI0); (have cw : CompWord (fun n v => ∃ t, v = Value.int (keyOf size (decide (kind < 4)) n) t) := ⟨⟩); k_dflt (k_extra "assign comp"))
  k_with "CompSrc" => (k_here; (rename CompWord _ => cw); k_dflt (refine comp_src (by rfl) (by k_asm) (by k_asm) (by k_mem) cw (by assumption) nums.short ?_ ?_; rotate_left; (intro g' ys hys; try (have hysI := All2.ints hys)); rotate_left; (intro m8 s0 a v I oI C oC D m₂ ys h tk E' ha hv hC hx F' N'); all_goals (try k_fold)))
  k_with "exec Assign cons ListComp" => (k_here; (with_reducible show wpAny _ _ (exec (PySem.Stmt.Assign [PySem.Expr.Name (PySem.Str.ofString "packed") _] _ _) _) _ _ _); (have cw : CompWord (fun n v => ∃ b t, v = Value.bytes b t ∧ KBw.bInts b = (KTBy.little (size / 8).toNat (keyOf size (decide (kind < 4)) n)).reverse) := ⟨⟩); k_dflt (k_extra "assign comp"))
  k_with "exec Assign cons ListComp" => (k_here; (with_reducible show wpAny _ _ (exec (PySem.Stmt.Assign [PySem.Expr.Name (PySem.Str.ofString "texts") _] _ _) _) _ _ _); (have cw : CompWord (fun n v => ∃ t, v = Value.str (b85 (if (size == 64) = true then 10 else 5) (keyOf size (decide (kind < 4)) n)) t) := ⟨⟩); k_dflt (k_extra "assign comp"))
  k_with "call ref" => (k_here; (with_reducible show wpAny _ _ (call (Value.ref _) _) _ _ _); k_dflt (k_extra "contract"; (case kC => first | exact law_packed_arg (nums.fits _ (by assumption)) (by assumption) | exact law_unpacked_arg (nums.fits _ (by assumption)) (by assumption) | exact to_sortable_arg hsize.2.1 hsize.2.2 (by assumption) | exact from_sortable_arg hsize.2.1 hsize.2.2 (by assumption) | exact to_base85_arg (by assumption) | exact from_base85_arg (nums.fits _ (by assumption)) (by assumption)); (case k7 => first | exact room_2 | exact room_4 | ktr_room); (case k8 => first | exact units_2 | exact units_4 | ktr_units)); intro v9 h' tk' hq F' N')
  k_with "FinA" => ((unfold LCg.FinA); intro D' h' tk' F' N' o1'; clear o1'; (try dsimp only))
  k_with "FinE" => ((unfold LCg.FinE); intro D' h' tk' F' N' o1'; clear o1'; (try dsimp only))
  k_with "call builtin:len" => (k_here; (with_reducible show wpAny _ _ (call (Value.builtin "len") [_]) _ _ _); k_dflt (first | refine len_oct hsize.1 (by assumption) ?_ | refine len_text (by assumption) ?_))
  k_with "call builtin:len" => (k_here; (with_reducible show wpAny _ _ (call (Value.builtin "len") [Value.ref _]) _ _ _); k_dflt (refine len_ints (by k_asm) (by k_mem) hI0 (Nat.le_trans nums.short (by decide)) ?_); intro _ _)
  k_with "list comp" => (refine LCg.ListComp_U (F₀ := by k_asm) (by with_unfolding_all rfl) (by decide) (by rfl) (by decide) (by rfl) ?_)
  k_with "eval ListComp" => (k_here; (with_reducible show wpAny _ _ (eval (PySem.Expr.ListComp (PySem.Expr.Call (PySem.Expr.Name (PySem.Str.ofString "len") _) [PySem.Expr.Name (PySem.Str.ofString "octets") _] _ _) _ _ _) _) _ _ _); k_extra "join"; (replace lN' := cb_drop lN' (in_under (in_under (in_tails fun _ h => h)))); (have cw : CompWord (fun n v => ∃ t, v = Value.int ((fun _ => size.fdiv 8) n) t) := ⟨⟩); k_dflt (k_extra "list comp"))
  k_with "eval ListComp" => (k_here; (with_reducible show wpAny _ _ (eval (PySem.Expr.ListComp (PySem.Expr.Call (PySem.Expr.Name (PySem.Str.ofString "len") _) [PySem.Expr.Name (PySem.Str.ofString "text") _] _ _) _ _ _) _) _ _ _); (have cw : CompWord (fun n v => ∃ t, v = Value.int ((fun _ => if (size == 64) = true then 10 else 5) n) t) := ⟨⟩); k_dflt (k_extra "list comp"))
  k_with "eval IfExp" => (k_here; (with_reducible show wpAny _ _ (eval (PySem.Expr.IfExp (PySem.Expr.Name _ _) (PySem.Expr.Constant _ _ _) (PySem.Expr.Constant _ _ _) _) _) _ _ _); (refine ifExp_ints ?_))
  k_with "forall" => (intro z hz)
  k_with "binaryOp Mult ref int" => (k_here; (with_reducible show wpAny _ _ (binaryOp Operator.Mult (Value.ref _) (Value.int _ _)) _ _ _); k_dflt (refine mul_one (by k_asm) (by k_asm) (by k_mem) nums.short ?_); intro D' h' ws' F' N' hws')
  k_with "compareOp NotEq ref ref" => k_dflt (k_here; k_dflt (refine ne_false (by k_asm) (by k_mem) (by assumption) (by k_mem) (by assumption) rfl (by units_room) ?_); k_extra "join"; (replace lN' := cb_drop lN' (in_tails fun _ h => h)))
  k_with "compareOp NotEq ref ref" => k_dflt (k_here; k_dflt (refine ne_false (by k_asm) (by k_mem) (by assumption) (by k_mem) (by assumption) (by simp; done) (by units_room) ?_); k_extra "join"; (replace lN' := cb_drop lN' (in_tails fun _ h => h)))
  k_with "compareOp NotEq ref ref" => k_dflt (k_here; k_dflt (refine ne_false (by k_asm) (by k_mem) (by assumption) (by k_mem) hws' (by first | rfl | rw [hz]) (by units_room) ?_); clear hws'; k_extra "join"; (replace lN' := cb_drop lN' (in_tails (in_tails (in_tails fun _ h => h)))))
  k_with "eval ListComp" => (k_here; (with_reducible show wpAny _ _ (eval (PySem.Expr.ListComp (PySem.Expr.Call (PySem.Expr.Name (PySem.Str.ofString "from_sortable") _) _ _ _) _ _ _) _) _ _ _); (have cw : CompWord (fun n v => ∃ t, v = Value.int n t) := ⟨⟩); k_dflt (k_extra "list comp"))
  k_with "pyIter ref" => (k_here; (fail_if_success (have h9 := hT)); (rename IsRange _ _ _ _ _ _ _ _ => rgX); (have hsh := nums.short); k_extra "join"; (replace lN' := cb_drop lN' (in_under (in_under (in_under (in_under in_nil))))); (k_dflt (refine' kst_range (σ := Unit) (fun _ => _) (fun _ => []) (fun _ => True) [PySem.Str.ofString "apart"] (fun _ _ => True) () (by rfl) rgX (small_range nums.short) (rangeSize_nat _ _) (by k_asm) (by k_asm) trivial (fun _ h => nomatch h) trivial ?_ ?_)); rotate_left; (intro c9 u9 h9 tk9 hf9 hp9 F' N'; replace N' := cb_drop N' (in_tails (in_tails (in_tails fun _ h => h)))); rotate_left; (intro c9 pre9 place t9 u9 h9 tk9 own9 hplace hlt9 hoff9 hf9 hp9 F' N'; (have hpl := place_facts hplace hlt9)); all_goals (try k_fold))
  k_with "item" => ((with_reducible show wpAny _ _ (subscriptTail _ _ (Value.ref _) (Value.int _ _)) _ _ _); k_dflt (first | refine item_all (by k_asm) (by k_mem) (by assumption) hpl.1.1 hpl.1.2 nums.short ?_ | refine item_all (by k_asm) (by k_mem) (by assumption) hpl.2.1 hpl.2.2 nums.short ?_); intro v hv hin)
  k_with "subscriptTail Name BinOp ref int" => (k_here; k_extra "item")
  k_with "subscriptTail Name Name ref int" => (k_here; k_extra "item")
  k_with "compareOp Lt" => (k_here; k_dflt (refine lt_num (by assumption) (by assumption) ?_))
  k_with "eval Call" => (k_here; (with_reducible show wpAny _ _ (eval (PySem.Expr.Call (PySem.Expr.Name (PySem.Str.ofString "list") _) [PySem.Expr.Subscript _ (PySem.Expr.BinOp _ _ _ _) _] _ _) _) _ _ _); (k_dflt (refine' oct_item ?bF ?bX ?bN ?bT ?bk ?bh hsize.1 ?b1 rfl rfl ?bm ?bR nums.short hpl.1 ?_ ?bei ?_; (case bF => k_asm); (case bX => k_asm); (case bN => k_asm); (case bT => k_asm); (case bk => exact rfl); (case bh => exact rfl); (case b1 => assumption); (case bm => k_mem); (case bR => assumption); (case bei => (intro _ _ _; with_unfolding_all rfl)))); rotate_left; (intro D' h' tk' ys' c' F' N' hoct); rotate_left; (intro Q8 hq8))
  k_with "eval ListComp" => (k_here; (with_reducible show wpAny _ _ (eval (PySem.Expr.ListComp (PySem.Expr.Call (PySem.Expr.Name (PySem.Str.ofString "ord") _) _ _ _) [PySem.Comprehension.mk _ (PySem.Expr.Subscript _ (PySem.Expr.BinOp _ _ _ _) _) _ _] _ _) _) _ _ _); (k_dflt (refine' ord_item ?bF ?bX ?bN ?bT ?bk ?bh ?b1 rfl ?bm ?bR nums.short hpl.1 ?_ ?bei ?bc ?bd ?be ?bf ?bg ?bo ?bs ?bt ?_; (case bc => with_unfolding_all rfl); (case bd => decide); (case be => exact rfl); (case bf => decide); (case bg => exact rfl); (case bo => exact fun _ => rfl); (case bs => exact fun _ => rfl); (case bt => exact fun _ => rfl); (case bF => k_asm); (case bX => k_asm); (case bN => k_asm); (case bT => k_asm); (case bk => exact rfl); (case bh => exact rfl); (case b1 => assumption); (case bm => k_mem); (case bR => assumption); (case bei => (intro _ _ _; with_unfolding_all rfl)))); rotate_left; (intro D' ys' h' tk' F' N' hoct); rotate_left; (intro Q8 hq8))
  k_with "eval Call" => (k_here; (with_reducible show wpAny _ _ (eval (PySem.Expr.Call (PySem.Expr.Name (PySem.Str.ofString "list") _) [PySem.Expr.Subscript _ (PySem.Expr.Name _ _) _] _ _) _) _ _ _); (k_dflt (refine' oct_item ?bF ?bX ?bN ?bT ?bk ?bh hsize.1 ?b1 rfl rfl ?bm ?bR nums.short hpl.2 ?_ ?bei ?_; (case bF => k_asm); (case bX => k_asm); (case bN => k_asm); (case bT => k_asm); (case bk => exact rfl); (case bh => exact rfl); (case b1 => assumption); (case bm => k_mem); (case bR => assumption); (case bei => (intro _ _ _; with_unfolding_all rfl)))); rotate_left; (intro D' h' tk' ys' c' F' N' hoct); rotate_left; (intro Q8 hq8))
  k_with "eval ListComp" => (k_here; (with_reducible show wpAny _ _ (eval (PySem.Expr.ListComp (PySem.Expr.Call (PySem.Expr.Name (PySem.Str.ofString "ord") _) _ _ _) [PySem.Comprehension.mk _ (PySem.Expr.Subscript _ (PySem.Expr.Name _ _) _) _ _] _ _) _) _ _ _); (k_dflt (refine' ord_item ?bF ?bX ?bN ?bT ?bk ?bh ?b1 rfl ?bm ?bR nums.short hpl.2 ?_ ?bei ?bc ?bd ?be ?bf ?bg ?bo ?bs ?bt ?_; (case bc => with_unfolding_all rfl); (case bd => decide); (case be => exact rfl); (case bf => decide); (case bg => exact rfl); (case bo => exact fun _ => rfl); (case bs => exact fun _ => rfl); (case bt => exact fun _ => rfl); (case bF => k_asm); (case bX => k_asm); (case bN => k_asm); (case bT => k_asm); (case bk => exact rfl); (case bh => exact rfl); (case b1 => assumption); (case bm => k_mem); (case bR => assumption); (case bei => (intro _ _ _; with_unfolding_all rfl)))); rotate_left; (intro D' ys' h' tk' F' N' hoct); rotate_left; (intro Q8 hq8))
  k_with "call ref" => (k_here; (with_reducible show wpAny _ _ (call (Value.ref _) [Value.ref _, Value.ref _]) _ _ _); k_dflt (refine' DoesOn.useBool (law_ahead_texts ?f1 ?f2 ?hi ?hj) ?k1 ?k2 ?k3 ?k4 ?k5 ?k6 ?k7 ?k8 ?kp ?_; (case k1 => k_asm); (case k2 => k_asm); (case k3 => k_asm); (case k4 => k_asm); (case k5 => k_asm); (case k6 => exact rfl); (case kp => exact ⟨by k_mem, by k_mem⟩); (case hi => assumption); (case hj => assumption); (case f1 => exact nums.fits _ (by assumption)); (case f2 => exact nums.fits _ (by assumption)); (case k7 => first | exact room_2 | exact room_4 | ktr_room); (case k8 => first | exact units_2 | exact units_4 | ktr_units)); (intro h' tk' F' N'))
  k_with "call ref" => (k_here; (with_reducible show wpAny _ _ (call (Value.ref _) [Value.ref _, Value.ref _]) _ _ _); (k_dflt (refine' DoesOn.useBool (law_ahead_octets hsize.1 ?f1 ?f2 ?hi ?hj) ?k1 ?k2 ?k3 ?k4 ?k5 ?k6 ?k7 ?k8 ?kp ?_; (case k1 => k_asm); (case k2 => k_asm); (case k3 => k_asm); (case k4 => k_asm); (case k5 => k_asm); (case k6 => exact rfl); (case kp => exact ⟨by k_mem, by k_mem⟩); (case hi => assumption); (case hj => assumption); (case f1 => exact nums.fits _ (by assumption)); (case f2 => exact nums.fits _ (by assumption)); (case k7 => first | exact room_2 | exact room_4 | ktr_room); (case k8 => first | exact units_2 | exact units_4 | ktr_units))); (intro h' tk' F' N'))
  k_with "InvEndN" => (k_dflt (refine InvEndN.intro (by k_asm) (by k_asm) (nx := ?nx) ⟨(), rfl, trivial, (fun _ h => nomatch h), (fun z h1 _ h3 => keep_map h1 h3), trivial⟩ rfl (in_tails (in_tails (in_tails (in_tails in_left)))) (in_tails (in_tails (in_tails (in_tails in_right))))))
  k_with "eval ListComp" => (k_here; (with_reducible show wpAny _ _ (eval (PySem.Expr.ListComp (PySem.Expr.Subscript _ _ _) _ _ _) _) _ _ _); (have cw : CompWord (fun n v => ∃ t, v = Value.str (chr85 (n.fmod 85)) t) := ⟨⟩); k_dflt (k_extra "list comp"))
  k_with "CompSrc" => (k_here; (rename CompWord _ => cw); (rename IntsAre _ _ => hIs); k_dflt (refine comp_src (as := List.take _ _) (by rfl) (by k_asm) (by k_asm) (by k_mem) cw (All2.of_ints hIs) (by first | exact Nat.le_trans (List.length_take_le _ _) (by decide) | exact Nat.le_trans take12 (by decide)) ?_ ?_; rotate_left; (intro g' ys hys); rotate_left; (intro m8 s0 a v I oI C oC D m₂ ys h tk E' ha hv hC hx F' N'; (obtain ⟨_, rfl⟩ := hv)); all_goals (try k_fold)))
  k_with "call builtin:str.join" => (k_here; k_dflt (refine join_text (by k_asm) (by k_mem) (by assumption) (by first | exact List.length_take_le _ _ | exact take12) ?_); intro text ds tt9 tk9 hT)
  k_with "TurnEnd" => k_dflt (refine ⟨_, _, rfl, by k_asm, cb_drop (by assumption) (by first | exact fun _ h => h | exact in_tails fun _ h => h), ?_⟩; first | assumption | exact ⟨_, rfl⟩ | exact ⟨_, _, rfl, by assumption⟩ | exact ⟨_, congrArg (Value.int · _) (octets_len hsize.1 (by assumption))⟩ | exact ⟨_, congrArg (Value.int · _) text_len⟩)
  k_with "join" => (rename Fr _ _ _ _ => lF'; rename News _ _ _ _ => lN')
  k_with "eval IfExp" => (k_here; (with_reducible show wpAny _ _ (eval (PySem.Expr.IfExp (PySem.Expr.Compare _ _ _ _) _ _ _) _) _ _ _); k_extra "join"; k_dflt (refine eval_join1 (x1 := PySem.Str.ofString "script") (fun k => 0 ≤ k ∧ k < 8) lF' lN' hscr (fun m8 nw8 Q8 F8 N8 hp1 hq8 => wpAny_IfExp ?_) ?_); rotate_left; (intro kind u h' tk hkind F' N'); rotate_left)
  k_with "eval Subscript" => (k_here; (with_reducible show wpAny _ _ (eval (PySem.Expr.Subscript (PySem.Expr.List _ _) _ _) _) _ _ _); k_extra "join"; k_dflt (refine eval_join1 (x1 := PySem.Str.ofString "kind") (fun z => Sz z ∧ 8 ≤ z ∧ z ≤ 64) lF' lN' rfl (fun m8 nw8 Q8 F8 N8 hp1 hq8 => Subscript_ ?_) ?_); rotate_left; (intro size u h' tk hsize F' N'); rotate_left)
  k_with "eval IfExp" => (k_here; (with_reducible show wpAny _ _ (eval (PySem.Expr.IfExp (PySem.Expr.Name _ _) (PySem.Expr.BinOp _ _ _ _) _ _) _) _ _ _); k_extra "join"; k_dflt (refine eval_join (fun z => z = if kind < 4 then 2 ^ (size - 1).toNat else 0) lF' lN' (fun Q8 hq8 => wpAny_IfExp ?_) ?_); rotate_left; (intro half u h' tk hhalf F' N'); rotate_left)
  k_with "updg" => (first | (refine UpdG.head ?_; first | exact fun _ h => nomatch h | k_all) | (apply UpdG.tail; exact ⟨_, _, rfl⟩; k_extra "updg"))
  k_with "storeName" => (k_here; (with_reducible show wpAny _ _ (storeName _ (PySem.Str.ofString "text") _) _ _ _); k_extra "join"; k_dflt ((refine store_cell lF' lN' rfl (by k_mem) (by assumption) (by k_extra "updg") ?_ rfl rfl)); intro h' o' F' N' d'; (replace N' := cb_drop N' (in_tails (in_tails fun _ h => h))); (obtain ⟨m9, F9⟩ : ∃ m9, Fr _ _ h' m9 := ⟨_, F'⟩); clear F'; (have hl12 := hT.short); (have hlen := hT.length))
  k_with "eval ListComp" => (k_here; (with_reducible show wpAny _ _ (eval (PySem.Expr.ListComp (PySem.Expr.BinOp _ _ _ _) _ _ _) _) _ _ _); (have cw : CompWord (fun k v => ∃ t, v = Value.int (ds.getD k.toNat 0 * 85 ^ ((text.length : Int) - 1 - k).toNat) t) := ⟨⟩); k_dflt (k_extra "list comp"))
  k_with "CompSrc" => (k_here; (rename CompWord _ => cw); (rename IsRange _ _ _ _ _ _ _ _ => rgX); k_dflt (refine range_src (by rfl) (by k_asm) (by k_asm) rgX rfl hT.le12 cw ?_ ?_; rotate_left; (intro g' ys hys; have hysI := All2.ints hys); rotate_left; (intro m8 s0 a v I oI C oC D m₂ ys h tk E' ha hv hC hx F' N'; (obtain ⟨hb9, _, rfl⟩ := hv)); all_goals (try k_fold)))
  k_with "subscriptTail Name Name str int" => (k_here; k_dflt (refine item_text hT hb9.1 hb9.2 ?_); intro hd9)
  k_with "call builtin:str.find" => (k_here; k_dflt (refine find_sign (by assumption) ?_))
  k_with "call builtin:len" => (k_here; (with_reducible show wpAny _ _ (call (Value.builtin "len") [Value.str _ _]) _ _ _); k_dflt (refine len_str (TextOf.fit (by assumption)) ?_))
  k_with "binaryOp LShift int int" => (k_here; k_dflt (first | refine shl_size (Int.le_trans (by decide) hsize.2.1) hsize.2.2 ?_ | refine shl_size (Int.sub_nonneg_of_le (Int.le_trans (by decide) hsize.2.1)) (Int.le_trans (Int.sub_le_self _ (by decide)) hsize.2.2) ?_))
  k_with "binaryOp Mult int int" => (k_here; k_dflt (refine mul_int ?_ (digit_ok hd9)))
  k_with "binaryOp Pow int int" => (k_here; k_dflt (refine pow_text hT hb9 ?_))
  k_with "call ref" => (k_here; (with_reducible show wpAny _ _ (call (Value.ref _) [Value.str _ _]) _ _ _); k_dflt (k_extra "contractI"; (case kC => exact from_text (by assumption)); (case k7 => first | exact room_2 | exact room_4 | ktr_room); (case k8 => first | exact units_2 | exact units_4 | ktr_units)); (intro _ h' tk' F' N'))
  k_with "compareOp NotEq int int" => (k_here; (rw [sum_range hT]); refine ne_same ?_; k_extra "join"; (replace lN' := cb_drop lN' (in_tails fun _ h => h)))
  k_with "subscriptTail Name Slice str ref" => (k_here; (k_dflt (refine head_text hT (by decide) (by k_asm) (by k_asm) ?_)); intro y9 h' t' k' hH F' N')
  k_with "isTrue BoolOp" => (k_here; (have h9 := hT); (with_reducible show wpAny _ _ (isTrue (PySem.Expr.BoolOp _ [_, _] _) _ _) _ _ _); (k_dflt (refine' back_check ?k1 ?k2 ?k3 ?k4 ?k5 ?hk ?k7 ?k8 ?kH ?kc ?bq1 ?bq2 ?bq3 rfl rfl rfl rfl rfl rfl ?_; (case k1 => k_asm); (case k2 => k_asm); (case k3 => k_asm); (case k4 => k_asm); (case k5 => k_asm); (case hk => exact rfl); (case bq1 => exact rfl); (case bq2 => exact rfl); (case bq3 => exact rfl); (case kc => exact rfl); (case kH => assumption); (case k7 => first | exact room_2 | exact room_4 | ktr_room); (case k8 => first | exact units_2 | exact units_4 | ktr_units))); (intro h' tk' F' N'))
  k_with "eval Call" => (k_here; (with_reducible show wpAny _ _ (eval (PySem.Expr.Call (PySem.Expr.Name (PySem.Str.ofString "from_sortable") _) _ _ _) _) _ _ _); k_dflt (refine Call_ ?_))
  k_with "execs cons" => (k_here; (with_reducible show wpAny _ _ (execs (PySem.Stmt.Assign [PySem.Expr.Name (PySem.Str.ofString "kind") _] _ _ :: _) _) _ _ _); k_extra "join"; k_dflt (obtain ⟨m9, F9, hscr⟩ := frame_op (fun m => m (PySem.Str.ofString "script") = some _) lF' rfl); clear lF')
  k_with "execs cons" => (k_here; (fail_if_success (have h9 := hq4)); (with_reducible show wpAny _ _ (execs (PySem.Stmt.If (PySem.Expr.BoolOp PySem.BoolOp.Or _ _) _ _ _ :: _) _) _ _ _); k_extra "join"; (k_dflt (refine frame_cps (x := PySem.Str.ofString "numbers") (y := PySem.Str.ofString "packed") (z := PySem.Str.ofString "texts") (q := PySem.Str.ofString "script") lF' rfl rfl rfl hscr ?_)); clear lF'; intro m7 F7 hq1 hq2 hq3 hq4)
  k_with "read" => k_dflt (refine' nameX_L ?q1 ?q2 ?_ ?q3 ?q4; (case q1 => k_asm); (case q3 => rfl); (case q4 => rfl); (case q2 => assumption); k_whole)
  k_with "eval Name" => (k_here; (with_reducible show wpAny _ _ (eval (PySem.Expr.Name (PySem.Str.ofString "script") _) _) _ _ _); k_extra "read")
  k_with "eval Name" => (k_here; (with_reducible show wpAny _ _ (eval (PySem.Expr.Name (PySem.Str.ofString "kind") _) _) _ _ _); k_extra "read")
  k_with "eval Name" => (k_here; (with_reducible show wpAny _ _ (eval (PySem.Expr.Name (PySem.Str.ofString "numbers") _) _) _ _ _); k_extra "read")
  k_with "eval Name" => (k_here; (with_reducible show wpAny _ _ (eval (PySem.Expr.Name (PySem.Str.ofString "packed") _) _) _ _ _); k_extra "read")
  k_with "eval Name" => (k_here; (with_reducible show wpAny _ _ (eval (PySem.Expr.Name (PySem.Str.ofString "texts") _) _) _ _ _); k_extra "read")
  k_with "ev" => (first | ((with_reducible show wpAny _ _ (eval (PySem.Expr.Name _ _) _) _ _ _); walk_at "eval Name"; exact he9) | ((with_reducible show wpAny _ _ (eval (PySem.Expr.Constant _ _ _) _) _ _ _); (first | walk_at "eval Constant str" | walk_at "eval Constant int" | walk_at "eval Constant bool"); exact he9))
  k_with "evs" => (first | (apply args1; (case hst1 => exact rfl); (case he1 => (intro Qe he9; k_extra "ev"))) | (apply argsC; (case hst1 => exact rfl); (case he1 => (intro Qe he9; k_extra "ev")); k_extra "evs"))
  k_with "eval Call" => (k_here; (with_reducible show wpAny _ _ (eval (PySem.Expr.Call (PySem.Expr.Name _ _) (_ :: _) [] _) _) _ _ _); k_dflt (first | (apply callK; (case hfun => (intro Qe he9; k_extra "ev")); (case hst => exact rfl); (case hpl => exact rfl); (case hargs => k_extra "evs"); (case hFr => k_asm); (case hIn => k_asm); (case hkeep => k_is)) | (apply callB; (case hfun => (intro Qe he9; k_extra "ev")); (case hst => exact rfl); (case hpl => exact rfl); (case hargs => k_extra "evs"))))
  refine hd ?_
  w_strict k_go0
  all_goals try k_fold
  k_steps
  all_goals (try exact hq8 _ _)
  all_goals (refine hq8 _ _ _ _ ?_ (by k_asm) (cb_drop (by assumption) (by first | exact fun _ h => h | exact in_tails fun _ h => h)))
  all_goals first | k_dflt (exact size_getD _) | exact ⟨fmod_lo _ (by decide), fmod_hi _ (by decide)⟩ | exact (by decide : (0:Int) ≤ 0 ∧ (0:Int) < 8) | (rw [if_pos (by assumption), Int.one_mul]) | (rw [if_neg (by assumption)])
