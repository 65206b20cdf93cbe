import PyProof.Rows.All
import Wide.All
import OpenK.AllK
import Wide.FinOn
import PyProof.ListNew
import KE.BytesMake
import PyProof.ListIndex
import KE.KIntText
import PyProof.ReprStr
import KE.KNest
import KE.KTryDeep
import PyProof.Rows.CellsRaise
import PyProof.WalksMore
import KE.KEqDat
import KE.KPop
import KE.KSort
import KE.KSortKey
import KE.KSlice
import KE.KListMore
import KE.KxSplit
import KE.KBytesWalk
import KE.KBytesAny
import PyProof.ListRange
import KE.KxAdd
import Lean
import PySem.Challenge.RW_zo0026_01
set_option Elab.async false
set_option linter.all false
set_option maxRecDepth 100000
set_option maxHeartbeats 8000000
set_option genSizeOf false
set_option genInjectivity false
section
open PySem PySem.W PyProof.Rows PySem.Calls
namespace Mine
/-! Runs in a context of which more is known than wpAny tells: no code under way holds a bytearray's memory. -/
noncomputable def badIds : List String := ["bytearray.__contains__", "bytearray.__mod__", "bytearray.__rmod__", "_struct.pack_into.held", "bytearray.find.held"] ++ Builtin.Bytes.decodersThatHold
noncomputable def okC : Code → Bool
  | .builtin id _ => !(badIds.contains id)
  | _ => true
noncomputable def isCl : Code → Bool
  | .builtin "claim.caller" _ => true
  | _ => false
/-- of a context: nothing under way holds a bytearray's memory, and the claim's caller is under way -/
structure OkX (Γ : PySem.Ctx) : Prop where
  here : okC Γ.code = true
  below : ∀ x ∈ Γ.below, okC x.1 = true
  caller : isCl Γ.code = true ∨ ∃ x ∈ Γ.below, isCl x.1 = true
structure OkB (Γ : PySem.Ctx) : Prop where
  here : okC Γ.code = true
  below : ∀ x ∈ Γ.below, okC x.1 = true
  caller : ∃ x ∈ Γ.below, isCl x.1 = true
theorem OkB.x {Γ : PySem.Ctx} (h : OkB Γ) : OkX Γ := ⟨h.here, h.below, .inr h.caller⟩
noncomputable def wpX {α : Type} (M : Model) (A : Around) (t : Sem α) (Q : α → Shared → Prop) (E : Value → Shared → Prop) (s : Shared) : Prop :=
  ∀ Γ p, Γ.In A → OkX Γ → Sem.wp M Γ t (fun a _ s' => Q a s') (fun e _ s' => E e s') p s
noncomputable def codeX (M : Model) (A : Around) (c : Code) (R : Result → Shared → Prop) (s : Shared) : Prop :=
  ∀ Γ p, Γ.code = c → Γ.Below A → OkB Γ → wpCode M Γ R p s
noncomputable def okR (Q : Flow → Shared → Prop) (r : Result) (s : Shared) : Prop := match r with | .ok f => Q f s | .error _ => False
noncomputable abbrev wpN {α : Type} (M : Model) (A : Around) (t : Sem α) (Q : α → Shared → Prop) (s : Shared) : Prop := wpX M A t Q (fun _ _ => False) s
noncomputable abbrev codeN (M : Model) (A : Around) (c : Code) (Q : Flow → Shared → Prop) (s : Shared) : Prop := codeX M A c (okR Q) s
theorem OkX.enter {Γ : PySem.Ctx} (h : OkX Γ) {c : Code} (hc : okC c = true) (hd : Option Value) (p : Pos) : OkB (Γ.enter c hd p) := by
  refine ⟨hc, fun x hx => ?_, ?_⟩
  · rcases List.mem_cons.mp (show x ∈ (Γ.code, p) :: Γ.below from hx) with rfl | h9
    · exact h.here
    · exact h.below x h9
  · rcases h.caller with h1 | ⟨x, hx, h2⟩
    · exact ⟨(Γ.code, p), List.mem_cons_self, h1⟩
    · exact ⟨x, List.mem_cons_of_mem _ hx, h2⟩
theorem OkB.goto {Γ : PySem.Ctx} (h : OkB Γ) {c : Code} (hc : okC c = true) : OkB (Γ.goto c) := ⟨hc, h.below, h.caller⟩
section
variable {α β : Type} {M : Model} {A : Around} {s : Shared} {E : Value → Shared → Prop}
theorem X_any {t : Sem α} {Q : α → Shared → Prop} (h : wpAny M A t Q E s) : wpX M A t Q E s := fun Γ p hΓ _ => h Γ p hΓ
theorem X_mono {t : Sem α} {Q Q' : α → Shared → Prop} {E' : Value → Shared → Prop} (h : wpX M A t Q E s) (hQ : ∀ a s, Q a s → Q' a s) (hE : ∀ e s, E e s → E' e s) : wpX M A t Q' E' s :=
  fun Γ p hΓ ok => Sem.wp_mono M Γ t (fun a _ s => hQ a s) (fun e _ s => hE e s) p s (h Γ p hΓ ok)
theorem X_bind {m : Sem α} {f : α → Sem β} {Q : β → Shared → Prop} (h : wpX M A m (fun a s' => wpX M A (f a) Q E s') E s) : wpX M A (m >>= f) Q E s := fun Γ p hΓ ok => by
  rw [Sem.wp_bind']
  exact Sem.wp_mono M Γ m (fun a p' s' h' => h' Γ p' hΓ ok) (fun _ _ _ h' => h') p s (h Γ p hΓ ok)
theorem X_bindA {m : Sem α} {f : α → Sem β} {Q : β → Shared → Prop} (h : wpAny M A m (fun a s' => wpX M A (f a) Q E s') E s) : wpX M A (m >>= f) Q E s := X_bind (X_any h)
theorem X_pure {a : α} {Q : α → Shared → Prop} (h : Q a s) : wpX M A (pure a) Q E s := fun _ _ _ _ => h
theorem X_keep {vs : List Value} {m : Sem α} {Q : α → Shared → Prop} (h : wpX M A m Q E s) : wpX M A (m.keep vs) Q E s := fun Γ p hΓ ok => by rw [Sem.wp_keep]; exact h Γ p hΓ ok
theorem X_holding {vs : List Value} {m : Sem α} {Q : α → Shared → Prop} (h : wpX M A m Q E s) : wpX M A (holding vs m) Q E s := fun Γ p hΓ ok => by rw [Sem.wp_holding]; exact h Γ p hΓ ok
theorem X_onRaise {m : Sem α} {k : Value → Sem Unit} {Q : α → Shared → Prop} (h : wpX M A m Q (fun e s' => wpAny M A (k e) (fun _ s'' => E e s'') E s') s) : wpX M A (m.onRaise k) Q E s := fun Γ p hΓ ok => by
  rw [Sem.wp_onRaise]
  exact Sem.wp_mono M Γ m (fun _ _ _ h' => h') (fun e p' s' h' => h' Γ p' hΓ) p s (h Γ p hΓ ok)
theorem X_standAt {pos : Pos} {Q : Unit → Shared → Prop} (h : Q () s) : wpX M A (standAt pos) Q E s := fun _ _ _ _ => h
theorem X_point {Q : Unit → Shared → Prop} (h : Q () s) : wpX M A point Q E s := fun _ _ _ _ => h
theorem codeX_mono {c : Code} {R R' : Result → Shared → Prop} (h : codeX M A c R s) (hR : ∀ r s, R r s → R' r s) : codeX M A c R' s := fun Γ p hc hΓ ok => wpCode_mono hR (h Γ p hc hΓ ok)
theorem codeX_any {c : Code} {R : Result → Shared → Prop} (h : codeAny M A c R s) : codeX M A c R s := fun Γ p hc hΓ _ => h Γ p hc hΓ
theorem X_run {c : Code} {h : Option Value} {Q : Flow → Shared → Prop} (hc : codeX M (A.mark h) c (fun r s' => match r with | .ok f => Q f s' | .error e => E e s') s) (hk : okC c = true) (hnb : h ≠ some byPass := by intro x; cases x) : wpX M A (run c h) Q E s :=
  fun Γ p hΓ ok => by
    rw [Sem.wp_run]
    exact hc _ p rfl (hΓ.enter c h p hnb) (ok.enter hk h p)
theorem X_runValue {c : Code} {Q : Value → Shared → Prop} (hc : codeX M A c (fun r s' => match r with | .ok (.ret v) => Q v s' | .ok _ => False | .error e => E e s') s) (hk : okC c = true) : wpX M A (runValue c) Q E s :=
  fun Γ p hΓ ok => by
    rw [Sem.wp_runValue]
    exact hc _ p rfl (hΓ.enter c none p (by intro x; cases x)) (ok.enter hk none p)
theorem X_call {f : Value} {pos : List Value} {kw : List (Str × Value)} {Q : Value → Shared → Prop} (hc : codeX M A (.call f ⟨pos, kw⟩) (fun r s' => match r with | .ok (.ret v) => Q v s' | .ok _ => False | .error e => E e s') s) : wpX M A (call f pos kw) Q E s := X_runValue hc rfl
theorem codeX_of_tree {c : Code} {R : Result → Shared → Prop} (h : wpX M (A.under c) (M.den c) (fun fin s' => match fin with | .done f => R (.ok f) s' | .again c' => c'.quiet = true ∧ okC c' = true ∧ codeX M A c' R s') (fun e s' => R (.error e) s') s) : codeX M A c R s := fun Γ p hc hΓ ok => by
  rw [wpCode_iff_wp, hc]
  refine Sem.wp_mono M Γ _ (fun fin p' s' h' => ?_) (fun _ _ _ h' => h') p s (h Γ p (hc ▸ hΓ.in) ok.x)
  cases fin with
  | done f => exact h'
  | again c' => exact ⟨h'.1, h'.2.2 (Γ.goto c') p' rfl (hΓ.goto c') (ok.goto h'.2.1)⟩
theorem N_any {t : Sem α} {Q : α → Shared → Prop} (h : wpAny M A t Q (fun _ _ => False) s) : wpN M A t Q s := X_any h
/-- the end of a piece of the walk, hidden behind a name -/
theorem N_gen {t : Sem α} {Q : α → Shared → Prop} (h : ∀ G : α → Shared → Prop, (∀ a s, Q a s → G a s) → wpN M A t G s) : wpN M A t Q s := h Q fun _ _ x => x
theorem NA_gen {t : Sem β} {f : β → Sem α} {Q : α → Shared → Prop} {E : Value → Shared → Prop} (h : ∀ G : α → Shared → Prop, (∀ a s, Q a s → G a s) → wpAny M A t (fun b s₂ => wpN M A (f b) G s₂) E s) : wpAny M A t (fun b s₂ => wpN M A (f b) Q s₂) E s := h Q fun _ _ x => x
theorem N_mono {t : Sem α} {Q Q' : α → Shared → Prop} (h : wpN M A t Q s) (hQ : ∀ a s, Q a s → Q' a s) : wpN M A t Q' s := X_mono h hQ fun _ _ x => x
theorem N_bind {m : Sem α} {f : α → Sem β} {Q : β → Shared → Prop} (h : wpN M A m (fun a s' => wpN M A (f a) Q s') s) : wpN M A (m >>= f) Q s := X_bind h
theorem N_bindA {m : Sem α} {f : α → Sem β} {Q : β → Shared → Prop} (h : wpAny M A m (fun a s' => wpN M A (f a) Q s') (fun _ _ => False) s) : wpN M A (m >>= f) Q s := X_bindA h
theorem N_pure {a : α} {Q : α → Shared → Prop} (h : Q a s) : wpN M A (pure a) Q s := X_pure h
theorem N_keep {vs : List Value} {m : Sem α} {Q : α → Shared → Prop} (h : wpN M A m Q s) : wpN M A (m.keep vs) Q s := X_keep h
theorem N_holding {vs : List Value} {m : Sem α} {Q : α → Shared → Prop} (h : wpN M A m Q s) : wpN M A (holding vs m) Q s := X_holding h
theorem N_onRaise {m : Sem α} {k : Value → Sem Unit} {Q : α → Shared → Prop} (h : wpN M A m Q s) : wpN M A (m.onRaise k) Q s := X_onRaise (X_mono h (fun _ _ x => x) fun _ _ x => x.elim)
theorem N_standAt {pos : Pos} {Q : Unit → Shared → Prop} (h : Q () s) : wpN M A (standAt pos) Q s := X_standAt h
theorem N_point {Q : Unit → Shared → Prop} (h : Q () s) : wpN M A point Q s := X_point h
theorem codeN_mono {c : Code} {Q Q' : Flow → Shared → Prop} (h : codeN M A c Q s) (hQ : ∀ f s, Q f s → Q' f s) : codeN M A c Q' s :=
  codeX_mono h fun r s x => by cases r with | ok f => exact hQ f s x | error e => exact x
theorem codeN_any {c : Code} {Q : Flow → Shared → Prop} (h : codeAny M A c (fun r s' => match r with | .ok f => Q f s' | .error _ => False) s) : codeN M A c Q s := codeX_any (codeAny_mono h fun r s x => by cases r <;> exact x)
theorem N_run {c : Code} {h : Option Value} {Q : Flow → Shared → Prop} (hc : codeN M (A.mark h) c Q s) (hk : okC c = true) (hnb : h ≠ some byPass := by intro x; cases x) : wpN M A (run c h) Q s :=
  X_run (codeX_mono hc fun r s x => by cases r <;> exact x) hk hnb
theorem N_runValue {c : Code} {Q : Value → Shared → Prop} (hc : codeN M A c (fun f s' => match f with | .ret v => Q v s' | _ => False) s) (hk : okC c = true) : wpN M A (runValue c) Q s :=
  X_runValue (codeX_mono hc fun r s x => by
    cases r with
    | ok f => cases f <;> exact x
    | error e => exact x) hk
theorem N_call {f : Value} {pos : List Value} {kw : List (Str × Value)} {Q : Value → Shared → Prop} (hc : codeN M A (.call f ⟨pos, kw⟩) (fun f s' => match f with | .ret v => Q v s' | _ => False) s) : wpN M A (call f pos kw) Q s := N_runValue hc rfl
theorem codeN_of_tree {c : Code} {Q : Flow → Shared → Prop} (h : wpN M (A.under c) (M.den c) (fun fin s' => match fin with | .done f => Q f s' | .again c' => c'.quiet = true ∧ okC c' = true ∧ codeN M A c' Q s') s) : codeN M A c Q s :=
  codeX_of_tree (X_mono h (fun fin s x => by cases fin <;> exact x) fun _ _ x => x.elim)
theorem codeN_loop {c : Code} {Q : Flow → Shared → Prop} (hq : c.quiet = true) (hk : okC c = true) (I : Nat → Shared → Prop)
    (turn : ∀ n s, I n s → wpN M (A.under c) (M.den c) (fun fin s' => match fin with
        | .done f => Q f s'
        | .again c' => (c' = c ∧ ∃ m, m < n ∧ I m s') ∨ (c'.quiet = true ∧ okC c' = true ∧ codeN M A c' Q s')) s)
    (n : Nat) (h : I n s) : codeN M A c Q s := by
  induction n using Nat.strongRecOn generalizing s with
  | ind n ih =>
    refine codeN_of_tree (N_mono (turn n s h) (fun fin s' hf => ?_))
    cases fin with
    | done f => exact hf
    | again c' =>
      rcases hf with ⟨rfl, m, hm, hI⟩ | hf
      · exact ⟨hq, hk, ih m hm hI⟩
      · exact hf
end
section
variable {M : Model} {A : Around} {s : Shared} {env : Env} {E : Value → Shared → Prop}
theorem N_For {target iter body orelse pos} {Q : Flow → Shared → Prop}
    (h : wpAny M A (eval iter env) (fun x s₁ => wpAny M A (pyIter x) (fun it s₂ => codeN M A (.forLoop target it body orelse env) Q s₂) (fun _ _ => False) s₁) (fun _ _ => False) s)
    (hs : ∀ x, foldedSetIterable iter env x = pure x := by intro _; rfl) : wpN M A (exec (.For target iter body orelse pos) env) Q s := by
  rw [exec_For]
  refine N_bind (N_standAt (N_bindA (wpAny_mono h (fun x s₁ h₁ => N_bind (N_any (wpAny_of_eq (hs x) (N_bind (N_standAt (N_bindA (wpAny_holding (wpAny_mono h₁ (fun it s₂ h₂ => ?_) fun _ _ x => x)))))))) fun _ _ x => x)))
  unfold runOwn
  exact N_onRaise (N_run h₂ rfl)
theorem X_Assign_Name {x pos' value pos} {Q : Flow → Shared → Prop} (h : wpX M A (eval value env) (fun v s₁ => wpAny M A (storeName env x v) (fun _ => Q .next) E s₁) E s)
    (hs : swapsWith value (some (.Name x pos')) pos.line env = pure false := by rfl) : wpX M A (exec (.Assign [.Name x pos'] value pos) env) Q E s := fun Γ p hΓ ok => by
  simp only [exec_Assign_Name env x pos' value pos hs, Sem.wp_bind', Sem.wp_cmd_standAt, Sem.wp_bindName, Sem.wp_pure']
  exact Sem.wp_mono M Γ _ (fun v _ s₁ h₁ => h₁ Γ _ hΓ) (fun _ _ _ h' => h') _ _ (h Γ _ hΓ ok)
theorem N_Assign_Name {x pos' value pos} {Q : Flow → Shared → Prop} (h : wpN M A (eval value env) (fun v s₁ => wpAny M A (storeName env x v) (fun _ => Q .next) (fun _ _ => False) s₁) s)
    (hs : swapsWith value (some (.Name x pos')) pos.line env = pure false := by rfl) : wpN M A (exec (.Assign [.Name x pos'] value pos) env) Q s := X_Assign_Name h hs
theorem X_Return {e pos} {Q : Flow → Shared → Prop} (h : wpX M A (eval e env) (fun v => Q (.ret v)) E s) : wpX M A (exec (.Return (some e) pos) env) Q E s := fun Γ p hΓ ok => by
  simp only [exec_Return_some, Sem.wp_bind', Sem.wp_cmd_standAt, Sem.wp_pure']
  exact h Γ _ hΓ ok
theorem X_execs_cons {st rest} {Q : Flow → Shared → Prop} (h : wpX M A (exec st env) (fun f s' => match f with | .next => wpX M A (execs rest env) Q E s' | f => Q f s') E s) : wpX M A (execs (st :: rest) env) Q E s := by
  rw [execs_cons]
  refine X_bind (X_mono h (fun f s' h' => ?_) fun _ _ x => x)
  cases f with
  | next => exact h'
  | _ => exact X_pure h'
theorem N_execs_cons {st rest} {Q : Flow → Shared → Prop} (h : wpN M A (exec st env) (fun f s' => match f with | .next => wpN M A (execs rest env) Q s' | f => Q f s') s) : wpN M A (execs (st :: rest) env) Q s := X_execs_cons h
theorem wp_execs_append {Γ : PySem.Ctx} {b : List Stmt} {Q : Flow → Pos → Shared → Prop} {E : Value → Pos → Shared → Prop} : ∀ {a : List Stmt} {p : Pos} {s : Shared}, Sem.wp M Γ (execs (a ++ b) env) Q E p s = Sem.wp M Γ (execs a env) (fun f p' s' => match f with | .next => Sem.wp M Γ (execs b env) Q E p' s' | f => Q f p' s') E p s
  | [], p, s => rfl
  | x :: a, p, s => by
    rw [List.cons_append, execs_cons, execs_cons, Sem.wp_bind', Sem.wp_bind']
    congr 1
    funext f p' s'
    cases f with
    | next => exact wp_execs_append
    | _ => rfl
theorem X_execs_append {a b : List Stmt} {Q : Flow → Shared → Prop} (h : wpAny M A (execs a env) (fun f s' => match f with | .next => wpX M A (execs b env) Q E s' | f => Q f s') E s) : wpX M A (execs (a ++ b) env) Q E s := fun Γ p hΓ ok => by
  rw [wp_execs_append]
  refine Sem.wp_mono M Γ _ (fun f p' s' h' => ?_) (fun _ _ _ x => x) p s (h Γ p hΓ)
  cases f with
  | next => exact h' Γ p' hΓ ok
  | _ => exact h'
theorem N_execs_append {a b : List Stmt} {Q : Flow → Shared → Prop} (h : wpAny M A (execs a env) (fun f s' => match f with | .next => wpN M A (execs b env) Q s' | f => Q f s') (fun _ _ => False) s) : wpN M A (execs (a ++ b) env) Q s := X_execs_append h
theorem X_Call {func : Expr} {args : List Expr} {pos : Pos} {Q : Value → Shared → Prop}
    (h : wpAny M A (eval func env) (fun f s₁ => wpX M A (callWith pos f [] (backTo pos (starEach args env)) []) Q E s₁) E s)
    (he : eval (.Call func args [] pos) env = (do callWith pos (← eval func env) [] (backTo pos (starEach args env)) (backToKw pos (keywordEach [] env))) := by rfl) : wpX M A (eval (.Call func args [] pos) env) Q E s := by
  rw [he]; exact X_bindA h
theorem N_Call {func : Expr} {args : List Expr} {pos : Pos} {Q : Value → Shared → Prop}
    (h : wpAny M A (eval func env) (fun f s₁ => wpN M A (callWith pos f [] (backTo pos (starEach args env)) []) Q s₁) (fun _ _ => False) s)
    (he : eval (.Call func args [] pos) env = (do callWith pos (← eval func env) [] (backTo pos (starEach args env)) (backToKw pos (keywordEach [] env))) := by rfl) : wpN M A (eval (.Call func args [] pos) env) Q s := by
  rw [he]; exact N_bindA h
end
end Mine
end
section
open PySem PySem.W PyProof.Rows PySem.Calls
namespace Mine
section
variable {prog : Program} {w : World} {A : Around} {s : Shared}
theorem codeN_func {body : List Stmt} {env : Env} {Q : Flow → Shared → Prop}
    (h : wpN (model prog w) (A.deeper env) (execs body env) (fun f s' => Q (.ret (match f with | .ret v => v | _ => .none)) s') s) : codeN (model prog w) A (.func body env) Q s := by
  refine codeN_of_tree ?_
  show wpN _ (A.deeper env) (do point; match ← (execs body env).onRaise (leaving env) with | .ret v => ret v | _ => ret .none) _ s
  refine N_bind (N_point (N_bind (N_onRaise (N_mono h (fun f s' h' => ?_)))))
  cases f <;> exact N_pure h'
theorem codeN_call_function {a : Addr} {args : Args} {o : Obj} {fd : FuncData} {body : List Stmt} {Q : Flow → Shared → Prop} (hroom : A.depth < recursionLimit)
    (ho : s.heap.get? a = some o) (hd' : o.data = .func fd) (hco : fd.scope.isCoroutine = false) (hgen : fd.scope.isGenerator = false) (hbody : fd.body = .stmts body) (hcd : s.heap.CodeRec fd.code fd.qualname)
    (h : wpAny (model prog w) A.in1 (bindArgs fd args) (fun binds s₁ =>
      wpAny (model prog w) A.in1 (newFunctionEnv fd.scope fd.globals fd.closure binds (fd.qualname ++ ".<locals>.") (some a) fd.code none fd.builtins)
        (fun env s₂ => s₂.heap.NoLimit ∧ codeN (model prog w) A (.func body env) Q s₂) (fun _ _ => False) s₁) (fun _ _ => False) s) :
    codeN (model prog w) A (.call (.ref a) args) Q s := by
  refine codeN_of_tree ?_
  show wpN _ A.in1 (callAny (.ref a) args) _ s
  simp only [callAny]
  refine N_bindA (wpAny_load ho ?_)
  obtain ⟨c, oc, vs, tq, hc, hoc, hdc, hq⟩ := hcd
  simp only [hd', callFunction, hco, hgen, hbody, hc]
  rw [hc] at h
  refine N_bindA (m := field (.ref c) 1) (wpAny_field hoc hdc hq (N_bind (N_pure ?_)))
  refine N_bindA (wpAny_mono h (fun binds s₁ h₁ => N_bindA (wpAny_mono h₁ (fun env s₂ h₂ => N_bindA (wpAny_enterFrame h₂.1 hroom
    (N_pure ⟨rfl, rfl, h₂.2⟩))) fun _ _ x => x)) fun _ _ x => x)
theorem codeN_forLoop {target it body env} {Q : Flow → Shared → Prop} (I : Nat → Shared → Prop)
    (turn : ∀ n s, I n s → wpAny (model prog w) A (pyNext it) (fun r s₁ => match r with
      | none => Q .next s₁
      | some v => wpAny (model prog w) A (assign target env v) (fun _ s₂ => wpN (model prog w) A (execs body env) (fun f s₃ => match f with
          | .next | .cont => ∃ m, m < n ∧ I m s₃
          | .brk => Q .next s₃
          | .ret v => Q (.ret v) s₃) s₂) (fun _ _ => False) s₁) (fun _ _ => False) s)
    (n : Nat) (h : I n s) (ht : ∀ v, letOwnedTupleGo target it v = pure () := by intro _; rfl) : codeN (model prog w) A (.forLoop target it body [] env) Q s := by
  refine codeN_loop rfl rfl I (fun n s hI => ?_) n h
  show wpN _ _ ((forTurn target it body [] env).onRaise (fun x => do noteFrame x env; theTreesLotGoes x)) _ s
  refine N_onRaise ?_
  simp only [forTurn]
  refine N_bind (N_standAt (N_bind (N_onRaise (N_any (wpAny_mono (turn n s hI) (fun r s₁ h₁ => ?_) fun _ _ x => x)))))
  cases r with
  | none => exact N_pure (.inr ⟨rfl, rfl, codeN_any (codeAny_block (wpAny_execs_nil h₁))⟩)
  | some v =>
    refine N_bindA (wpAny_of_eq (ht v) ?_)
    refine N_bindA (wpAny_mono h₁ (fun _ s₂ h₂ => N_bind (N_mono h₂ (fun f s₃ h₃ => ?_))) fun _ _ x => x)
    cases f with
    | next => exact N_pure (.inl ⟨rfl, h₃⟩)
    | cont => exact N_pure (.inl ⟨rfl, h₃⟩)
    | brk => exact N_pure h₃
    | ret v => exact N_pure h₃
end
section
variable {M : Model} {A : Around} {s : Shared} {env : Env}
theorem N_tail {t : Sem Value} {Q : Value → Shared → Prop} (ht : wpN M A t Q s) : wpN M A (t >>= fun r => holding [r] point >>= fun _ => pure r) Q s :=
  N_bind (N_mono ht (fun r s₂ hr => N_bind (N_holding (N_point (N_pure hr)))))
theorem N_callWith_type {pos : Pos} {T : String} {first : List Value} {args : List (Bool × Sem Value)} {Q : Value → Shared → Prop} (hplain : args.any (·.1) = false)
    (h : wpAny M A (evalArgs (.type T) true args []) (fun a s₁ => wpN M A (call (.type T) (first ++ a.pos) a.kw) Q s₁) (fun _ _ => False) s) : wpN M A (callWith pos (.type T) first args []) Q s := by
  unfold callWith
  refine N_bindA (wpAny_holding (wpAny_mono h (fun a s₁ h₁ => N_bind (N_standAt ?_)) fun _ _ x => x))
  simp only [hplain, List.any_nil, Bool.or_false]
  refine N_bind (N_pure ?_)
  exact N_tail h₁
theorem N_callWith_type1 {pos : Pos} {T : String} {e : Expr} {rest : List Expr} {Q : Value → Shared → Prop}
    (h : wpAny M A (spliced (backTo pos (starEach (e :: rest) env))) (fun vs s₁ => wpN M A (call (.type T) vs) Q s₁) (fun _ _ => False) s)
    (he : starEach (e :: rest) env = (false, eval e env) :: starEach rest env := by rfl)
    (hplain : (backTo pos (starEach rest env)).any (·.1) = false := by rfl) :
    wpN M A (callWith pos (.type T) [] (backTo pos (starEach (e :: rest) env)) []) Q s := by
  rw [he] at h ⊢
  exact N_callWith_type (by show (false || (backTo pos (starEach rest env)).any (·.1)) = false; rw [hplain]; rfl) (evalArgs_plain h)
theorem N_callWith_function {pos : Pos} {a : Addr} {o : Obj} {fd : FuncData} {first : List Value} {args : List (Bool × Sem Value)} {Q : Value → Shared → Prop} (hdat : o.data = .func fd)
    (h : wpAny M A (evalArgs (.ref a) true args []) (fun x s₁ => s₁.heap.get? a = some o ∧ wpN M A (call (.ref a) (first ++ x.pos) x.kw) Q s₁) (fun _ _ => False) s) :
    wpN M A (callWith pos (.ref a) first args []) Q s := by
  unfold callWith
  refine N_bindA (wpAny_holding (wpAny_mono h (fun x s₁ h₁ => N_bind (N_standAt ?_)) fun _ _ x => x))
  cases hs : (args.any (·.1) || ([] : List (Option Str × Sem Value)).any (·.1.isNone)) <;>
    refine N_bindA (m := keeperOf (.ref a)) ?_ <;> unfold keeperOf <;>
    refine wpAny_bind (wpAny_load h₁.1 ?_) <;> rw [hdat] <;> refine wpAny_pure ?_
  · show wpN M A (if args.length + 2 * ([] : List (Option Str × Sem Value)).length > 30 then (call (.ref a) (first ++ x.pos) x.kw >>= fun r => holding [r] point >>= fun _ => pure r) else (callMarked plainCall (.ref a) (first ++ x.pos) x.kw >>= fun r => holding [r] point >>= fun _ => pure r)) Q s₁
    split
    · exact N_tail h₁.2
    · exact N_tail (by unfold callMarked; exact N_keep h₁.2)
  · exact N_tail (by unfold callMarked; exact N_keep h₁.2)
theorem N_callWith_def {pos : Pos} {f : Addr} {o : Obj} {fd : FuncData} {e : Expr} {rest : List Expr} {Q : Value → Shared → Prop} (hdat : o.data = .func fd)
    (h : wpAny M A (spliced (backTo pos (starEach (e :: rest) env))) (fun vs s₁ => s₁.heap.get? f = some o ∧ wpN M A (call (.ref f) vs) Q s₁) (fun _ _ => False) s)
    (he : starEach (e :: rest) env = (false, eval e env) :: starEach rest env := by rfl) :
    wpN M A (callWith pos (.ref f) [] (backTo pos (starEach (e :: rest) env)) []) Q s := by
  rw [he] at h ⊢
  exact N_callWith_function (o := o) (fd := fd) hdat (evalArgs_plain h)
end
end Mine
end
section
open PySem PySem.W PyProof.Rows PySem.Calls
namespace Mine
theorem ba_mro : mroOf (.type "bytearray") = pure [.type "bytearray", .type "object"] := by rw [mroOf_type]; kernel_rfl
theorem ba_new : typeLookup (.type "bytearray") "__new__" = pure (some (.builtin "bytearray.__new__")) := by rw [typeLookup_type, builtinLookup_eq_fast]; kernel_rfl
theorem ba_init : Slot "bytearray" "__init__" "bytearray.__init__" :=
  .of (owner := "bytearray") (n := "__init__") (by rw [typeLookup_type, builtinLookup_eq_fast]; kernel_rfl) (by decide +kernel) (by decide +kernel) (by decide +kernel)
    (by first | exact .inl (by decide +kernel) | exact .inr (by decide +kernel)) (by rw [isSubtype_type]; kernel_rfl)
theorem ba_called : TypeCalled "bytearray" "bytearray.__new__" "bytearray.__init__" :=
  ⟨by decide +kernel, by decide +kernel, ⟨_, _, ba_mro⟩, madeBy_type ba_mro ba_new (by decide +kernel), by decide +kernel, by rw [isSubtype_type]; kernel_rfl, ba_init⟩
theorem ba_typeCall (a : Value) : checkTypeCall "bytearray" ⟨[a], []⟩ = pure () := by kernel_rfl
theorem ba_newCall (a : Value) : checkBuiltinCall "bytearray.__new__" ⟨[.type "bytearray", a], []⟩ = pure () := by kernel_rfl
theorem ba_entry_new : entryFor table "bytearray.__new__" = some Builtin.«list.__new__» := entryFor_alias (id' := "list.__new__") (by rw [fastTable_eq_tree]; kernel_rfl) (by decide +kernel) (by decide +kernel) (by rw [fastTable_eq_tree]; kernel_rfl)
theorem ba_entry_init : entryFor table "bytearray.__init__" = some Builtin.«bytearray.__init__» := entryFor_of_tree (by kernel_rfl)
theorem ba_plain_new : plainId "bytearray.__new__" = true := by decide +kernel
theorem ba_args (a b : Value) : argsOk "bytearray.__init__" ⟨[a, b], []⟩ := by unfold argsOk; kernel_rfl
theorem ba_owner : ("bytearray.__new__".splitOn ".__new__").headD "" = "bytearray" := by simp +decide [String.splitOn, String.splitOnAux]
theorem ba_self : isSubtype (.type "bytearray") (.type "bytearray") = pure true := by rw [isSubtype_type]; kernel_rfl
theorem ba_code_new {prog : Program} {w : World} {A : Around} {E : Value → Shared → Prop} {s : Shared} (a : Value) {Q₁ : Value → Shared → Prop}
    (h : Q₁ (.ref s.heap.objs.size) { s with heap := s.heap.push { cls := .type "bytearray", data := .bytearray #[] } }) :
    codeAny (model prog w) A (.call (.builtin "bytearray.__new__") ⟨[.type "bytearray", a], []⟩) (wants Q₁ E) s := by
  refine codeAny_of_tree ?_
  show wpAny _ A.in1 (do checkBuiltinCall "bytearray.__new__" ⟨[.type "bytearray", a], []⟩; again (.builtin "bytearray.__new__" ⟨[.type "bytearray", a], []⟩)) _ _ s
  refine wpAny_bind (wpAny_of_eq (ba_newCall a) (wpAny_pure ⟨plainId_quiet ba_plain_new _, codeAny_builtin_stack ba_entry_new rfl fun p st => ?_⟩))
  rw [Around.under_plainId ba_plain_new _]
  have hsub := ba_self
  have hown := ba_owner
  obtain ⟨hp, g, d, tk, os⟩ := s
  simp only [hown]
  wp_walk
  exact h
end Mine
end
section
open PySem PySem.W PyProof.Rows PySem.Calls
namespace Mine
theorem ba_rel : typeLookup (.type "bytearray") "__release_buffer__" = pure (some (.builtin "bytearray.__release_buffer__")) := by rw [typeLookup_type, builtinLookup_eq_fast]; kernel_rfl
theorem not_id {id x : String} (h : okC (.builtin id ⟨[], []⟩) = true) (hx : badIds.contains x = true) : id ≠ x := by
  rintro rfl
  simp only [okC, hx] at h
  exact absurd h (by decide)
theorem exported_none {S : Value} {st : List (Code × Pos)} (h : ∀ x ∈ st, okC x.1 = true) : (st.any fun
    | (.builtin "bytearray.__contains__" ⟨v :: _, _⟩, _) | (.builtin "bytearray.__mod__" ⟨v :: _, _⟩, _)
    | (.builtin "bytearray.__rmod__" ⟨_ :: v :: _, _⟩, _) | (.builtin "_struct.pack_into.held" ⟨v :: _, _⟩, _) => Builtin.Bytes.sameRef v S
    | (.builtin "bytearray.find.held" ⟨_ :: _ :: held, _⟩, _) => held.any (Builtin.Bytes.sameRef S)
    | (.builtin id ⟨v :: _, _⟩, _) => Builtin.Bytes.sameRef v S && Builtin.Bytes.decodersThatHold.contains id
    | _ => false) = false := by
  rw [List.any_eq_false]
  intro x hx
  have hk := h x hx
  obtain ⟨c, p⟩ := x
  cases c with
  | builtin id args =>
    have hb : badIds.contains id ≠ true := fun e => by rw [show okC (.builtin id args) = !(badIds.contains id) from rfl, e] at hk; exact absurd hk (by decide)
    have hn : ∀ y ∈ badIds, id ≠ y := fun y hy e => hb (by rw [List.contains_eq_mem]; exact decide_eq_true (e ▸ hy))
    have h1 := hn _ (.head _)
    have h2 := hn _ (.tail _ (.head _))
    have h3 := hn _ (.tail _ (.tail _ (.head _)))
    have h4 := hn _ (.tail _ (.tail _ (.tail _ (.head _))))
    have h5 := hn _ (.tail _ (.tail _ (.tail _ (.tail _ (.head _)))))
    have h6 : ¬ id ∈ Builtin.Bytes.decodersThatHold := fun e => hn _ (List.mem_append_right _ e) rfl
    delta exported_none.match_1
    rw [Bool.not_eq_true]
    refine (dif_neg h1).trans ((dif_neg h2).trans ((dif_neg h3).trans ((dif_neg h4).trans ((dif_neg h5).trans ?_))))
    obtain ⟨_ | ⟨v, tl⟩, kw⟩ := args
    · rfl
    · have h7 : Builtin.Bytes.decodersThatHold.contains id = false := by
        rw [List.contains_eq_mem]
        exact decide_eq_false h6
      show (Builtin.Bytes.sameRef v S && Builtin.Bytes.decodersThatHold.contains id) = false
      rw [h7, Bool.and_false]
  | _ => exact Bool.false_ne_true
theorem N_exported {M : Model} {A : Around} {s : Shared} {v : Value} {Q : Bool → Shared → Prop} (h : Q false s) : wpN M A (Builtin.Bytes.exported v) Q s := fun Γ p hΓ ok => by
  unfold Builtin.Bytes.exported
  rw [Sem.wp_bind']
  unfold stack
  rw [Sem.wp_stack, Sem.wp_pure, Sem.wp_pure']
  generalize hb : List.any _ _ = b
  have e : b = false := by
    rw [← hb]
    refine exported_none (S := v) fun x hx => ?_
    rcases List.mem_cons.mp hx with rfl | h9
    · exact ok.here
    · exact ok.below x h9
  rw [e]
  exact h
theorem int_idx : typeLookup (.type "int") "__index__" = pure (some (.builtin "int.__index__")) := by rw [typeLookup_type, builtinLookup_eq_fast]; kernel_rfl
theorem ba_upd {M : Model} {A : Around} {E : Value → Shared → Prop} {s : Shared} {a : Addr} {b : Array UInt8} {f : Array UInt8 → Array UInt8} {Q : Unit → Shared → Prop} (ho : s.heap.get? a = some { cls := .type "bytearray", data := .bytearray b }) (hz : (f b).size ≤ 8)
    (h : ∀ h', Heap.SameBut a s.heap h' → h'.get? a = some { cls := .type "bytearray", data := .bytearray (f b) } → Q () { s with heap := h' }) : wpAny M A (updateBytearray a f) Q E s := by
  unfold updateBytearray
  refine wpAny_bind (wpAny_load ho ?_)
  refine wpAny_bind (wpAny_update ho ?_)
  have hg : (s.heap.update a (Obj.mapBytearray f)).get? a = some { cls := .type "bytearray", data := .bytearray (f b) } := Heap.get?_update_self (Obj.mapBytearray f) ho rfl
  unfold lookBehind
  refine wpAny_bind (wpAny_loadPart hg ?_)
  have hs : ¬ (f b).size > sizeLine := by
    have : 8 < sizeLine := by decide +kernel
    omega
  simp only [Data.pastItsLine, if_neg hs]
  exact wpAny_pure (h _ (Heap.SameBut.update ..) hg)
theorem N_cut {α β : Type} {M : Model} {A : Around} {c : Sem α} {k : α → Sem β} {Q : β → Shared → Prop} {s : Shared} (h : ∀ k', k' = k → wpN M A (c >>= k') Q s) : wpN M A (c >>= k) Q s := h k rfl
theorem A_cut {α β : Type} {M : Model} {A : Around} {c : Sem α} {k : α → Sem β} {Q : β → Shared → Prop} {E : Value → Shared → Prop} {s : Shared} (h : ∀ k', k' = k → wpAny M A (c >>= k') Q E s) : wpAny M A (c >>= k) Q E s := h k rfl
theorem ba_init_run {prog : Program} {w : World} {A : Around} {s : Shared} {S : Addr} {t : Tok} {Q : Fin → Shared → Prop} (hh : A.handled = none) (hS : s.heap.get? S = some { cls := .type "bytearray", data := .bytearray #[] })
    (h : ∀ h' tk, Heap.SameBut S s.heap h' → h'.get? S = some { cls := .type "bytearray", data := .bytearray (Array.replicate 8 0) } → Q (.done (.ret .none)) { s with heap := h', toks := tk }) : wpN (model prog w) A (Builtin.«bytearray.__init__» ⟨[.ref S, .int 8 t], []⟩) Q s := by
  have f1 := ba_rel
  have f2 := ba_self
  have f3 := int_idx
  have e1 : "bytearray.__release_buffer__".endsWith ("." ++ "__release_buffer__") = true := by decide +kernel
  have e2 : "bytearray.__release_buffer__".dropRight ("__release_buffer__".length + 1) = "bytearray" := by decide +kernel
  have hT : s.TypeIs (.ref S) "bytearray" := ⟨_, hS, rfl⟩
  unfold Builtin.«bytearray.__init__»
  dsimp only
  refine N_cut fun k1 hk1 => ?_
  refine N_bindA ?_
  repeat (any_goals (first | assumption | wp_step))
  rw [e1, e2]
  repeat (any_goals (first | assumption | wp_step))
  subst hk1
  dsimp only
  rw [if_neg (by decide)]
  refine N_cut fun k2 hk2 => ?_
  refine N_bindA ?_
  unfold Builtin.Bytes.bindOptional
  repeat (any_goals (first | assumption | wp_step))
  subst hk2
  change wpN _ _ (Builtin.Bytes.checkCodecArg _ _ _ none >>= _) _ _
  refine N_cut fun k3 hk3 => ?_
  refine N_bindA ?_
  unfold Builtin.Bytes.checkCodecArg
  refine wpAny_pure ?_
  subst hk3
  refine N_cut fun k4 hk4 => ?_
  refine N_bindA ?_
  refine wpAny_pure ?_
  subst hk4
  refine N_cut fun k5 hk5 => ?_
  refine N_bind ?_
  unfold orM
  refine N_bind (N_exported ?_)
  simp only [toBool]
  refine N_any ?_
  repeat (any_goals (first | assumption | wp_step))
  subst hk5
  dsimp only
  rw [if_neg (by decide)]
  refine N_cut fun k6 hk6 => ?_
  refine N_any (wpAny_bind ?_)
  unfold Builtin.Bytes.write
  refine ba_upd hS (Nat.zero_le _) fun h1 sb1 g1 => ?_
  subst hk6
  change wpAny _ _ (asStr? (.int 8 t) >>= _) _ _ _
  refine A_cut fun k7 hk7 => ?_
  repeat (any_goals (first | assumption | wp_step))
  subst hk7
  change wpAny _ _ (pure () >>= _) _ _ _
  refine A_cut fun k8 hk8 => ?_
  refine wpAny_bind (wpAny_pure ?_)
  subst hk8
  change wpAny _ _ (specialOf _ _ >>= _) _ _ _
  refine A_cut fun k9 hk9 => ?_
  repeat (any_goals (first | assumption | wp_step))
  subst hk9
  change wpAny _ _ (Sem.attempt (asIndex _) >>= _) _ _ _
  refine A_cut fun k10 hk10 => ?_
  repeat (any_goals (first | assumption | wp_step))
  subst hk10
  dsimp only
  repeat (any_goals (first | assumption | wp_step))
  exact h _ _ (sb1.trans (Heap.SameBut.update ..)) (Heap.get?_update_self (Obj.mapBytearray fun _ => Array.replicate (Int.toNat 8) 0) g1 rfl)
theorem codeN_builtin {prog : Program} {w : World} {A : Around} {s : Shared} {id : String} {args : Args} {b : Builtin} {Q : Flow → Shared → Prop} (hb : entryFor table id = some b)
    (h : wpN (model prog w) (A.under (.builtin id args)) (b args) (fun fin s' => match fin with | .done f => Q f s' | .again c' => c'.quiet = true ∧ okC c' = true ∧ codeN (model prog w) A c' Q s') s) : codeN (model prog w) A (.builtin id args) Q s := by
  refine codeN_of_tree ?_
  have hden : (model prog w).den (.builtin id args) = b args := by
    show (match entryFor table id with | some b => b args | none => unsupported ((withoutEnding? id "#data").getD id)) = _
    rw [hb]
  rw [hden]
  exact h
theorem codeN_call_builtin {prog : Program} {w : World} {A : Around} {s : Shared} {id : String} {args : Args} {b : Builtin} {Q : Flow → Shared → Prop} (hq : plainId id = true) (hk : okC (.builtin id args) = true) (hb : entryFor table id = some b)
    (h : wpAny (model prog w) A.in1 (checkBuiltinCall id args) (fun _ s₁ => wpN (model prog w) A.in1 (b args) (fun fin s' => match fin with | .done f => Q f s' | .again c' => c'.quiet = true ∧ okC c' = true ∧ codeN (model prog w) A c' Q s') s₁) (fun _ _ => False) s) : codeN (model prog w) A (.call (.builtin id) args) Q s := by
  refine codeN_of_tree ?_
  show wpN _ A.in1 (do checkBuiltinCall id args; again (.builtin id args)) _ s
  exact N_bindA (wpAny_mono h (fun _ s₁ h₁ => N_pure ⟨plainId_quiet hq args, hk, codeN_builtin hb (by rw [Around.under_plainId hq args]; exact h₁)⟩) fun _ _ x => x)
/-- the call bytearray(8), where no code under way holds memory -/
theorem ba_call {prog : Program} {w : World} {A : Around} {s : Shared} {t : Tok} {Q : Value → Shared → Prop} (hh : A.handled = none)
    (h : ∀ h' tk, (∀ b o, s.heap.get? b = some o → h'.get? b = some o) → s.heap.objs.size ≤ h'.objs.size → h'.get? s.heap.objs.size = some { cls := .type "bytearray", data := .bytearray (Array.replicate 8 0) } → Q (.ref s.heap.objs.size) { s with heap := h', toks := tk }) :
    wpN (model prog w) A (call (.type "bytearray") [.int 8 t]) Q s := by
  have ft := ba_called
  obtain ⟨c, tl, hmro⟩ := ft.mro
  have hmade := ft.made
  have hsub := ft.sub
  have hct := ba_typeCall (.int 8 t)
  refine N_call (codeN_of_tree ?_)
  show wpN _ _ (callAny (.type "bytearray") _) _ _
  refine N_pure ⟨Code.quiet_builtin _ (by decide +kernel), rfl, codeN_builtin F.entry_type_call ?_⟩
  rw [Around.under_plain (weight_type_call_type "bytearray" [.int 8 t] []) rfl]
  have h1 := ft.notType
  have h2 := ft.canCreate
  unfold Builtin.«type.__call__»
  dsimp only
  rw [if_neg (show ¬ (Value.type "bytearray" == Value.type "type") = true from fun q => absurd (h1.symm.trans q) (by decide))]
  rw [if_neg (by first | exact fun q => absurd (h2.symm.trans q) (by decide) | (rw [h2]; decide))]
  refine N_cut fun k1 hk1 => ?_
  refine N_bindA (wpAny_of_eq hct ?_)
  subst hk1
  dsimp only
  refine N_cut fun k2 hk2 => ?_
  refine N_bindA (wpAny_of_eq hmro ?_)
  subst hk2
  dsimp only
  rw [if_neg (by simp)]
  refine N_cut fun k3 hk3 => ?_
  refine N_bindA (wpAny_of_eq hmade ?_)
  subst hk3
  dsimp only
  refine N_bind (N_pure ?_)
  refine N_bindA (wpAny_holding (wpAny_call (ba_code_new (E := fun _ _ => False) (.int 8 t) ?_)))
  obtain ⟨hp, g, d, tk, os⟩ := s
  have hS : (hp.push { cls := .type "bytearray", data := .bytearray #[] }).get? hp.objs.size = some { cls := .type "bytearray", data := .bytearray #[] } := Heap.get?_push_size _ rfl
  have hT : (⟨hp.push { cls := .type "bytearray", data := .bytearray #[] }, g, d, tk, os⟩ : Shared).TypeIs (.ref hp.objs.size) "bytearray" := ⟨_, hS, rfl⟩
  refine N_bindA ?_
  repeat (any_goals (first | assumption | wp_step))
  rw [if_neg (by decide)]
  have hli := ft.init.lookup
  have hbi := ft.init.bind (.ref hp.objs.size)
  refine N_bind (N_holding ?_)
  unfold callSpecial?
  refine N_bindA ?_
  repeat (any_goals (first | assumption | wp_step))
  refine N_holding (N_bindA ?_)
  repeat (any_goals (first | assumption | wp_step))
  refine N_bind (N_call (codeN_call_builtin ft.init.plain rfl ba_entry_init (ft.init.check _ _ _ _ _ _ _ _ hT (ba_args _ _) (ba_init_run hh hS fun h' tk' sb g' => ?_))))
  refine N_pure ?_
  change wpN _ _ (if (Value.none != Value.none) = true then _ else ret _) _ _
  rw [if_neg (by decide)]
  refine N_pure (h h' tk' (fun b o e => ?_) ?_ g')
  · exact (sb.2 b (Nat.ne_of_lt (Heap.lt_size e))).trans (Heap.get?_push_of_some _ e)
  · rw [sb.1]
    simp
end Mine
end
section
open PySem PySem.W PyProof.Rows PySem.Calls
namespace Mine
theorem sp_index {M : Model} {A : Around} {E : Value → Shared → Prop} {s : Shared} {k : Int} {t : Tok} {Q : Option Value → Shared → Prop} (h : Q (some (.builtin "int.__index__")) s) : wpAny M A (specialOf (.int k t) "__index__") Q E s := by
  have f3 := int_idx
  refine wpAny_specialOf_val (T := "int") ?_ f3 ?_
  · rfl
  · exact h
theorem subs_int {M : Model} {A : Around} {E : Value → Shared → Prop} {s : Shared} {k : Int} {t : Tok} {Q : Option Int → Shared → Prop} (hf : Builtin.Bytes.fitsIndex k = true) (h : Q (some k) s) : wpAny M A (Builtin.Bytes.subscript? (.int k t)) Q E s := by
  unfold Builtin.Bytes.subscript?
  refine wpAny_bind ?_
  refine sp_index ?_
  simp only [Option.isNone_some, Bool.false_eq_true, if_false]
  refine wpAny_bind (m := asIndex (.int k t)) (wpAny_of_eq (a := k) rfl ?_)
  simp only [hf, Bool.not_true, Bool.false_eq_true, if_false]
  exact wpAny_pure h
theorem byte_int {M : Model} {A : Around} {E : Value → Shared → Prop} {s : Shared} {x : Int} {t : Tok} {Q : UInt8 → Shared → Prop} (h0 : 0 ≤ x) (hx : x < 256) (h : Q x.toNat.toUInt8 s) : wpAny M A (Builtin.Bytes.byteValue (.int x t)) Q E s := by
  unfold Builtin.Bytes.byteValue
  refine wpAny_bind (m := asIndex (.int x t)) (wpAny_of_eq (a := x) rfl ?_)
  rw [if_neg (by simp only [Bool.or_eq_true, decide_eq_true_eq]; omega)]
  exact wpAny_pure h
theorem fits8 {k : Int} (h0 : 0 ≤ k) (hk : k < 8) : Builtin.Bytes.fitsIndex k = true := by
  unfold Builtin.Bytes.fitsIndex
  simp only [Bool.and_eq_true, decide_eq_true_eq]
  omega
theorem seq8 {k : Int} {n : Nat} (h0 : 0 ≤ k) (hk : k < 8) (hn : n = 8) : seqIndex? k n = some k.toNat := by
  unfold seqIndex?
  have e : (if k < 0 then k + (n : Int) else k) = k := if_neg (by omega)
  simp only [e]
  rw [if_pos (by simp only [Bool.and_eq_true, decide_eq_true_eq]; omega)]
theorem payload_ba {M : Model} {A : Around} {E : Value → Shared → Prop} {s : Shared} {S : Addr} {b : Array UInt8} {Q : Array UInt8 → Shared → Prop} (hS : s.heap.get? S = some { cls := .type "bytearray", data := .bytearray b }) (h : Q b s) : wpAny M A (Builtin.Bytes.payload (.ref S)) Q E s := by
  unfold Builtin.Bytes.payload Builtin.Bytes.payload?
  refine wpAny_bind (wpAny_bind (wpAny_load hS ?_))
  exact wpAny_pure (wpAny_pure h)
noncomputable def baO (b : Array UInt8) : Obj := { cls := .type "bytearray", data := .bytearray b }
theorem ba_setslot : Slot "bytearray" "__setitem__" "bytearray.__setitem__" :=
  .of (owner := "bytearray") (n := "__setitem__") (by rw [typeLookup_type, builtinLookup_eq_fast]; kernel_rfl) (by decide +kernel) (by decide +kernel) (by decide +kernel)
    (by first | exact .inl (by decide +kernel) | exact .inr (by decide +kernel)) (by rw [isSubtype_type]; kernel_rfl)
theorem ba_entry_set : entryFor table "bytearray.__setitem__" = some Builtin.«bytearray.__setitem__» := entryFor_of_tree (by kernel_rfl)
theorem ba_args_set (a b c : Value) : argsOk "bytearray.__setitem__" ⟨[a, b, c], []⟩ := by unfold argsOk; kernel_rfl
theorem set_run {M : Model} {A : Around} {E : Value → Shared → Prop} {s : Shared} {S : Addr} {b : Array UInt8} {k x : Int} {t u : Tok} {Q : Fin → Shared → Prop} (hS : s.heap.get? S = some (baO b)) (hb : b.size = 8) (hk0 : 0 ≤ k) (hk : k < 8) (hx0 : 0 ≤ x) (hx : x < 256)
    (h : ∀ h', Heap.SameBut S s.heap h' → h'.get? S = some (baO (b.setIfInBounds k.toNat x.toNat.toUInt8)) → Q (.done (.ret .none)) { s with heap := h' }) :
    wpAny M A (Builtin.«bytearray.__setitem__» ⟨[.ref S, .int k t, .int x u], []⟩) Q E s := by
  show wpAny M A (Builtin.Bytes.subscript? (.int k t) >>= _) Q E s
  refine wpAny_bind ?_
  refine subs_int (fits8 hk0 hk) ?_
  refine wpAny_bind ?_
  refine byte_int hx0 hx ?_
  refine wpAny_bind ?_
  refine payload_ba hS ?_
  rw [seq8 hk0 hk hb]
  refine wpAny_bind ?_
  unfold Builtin.Bytes.write
  refine ba_upd hS (by simp [hb]) fun h' sb g' => ?_
  exact wpAny_pure (h h' sb g')
theorem ba_set {prog : Program} {w : World} {A : Around} {E : Value → Shared → Prop} {s : Shared} {S : Addr} {b : Array UInt8} {k x : Int} {t u : Tok} {Q : Unit → Shared → Prop} (hS : s.heap.get? S = some (baO b)) (hb : b.size = 8) (hk0 : 0 ≤ k) (hk : k < 8) (hx0 : 0 ≤ x) (hx : x < 256)
    (h : ∀ h', Heap.SameBut S s.heap h' → h'.get? S = some (baO (b.setIfInBounds k.toNat x.toNat.toUInt8)) → Q () { s with heap := h' }) :
    wpAny (model prog w) A (setItem (.ref S) (.int k t) (.int x u)) Q E s := by
  have hT : s.TypeIs (.ref S) "bytearray" := ⟨_, hS, rfl⟩
  unfold setItem
  try with_reducible refine wpAny_holding ?_
  first | refine wpAny_bind (wpAny_pure ?_) | skip
  refine wpAny_bind (wpAny_sequenceKey hT (by decide) ?_)
  refine wpAny_bind (wpAny_callSpecial?_slot (name := Str.ofString "__setitem__") hT ba_setslot
    (wpAny_call_entry ba_setslot hT ba_entry_set ?_ (ba_args_set _ _ _)))
  exact set_run hS hb hk0 hk hx0 hx fun h' sb g' => ⟨_, rfl, wpAny_pure (h h' sb g')⟩
end Mine
end
section
open PySem PySem.W PyProof.Rows PySem.Calls
namespace Mine
theorem ba_nobytes : typeLookup (.type "bytearray") "__bytes__" = pure none := by rw [typeLookup_type, builtinLookup_eq_fast]; kernel_rfl
theorem ba_noindex : typeLookup (.type "bytearray") "__index__" = pure none := by rw [typeLookup_type, builtinLookup_eq_fast]; kernel_rfl
theorem ba_buffer : typeLookup (.type "bytearray") "__buffer__" = pure (some (.builtin "bytearray.__buffer__")) := by rw [typeLookup_type, builtinLookup_eq_fast]; kernel_rfl
theorem ba_own1 {M : Model} {A : Around} {E : Value → Shared → Prop} {s : Shared} {S : Addr} {Q : Bool → Shared → Prop} (hT : s.TypeIs (.ref S) "bytearray") (h : Q true s) : wpAny M A (Builtin.Bytes.slotIsOwn (.ref S) "__buffer__") Q E s := by
  have f1 := ba_buffer
  have f2 := ba_self
  have e3 : "bytearray.__buffer__".endsWith ("." ++ "__buffer__") = true := by decide +kernel
  have e4 : "bytearray.__buffer__".dropRight ("__buffer__".length + 1) = "bytearray" := by decide +kernel
  unfold Builtin.Bytes.slotIsOwn
  repeat (any_goals (first | assumption | wp_step))
  rw [e3, e4]
  repeat (any_goals (first | assumption | wp_step))
theorem ba_own2 {M : Model} {A : Around} {E : Value → Shared → Prop} {s : Shared} {S : Addr} {Q : Bool → Shared → Prop} (hT : s.TypeIs (.ref S) "bytearray") (h : Q false s) : wpAny M A (Builtin.Bytes.ownRelease (.ref S)) Q E s := by
  have f1 := ba_rel
  have f2 := ba_self
  have e1 : "bytearray.__release_buffer__".endsWith ("." ++ "__release_buffer__") = true := by decide +kernel
  have e2 : "bytearray.__release_buffer__".dropRight ("__release_buffer__".length + 1) = "bytearray" := by decide +kernel
  unfold Builtin.Bytes.ownRelease Builtin.Bytes.slotIsOwn
  repeat (any_goals (first | assumption | wp_step))
  rw [e1, e2]
  repeat (any_goals (first | assumption | wp_step))
noncomputable def baBytes (S : Addr) (b : Array UInt8) : PySem.Spec := fun _ R s => s.heap.get? S = some (baO b) ∧ b.size = 8 ∧ R (.ok (.ret (.bytes b s.toks))) { s with toks := s.toks + 1 }
theorem ba_meets {S : Addr} {b : Array UInt8} : Meets (Builtin.«bytes.__new__» ⟨[.type "bytes", .ref S], []⟩) (baBytes S b) := fun prog w A R s h => by
  obtain ⟨hS, hb, hR⟩ := h
  have hT : s.TypeIs (.ref S) "bytearray" := ⟨_, hS, rfl⟩
  have f1 := ba_rel
  have f2 := ba_self
  unfold Builtin.«bytes.__new__»
  refine wpAny_bind (wpAny_of_eq (a := true) rfl ?_)
  refine bm_if_false rfl ?_
  refine wpAny_bind (wpAny_of_eq F.bm_sub ?_)
  refine bm_if_false rfl ?_
  refine wpAny_bind (wpAny_of_eq (F.bm_bind _) ?_)
  refine wpAny_bind (wpAny_of_eq (a := ()) rfl ?_)
  refine wpAny_bind (wpAny_of_eq (a := ()) rfl ?_)
  refine bm_if_false rfl ?_
  refine wpAny_bind (wpAny_specialOf hT ba_nobytes ?_)
  refine wpAny_bind (wpAny_bind ?_)
  show wpAny _ _ (load S >>= _) _ _ _
  refine wpAny_bind (wpAny_load hS ?_)
  refine wpAny_pure (wpAny_pure ?_)
  refine bm_if_false rfl ?_
  refine wpAny_bind (wpAny_specialOf hT ba_noindex ?_)
  refine bm_if_true rfl ?_
  first
    | show wpAny _ _ (Builtin.Bytes.buffer? "bytes.__new__" (.ref S) true >>= _) _ _ _
    | (refine wpAny_bind ?_; show wpAny _ _ (Builtin.Bytes.buffer? "bytes.__new__" (.ref S) true >>= _) _ _ _)
  refine wpAny_bind ?_
  unfold Builtin.Bytes.buffer?
  refine wpAny_bind (wpAny_specialOf hT ba_buffer ?_)
  show wpAny _ _ (Builtin.Bytes.slotIsOwn (.ref S) "__buffer__" >>= _) _ _ _
  refine wpAny_bind ?_
  refine ba_own1 hT ?_
  refine bm_if_false rfl ?_
  refine wpAny_bind (wpAny_specialOf hT ba_buffer ?_)
  show wpAny _ _ (Builtin.Bytes.ownRelease (.ref S) >>= _) _ _ _
  refine wpAny_bind ?_
  refine ba_own2 hT ?_
  refine bm_if_false rfl ?_
  refine wpAny_bind ?_
  refine payload_ba hS ?_
  refine wpAny_pure ?_
  refine wpAny_bind (wpAny_rule ?_)
  refine wpAny_bind ?_
  unfold mkBytes
  have hs : ¬ b.size > sizeLine := by
    have : 8 < sizeLine := by decide +kernel
    omega
  rw [if_neg hs]
  repeat (any_goals (first | assumption | wp_step))
theorem ba_bytes {prog : Program} {w : World} {A : Around} {E : Value → Shared → Prop} {s : Shared} {Q : Value → Shared → Prop} {S : Addr} {b : Array UInt8} (hS : s.heap.get? S = some (baO b)) (hb : b.size = 8) (h : Q (.bytes b s.toks) { s with toks := s.toks + 1 }) :
    wpAny (model prog w) A (call (.type "bytes") [.ref S]) Q E s :=
  callType_new F.bm_called (by decide) (F.bm_typeCall _) (F.bm_newCall _) (fun obj => F.args_object_init_2 obj _) F.bm_entry ba_meets ⟨hS, hb, rfl, h⟩
end Mine
end
section
open PySem PySem.W PyProof.Rows PySem.Calls
namespace Mine
section
variable {prog : Program} {w : World} {A₀ A : Around} {s : Shared} {base h₀ : Heap} {outer : List Env} {L : Addr} {m : Str → Option Value} {env : Env} {news : List (Addr × Obj)} {K : Frag} {p : Program} {loose : List Str} {mean : ExcName → Option Value} {mg mb : Str → Option Value}
    {Q : Flow → Shared → Prop} {name qual : Str} {params : Arguments} {body : List Stmt} {scope : Scope} {dV kV doc pm cdv ct oc : Value} {an od : Option Addr} {osl : Array (Option Value)} {f : Addr} {args : Args} {binds : List (Str × Value)}
theorem codeN_def (B : Below A₀ base outer h₀) (F : Fr h₀ L s.heap m) (X₀ : K.In h₀) (N : News h₀ L s.heap news) (T : Top p loose mean mg mb h₀) (hA : A.frames = some (env :: outer)) (hf : env.frame = some L) (hke : env.scope.kind = .function)
    (ho : K.lookup f = some ⟨oc, od, .func (fnOf name qual params body scope dV kV doc pm an cdv ct), osl⟩) (hcd : codeIn K cdv qual = true) (hroom : A.depth < recursionLimit)
    (hbind : BindsTo s (fnOf name qual params body scope dV kV doc pm an cdv ct) args binds) (hloc : ∀ y ∈ binds, scope.names.lookup y.1 = some .local)
    (h : ∀ g L' h₁, Fr h₀ L g m → Fr g L' h₁ (fun y => binds.reverse.lookup y) → News g L' h₁ news → Below A base (env :: outer) g → K.In g → Top p loose mean mg mb g → (∀ q ∈ news, q.1 < L') →
      wpN (model prog w) (A.deeper (envOf qual scope L' f cdv)) (execs body (envOf qual scope L' f cdv))
        (fun fl s' => LeaveK h₀ L m g (okR Q) (match fl with | .ret v => v | _ => .none) s') { s with heap := h₁, toks := s.toks + binds.length })
    (hco : scope.isCoroutine = false) (hgen : scope.isGenerator = false) (hk : scope.kind = .function)
    (hcell : ∀ x ∈ scope.names, x.2 ≠ .cell) : codeN (model prog w) A (.call (.ref f) args) Q s := by
  have X := X₀.keeps F.keep
  obtain ⟨FG, BG, st, lv⟩ := groundX (R := okR Q) B F N hA hf hke
  refine codeN_call_function hroom (X _ _ ho) rfl hco hgen rfl (codeRec_of X hcd) (hbind _ _ _ _ ?_)
  refine wpAny_newFunctionEnv hcell hloc (fun h₁ hns hsb => ⟨(T.nolimit.keeps F.keep).fresh _ hsb, codeN_func (N_mono (h _ s.heap.objs.size h₁ FG ⟨hns, fun b o e => ?_, Nat.le_of_eq (hideAll_size _ _)⟩ (fun q hq => ⟨?_, Nat.ne_of_lt (Heap.lt_size (N q hq).1), hideAll_none _ (List.mem_map_of_mem hq)⟩) BG (X₀.keeps st) (T.keeps st) (fun q hq => Heap.lt_size (N q hq).1)) (fun fl s' hl => lv _ _ hl))⟩) hk
  · have e2 := of_hideAll _ e
    exact hsb.extBut b o (Nat.ne_of_lt (Heap.lt_size e2)) (Heap.get?_push_of_some _ e2)
  · have e2 := (N q hq).1
    exact hsb.extBut _ _ (Nat.ne_of_lt (Heap.lt_size e2)) (Heap.get?_push_of_some _ e2)
end
end Mine
end
section
open PySem PySem.W PyProof.Rows PySem.Calls
namespace Mine
theorem isCl_any {l : List (Code × Pos)} (h : ∃ x ∈ l, isCl x.1 = true) : ((l.map (·.1)).any fun c => match c with | .builtin "claim.caller" _ => true | _ => false) = true := by
  obtain ⟨x, hx, hc⟩ := h
  rw [List.any_eq_true]
  exact ⟨x.1, List.mem_map_of_mem hx, hc⟩
theorem X_mark {M : Model} {A : Around} {s : Shared} {E : Value → Shared → Prop} {own : List String} {e : Value} {Q : Unit → Shared → Prop} (h : Q () s) : wpX M A (markTheRefusal own e) Q E s := fun Γ p hΓ ok => by
  unfold markTheRefusal
  rw [Sem.wp_bind']
  unfold stack
  rw [Sem.wp_stack, Sem.wp_pure]
  have hc : pythonCodeMadeTheCall own (((Γ.code, p) :: Γ.below).map (·.1)) = false := by
    unfold pythonCodeMadeTheCall
    have := isCl_any (l := (Γ.code, p) :: Γ.below) (by
      rcases ok.caller with h1 | ⟨x, hx, h2⟩
      · exact ⟨_, List.mem_cons_self, h1⟩
      · exact ⟨x, List.mem_cons_of_mem _ hx, h2⟩)
    generalize hb : List.any _ _ = b
    have e : b = true := by rw [← hb]; exact this
    rw [e]
    simp
  rw [if_neg (by rw [hc]; decide)]
  exact h
theorem X_int_text {prog : Program} {w : World} {A : Around} {E : Value → Shared → Prop} {s : Shared} {Q : Value → Shared → Prop} {t : Tok} (hh : A.handled = none)
    (h : ∀ h' tk e, Heap.NewExc s.heap h' e "ValueError" → E (.ref e) { s with heap := h', toks := tk }) :
    wpX (model prog w) A ((int_private% "intFromText") (.str Str.empty t) [] 10) Q E s := by
  obtain ⟨hp, g, d, tk, os⟩ := s
  refine X_bindA ?_
  repeat (any_goals (first | ((with_reducible show wpAny _ _ (pyRepr _) _ _ _); refine wpAny_pyRepr_str ?_ (by decide)) | wp_step))
  refine X_bindA ?_
  repeat (any_goals (first | ((with_reducible show wpAny _ _ (pyRepr _) _ _ _); refine wpAny_pyRepr_str ?_ (by decide)) | wp_step))
  rw [if_neg (by decide)]
  refine X_bindA ?_
  repeat (any_goals (first | ((with_reducible show wpAny _ _ (pyRepr _) _ _ _); refine wpAny_pyRepr_str ?_ (by decide)) | wp_step))
  refine X_bindA ?_
  repeat (any_goals (first | ((with_reducible show wpAny _ _ (pyRepr _) _ _ _); refine wpAny_pyRepr_str ?_ (by decide)) | wp_step))
  refine X_bindA ?_
  repeat (any_goals (first | ((with_reducible show wpAny _ _ (pyRepr _) _ _ _); refine wpAny_pyRepr_str ?_ (by decide)) | wp_step))
  refine X_bindA ?_
  repeat (any_goals (first | ((with_reducible show wpAny _ _ (pyRepr _) _ _ _); refine wpAny_pyRepr_str ?_ (by decide)) | wp_step))
  refine X_bindA ?_
  repeat (any_goals (first | assumption | wp_step))
  refine X_bind (X_mark ?_)
  refine X_any ?_
  unfold raiseNew
  refine wpAny_bind (wpAny_handled ?_)
  rw [hh]
  have fin : ∀ {h3 : Heap} {tk3 : Tok} {e : Addr}, Heap.NewExc hp h3 e "ValueError" → E (.ref e) ⟨h3, g, d, tk3, os⟩ := fun x => h _ _ _ x
  first
    | refine wpAny_throw ?_
    | refine wpAny_bind (wpAny_pure (wpAny_throw ?_))
  refine fin ?_
  exact ⟨fun b o hb => Heap.get?_push_of_some _ (Heap.get?_push_of_some _ hb), Heap.get?_none_of_le (by simp), _, .ref hp.objs.size, Heap.get?_push_size _ rfl, rfl, by rw [plainExc_ValueError.own, if_neg (by rw [plainExc_ValueError.first]; decide)]; simp⟩
theorem X_cut {α β : Type} {M : Model} {A : Around} {E : Value → Shared → Prop} {c : Sem α} {k : α → Sem β} {Q : β → Shared → Prop} {s : Shared} (h : ∀ k', k' = k → wpX M A (c >>= k') Q E s) : wpX M A (c >>= k) Q E s := h k rfl
theorem X_int_new {prog : Program} {w : World} {A : Around} {E : Value → Shared → Prop} {s : Shared} {Q : Fin → Shared → Prop} {u : Tok} (hh : A.handled = none)
    (h : ∀ h' tk e, Heap.NewExc s.heap h' e "ValueError" → E (.ref e) { s with heap := h', toks := tk }) :
    wpX (model prog w) A (Builtin.«int.__new__» ⟨[.type "int", .str Str.empty u], []⟩) Q E s := by
  obtain ⟨hp, g, d, tk, os⟩ := s
  have f1 := F.conv_sub_int
  have f2 := F.madeHere_int
  have f3 := KIN.str_int
  have f4 := KIN.str_idx
  have f5 := KIN.str_trunc
  have f6 : typeOf (.str Str.empty u) = pure (.type "str") := rfl
  unfold Builtin.«int.__new__»
  dsimp only
  refine X_cut fun k1 hk1 => ?_
  refine X_bindA ?_
  repeat (any_goals (first | assumption | wp_step))
  subst hk1
  dsimp only
  rw [if_neg (by decide)]
  refine X_cut fun k2 hk2 => ?_
  refine X_bindA ?_
  repeat (any_goals (first | assumption | wp_step))
  subst hk2
  dsimp only
  rw [if_neg (by decide)]
  refine X_cut fun k3 hk3 => ?_
  refine X_bindA ?_
  repeat (any_goals (first | assumption | wp_step))
  subst hk3
  dsimp only
  rw [if_neg (by simp)]
  rw [if_neg (by simp)]
  refine X_cut fun k4 hk4 => ?_
  refine X_bindA ?_
  repeat (any_goals (first | assumption | wp_step))
  subst hk4
  change wpX _ _ ((int_private% "intFromObject") (.str Str.empty u) >>= _) _ _ _
  refine X_bind ?_
  refine X_cut fun k5 hk5 => ?_
  refine X_bindA ?_
  repeat (any_goals (first | assumption | wp_step))
  subst hk5
  dsimp only
  refine X_cut fun k6 hk6 => ?_
  refine X_bindA ?_
  repeat (any_goals (first | assumption | wp_step))
  subst hk6
  dsimp only
  rw [if_neg (by decide)]
  refine X_cut fun k7 hk7 => ?_
  refine X_bindA ?_
  repeat (any_goals (first | assumption | wp_step))
  subst hk7
  dsimp only
  refine X_cut fun k8 hk8 => ?_
  refine X_bindA ?_
  repeat (any_goals (first | assumption | wp_step))
  subst hk8
  change wpX _ _ ((int_private% "intFromText") (.str Str.empty u) (if _ then _ else _) 10) _ _ _
  rw [if_pos (by decide +kernel)]
  exact X_int_text (s := ⟨hp, g, d, tk, os⟩) hh h
theorem codeX_builtin {prog : Program} {w : World} {A : Around} {s : Shared} {id : String} {args : Args} {b : Builtin} {R : Result → Shared → Prop} (hb : entryFor table id = some b)
    (h : wpX (model prog w) (A.under (.builtin id args)) (b args) (fun fin s' => match fin with | .done f => R (.ok f) s' | .again c' => c'.quiet = true ∧ okC c' = true ∧ codeX (model prog w) A c' R s') (fun e s' => R (.error e) s') s) : codeX (model prog w) A (.builtin id args) R s := by
  refine codeX_of_tree ?_
  have hden : (model prog w).den (.builtin id args) = b args := by
    show (match entryFor table id with | some b => b args | none => unsupported ((withoutEnding? id "#data").getD id)) = _
    rw [hb]
  rw [hden]
  exact h
theorem codeX_call_builtin {prog : Program} {w : World} {A : Around} {s : Shared} {id : String} {args : Args} {b : Builtin} {R : Result → Shared → Prop} (hq : plainId id = true) (hk : okC (.builtin id args) = true) (hb : entryFor table id = some b)
    (h : wpAny (model prog w) A.in1 (checkBuiltinCall id args) (fun _ s₁ => wpX (model prog w) A.in1 (b args) (fun fin s' => match fin with | .done f => R (.ok f) s' | .again c' => c'.quiet = true ∧ okC c' = true ∧ codeX (model prog w) A c' R s') (fun e s' => R (.error e) s') s₁) (fun e s' => R (.error e) s') s) : codeX (model prog w) A (.call (.builtin id) args) R s := by
  refine codeX_of_tree ?_
  show wpX _ A.in1 (do checkBuiltinCall id args; again (.builtin id args)) _ _ s
  exact X_bindA (wpAny_mono h (fun _ s₁ h₁ => X_pure ⟨plainId_quiet hq args, hk, codeX_builtin hb (by rw [Around.under_plainId hq args]; exact h₁)⟩) fun _ _ x => x)
/-- int('') raises ValueError, and nothing else changes, where the claim's caller is under way -/
theorem X_int_bad {prog : Program} {w : World} {A : Around} {E : Value → Shared → Prop} {s : Shared} {t : Tok} {Q : Value → Shared → Prop} (hh : A.handled = none)
    (h : ∀ h' tk e, Heap.NewExc s.heap h' e "ValueError" → E (.ref e) { s with heap := h', toks := tk }) :
    wpX (model prog w) A (call (.type "int") [.str Str.empty t]) Q E s := by
  have ft := F.called_int
  obtain ⟨c, tl, hmro⟩ := ft.mro
  have hmade := ft.made
  have hct := F.typeCall_int_1 (.str Str.empty t)
  refine X_call (codeX_of_tree ?_)
  show wpX _ _ (callAny (.type "int") _) _ _ _
  refine X_pure ⟨Code.quiet_builtin _ (by decide +kernel), rfl, codeX_builtin F.entry_type_call ?_⟩
  rw [Around.under_plain (weight_type_call_type "int" [.str Str.empty t] []) rfl]
  have h1 := ft.notType
  have h2 := ft.canCreate
  unfold Builtin.«type.__call__»
  dsimp only
  rw [if_neg (show ¬ (Value.type "int" == Value.type "type") = true from fun q => absurd (h1.symm.trans q) (by decide))]
  rw [if_neg (by first | exact fun q => absurd (h2.symm.trans q) (by decide) | (rw [h2]; decide))]
  refine X_cut fun k1 hk1 => ?_
  refine X_bindA (wpAny_of_eq hct ?_)
  subst hk1
  dsimp only
  refine X_cut fun k2 hk2 => ?_
  refine X_bindA (wpAny_of_eq hmro ?_)
  subst hk2
  dsimp only
  rw [if_neg (by simp)]
  refine X_cut fun k3 hk3 => ?_
  refine X_bindA (wpAny_of_eq hmade ?_)
  subst hk3
  dsimp only
  refine X_bind (X_pure ?_)
  refine X_bind (X_holding (X_call (codeX_call_builtin ft.plain rfl F.entry_int_new (wpAny_of_eq (F.newCall_int_1 _) ?_))))
  exact X_int_new hh fun h' tk e x => h h' tk e x
end Mine
end
section
open PySem PySem.W PyProof.Rows PySem.Calls
namespace Mine
theorem leave_gen {h₀ g g' h : Heap} {L L' : Addr} {m m' : Str → Option Value} {news' : List (Addr × Obj)} {oL : Obj} (nL₀ : h₀.get? L = none) (ab : h₀.objs.size ≤ L) (st : h₀.StaysIn g) (hLg : g.get? L = some oL)
    (hNs : ∀ (sl : Array (Option Value)) h', h'.get? L = some { oL with slots := sl } → Heap.Ns h' L m) (T' : KtsTurn [L] g g') (F' : Fr g' L' h m') (N' : News g' L' h news') : Fr h₀ L h m ∧ News h₀ L h news' := by
  obtain ⟨sl, hs⟩ := T'.up hLg
  refine ⟨⟨hNs sl _ (F'.keep _ _ hs), fun b o e => F'.keep b o (T'.other b o (st b o e) (fun q => by
    rw [List.mem_singleton] at q
    rw [q, nL₀] at e
    cases e)), ab⟩, fun p hp => ⟨(N' p hp).1, fun q => ?_, ?_⟩⟩
  · have := (N' p hp).2.2; rw [q, hs] at this; cases this
  · cases q : h₀.get? p.1 with
    | none => rfl
    | some o =>
      obtain ⟨sl', hs'⟩ := T'.up (st _ _ q)
      have := (N' p hp).2.2
      rw [hs'] at this
      cases this
end Mine
end
section
open PySem PySem.W PyProof.Rows PySem.Calls
namespace Mine
noncomputable def LeaveR (fs : List Addr) (h₀ : Heap) (L : Addr) (m : Str → Option Value) (g : Heap) (R : Result → Shared → Prop) (v : Value) (s' : Shared) : Prop := LeaveS0 fs h₀ L m g R v s'
section
variable {prog : Program} {w : World} {A₀ A : Around} {s : Shared} {base h₀ : Heap} {L : Addr} {m : Str → Option Value} {env : Env} {news : List (Addr × Obj)} {K : Frag} {p : Program} {loose : List Str} {mean : ExcName → Option Value} {mg mb : Str → Option Value}
    {R : Result → Shared → Prop} {name qual : Str} {params : Arguments} {body : List Stmt} {scope : Scope} {dV kV doc pm cdv ct oc : Value} {an od : Option Addr} {osl : Array (Option Value)} {f : Addr} {args : Args} {binds : List (Str × Value)}
theorem mem_one {b : Addr} (hf : env.frame = some L) (hb : b ∈ [env].filterMap (·.frame)) : b = L := by
  obtain ⟨x, he, hx⟩ := List.mem_filterMap.mp hb
  rw [List.mem_singleton] at he
  rw [he, hf] at hx
  exact (Option.some.inj hx).symm
theorem enterX (B : Below A₀ base [] h₀) (F : Fr h₀ L s.heap m) (N : News h₀ L s.heap news) (hA : A.frames = some [env]) (hf : env.frame = some L) (hke : env.scope.kind = .function) :
    ∃ oL es ep, (hideAll s.heap (news.map (·.1))).get? L = some oL ∧ oL.data = .dict es ep ∧ (∀ h', h'.get? L = some oL → Heap.Ns h' L m) ∧ (∀ (sl : Array (Option Value)) h', h'.get? L = some { oL with slots := sl } → Heap.Ns h' L m) ∧
      h₀.StaysIn (hideAll s.heap (news.map (·.1))) ∧ Below A base [env] (hideAll s.heap (news.map (·.1))) := by
  have nm : ∀ b o, h₀.get? b = some o → b ∉ news.map (·.1) := fun b o e q => by
    obtain ⟨p, hp, rfl⟩ := List.mem_map.mp q
    rw [(N p hp).2.2] at e; cases e
  have st : h₀.StaysIn (hideAll s.heap (news.map (·.1))) := fun b o e => hideAll_get _ (F.keep b o e) (nm b o e)
  obtain ⟨oL, es, ep, hL, hLd, hLk, hLf⟩ := F.ns
  have nL : L ∉ news.map (·.1) := fun q => by
    obtain ⟨p, hp, e⟩ := List.mem_map.mp q
    exact (N p hp).2.1 e
  have hLg := hideAll_get (news.map (·.1)) hL nL
  obtain ⟨_, B₁, _⟩ := groundX (R := fun _ _ => True) B F N hA hf hke
  exact ⟨oL, es, ep, hLg, hLd, fun h' e => ⟨oL, es, ep, e, hLd, hLk, hLf⟩, fun sl h' e => ⟨_, es, ep, e, hLd, hLk, hLf⟩, st, B₁⟩
theorem code_defR (B : Below A₀ base [] h₀) (F : Fr h₀ L s.heap m) (X₀ : K.In h₀) (N : News h₀ L s.heap news) (T : Top p loose mean mg mb h₀) (hA : A.frames = some [env]) (hf : env.frame = some L) (hke : env.scope.kind = .function)
    (ho : K.lookup f = some ⟨oc, od, .func (fnOf name qual params body scope dV kV doc pm an cdv ct), osl⟩) (hcd : codeIn K cdv qual = true) (hroom : A.depth < recursionLimit)
    (hbind : BindsTo s (fnOf name qual params body scope dV kV doc pm an cdv ct) args binds) (hloc : ∀ y ∈ binds, scope.names.lookup y.1 = some .local)
    (h : ∀ g L' h₁, Fr h₀ L g m → Fr g L' h₁ (fun y => binds.reverse.lookup y) → News g L' h₁ news → Below A base [env] g → K.In g → Top p loose mean mg mb g → KtsDicts ([env].filterMap (·.frame)) g →
      wpAny (model prog w) (A.deeper (envOf qual scope L' f cdv)) (execs body (envOf qual scope L' f cdv))
        (fun fl s' => LeaveR ([env].filterMap (·.frame)) h₀ L m g R (match fl with | .ret v => v | _ => .none) s')
        (fun e s' => wpAny (model prog w) (A.deeper (envOf qual scope L' f cdv)) (leaving (envOf qual scope L' f cdv) e) (fun _ s'' => R (.error e) s'') (fun e' s'' => R (.error e') s'') s')
        { s with heap := h₁, toks := s.toks + binds.length })
    (hco : scope.isCoroutine = false) (hgen : scope.isGenerator = false) (hk : scope.kind = .function)
    (hcell : ∀ x ∈ scope.names, x.2 ≠ .cell) : codeAny (model prog w) A (.call (.ref f) args) R s := by
  have X := X₀.keeps F.keep
  refine codeAny_call_def (fd := fnOf name qual params body scope dV kV doc pm an cdv ct) (body := body) (binds := binds) hroom (X _ _ ho) rfl (T.nolimit.keeps F.keep) (codeRec_of X hcd) rfl hbind hcell hloc (fun h₁ hns hk₁ => ?_) hco hgen hk
  obtain ⟨oL, es, ep, hLg, hLd, hN, hNs, st, B₂⟩ := enterX B F N hA hf hke
  refine wpAny_mono (h _ s.heap.objs.size h₁ ⟨hN _ hLg, st, F.above⟩ ⟨hns, fun b o e => hk₁ b o (of_hideAll _ e), Nat.le_of_eq (hideAll_size _ _)⟩
    (fun p hp => ⟨hk₁ _ _ (N p hp).1, Nat.ne_of_lt (Heap.lt_size (N p hp).1), hideAll_none _ (List.mem_map_of_mem hp)⟩) B₂ (X₀.keeps st) (T.keeps st) (fun b hb => ⟨oL, es, ep, mem_one hf hb ▸ hLg, hLd⟩)) (fun fl s' hl => ?_) fun _ _ y => y
  have nL₀ : h₀.get? L = none := kts_self F
  have turn : ∀ {h₂ g₂ g' : Heap}, KtsTurn ([env].filterMap (·.frame)) g₂ g' → KtsTurn [L] g₂ g' := fun x => by simpa only [List.filterMap_cons, hf, List.filterMap_nil] using x
  obtain ⟨g', L', m', news', T', F', N', k⟩ := hl
  obtain ⟨x, y⟩ := leave_gen nL₀ F.above st hLg hNs (turn (h₂ := h₀) T') F' N'
  exact k x y
end
end Mine
end
section
open PySem PySem.W PyProof.Rows PySem.Calls
namespace Mine
section
variable {M : Model} {A : Around} {s : Shared} {env : Env} {E : Value → Shared → Prop}
theorem X_attempt {α : Type} {m : Sem α} {Q : Except Value α → Shared → Prop} (h : wpX M A m (fun a => Q (.ok a)) (fun e => Q (.error e)) s) : wpX M A m.attempt Q E s := fun Γ p hΓ ok => by rw [Sem.wp_attempt]; exact h Γ p hΓ ok
theorem X_tryStmt {body orelse : Sem Flow} {h₀ : ExceptHandler} {hs : List ExceptHandler} {Q : Flow → Shared → Prop}
    (h : wpX M A body (fun f s₁ => match f with | .next => wpX M A orelse Q E s₁ | f => Q f s₁)
      (fun e s₁ => wpAny M A (noteFrame e env) (fun _ s₂ => wpAny M A (setFlight e none) (fun _ s₃ => wpAny M A (handleBy e env (h₀ :: hs)) Q E s₃) E s₂) E s₁) s) :
    wpX M A (tryStmt false body (h₀ :: hs) orelse [] env) Q E s := by
  unfold tryStmt
  simp only [List.isEmpty_nil, if_true, List.isEmpty_cons, Bool.false_and, Bool.false_eq_true, if_false]
  refine X_bind (X_attempt (X_mono h (fun f s₁ h₁ => ?_) fun e s₁ h₁ => ?_))
  · cases f <;> first | exact h₁ | exact X_pure h₁
  · exact X_any (wpAny_bind (wpAny_mono h₁ (fun _ _ h₂ => wpAny_bind h₂) fun _ _ x => x))
theorem X_Try {body orelse : List Stmt} {h₀ : ExceptHandler} {hs : List ExceptHandler} {pos : Pos} {Q : Flow → Shared → Prop}
    (h : wpX M A (execs body env) (fun f s₁ => match f with | .next => wpX M A (execs orelse env) Q E s₁ | f => Q f s₁)
      (fun e s₁ => wpAny M A (noteFrame e env) (fun _ s₂ => wpAny M A (setFlight e none) (fun _ s₃ => wpAny M A (handleBy e env (h₀ :: hs)) Q E s₃) E s₂) E s₁) s) :
    wpX M A (exec (.Try body (h₀ :: hs) orelse [] pos) env) Q E s := by
  rw [arm_exec_Try]
  exact X_bind (X_standAt (X_tryStmt h))
theorem X_execs_split (n : Nat) {l : List Stmt} {Q : Flow → Shared → Prop} (h : wpAny M A (execs (l.take n) env) (fun f s' => match f with | .next => wpX M A (execs (l.drop n) env) Q E s' | f => Q f s') E s) : wpX M A (execs l env) Q E s := by
  have := X_execs_append h
  rwa [List.take_append_drop] at this
theorem X_tail {t : Sem Value} {Q : Value → Shared → Prop} (ht : wpX M A t Q E s) : wpX M A (t >>= fun r => holding [r] point >>= fun _ => pure r) Q E s :=
  X_bind (X_mono ht (fun _ _ hr => X_bind (X_holding (X_point (X_pure hr)))) fun _ _ x => x)
theorem X_callWith_type {pos : Pos} {T : String} {first : List Value} {args : List (Bool × Sem Value)} {Q : Value → Shared → Prop} (hplain : args.any (·.1) = false)
    (h : wpAny M A (evalArgs (.type T) true args []) (fun a s₁ => wpX M A (call (.type T) (first ++ a.pos) a.kw) Q E s₁) E s) : wpX M A (callWith pos (.type T) first args []) Q E s := by
  unfold callWith
  refine X_bindA (wpAny_holding (wpAny_mono h (fun a s₁ h₁ => X_bind (X_standAt ?_)) fun _ _ x => x))
  simp only [hplain, List.any_nil, Bool.or_false]
  refine X_bind (X_pure ?_)
  exact X_tail h₁
theorem X_callWith_type1 {pos : Pos} {T : String} {e : Expr} {rest : List Expr} {Q : Value → Shared → Prop}
    (h : wpAny M A (spliced (backTo pos (starEach (e :: rest) env))) (fun vs s₁ => wpX M A (call (.type T) vs) Q E s₁) E s)
    (he : starEach (e :: rest) env = (false, eval e env) :: starEach rest env := by rfl)
    (hplain : (backTo pos (starEach rest env)).any (·.1) = false := by rfl) :
    wpX M A (callWith pos (.type T) [] (backTo pos (starEach (e :: rest) env)) []) Q E s := by
  rw [he] at h ⊢
  exact X_callWith_type (by show (false || (backTo pos (starEach rest env)).any (·.1)) = false; rw [hplain]; rfl) (evalArgs_plain h)
theorem X_callWith_function {pos : Pos} {a : Addr} {o : Obj} {fd : FuncData} {first : List Value} {args : List (Bool × Sem Value)} {Q : Value → Shared → Prop} (hdat : o.data = .func fd)
    (h : wpAny M A (evalArgs (.ref a) true args []) (fun x s₁ => s₁.heap.get? a = some o ∧ wpX M A (call (.ref a) (first ++ x.pos) x.kw) Q E s₁) E s) :
    wpX M A (callWith pos (.ref a) first args []) Q E s := by
  unfold callWith
  refine X_bindA (wpAny_holding (wpAny_mono h (fun x s₁ h₁ => X_bind (X_standAt ?_)) fun _ _ x => x))
  cases hs : (args.any (·.1) || ([] : List (Option Str × Sem Value)).any (·.1.isNone)) <;>
    refine X_bindA (m := keeperOf (.ref a)) ?_ <;> unfold keeperOf <;>
    refine wpAny_bind (wpAny_load h₁.1 ?_) <;> rw [hdat] <;> refine wpAny_pure ?_
  · show wpX M A (if args.length + 2 * ([] : List (Option Str × Sem Value)).length > 30 then (call (.ref a) (first ++ x.pos) x.kw >>= fun r => holding [r] point >>= fun _ => pure r) else (callMarked plainCall (.ref a) (first ++ x.pos) x.kw >>= fun r => holding [r] point >>= fun _ => pure r)) Q E s₁
    split
    · exact X_tail h₁.2
    · exact X_tail (by unfold callMarked; exact X_keep h₁.2)
  · exact X_tail (by unfold callMarked; exact X_keep h₁.2)
theorem X_callWith_def {pos : Pos} {f : Addr} {o : Obj} {fd : FuncData} {e : Expr} {rest : List Expr} {Q : Value → Shared → Prop} (hdat : o.data = .func fd)
    (h : wpAny M A (spliced (backTo pos (starEach (e :: rest) env))) (fun vs s₁ => s₁.heap.get? f = some o ∧ wpX M A (call (.ref f) vs) Q E s₁) E s)
    (he : starEach (e :: rest) env = (false, eval e env) :: starEach rest env := by rfl) :
    wpX M A (callWith pos (.ref f) [] (backTo pos (starEach (e :: rest) env)) []) Q E s := by
  rw [he] at h ⊢
  exact X_callWith_function (o := o) (fd := fd) hdat (evalArgs_plain h)
end
section
variable {prog : Program} {w : World} {A : Around} {s : Shared} {R : Result → Shared → Prop}
theorem codeX_func {body : List Stmt} {env : Env}
    (h : wpX (model prog w) (A.deeper env) (execs body env) (fun f s' => R (.ok (.ret (match f with | .ret v => v | _ => .none))) s')
      (fun e s' => wpAny (model prog w) (A.deeper env) (leaving env e) (fun _ s'' => R (.error e) s'') (fun e' s'' => R (.error e') s'') s') s) : codeX (model prog w) A (.func body env) R s := by
  refine codeX_of_tree ?_
  show wpX _ (A.deeper env) (do point; match ← (execs body env).onRaise (leaving env) with | .ret v => ret v | _ => ret .none) _ _ s
  refine X_bind (X_point (X_bind (X_onRaise (X_mono h (fun f s' h' => ?_) fun _ _ h' => h'))))
  cases f <;> exact X_pure h'
theorem codeX_call_function {a : Addr} {args : Args} {o : Obj} {fd : FuncData} {body : List Stmt} (hroom : A.depth < recursionLimit)
    (ho : s.heap.get? a = some o) (hd' : o.data = .func fd) (hco : fd.scope.isCoroutine = false) (hgen : fd.scope.isGenerator = false) (hbody : fd.body = .stmts body) (hcd : s.heap.CodeRec fd.code fd.qualname)
    (h : wpAny (model prog w) A.in1 (bindArgs fd args) (fun binds s₁ =>
      wpAny (model prog w) A.in1 (newFunctionEnv fd.scope fd.globals fd.closure binds (fd.qualname ++ ".<locals>.") (some a) fd.code none fd.builtins)
        (fun env s₂ => s₂.heap.NoLimit ∧ codeX (model prog w) A (.func body env) R s₂) (fun e s' => R (.error e) s') s₁) (fun e s' => R (.error e) s') s) :
    codeX (model prog w) A (.call (.ref a) args) R s := by
  refine codeX_of_tree ?_
  show wpX _ A.in1 (callAny (.ref a) args) _ _ s
  simp only [callAny]
  refine X_bindA (wpAny_load ho ?_)
  obtain ⟨c, oc, vs, tq, hc, hoc, hdc, hq⟩ := hcd
  simp only [hd', callFunction, hco, hgen, hbody, hc]
  rw [hc] at h
  refine X_bindA (m := field (.ref c) 1) (wpAny_field hoc hdc hq (X_bind (X_pure ?_)))
  refine X_bindA (wpAny_mono h (fun binds s₁ h₁ => X_bindA (wpAny_mono h₁ (fun env s₂ h₂ => X_bindA (wpAny_enterFrame h₂.1 hroom
    (X_pure ⟨rfl, rfl, h₂.2⟩))) fun _ _ x => x)) fun _ _ x => x)
end
section
variable {prog : Program} {w : World} {A₀ A : Around} {s : Shared} {base h₀ : Heap} {outer : List Env} {L : Addr} {m : Str → Option Value} {env : Env} {news : List (Addr × Obj)} {K : Frag} {p : Program} {loose : List Str} {mean : ExcName → Option Value} {mg mb : Str → Option Value}
    {R : Result → Shared → Prop} {name qual : Str} {params : Arguments} {body : List Stmt} {scope : Scope} {dV kV doc pm cdv ct oc : Value} {an od : Option Addr} {osl : Array (Option Value)} {f : Addr} {args : Args} {binds : List (Str × Value)}
theorem codeX_def (B : Below A₀ base outer h₀) (F : Fr h₀ L s.heap m) (X₀ : K.In h₀) (N : News h₀ L s.heap news) (T : Top p loose mean mg mb h₀) (hA : A.frames = some (env :: outer)) (hf : env.frame = some L) (hke : env.scope.kind = .function)
    (ho : K.lookup f = some ⟨oc, od, .func (fnOf name qual params body scope dV kV doc pm an cdv ct), osl⟩) (hcd : codeIn K cdv qual = true) (hroom : A.depth < recursionLimit)
    (hbind : BindsTo s (fnOf name qual params body scope dV kV doc pm an cdv ct) args binds) (hloc : ∀ y ∈ binds, scope.names.lookup y.1 = some .local)
    (h : ∀ g L' h₁, Fr h₀ L g m → Fr g L' h₁ (fun y => binds.reverse.lookup y) → News g L' h₁ news → Below A base (env :: outer) g → K.In g → Top p loose mean mg mb g → (∀ q ∈ news, q.1 < L') →
      wpX (model prog w) (A.deeper (envOf qual scope L' f cdv)) (execs body (envOf qual scope L' f cdv))
        (fun fl s' => LeaveK h₀ L m g R (match fl with | .ret v => v | _ => .none) s')
        (fun e s' => wpAny (model prog w) (A.deeper (envOf qual scope L' f cdv)) (leaving (envOf qual scope L' f cdv) e) (fun _ s'' => R (.error e) s'') (fun e' s'' => R (.error e') s'') s') { s with heap := h₁, toks := s.toks + binds.length })
    (hco : scope.isCoroutine = false) (hgen : scope.isGenerator = false) (hk : scope.kind = .function)
    (hcell : ∀ x ∈ scope.names, x.2 ≠ .cell) : codeX (model prog w) A (.call (.ref f) args) R s := by
  have X := X₀.keeps F.keep
  obtain ⟨FG, BG, st, lv⟩ := groundX (R := R) B F N hA hf hke
  refine codeX_call_function hroom (X _ _ ho) rfl hco hgen rfl (codeRec_of X hcd) (hbind _ _ _ _ ?_)
  refine wpAny_newFunctionEnv hcell hloc (fun h₁ hns hsb => ⟨(T.nolimit.keeps F.keep).fresh _ hsb, codeX_func (X_mono (h _ s.heap.objs.size h₁ FG ⟨hns, fun b o e => ?_, Nat.le_of_eq (hideAll_size _ _)⟩ (fun q hq => ⟨?_, Nat.ne_of_lt (Heap.lt_size (N q hq).1), hideAll_none _ (List.mem_map_of_mem hq)⟩) BG (X₀.keeps st) (T.keeps st) (fun q hq => Heap.lt_size (N q hq).1)) (fun fl s' hl => lv _ _ hl) fun _ _ x => x)⟩) hk
  · have e2 := of_hideAll _ e
    exact hsb.extBut b o (Nat.ne_of_lt (Heap.lt_size e2)) (Heap.get?_push_of_some _ e2)
  · have e2 := (N q hq).1
    exact hsb.extBut _ _ (Nat.ne_of_lt (Heap.lt_size e2)) (Heap.get?_push_of_some _ e2)
theorem codeN_defS {Q : Flow → Shared → Prop} (B : Below A₀ base [] h₀) (F : Fr h₀ L s.heap m) (X₀ : K.In h₀) (N : News h₀ L s.heap news) (T : Top p loose mean mg mb h₀) (hA : A.frames = some [env]) (hf : env.frame = some L) (hke : env.scope.kind = .function)
    (ho : K.lookup f = some ⟨oc, od, .func (fnOf name qual params body scope dV kV doc pm an cdv ct), osl⟩) (hcd : codeIn K cdv qual = true) (hroom : A.depth < recursionLimit)
    (hbind : BindsTo s (fnOf name qual params body scope dV kV doc pm an cdv ct) args binds) (hloc : ∀ y ∈ binds, scope.names.lookup y.1 = some .local)
    (h : ∀ g L' h₁, Fr h₀ L g m → Fr g L' h₁ (fun y => binds.reverse.lookup y) → News g L' h₁ news → Below A base [env] g → K.In g → Top p loose mean mg mb g → KtsDicts ([env].filterMap (·.frame)) g →
      wpN (model prog w) (A.deeper (envOf qual scope L' f cdv)) (execs body (envOf qual scope L' f cdv))
        (fun fl s' => LeaveS0 ([env].filterMap (·.frame)) h₀ L m g (okR Q) (match fl with | .ret v => v | _ => .none) s') { s with heap := h₁, toks := s.toks + binds.length })
    (hco : scope.isCoroutine = false) (hgen : scope.isGenerator = false) (hk : scope.kind = .function)
    (hcell : ∀ x ∈ scope.names, x.2 ≠ .cell) : codeN (model prog w) A (.call (.ref f) args) Q s := by
  have X := X₀.keeps F.keep
  obtain ⟨oL, es, ep, hLg, hLd, hN, hNs, st, B₂⟩ := enterX B F N hA hf hke
  refine codeN_call_function hroom (X _ _ ho) rfl hco hgen rfl (codeRec_of X hcd) (hbind _ _ _ _ ?_)
  refine wpAny_newFunctionEnv hcell hloc (fun h₁ hns hsb => ⟨(T.nolimit.keeps F.keep).fresh _ hsb, codeN_func (N_mono (h _ s.heap.objs.size h₁ ⟨hN _ hLg, st, F.above⟩ ⟨hns, fun b o e => ?_, Nat.le_of_eq (hideAll_size _ _)⟩ (fun q hq => ⟨?_, Nat.ne_of_lt (Heap.lt_size (N q hq).1), hideAll_none _ (List.mem_map_of_mem hq)⟩) B₂ (X₀.keeps st) (T.keeps st) (fun b hb => ⟨oL, es, ep, mem_one hf hb ▸ hLg, hLd⟩)) (fun fl s' hl => ?_))⟩) hk
  · have e2 := of_hideAll _ e
    exact hsb.extBut b o (Nat.ne_of_lt (Heap.lt_size e2)) (Heap.get?_push_of_some _ e2)
  · have e2 := (N q hq).1
    exact hsb.extBut _ _ (Nat.ne_of_lt (Heap.lt_size e2)) (Heap.get?_push_of_some _ e2)
  · obtain ⟨g', L', m', news', T', F', N', k⟩ := hl
    obtain ⟨x, y⟩ := leave_gen (kts_self F) F.above st hLg hNs (by simpa only [List.filterMap_cons, hf, List.filterMap_nil] using T') F' N'
    exact k x y
end
end Mine
end
section
open PySem PySem.W PyProof.Rows PySem.Calls
namespace Mine
theorem post_impl (prog : Program) (w : World) {s₁ s' : Shared} {cw : ClaimW} {cl : Str → Option Addr} {mean : ExcName → Option Value} {args : List WData} {tabs : List (Addr × Addr)} {f : Flow} (hT : TabsAt tabs s₁.heap) (hr : ∀ a x, cw.raises a x = false)
    (h : GoodW cw cl mean args { s₁ with heap := ghostOf s₁.heap tabs } (.ok f) s' ∧ GrownAll tabs s'.heap) : GoodWG cw cl mean args s₁ (.ok f) s' := by
  let M : Model := ⟨fun _ => pure (.done f), prog, w⟩
  have h1 : codeAny M {} (.builtin "x" {}) (GoodWG cw cl mean args s₁) s' := kn_post hT hr (codeAny_of_tree (wpAny_pure h))
  have h2 := h1 ⟨.builtin "x" {}, none, none, [], none⟩ default rfl ⟨rfl, Nat.le_refl _, (fun _ e => nomatch e), (fun _ e => nomatch e), Nat.zero_le _⟩
  rw [wpCode_iff_wp] at h2
  exact h2
theorem call_cellsX {prog : Program} {w : World} {A : Around} {R : Result → Shared → Prop} {s : Shared} {name : Str} {params : Arguments} {body : List Stmt} {scope : Scope}
    {pm cd doc : Value} {a : Addr} {o : Obj} {args : List Value} {binds : List (Str × Value)}
    (hroom : A.depth < recursionLimit) (ho : s.heap.get? a = some o) (hdata : o.data = .func (Calls.docDef name params body scope pm cd doc)) (hlim : s.heap.NoLimit) (hcd : s.heap.CodeRec cd name)
    (hbind : bindArgs (Calls.docDef name params body scope pm cd doc) ⟨args, []⟩ = pure binds)
    (hkind : ∀ x ∈ binds, scope.names.lookup x.1 = some .local ∨ (scope.names.lookup x.1 = some .cell ∧ ((cellsFrom (s.heap.objs.size + 1) scope.names []).lookup x.1).isSome = true))
    (hnd : ((cellsFrom 0 scope.names []).map (·.1)).Nodup)
    (h : ∀ h₁ tk cells, Fr s.heap s.heap.objs.size h₁ (bindL (envOfC name scope s.heap.objs.size a cd).kindOf binds fun _ => none) → News s.heap s.heap.objs.size h₁ cells →
      CellsAre (bindC (envOfC name scope s.heap.objs.size a cd).kindOf binds fun _ => none) (cellsFrom (s.heap.objs.size + 1) scope.names []) cells →
      wpN (model prog w) (A.deeper (envOfC name scope s.heap.objs.size a cd)) (execs body (envOfC name scope s.heap.objs.size a cd))
        (fun f s' => R (.ok (.ret (match f with | .ret v => v | _ => .none))) s') { s with heap := h₁, toks := tk })
    (hco : scope.isCoroutine = false := by rfl) (hgen : scope.isGenerator = false := by rfl) (hk : scope.kind = .function := by rfl) :
    codeX (model prog w) A (.call (.ref a) ⟨args, []⟩) R s := by
  refine codeX_call_function hroom ho hdata hco hgen rfl hcd (wpAny_of_eq hbind ?_)
  refine wpAny_newFunctionEnv_cells hk hkind fun env' he s' x => ?_
  subst he
  refine ⟨hlim.keeps x.toInCall.keep, codeX_func ?_⟩
  obtain ⟨h₁, tk, rfl, _⟩ := x.done
  obtain ⟨cells, N, Y⟩ := Cl.news (h₀ := s.heap) (Nat.le_refl _) fun n c hm => ⟨x.cell n c (lookup_of_mem_nodup (cellsFrom_names scope.names 0 (s.heap.objs.size + 1) [] [] rfl ▸ hnd) hm), x.above n c hm⟩
  exact X_mono (h h₁ tk cells ⟨x.toInCall.ns, x.toInCall.keep, x.toInCall.fresh⟩ N Y) (fun _ _ x => x) fun _ _ x => x.elim
end Mine
end
section
open PySem PySem.W PyProof.Rows PySem.Calls
namespace Mine
/-- the context of the claim's caller -/
theorem okX_caller : OkX ⟨.builtin "claim.caller" {}, none, none, [], none⟩ := ⟨by decide +kernel, fun _ h => (List.not_mem_nil h).elim, .inl rfl⟩
theorem wp_of_X {M : Model} {t : Sem Fin} {R : Result → Shared → Prop} {s : Shared}
    (h : wpX M callerA t (fun fin s' => ∃ f, fin = .done f ∧ R (.ok f) s') (fun e s' => R (.error e) s') s) (p : Pos) :
    Sem.wp M ⟨.builtin "claim.caller" {}, none, none, [], none⟩ t (Sem.finPost M ⟨.builtin "claim.caller" {}, none, none, [], none⟩ R) (fun e _ s' => R (.error e) s') p s := by
  refine Sem.wp_mono M _ t (fun fin p' s' h' => ?_) (fun _ _ _ h' => h') p s (h _ p caller_in okX_caller)
  obtain ⟨f, rfl, hf⟩ := h'
  exact hf
theorem callFrom_X {c : ClaimW} {tree : List Value → Sem Fin} {w : World} {s : Shared} {free : Addr → Prop} {gens : Prop} {kept : Heap → Prop} (hz : s.asleep) (hgens : s.gens = #[])
    (hspec : ∀ args, c.pre args = true → WData.layableAll args = true →
      ∀ ord : List DictEntry → List DictEntry, (∀ l, (ord l).Perm l) →
      ∃ vs s₁, layAllW c.records (classAt s.heap) w.params ord args s = some (vs, s₁) ∧
        wpX (model c.prog w) callerA (tree vs) (fun fin s' => ∃ f, fin = .done f ∧ (c.Ends s args vs s₁ (.ok f) s' ∧ s'.os = s.os ∧ AllBare s'.gens ∧ kept s'.heap))
          (fun e s' => c.Ends s args vs s₁ (.error e) s' ∧ s'.os = s.os ∧ AllBare s'.gens ∧ kept s'.heap) s₁) :
    c.CallFrom (fun vs => ⟨tree vs, .builtin "claim.caller" {}, default, []⟩) w free gens kept s := by
  intro args hp hl ord ho
  obtain ⟨vs, s₁, laid, walk⟩ := hspec args hp hl ord ho
  have rest := layAllW_rest _ _ _ laid
  have told : ∀ r s', (c.Ends s args vs s₁ r s' ∧ s'.os = s.os ∧ AllBare s'.gens ∧ kept s'.heap) → (c.Ends s args vs s₁ r s' ∧ s'.os = s.os ∧ kept s'.heap) ∧ leftWithCleanup s'.gens = false := fun _ _ z => ⟨⟨z.1, z.2.1, z.2.2.2⟩, leftWithCleanup_false_of_bare z.2.2.1⟩
  have go := wp_halts_full (M := model c.prog w) (R := fun r s' => c.Ends s args vs s₁ r s' ∧ s'.os = s.os ∧ kept s'.heap) (Shared.asleep_of_life rest.2.2.2 hz)
    (wp_of_X (R := fun r s' => (c.Ends s args vs s₁ r s' ∧ s'.os = s.os ∧ kept s'.heap) ∧ leftWithCleanup s'.gens = false) (X_mono walk (fun _ _ z => z.elim fun f y => ⟨f, y.1, told _ _ y.2⟩) fun _ _ z => told _ _ z) default)
  obtain ⟨k, r, s'', s', go⟩ := go
  have eq := Shared.forget_eq go.2.2.1
  have last := go.2.2.2
  refine ⟨vs, s₁, laid, k, _, s', go.1, ?_, fun _ i x hx => ?_, ?_, ?_, ?_⟩
  · exact (last.1.congr eq.1).elim (fun ⟨v, z⟩ => .inl ⟨v, by rw [z.1]; rfl, z.2.1, z.2.2.1, z.2.2.2.1, fun b o y _ => z.2.2.2.2.1 b o y, z.2.2.2.2.2⟩)
      (fun ⟨e, ob, cls, z⟩ => .inr ⟨e, ob, cls, by rw [z.1]; rfl, z.2.1, z.2.2.1, z.2.2.2.1, z.2.2.2.2.1, fun b o y _ => z.2.2.2.2.2 b o y⟩)
  · rw [hgens] at hx
    simp at hx
  · first | exact eq.1 ▸ last.2.2 | (rw [eq.1]; exact last.2.2) | (rw [← eq.1]; exact last.2.2)
  · rw [(runN_life _ _ _ go.2.1).trans rest.2.2.2]
  · exact Shared.rest_eq (eq.2.2.2.1 ▸ last.2.1)
theorem open_X {r : RowW} {run : Value → List Value → Sem Value} {tree : List Value → Sem Fin} {q : Program} {loose defs kps : List Str} {writes : Bool} {Xt : Shared → Bool} {XP : (Str → Option Value) → Heap → Prop} {α : Type} {Yf : Shared → α} {Ya : World → α} {YP : World → Heap → Prop} {N : Nat}
    (left : LeftO r.prog q loose Xt Yf Ya N) (hY : ∀ w s, Yf s = Ya w → YP w s.heap) (hYk : ∀ w h h', YP w h → (∀ b o, h.get? b = some o → h'.get? b = some o) → YP w h') (hX : ∀ s, Xt s = true → XP (s.heap.nsMap mainGlobals) s.heap) (hXk : ∀ mg h h', XP mg h → (∀ b o, h.get? b = some o → h'.get? b = some o) → XP mg h')
    (hRf : ∀ s, Xt s = true → RecFacts r.records s.heap) (hwr : (!writes || r.records.isEmpty) = true) (ok : (chainsOk q && opensWell r.prog && (frees r && r.within.isEmpty)) = true) (hb : r.prog.bare) (hw : r.promised)
    (ht : ∀ vs (w : World) (s : Shared) mg f (Q : Fin → Shared → Prop) (E : Value → Shared → Prop), s.heap.Ns mainGlobals mg → mg r.name = some f → wpX (model r.prog w) callerA (run f vs) (fun v s' => Q (.done (.ret v)) s') E s → wpX (model r.prog w) callerA (tree vs) Q E s)
    (pin : ∀ w s, s.heap.isNs mainGlobals = true → Ground q loose [] XP w s (s.heap.nsMap mainGlobals) (s.heap.nsMap builtinsNs) s.heap → ∀ n ∈ defs, isTheDefsW r.prog s.heap n)
    (call : ∀ (w : World) (s₀ s₁ : Shared) (mg mb : Str → Option Value), Ground q loose r.records XP w s₀ mg mb s₁.heap → YP w s₁.heap → ∀ (args : List WData) (vs : List Value) (as : List Addr),
      r.claim.pre args = true → WData.layableAll args = true → Laid r.records w s₀ s₁ args vs as → sysModules < s₀.heap.objs.size → ∃ f, mg r.name = some f ∧
        wpX (model r.prog w) callerA (run f vs) (fun v s' => GoodWG r.claim (classAt s₀.heap) (ExcName.means s₀.heap) args s₁ (.ok (.ret v)) s')
          (fun e s' => GoodWG r.claim (classAt s₀.heap) (ExcName.means s₀.heap) args s₁ (.error e) s') s₁) : r.claim.HoldsOpenBy (fun vs => ⟨tree vs, .builtin "claim.caller" {}, default, []⟩) defs kps writes := by
  have o1 := Bool.and_eq_true_iff.mp ok
  have o2 := Bool.and_eq_true_iff.mp o1.1
  have o3 := Bool.and_eq_true_iff.mp o1.2
  have fp := frees_parts o3.1
  have top := fun w => left.behind (XP := fun mg h => XP mg h ∧ RecFacts r.records h) (fun s hs => ⟨hX s hs, hRf s hs⟩) o2.1 w
  refine ⟨⟨hb, o2.2, by show r.makers.map _ = []; rw [fp.2.2.2.2]; rfl⟩, hw.witness, fun w => ⟨(left.behind hX o2.1 w).1, fun s' hs' => ?_⟩⟩
  obtain ⟨s₀, b1, b2, s, b3, b4, b5, b6, g, b7⟩ := (top w).2 s' hs'
  have b8 : s.gens = #[] := Array.eq_empty_of_size_eq_zero (beq_iff_eq.mp b5)
  have g0 : Ground q loose [] XP w s (s.heap.nsMap mainGlobals) (s.heap.nsMap builtinsNs) s.heap := ⟨g.T, g.B, g.D, g.TE, g.TD, g.W, g.X.1, g.cls, g.has, g.apart, g.once, g.K⟩
  have g1 : Ground q loose r.records XP w s _ _ s.heap := g.X.2.ground g0
  refine ⟨s₀, b1, b2, s, b3, pin w s b6 g0, g.X.2.1, g.X.2.2.1, callFrom_X (c := r.claim) b4 b8 fun args c1 c2 ord c3 => ?_⟩
  obtain ⟨⟨vs, s₁⟩, laid⟩ := Option.isSome_iff_exists.mp (layAllW_isSome (P := w.params) (ord := ord) g1.has args r.args s (pre_splitW c1).1)
  have stay := layAllW_keeps _ _ _ laid
  have rest := layAllW_rest _ _ _ laid
  obtain ⟨as, r1, r2, r3⟩ := reads_layAllW c3 _ _ _ laid c2 s₁.heap (fun _ _ e => e)
  have lay : Laid r.records w s s₁ args vs as := ⟨⟨ord, c3, laid⟩, r1, r2, r3, stay, rest.1.trans b8, rest.2.2.1⟩
  have g2 := g1.keeps hXk stay
  obtain ⟨f, f1, walk⟩ := call w s s₁ _ _ g2 (hYk _ _ _ (hY w s b7) stay) args vs as c1 c2 lay g1.low
  have free := ident_freeW fp.2.1 fp.2.2.1 fp.2.2.2.1
  have none : r.claim.within = [] := List.isEmpty_iff.mp o3.2
  exact ⟨vs, s₁, laid, ht vs w s₁ _ f _ _ g2.T.g f1 (X_mono walk (fun v s' g => ⟨_, rfl, have z := g.laid (c := r.claim) fp.1 none free lay; ⟨z.1, z.2.1, z.2.2, fun q => ⟨namesKept_of b3 b6 kps stay g.2.1.old, noTable hwr q⟩⟩⟩) fun e s' g => have z := g.laid (c := r.claim) fp.1 none free lay; ⟨z.1, z.2.1, z.2.2, fun q => ⟨namesKept_of b3 b6 kps stay g.2.1.old, noTable hwr q⟩⟩)⟩
/-- what is to be walked: the call, where the claim's caller is known -/
noncomputable abbrev WalkX (q : Program) (loose : List Str) (XP : (Str → Option Value) → Heap → Prop) (YP : World → Heap → Prop) (r : RowW) (d : DefRec) (kwd : List (Str × Expr)) : Prop :=
  ∀ (w : World) (s₀ s₁ : Shared) (mg mb : Str → Option Value), Ground q loose r.records XP w s₀ mg mb s₁.heap → YP w s₁.heap → ∀ (a : Addr) (o : Obj) (pm cd doc dV kV : Value), s₁.heap.get? a = some o →
    o.data = .func { docDef d.name d.params d.body d.scope pm cd doc with defaults := dV, kwdefaults := kV } → s₁.heap.CodeRec cd d.name → Dflts mg s₁.heap d.params kwd dV kV → mg d.name = some (.ref a) → s₁.gens = #[] →
    ∀ (args : List WData) (vals : List Value) (as : List Addr), r.claim.pre args = true → WData.layableAll args = true → ReadsAllW r.records (classAt s₀.heap) s₁.heap vals args as → WellAll w.params s₁.heap vals args → (∀ a ∈ as, (a == sysModules) = false) →
      wpX (model r.prog w) callerA (PySem.call (.ref a) vals) (fun v s' => GoodWG r.claim (classAt s₀.heap) (ExcName.means s₀.heap) args s₁ (.ok (.ret v)) s')
        (fun e s' => GoodWG r.claim (classAt s₀.heap) (ExcName.means s₀.heap) args s₁ (.error e) s') s₁
theorem holds_X {r : OpenRow} {q : Program} {loose : List Str} {Xt : Shared → Bool} {XP : (Str → Option Value) → Heap → Prop} {α : Type} {Yf : Shared → α} {Ya : World → α} {YP : World → Heap → Prop} {d : DefRec} {kwd : List (Str × Expr)} {N : Nat}
    (left : LeftO r.prog q loose Xt Yf Ya N) (hY : ∀ w s, Yf s = Ya w → YP w s.heap) (hYk : ∀ w h h', YP w h → (∀ b o, h.get? b = some o → h'.get? b = some o) → YP w h')
    (hX : ∀ s, Xt s = true → XP (s.heap.nsMap mainGlobals) s.heap) (hXk : ∀ mg h h', XP mg h → (∀ b o, h.get? b = some o → h'.get? b = some o) → XP mg h')
    (hdef : defOf q r.name = some (d, kwd)) (hp : r.prog.theDef r.name = some (d.params, d.body, d.scope)) (hk : kwWritten? d.params.kwonlyargs d.params.kw_defaults = some kwd) (hRf : ∀ s, Xt s = true → RecFacts r.records s.heap) (hwr : (!r.writes || r.records.isEmpty) = true)
    (k1 : r.wellSaid = true) (ok : (chainsOk q && opensWell r.prog && (frees r.toRowW && r.within.isEmpty)) = true) (hb : r.prog.bare) (hw : r.toRowW.promised)
    (call : WalkX q loose XP YP r.toRowW d kwd) : r.Holds := by
  refine ⟨k1, hw, open_X (r := r.toRowW) (run := fun f vs => PySem.call f vs) (tree := fun vs => do match ← nsGet mainNs r.name with
      | some f => do ret (← PySem.call f vs)
      | none => unsupported "claim.caller:no-such-global") left hY hYk hX hXk hRf hwr ok hb hw
    (fun vs w s mg f Q E hg hf h => X_bindA (wpAny_nsGet hg (by rw [hf]; exact X_bind (X_mono h (fun _ _ x => X_pure x) fun _ _ x => x))))
    (fun w s hg G n hn => ?_) fun w s₀ s₁ mg mb G Y args vs as hpre hlay L low => ?_⟩
  · obtain rfl : n = r.name := by split at hn <;> simp_all
    exact pinned_of_view hg G hdef hp hk
  · obtain ⟨a, o, pm, cd, doc, dV, kV, h1, h2, h3, h4, h5⟩ := G.fn hdef
    exact ⟨.ref a, h1, call w s₀ s₁ mg mb G Y a o pm cd doc dV kV h2 h3 h4 h5 (defOf_name hdef ▸ h1) L.gens args vs as hpre hlay L.reads L.well (L.low low)⟩
end Mine
end
section
namespace Mine.PySem.W
open _root_.PySem _root_.PySem.W _root_.PyProof.Rows _root_.PySem.Calls
/-- the head that Mine.hd stands on: as the library's, but it asks for the walk only where the claim's caller is known -/
theorem holds_open {r : OpenRow} {q : Program} {loose : List Str} {Xt : Shared → Bool} {XP : (Str → Option Value) → Heap → Prop} {α : Type} {Yf : Shared → α} {Ya : World → α} {YP : World → Heap → Prop} {d : DefRec} {kwd : List (Str × Expr)} {N : Nat}
    (left : LeftO r.prog q loose Xt Yf Ya N) (hY : ∀ w s, Yf s = Ya w → YP w s.heap) (hYk : ∀ w h h', YP w h → (∀ b o, h.get? b = some o → h'.get? b = some o) → YP w h')
    (hX : ∀ s, Xt s = true → XP (s.heap.nsMap mainGlobals) s.heap) (hXk : ∀ mg h h', XP mg h → (∀ b o, h.get? b = some o → h'.get? b = some o) → XP mg h')
    (hdef : defOf q r.name = some (d, kwd)) (hp : r.prog.theDef r.name = some (d.params, d.body, d.scope)) (hk : kwWritten? d.params.kwonlyargs d.params.kw_defaults = some kwd) (hRf : ∀ s, Xt s = true → RecFacts r.records s.heap) (hwr : (!r.writes || r.records.isEmpty) = true)
    (k1 : r.wellSaid = true) (ok : (chainsOk q && opensWell r.prog && (frees r.toRowW && r.within.isEmpty)) = true) (hb : r.prog.bare) (hw : r.toRowW.promised)
    (call : Mine.WalkX q loose XP YP r.toRowW d kwd) : r.Holds := Mine.holds_X left hY hYk hX hXk hdef hp hk hRf hwr k1 ok hb hw call
end Mine.PySem.W
open PySem PySem.W PyProof.Rows
namespace Mine
open_top hd for PySem.Challenge.rw_zo0026_01
end Mine
end
theorem Mine.topOff : True := by
  w_top off
  trivial
section
open PySem PySem.W PyProof.Rows
namespace Mine
/-- what the law's run finds, but for the statics -/
noncomputable def fr2 (p : Params) : Frag := (fun (l : Frag) (_ : ∃ c, Mine.hd.heap_39 p = c :: l) => l) _ ⟨_, by delta Mine.hd.heap_39; rfl⟩
theorem fr2_tail (p : Params) : Mine.fr2 p = (Mine.hd.heap_39 p).tail := by rfl
theorem fr2_2 (p : Params) : (Mine.fr2 p).lookup 2 = none := by rfl
theorem fillf : PySem.Challenge.rw_zo0026_01 = PySem.Challenge.rw_zo0026_01 ∧ Mine.fr2 = Mine.fr2 := by
  k_fill
  exact ⟨rfl, rfl⟩
theorem fr2_in {p : Params} {h : Heap} (X : (Mine.hd.heap_39 p).In h) : (Mine.fr2 p).In h := by
  intro a o ha
  by_cases e : a = 2
  · subst e; rw [fr2_2] at ha; cases ha
  · refine X a o ?_
    have hc : ∃ c, Mine.hd.heap_39 p = c :: Mine.fr2 p ∧ c.1 = 2 := ⟨_, rfl, rfl⟩
    obtain ⟨c, hc, h2⟩ := hc
    rw [hc, List.lookup_cons]
    have : (a == c.1) = false := by rw [h2]; simpa using e
    rw [this]; exact ha
end Mine
end
section
open PySem PySem.W PyProof.Rows PySem.Calls
namespace Mine
structure FdAt (K : Frag) (f : Addr) where
  {name : Str} {qual : Str} {params : Arguments} {body : List Stmt} {scope : Scope} {dV kV doc pm cdv ct oc : Value} {an od : Option Addr} {osl : Array (Option Value)}
  at_ : K.lookup f = some ⟨oc, od, .func (fnOf name qual params body scope dV kV doc pm an cdv ct), osl⟩
noncomputable def lawAt (p : Params) : FdAt (Mine.fr2 p) 201 := by
  refine' FdAt.mk ?h
  (case h => k_is)
noncomputable def lawB (p : Params) : List Stmt := (lawAt p).body
noncomputable def lawN (p : Params) : List (Str × NameKind) := (lawAt p).scope.names
theorem lawB_len (p : Params) : (lawB p).length = 20 := by rfl
end Mine
end
section
open PySem PySem.W PyProof.Rows
namespace Mine
open PySem.Spec PySem.Calls
theorem sub_nil {α : Type} {B : List α} : ∀ p ∈ ([] : List α), p ∈ B := fun _ h => nomatch h
theorem sub_cons {α : Type} {B : List α} {a : α} {r : List α} (h : a ∈ B) (t : ∀ p ∈ r, p ∈ B) : ∀ p ∈ a :: r, p ∈ B := List.forall_mem_cons.mpr ⟨h, t⟩
theorem sub_app {α : Type} {B l r : List α} (h : ∀ p ∈ l, p ∈ B) (t : ∀ p ∈ r, p ∈ B) : ∀ p ∈ l ++ r, p ∈ B := fun _ hp => (List.mem_append.mp hp).elim (h _) (t _)
theorem sub_of {α : Type} {A B : List α} {p : α} (h : p ∈ A) (t : ∀ q ∈ A, q ∈ B) : p ∈ B := t p h
noncomputable abbrev PP : Program := PySem.Challenge.rw_zo0026_01.row.prog
noncomputable abbrev L0 : List Str := [Str.ofString "insort_right", Str.ofString "bisect_right", Str.ofString "insort_left", Str.ofString "bisect_left", Str.ofString "IPV4_RE"]
noncomputable abbrev LL : List Str := looseW Mine.hd.view_39 L0 ++ List.map (fun x => x.name) (recsOf Mine.hd.view_39) ++ List.map (fun x => x.fst) (litsOf Mine.hd.view_39) ++ List.map (fun x => x.name) (clssOf Mine.hd.view_39 (looseW Mine.hd.view_39 L0))

section
variable {prog : Program} {w : World} {A : Around} {E : Value → Shared → Prop} {Q : Flow → Shared → Prop} {s : Shared} {env : Env} {h₀ : Heap} {L : Addr}
/-- how a while's turn ends -/
noncomputable def WlEnd {σ : Type} (h₀ : Heap) (L : Addr) (s : Shared) (mf : σ → Str → Option Value) (nf : σ → List (Addr × Obj)) (P : σ → Prop) (meas : σ → Nat) (c : σ) (s₃ : Shared) : Prop :=
  ∃ c' h' tk m' news', s₃ = { s with heap := h', toks := tk } ∧ Fr h₀ L h' m' ∧ News h₀ L h' news' ∧ (∀ y, m' y = mf c' y) ∧ (∀ p ∈ nf c', p ∈ news') ∧ P c' ∧ meas c' < meas c
noncomputable def WlPost {σ : Type} (h₀ : Heap) (L : Addr) (s : Shared) (mf : σ → Str → Option Value) (nf : σ → List (Addr × Obj)) (P : σ → Prop) (meas : σ → Nat) (Q : Flow → Shared → Prop) (c : σ) (f : Flow) (s₃ : Shared) : Prop :=
  match f with
  | .next => WlEnd h₀ L s mf nf P meas c s₃
  | .cont => WlEnd h₀ L s mf nf P meas c s₃
  | .brk => Q .next s₃
  | .ret v => Q (.ret v) s₃
theorem wl_end {σ : Type} {mf : σ → Str → Option Value} {nf : σ → List (Addr × Obj)} {P : σ → Prop} {meas : σ → Nat} {c : σ} (c' : σ) {h' : Heap} {tk : Nat} {m' : Str → Option Value} {news' : List (Addr × Obj)}
    (F : Fr h₀ L h' m') (N : News h₀ L h' news') (hm : ∀ y, m' y = mf c' y) (hn : ∀ p ∈ nf c', p ∈ news') (hp : P c') (hl : meas c' < meas c) : WlEnd h₀ L s mf nf P meas c { s with heap := h', toks := tk } :=
  ⟨c', h', tk, m', news', rfl, F, N, hm, hn, hp, hl⟩
theorem wl_rule {σ : Type} {test : Expr} {body : List Stmt} {pos : Pos} {m : Str → Option Value} {news : List (Addr × Obj)} (mf : σ → Str → Option Value) (nf : σ → List (Addr × Obj)) (P : σ → Prop) (meas : σ → Nat) (c₀ : σ)
    (F : Fr h₀ L s.heap m) (N : News h₀ L s.heap news) (hm : m = mf c₀) (hn : news = nf c₀) (hp : P c₀)
    (turn : ∀ c h tk, P c → Fr h₀ L h (mf c) → News h₀ L h (nf c) → wpAny (model prog w) A (isTrue test env (eval test env)) (fun b s₂ =>
        if b = true then wpAny (model prog w) A (execs body env) (WlPost h₀ L s mf nf P meas Q c) E s₂ else Q .next s₂) E { s with heap := h, toks := tk })
    (hE : PassesOwn (model prog w) A env E := by passes_own) :
    wpAny (model prog w) A (exec (.While test body [] pos) env) Q E s := by
  subst hm hn
  refine While_inv2 (fun n m nx => ∃ c : σ, nx = nf c ∧ m = mf c ∧ meas c = n ∧ P c) F N ⟨c₀, rfl, rfl, rfl, hp⟩ ?_ hE
  rintro n m₁ nx h tk F₁ N₁ ⟨c, rfl, rfl, rfl, hp'⟩
  refine wpAny_mono (turn c h tk hp' F₁ N₁) (fun b s₂ p => ?_) fun _ _ x => x
  cases b with
  | false => simpa using p
  | true =>
    simp only [if_true] at p ⊢
    refine wpAny_mono p (fun f s₃ q => ?_) fun _ _ x => x
    cases f with
    | ret v => exact q
    | brk => exact q
    | next =>
      obtain ⟨c', h', tk', m', news', rfl, F', N', hm', hn', hp9, hl⟩ := q
      have e : m' = mf c' := funext hm'
      exact ⟨h', tk', mf c', nf c', meas c', rfl, e ▸ F', fun p hp => N' p (hn' p hp), hl, c', rfl, rfl, rfl, hp9⟩
    | cont =>
      obtain ⟨c', h', tk', m', news', rfl, F', N', hm', hn', hp9, hl⟩ := q
      have e : m' = mf c' := funext hm'
      exact ⟨h', tk', mf c', nf c', meas c', rfl, e ▸ F', fun p hp => N' p (hn' p hp), hl, c', rfl, rfl, rfl, hp9⟩
end
end Mine
namespace Mine
/-- a caller's scope: any def's -/
noncomputable abbrev CS (nm : List (Str × NameKind)) (ig ic : Bool) (mo : List (Str × Const)) : Scope := { kind := .function, names := nm, isGenerator := ig, isCoroutine := ic, more := mo }
theorem sub_list {prog : Program} {w : World} {A : Around} {E : Value → Shared → Prop} {s : Shared} {h₀ : Heap} {L : Addr} {news : List (Addr × Obj)} {value slice : PySem.Expr} {l : Addr} {its : Array Value} {n : Nat} {k : Int} {u : Tok} {v : Value} {Q : Value → Shared → Prop}
    (N : News h₀ L s.heap news) (hm : (l, PySem.W.listOf its n) ∈ news) (hx : 0 ≤ k ∧ k < 2 ^ 62 ∧ its.toList[k.toNat]? = some v) (h : Q v s)
    (hs : subscripted slice false (.ref l) (.int k u) = operate [.ref l, .int k u] (getItem (.ref l) (.int k u)) := by with_unfolding_all rfl) :
    wpAny (model prog w) A (subscriptTail value slice (.ref l) (.int k u)) Q E s := by
  obtain ⟨vs, rfl⟩ : ∃ vs : List Value, its = vs.toArray := ⟨its.toList, by simp⟩
  have hl := PySem.IsL.isList (N _ hm).1
  exact tail_any hl.typeIs slot_list_getitem.lookup (wpAny_getItem_list hl hx.1 (by omega) (by simpa using hx.2.2) h) hs
end Mine
namespace Mine
theorem len_led {prog : Program} {w : World} {A : Around} {E : Value → Shared → Prop} {s : Shared} {h₀ : Heap} {L : Addr} {news : List (Addr × Obj)} {l : Addr} {its : Array Value} {n k : Nat} {Q : Value → Shared → Prop}
    (N : News h₀ L s.heap news) (hm : (l, PySem.W.listOf its n) ∈ news) (hk : its.toList.length = k ∧ k < 2 ^ 62)
    (h : Q (.int (k : Int) (s.toks + 1)) { s with toks := s.toks + 1 + 1 }) : wpAny (model prog w) A (call (.builtin "len") [.ref l]) Q E s := by
  have hl : s.heap.IsList l its := ⟨_, (N _ hm).1, rfl, n, rfl⟩
  have e2 : its.size = k := by rw [← hk.1]; simp
  exact len_list hl (by rw [e2]; omega) (by rw [e2]; exact h)
end Mine
end
local macro_rules | `(tactic| walk_at $s:str) => `(tactic| k_dflt (k_extra $s))
local macro_rules | `(tactic| k_all) => `(tactic| assumption)
local macro_rules | `(tactic| k_room) => `(tactic| ktr_room)
local macro_rules | `(tactic| k_units) => `(tactic| ktr_units)
local macro_rules | `(tactic| k_mem) => `(tactic| first | assumption | (with_reducible exact List.mem_cons_self) | (with_reducible refine List.mem_append_right _ ?_; k_mem) | (with_reducible refine List.mem_cons_of_mem _ ?_; k_mem) | (with_reducible refine List.mem_append_left _ ?_; k_mem))
section
open PySem PySem.W PyProof.Rows
namespace Mine
open PySem.Spec PySem.Calls
/-- a frame's map: what is known of it, and the rest -/
noncomputable def frV : List (Str × Value) → (Str → Option Value) → Str → Option Value
  | [], u => u
  | (k, v) :: r, u => fun y => if y = k then some v else frV r u y
theorem frV_eq {m : Str → Option Value} : ∀ {vs : List (Str × Value)}, (∀ p ∈ vs, m p.1 = some p.2) → m = frV vs m
  | [], _ => rfl
  | (k, v) :: r, h => by
    funext y
    show m y = if y = k then some v else frV r m y
    rw [← frV_eq fun q hq => h q (List.mem_cons_of_mem _ hq)]
    by_cases e : y = k
    · subst e
      rw [if_pos rfl]
      exact h (y, v) List.mem_cons_self
    · rw [if_neg e]
theorem frV_cons (k : Str) (v : Value) (r : List (Str × Value)) (u : Str → Option Value) : frV ((k, v) :: r) u = fun y => if y = k then some v else frV r u y := rfl
theorem frV_nil (u : Str → Option Value) : frV [] u = u := rfl
/-- the names of a frame, one by one -/
noncomputable def HV (m : Str → Option Value) (V : List (Str × Value)) : Prop := ∀ p ∈ V, m p.1 = some p.2
theorem hv_nil {m : Str → Option Value} : HV m [] := fun _ h => nomatch h
theorem hv_cons {m : Str → Option Value} {k : Str} {v : Value} {r : List (Str × Value)} (h : m k = some v) (t : HV m r) : HV m ((k, v) :: r) := List.forall_mem_cons.mpr ⟨h, t⟩
theorem hv_of {h₀ h : Heap} {L : Addr} {m : Str → Option Value} (_F : Fr h₀ L h m) {V : List (Str × Value)} (q : HV m V) : ∀ p ∈ V, m p.1 = some p.2 := q
/-- the end of a piece of the walk, hidden behind a name (the goals and the proof stay small) -/
theorem wpAny_gen {α : Type} {M : Model} {A : Around} {t : Sem α} {Q : α → Shared → Prop} {E : Value → Shared → Prop} {s : Shared} (h : ∀ G : α → Shared → Prop, (∀ a s, Q a s → G a s) → wpAny M A t G E s) : wpAny M A t Q E s := h Q fun _ _ x => x
theorem wpAny_genW {M : Model} {A : Around} {t : Sem Bool} {t2 : Sem Flow} {Q : Flow → Shared → Prop} {R : Shared → Prop} {E : Value → Shared → Prop} {s : Shared} (h : ∀ G : Flow → Shared → Prop, (∀ f s, Q f s → G f s) → wpAny M A t (fun b s₂ => if b = true then wpAny M A t2 G E s₂ else R s₂) E s) :
    wpAny M A t (fun b s₂ => if b = true then wpAny M A t2 Q E s₂ else R s₂) E s := h Q fun _ _ x => x
section
variable {prog : Program} {w : World} {A : Around} {E : Value → Shared → Prop} {Q : Flow → Shared → Prop} {s : Shared} {env : Env} {h₀ : Heap} {L : Addr}
/-- an iterator, as far as it is known: of that class, an int at its second place -/
noncomputable def IterO (icls : String) (o : Obj) : Prop := o.cls = .type icls ∧ ∃ vs x t, o.data = .fields vs ∧ vs[1]? = some (.int x t)
noncomputable def W2End {σ : Type} (h₀ : Heap) (L : Addr) (s : Shared) (vals : σ → List (Str × Value)) (nf : σ → List (Addr × Obj)) (P : σ → Prop) (meas : σ → Nat) (c : σ) (s₃ : Shared) : Prop :=
  ∃ c' h' tk m' news', s₃ = { s with heap := h', toks := tk } ∧ Fr h₀ L h' m' ∧ News h₀ L h' news' ∧ (∀ p ∈ vals c', m' p.1 = some p.2) ∧ (∀ p ∈ nf c', p ∈ news') ∧ P c' ∧ meas c' < meas c
noncomputable def W2Post {σ : Type} (h₀ : Heap) (L : Addr) (s : Shared) (vals : σ → List (Str × Value)) (nf : σ → List (Addr × Obj)) (P : σ → Prop) (meas : σ → Nat) (Q : Flow → Shared → Prop) (c : σ) (f : Flow) (s₃ : Shared) : Prop :=
  match f with
  | .next => W2End h₀ L s vals nf P meas c s₃
  | .cont => W2End h₀ L s vals nf P meas c s₃
  | .brk => Q .next s₃
  | .ret v => Q (.ret v) s₃
theorem w2_end {σ : Type} {vals : σ → List (Str × Value)} {nf : σ → List (Addr × Obj)} {P : σ → Prop} {meas : σ → Nat} {c : σ} (c' : σ) {h' : Heap} {tk : Nat} {m' : Str → Option Value} {news' : List (Addr × Obj)}
    (F : Fr h₀ L h' m') (N : News h₀ L h' news') (hm : ∀ p ∈ vals c', m' p.1 = some p.2) (hn : ∀ p ∈ nf c', p ∈ news') (hp : P c') (hl : meas c' < meas c) : W2End h₀ L s vals nf P meas c { s with heap := h', toks := tk } :=
  ⟨c', h', tk, m', news', rfl, F, N, hm, hn, hp, hl⟩
/-- a while, by what holds between its turns: vals the names that are known, nf the ledger -/
theorem w2_rule {σ : Type} {test : Expr} {body : List Stmt} {pos : Pos} {m : Str → Option Value} {news : List (Addr × Obj)} (vals : σ → List (Str × Value)) (nf : σ → List (Addr × Obj)) (P : σ → Prop) (meas : σ → Nat) (c₀ : σ)
    (F : Fr h₀ L s.heap m) (N : News h₀ L s.heap news) (hm : ∀ p ∈ vals c₀, m p.1 = some p.2) (hn : ∀ p ∈ nf c₀, p ∈ news) (hp : P c₀)
    (turn : ∀ c h tk u, P c → Fr h₀ L h (frV (vals c) u) → News h₀ L h (nf c) → wpAny (model prog w) A (isTrue test env (eval test env)) (fun b s₂ =>
        if b = true then wpAny (model prog w) A (execs body env) (W2Post h₀ L s vals nf P meas Q c) E s₂ else Q .next s₂) E { s with heap := h, toks := tk })
    (hE : PassesOwn (model prog w) A env E := by passes_own) :
    wpAny (model prog w) A (exec (.While test body [] pos) env) Q E s := by
  refine While_inv2 (fun n m nx => ∃ c : σ, nx = nf c ∧ (∀ p ∈ vals c, m p.1 = some p.2) ∧ meas c = n ∧ P c) F (fun p hq => N p (hn p hq)) ⟨c₀, rfl, hm, rfl, hp⟩ ?_ hE
  rintro n m₁ nx h tk F₁ N₁ ⟨c, rfl, hm', rfl, hp'⟩
  rw [frV_eq hm'] at F₁
  refine wpAny_mono (turn c h tk m₁ hp' F₁ N₁) (fun b s₂ p => ?_) fun _ _ x => x
  cases b with
  | false => simpa using p
  | true =>
    simp only [if_true] at p ⊢
    refine wpAny_mono p (fun f s₃ q => ?_) fun _ _ x => x
    cases f with
    | ret v => exact q
    | brk => exact q
    | next =>
      obtain ⟨c', h', tk', m', news', rfl, F', N', hm', hn', hp9, hl⟩ := q
      exact ⟨h', tk', m', nf c', meas c', rfl, F', fun p hp => N' p (hn' p hp), hl, c', rfl, hm', rfl, hp9⟩
    | cont =>
      obtain ⟨c', h', tk', m', news', rfl, F', N', hm', hn', hp9, hl⟩ := q
      exact ⟨h', tk', m', nf c', meas c', rfl, F', fun p hp => N' p (hn' p hp), hl, c', rfl, hm', rfl, hp9⟩
noncomputable def F2End {σ : Type} (h₀ : Heap) (L : Addr) (s : Shared) (vals : σ → List (Str × Value)) (vf : σ → List (Addr × Obj)) (fix : List (Addr × Obj)) (icls : String) (P : Nat → σ → Prop) (i : Nat) (own : List (Addr × Obj)) (s₃ : Shared) : Prop :=
  ∃ c' h' tk m' news', s₃ = { s with heap := h', toks := tk } ∧ Fr h₀ L h' m' ∧ News h₀ L h' news' ∧ (∀ p ∈ vals c', m' p.1 = some p.2) ∧ (∀ p ∈ own ++ (vf c' ++ fix), p ∈ news') ∧ (∀ p ∈ vf c', ¬ IterO icls p.2) ∧ P (i + 1) c'
noncomputable def F2Post {σ : Type} (h₀ : Heap) (L : Addr) (s : Shared) (vals : σ → List (Str × Value)) (vf : σ → List (Addr × Obj)) (fix : List (Addr × Obj)) (icls : String) (P : Nat → σ → Prop) (Q : Flow → Shared → Prop) (i : Nat) (own : List (Addr × Obj)) (f : Flow) (s₃ : Shared) : Prop :=
  match f with
  | .next => F2End h₀ L s vals vf fix icls P i own s₃
  | .cont => F2End h₀ L s vals vf fix icls P i own s₃
  | .brk => Q .next s₃
  | .ret v => Q (.ret v) s₃
theorem f2_end {σ : Type} {vals : σ → List (Str × Value)} {vf : σ → List (Addr × Obj)} {fix own : List (Addr × Obj)} {icls : String} {P : Nat → σ → Prop} {i : Nat} (c' : σ) {h' : Heap} {tk : Nat} {m' : Str → Option Value} {news' : List (Addr × Obj)}
    (F : Fr h₀ L h' m') (N : News h₀ L h' news') (hm : ∀ p ∈ vals c', m' p.1 = some p.2) (hn : ∀ p ∈ own ++ (vf c' ++ fix), p ∈ news') (hc : ∀ p ∈ vf c', ¬ IterO icls p.2) (hp : P (i + 1) c') : F2End h₀ L s vals vf fix icls P i own { s with heap := h', toks := tk } :=
  ⟨c', h', tk, m', news', rfl, F, N, hm, hn, hc, hp⟩
/-- a for over any iterator whose class no object of the turning ledger has -/
theorem f2_loop {σ : Type} {x : Str} {body : List Stmt} {I : Addr} {fp : List Addr} {n : Nat} {Pv : Nat → Value → Prop} {St : Nat → Heap → Prop} {m : Str → Option Value} {news : List (Addr × Obj)} (vals : σ → List (Str × Value)) (vf : σ → List (Addr × Obj)) (fix : List (Addr × Obj)) (icls : String) (P : Nat → σ → Prop) (c₀ : σ)
    (W : Walks prog w A I fp [I] n Pv St) (hcls : ∀ i h, St i h → ∃ o, h.get? I = some o ∧ IterO icls o)
    (hLf : env.locals ∉ fp) (hI0 : h₀.get? I = none) (hfix : ∀ p ∈ fix, p.1 ≠ I) (hst : St 0 s.heap)
    (F : Fr h₀ env.locals s.heap m) (N : News h₀ env.locals s.heap news) (hm : ∀ p ∈ vals c₀, m p.1 = some p.2) (hn : ∀ p ∈ vf c₀ ++ fix, p ∈ news) (hc : ∀ p ∈ vf c₀, ¬ IterO icls p.2) (hp : P 0 c₀)
    (turn : ∀ i v c h tk u own, i < n → Pv i v → P i c → (∀ p ∈ vf c, ¬ IterO icls p.2) → (∀ p ∈ own, p.1 ∈ fp) → (∃ o, (I, o) ∈ own) → Fr h₀ env.locals h (fun y => if y = x then some v else frV (vals c) u y) → News h₀ env.locals h (own ++ (vf c ++ fix)) →
      wpAny (model prog w) A (execs body env) (F2Post h₀ env.locals { s with heap := h, toks := tk } vals vf fix icls P Q i own) E { s with heap := h, toks := tk })
    (done : ∀ c h tk u, P n c → Fr h₀ env.locals h (frV (vals c) u) → News h₀ env.locals h (vf c ++ fix) → Q .next { s with heap := h, toks := tk }) :
    LoopAtV prog w A h₀ env x body Q E (.ref I) s := by
  have off : ∀ (h : Heap) (c : σ), (∀ p ∈ vf c, ¬ IterO icls p.2) → (∃ o, h.get? I = some o ∧ IterO icls o) → News h₀ env.locals h (vf c ++ fix) → ∀ p ∈ vf c ++ fix, p.1 ∉ [I] := by
    rintro h c hc ⟨o, ho, hcl⟩ N p hp hq
    rw [List.mem_singleton] at hq
    rcases List.mem_append.mp hp with hv | hf
    · have := (N p hp).1
      rw [hq, ho] at this
      exact hc p hv (by rw [← Option.some.inj this]; exact hcl)
    · exact hfix p hf hq
  refine ⟨I, fp, [I], n, Pv, St, m, vf c₀ ++ fix, fun i m nx => ∃ c, nx = vf c ++ fix ∧ (∀ p ∈ vals c, m p.1 = some p.2) ∧ (∀ p ∈ vf c, ¬ IterO icls p.2) ∧ P i c, rfl, W, hLf, ?_, ?_, hst, F, fun p hq => N p (hn p hq), ⟨c₀, rfl, hm, hc, hp⟩, ?_, ?_⟩
  · intro b hb; rw [List.mem_singleton.mp hb]; exact hI0
  · exact off s.heap c₀ hc (hcls 0 _ hst) fun p hq => N p (hn p hq)
  · rintro i v m₁ nx s₁ own ⟨h, tk, rfl⟩ hi hv ⟨c, rfl, hm', hc', hp'⟩ hoff hown _ hfr hst' F₁ N₁
    rw [frV_eq hm'] at F₁
    have hN := turn i v c h tk m₁ own hi hv hp' hc' hown (by obtain ⟨o, ho, _⟩ := hcls _ _ hst'; exact ⟨o, hfr I (W.sub I (by simp)) hI0 o ho⟩) F₁ N₁
    refine wpAny_mono hN (fun f s₃ q => ?_) fun _ _ e => e
    have fin : F2End h₀ env.locals { s with heap := h, toks := tk } vals vf fix icls P i own s₃ → LoopStepU h₀ env.locals [I] own (fun m nx => ∃ c, nx = vf c ++ fix ∧ (∀ p ∈ vals c, m p.1 = some p.2) ∧ (∀ p ∈ vf c, ¬ IterO icls p.2) ∧ P (i + 1) c) { s with heap := h, toks := tk } .next s₃ := by
      rintro ⟨c', h', tk', m', news', rfl, F', N', hm2, hn2, hc2, hp2⟩
      have N2 : News h₀ env.locals h' (own ++ (vf c' ++ fix)) := fun p hp => N' p (hn2 p hp)
      refine ⟨rfl, h', tk', m', vf c' ++ fix, rfl, F', N2, ?_, c', rfl, hm2, hc2, hp2⟩
      -- the iterator still stands: it is of own
      have hIo : ∃ o, h'.get? I = some o ∧ IterO icls o := by
        obtain ⟨o, ho, hcl⟩ := hcls _ _ hst'
        exact ⟨o, (N2 (I, o) (List.mem_append_left _ (hfr I (W.sub I (by simp)) hI0 o ho))).1, hcl⟩
      exact off h' c' hc2 hIo (fun p hp => N2 p (List.mem_append_right _ hp))
    cases f with
    | ret v => exact .ret q
    | brk => exact .brk q
    | next => exact .next (fin q)
    | cont => exact .cont (fin q)
  · rintro h' tk m' nx F' N' _ ⟨c, rfl, hm', _, hp'⟩
    rw [frV_eq hm'] at F'
    exact done c h' tk m' hp' F' N'

theorem f2_bytes {σ : Type} {x : Str} {body : List Stmt} {b : Array UInt8} {tb : Tok} {m : Str → Option Value} {news : List (Addr × Obj)} (vals : σ → List (Str × Value)) (vf : σ → List (Addr × Obj)) (fix : List (Addr × Obj)) (P : Nat → σ → Prop) (c₀ : σ)
    (hh : A.handled = none) (F : Fr h₀ env.locals s.heap m) (N : News h₀ env.locals s.heap news) (hm : ∀ p ∈ vals c₀, m p.1 = some p.2) (hn : ∀ p ∈ vf c₀ ++ fix, p ∈ news) (hc : ∀ p ∈ vf c₀, ¬ IterO "bytes_iterator" p.2) (hp : P 0 c₀)
    (turn : ∀ i n t c h tk u own, b[i]? = some n → P i c → (∀ p ∈ vf c, ¬ IterO "bytes_iterator" p.2) → (∀ p ∈ own, s.heap.objs.size ≤ p.1) → Fr h₀ env.locals h (fun y => if y = x then some (.int (n.toNat : Int) t) else frV (vals c) u y) → News h₀ env.locals h (own ++ (vf c ++ fix)) →
      wpAny (model prog w) A (execs body env) (F2Post h₀ env.locals { s with heap := h, toks := tk } vals vf fix "bytes_iterator" P Q i own) E { s with heap := h, toks := tk })
    (done : ∀ c h tk u, P b.size c → Fr h₀ env.locals h (frV (vals c) u) → News h₀ env.locals h (vf c ++ fix) → Q .next { s with heap := h, toks := tk }) :
    wpAny (model prog w) A (pyIter (.bytes b tb)) (fun it s₂ => LoopAtV prog w A h₀ env x body Q E it s₂) E s := by
  refine KBw.pyIter_bytes ?_
  have W := KBw.walks (prog := prog) (w := w) hh s.heap.objs.size b tb
  refine f2_loop vals vf fix "bytes_iterator" P c₀ W (fun i h st => by obtain ⟨o, ho, hc, hd⟩ := st; exact ⟨o, ho, hc, _, _, _, hd, rfl⟩) ?_ (next_is_new F) ?_ ⟨_, Heap.get?_push_size _ rfl, rfl, rfl⟩ (F.push _) (fun p hp => ⟨Heap.get?_push_of_some _ (N p hp).1, (N p hp).2⟩) hm hn hc hp ?_ ?_
  · intro hm
    exact absurd F.ns.lt ((List.mem_singleton.mp hm) ▸ Nat.lt_irrefl _)
  · intro p hp
    exact Nat.ne_of_lt (Heap.lt_size (N p (hn p (List.mem_append_right _ hp))).1)
  · rintro i v c h tk u own hi ⟨n, t, hb, rfl⟩ hP hc' hof _ F₁ N₁
    exact turn i n t c h tk u own hb hP hc' (fun p hp => Nat.le_of_eq (List.mem_singleton.mp (hof p hp)).symm) F₁ N₁
  · intro c h tk u hP F' N'
    exact done c h tk u hP F' N'
theorem f2_list {σ : Type} {x : Str} {body : List Stmt} {l : Addr} {its : Array Value} {nl : Nat} {m : Str → Option Value} {news : List (Addr × Obj)} (vals : σ → List (Str × Value)) (vf : σ → List (Addr × Obj)) (fix : List (Addr × Obj)) (P : Nat → σ → Prop) (c₀ : σ)
    (hh : A.handled = none) (F : Fr h₀ env.locals s.heap m) (N : News h₀ env.locals s.heap news) (hl : (l, PySem.W.listOf its nl) ∈ fix) (hm : ∀ p ∈ vals c₀, m p.1 = some p.2) (hn : ∀ p ∈ vf c₀ ++ fix, p ∈ news) (hc : ∀ p ∈ vf c₀, ¬ IterO "list_iterator" p.2) (hp : P 0 c₀)
    (turn : ∀ i v c h tk u own, its.toList[i]? = some v → P i c → (∀ p ∈ vf c, ¬ IterO "list_iterator" p.2) → Fr h₀ env.locals h (fun y => if y = x then some v else frV (vals c) u y) → News h₀ env.locals h (own ++ (vf c ++ fix)) →
      wpAny (model prog w) A (execs body env) (F2Post h₀ env.locals { s with heap := h, toks := tk } vals vf fix "list_iterator" P Q i own) E { s with heap := h, toks := tk })
    (done : ∀ c h tk u, P its.toList.length c → Fr h₀ env.locals h (frV (vals c) u) → News h₀ env.locals h (vf c ++ fix) → Q .next { s with heap := h, toks := tk }) :
    wpAny (model prog w) A (pyIter (.ref l)) (fun it s₂ => LoopAtV prog w A h₀ env x body Q E it s₂) E s := by
  have hnl := N _ (hn _ (List.mem_append_right _ hl))
  have hls : s.heap.IsList l its := ⟨_, hnl.1, rfl, nl, rfl⟩
  have hlt : l < s.heap.objs.size := Heap.lt_size hnl.1
  refine wpAny_pyIter_list hls ?_
  have W := Walks.list (prog := prog) (w := w) hh s.heap.objs.size l (Nat.ne_of_lt hlt) its
  refine f2_loop vals vf fix "list_iterator" P c₀ W (fun i h st => by obtain ⟨⟨o, ho, hc, hd⟩, _⟩ := st; exact ⟨o, ho, hc, _, _, _, hd, rfl⟩) ?_ (next_is_new F) ?_ ⟨⟨_, Heap.get?_push_size _ rfl, rfl, rfl⟩, hls.at fun o e => Heap.get?_push_of_some _ e⟩ (F.push _) (fun p hp => ⟨Heap.get?_push_of_some _ (N p hp).1, (N p hp).2⟩) hm hn hc hp ?_ ?_
  · intro hm
    rcases List.mem_cons.mp hm with e | e
    · exact absurd F.ns.lt (e ▸ Nat.lt_irrefl _)
    · exact hnl.2.1 (List.mem_singleton.mp e).symm
  · intro p hp
    exact Nat.ne_of_lt (Heap.lt_size (N p (hn p (List.mem_append_right _ hp))).1)
  · rintro i v c h tk u own hi hv hP hc' _ _ F₁ N₁
    exact turn i v c h tk u own (by simpa using hv) hP hc' F₁ N₁
  · intro c h tk u hP F' N'
    exact done c h tk u (by simpa using hP) F' N'
theorem f2_range {σ : Type} {x : Str} {body : List Stmt} {r : Addr} {a e st : Int} {t1 t2 t3 : Tok} {nn : Nat} {m : Str → Option Value} {news : List (Addr × Obj)} (vals : σ → List (Str × Value)) (vf : σ → List (Addr × Obj)) (fix : List (Addr × Obj)) (P : Nat → σ → Prop) (c₀ : σ)
    (hh : A.handled = none) (F : Fr h₀ env.locals s.heap m) (N : News h₀ env.locals s.heap news) (hr : IsRange s.heap r a e st t1 t2 t3) (hsm : Builtin.Range.small a e st = true) (hsz : Builtin.Range.rangeSize a e st = ((nn : Nat) : Int)) (hm : ∀ p ∈ vals c₀, m p.1 = some p.2) (hn : ∀ p ∈ vf c₀ ++ fix, p ∈ news) (hc : ∀ p ∈ vf c₀, ¬ IterO "range_iterator" p.2) (hp : P 0 c₀)
    (turn : ∀ (i : Nat) t c h tk u own, i < nn → P i c → (∀ p ∈ vf c, ¬ IterO "range_iterator" p.2) → (∀ p ∈ own, p.1 = s.heap.objs.size) → (∃ o, (s.heap.objs.size, o) ∈ own) → Fr h₀ env.locals h (fun y => if y = x then some (.int (a + i * st) t) else frV (vals c) u y) → News h₀ env.locals h (own ++ (vf c ++ fix)) →
      wpAny (model prog w) A (execs body env) (F2Post h₀ env.locals { s with heap := h, toks := tk } vals vf fix "range_iterator" P Q i own) E { s with heap := h, toks := tk })
    (done : ∀ c h tk u, P nn c → Fr h₀ env.locals h (frV (vals c) u) → News h₀ env.locals h (vf c ++ fix) → Q .next { s with heap := h, toks := tk }) :
    wpAny (model prog w) A (pyIter (.ref r)) (fun it s₂ => LoopAtV prog w A h₀ env x body Q E it s₂) E s := by
  refine wpAny_pyIter_range hr hsm ?_
  rw [hsz]
  have W := Walks.range (prog := prog) (w := w) hh s.heap.objs.size a st nn
  refine f2_loop vals vf fix "range_iterator" P c₀ W (fun i h q => ⟨_, q, rfl, _, _, _, rfl, rfl⟩) ?_ (next_is_new F) ?_ (by show IsRangeIter _ _ _ _ _; simpa [IsRangeIter] using Heap.get?_push_size _ rfl) (F.push _) (fun p hp => ⟨Heap.get?_push_of_some _ (N p hp).1, (N p hp).2⟩) hm hn hc hp ?_ ?_
  · intro hm
    exact absurd F.ns.lt ((List.mem_singleton.mp hm) ▸ Nat.lt_irrefl _)
  · intro p hp
    exact Nat.ne_of_lt (Heap.lt_size (N p (hn p (List.mem_append_right _ hp))).1)
  · rintro i v c h tk u own hi ⟨t, rfl⟩ hP hc' hof hex F₁ N₁
    exact turn i t c h tk u own hi hP hc' (fun p hp => List.mem_singleton.mp (hof p hp)) hex F₁ N₁
  · intro c h tk u hP F' N'
    exact done c h tk u hP F' N'
end
end Mine
end
section
open PySem PySem.W PyProof.Rows
namespace Mine
open PySem.Spec PySem.Calls
section
variable {prog : Program} {w : World} {A : Around} {Q : Flow → Shared → Prop} {s : Shared} {env : Env} {h₀ : Heap} {L : Addr}
/-- a for, where the claim's caller is known; by what holds between its turns -/
theorem N_for2 {σ : Type} {target : Expr} {body : List Stmt} {I : Addr} {fp : List Addr} {n : Nat} {Pv : Nat → Value → Prop} {St : Nat → Heap → Prop} {m : Str → Option Value} {news : List (Addr × Obj)} (vals : σ → List (Str × Value)) (vf : σ → List (Addr × Obj)) (fix : List (Addr × Obj)) (icls : String) (P : Nat → σ → Prop) (c₀ : σ)
    (W : Walks prog w A I fp [I] n Pv St) (hcls : ∀ i h, St i h → ∃ o, h.get? I = some o ∧ IterO icls o)
    (hLf : L ∉ fp) (hI0 : h₀.get? I = none) (hfix : ∀ p ∈ fix, p.1 ≠ I) (hst : St 0 s.heap)
    (F : Fr h₀ L s.heap m) (N : News h₀ L s.heap news) (hm : ∀ p ∈ vals c₀, m p.1 = some p.2) (hn : ∀ p ∈ vf c₀ ++ fix, p ∈ news) (hc : ∀ p ∈ vf c₀, ¬ IterO icls p.2) (hp : P 0 c₀)
    (turn : ∀ i v c h tk u own, i < n → Pv i v → P i c → (∀ p ∈ vf c, ¬ IterO icls p.2) → (∀ p ∈ own, p.1 ∈ fp) → Fr h₀ L h (frV (vals c) u) → News h₀ L h (own ++ (vf c ++ fix)) →
      wpAny (model prog w) A (assign target env v) (fun _ s₂ => wpN (model prog w) A (execs body env) (F2Post h₀ L { s with heap := h, toks := tk } vals vf fix icls P Q i own) s₂) (fun _ _ => False) { s with heap := h, toks := tk })
    (done : ∀ c h tk u, P n c → Fr h₀ L h (frV (vals c) u) → News h₀ L h (vf c ++ fix) → Q .next { s with heap := h, toks := tk })
    (ht : ∀ v, letOwnedTupleGo target (.ref I) v = pure () := by intro _; rfl) :
    codeN (model prog w) A (.forLoop target (.ref I) body [] env) Q s := by
  have hLI : L ∉ [I] := fun h => hLf (W.sub L h)
  have old : ∀ b o, h₀.get? b = some o → b ∉ [I] := fun b o e hb => by rw [List.mem_singleton.mp hb, hI0] at e; cases e
  have off : ∀ (h : Heap) (c : σ), (∀ p ∈ vf c, ¬ IterO icls p.2) → (∃ o, h.get? I = some o ∧ IterO icls o) → News h₀ L h (vf c ++ fix) → ∀ p ∈ vf c ++ fix, p.1 ∉ [I] := by
    rintro h c hc ⟨o, ho, hcl⟩ N p hp hq
    rw [List.mem_singleton] at hq
    rcases List.mem_append.mp hp with hv | hf
    · have := (N p hp).1
      rw [hq, ho] at this
      exact hc p hv (by rw [← Option.some.inj this]; exact hcl)
    · exact hfix p hf hq
  refine codeN_forLoop (fun k s' => ∃ h' tk i c u, s' = { s with heap := h', toks := tk } ∧ St i h' ∧ Fr h₀ L h' (frV (vals c) u) ∧ News h₀ L h' (vf c ++ fix) ∧ (∀ p ∈ vf c, ¬ IterO icls p.2) ∧ P i c ∧ i ≤ n ∧ k = n + 1 - i) ?_ (n + 1)
    ⟨s.heap, s.toks, 0, c₀, m, rfl, hst, frV_eq hm ▸ F, fun q hq => N q (hn q hq), hc, hp, Nat.zero_le _, rfl⟩ ht
  rintro k s' ⟨h', tk, i, c, u, rfl, hst', F', N', hc', hP', hi, rfl⟩
  have hoff := off h' c hc' (hcls _ _ hst') N'
  have next : ∀ h₁ : Heap, (∀ b o, b ∉ [I] → h'.get? b = some o → h₁.get? b = some o) → Fr h₀ L h₁ (frV (vals c) u) ∧ News h₀ L h₁ (vf c ++ fix) := fun h₁ hk₁ =>
    ⟨⟨F'.ns.at' fun o e => hk₁ _ o hLI e, fun b o e => hk₁ b o (old b o e) (F'.keep b o e), F'.above⟩, fun p hp => ⟨hk₁ _ _ (hoff p hp) (N' p hp).1, (N' p hp).2⟩⟩
  by_cases hlt : i < n
  · refine W.item i _ _ _ hlt hst' fun v h₁ tk₁ hPv hst₁ hk₁ => ?_
    obtain ⟨F₁, N₁⟩ := next h₁ hk₁
    have hown : ∀ p ∈ ownOf h₀ fp h₁, p.1 ∈ fp := fun p hp => by
      obtain ⟨b, hb, e⟩ := List.mem_filterMap.mp hp
      split at e
      · obtain ⟨o, _, e2⟩ := Option.map_eq_some_iff.mp e
        rw [← e2]; exact hb
      · cases e
    refine wpAny_mono (turn i v c h₁ tk₁ u (ownOf h₀ fp h₁) hlt hPv hP' hc' hown F₁ ((news_ownOf hLf).append N₁)) (fun _ s₂ h₂ => N_mono h₂ (fun f s₃ q => ?_)) fun _ _ e => e
    have fin : F2End h₀ L { s with heap := h₁, toks := tk₁ } vals vf fix icls P i (ownOf h₀ fp h₁) s₃ → ∃ m, m < n + 1 - i ∧ ∃ h' tk i c u, s₃ = { s with heap := h', toks := tk } ∧ St i h' ∧ Fr h₀ L h' (frV (vals c) u) ∧ News h₀ L h' (vf c ++ fix) ∧ (∀ p ∈ vf c, ¬ IterO icls p.2) ∧ P i c ∧ i ≤ n ∧ m = n + 1 - i := by
      rintro ⟨c', h3, tk3, m3, news3, rfl, F3, N3, hm3, hn3, hc3, hp3⟩
      have N4 : News h₀ L h3 (ownOf h₀ fp h₁ ++ (vf c' ++ fix)) := fun p hp => N3 p (hn3 p hp)
      refine ⟨n + 1 - (i + 1), by omega, h3, tk3, i + 1, c', m3, rfl, ?_, frV_eq hm3 ▸ F3, fun p hp => N4 p (List.mem_append_right _ hp), hc3, hp3, hlt, rfl⟩
      refine W.frame _ _ _ hst₁ fun b hb o e => ?_
      cases hn : h₀.get? b with
      | some o₀ =>
        have : o₀ = o := by have := F₁.keep b o₀ hn; rw [e] at this; exact (Option.some.inj this).symm
        exact this ▸ F3.keep b o₀ hn
      | none => exact (N4 _ (List.mem_append_left _ (mem_ownOf hb hn e))).1
    cases f with
    | ret v => exact q
    | brk => exact q
    | next => exact fin q
    | cont => exact fin q
  · have hin : i = n := by omega
    subst hin
    refine W.done _ _ _ hst' fun h₁ tk₁ hk₁ => ?_
    obtain ⟨F₁, N₁⟩ := next h₁ hk₁
    exact done c h₁ tk₁ u hP' F₁ N₁
end
end Mine
end
section
open PySem PySem.W PyProof.Rows
namespace Mine
open PySem.Spec PySem.Calls
section
variable {w : World} {mean : ExcName → Option Value} {mg mb : Str → Option Value} {dp un : Nat} {gd : Option (List Code)} {cn : Str} {nm : List (Str × NameKind)} {ig ic : Bool} {mo : List (Str × Const)} {a : Addr} {ccd : Value} {cl : List (Str × Addr)} {outer : List Env} {A₀ : Around} {base h₀ : Heap} {L : Addr} {m : Str → Option Value} {s : Shared} {Q E : Value → Shared → Prop} {news : List (Addr × Obj)}
theorem mid_b {lo hi : Int} (h : lo < hi) : lo ≤ Int.fdiv (lo + hi) 2 ∧ Int.fdiv (lo + hi) 2 < hi := by
  rw [Int.fdiv_eq_ediv_of_nonneg _ (by omega)]
  omega
theorem item_mid {its : Array Value} {V : Int → Value} {len : Nat} {lo hi : Int} (hI : ∀ i : Int, 0 ≤ i → i < len → its.toList[i.toNat]? = some (V i)) (h20 : len < 20) (h0 : 0 ≤ lo) (hh : hi ≤ len) (h : lo < hi) :
    0 ≤ Int.fdiv (lo + hi) 2 ∧ Int.fdiv (lo + hi) 2 < 2 ^ 62 ∧ its.toList[(Int.fdiv (lo + hi) 2).toNat]? = some (V (Int.fdiv (lo + hi) 2)) := by
  have := mid_b h
  exact ⟨by omega, by omega, hI _ (by omega) (by omega)⟩
theorem bl_lo {P : Int → Prop} {len r : Nat} {lo hi : Int} (hS : ∀ i : Int, 0 ≤ i → i < len → (P i ↔ i < r)) (h0 : 0 ≤ lo) (h1 : lo ≤ r) (h2 : r ≤ hi) (h3 : hi ≤ len) (h : lo < hi) (hc : P (Int.fdiv (lo + hi) 2)) :
    0 ≤ Int.fdiv (lo + hi) 2 + 1 ∧ Int.fdiv (lo + hi) 2 + 1 ≤ r ∧ (r : Int) ≤ hi ∧ hi ≤ len := by
  have hb := mid_b h
  have := (hS _ (by omega) (by omega)).mp hc
  omega
theorem bl_hi {P : Int → Prop} {len r : Nat} {lo hi : Int} (hS : ∀ i : Int, 0 ≤ i → i < len → (P i ↔ i < r)) (h0 : 0 ≤ lo) (h1 : lo ≤ r) (h2 : r ≤ hi) (h3 : hi ≤ len) (h : lo < hi) (hc : ¬ P (Int.fdiv (lo + hi) 2)) :
    0 ≤ lo ∧ lo ≤ r ∧ (r : Int) ≤ Int.fdiv (lo + hi) 2 ∧ Int.fdiv (lo + hi) 2 ≤ len := by
  have hb := mid_b h
  have : ¬ (Int.fdiv (lo + hi) 2 < r) := fun q => hc ((hS _ (by omega) (by omega)).mpr q)
  omega
theorem bl_mlo {lo hi : Int} (h : lo < hi) : (hi - (Int.fdiv (lo + hi) 2 + 1)).toNat < (hi - lo).toNat := by
  have hb := mid_b h
  omega
theorem bl_mhi {lo hi : Int} (h : lo < hi) : (Int.fdiv (lo + hi) 2 - lo).toNat < (hi - lo).toNat := by
  have hb := mid_b h
  omega
theorem bl_start {r len : Nat} (hr : r ≤ len) : (0 : Int) ≤ 0 ∧ (0 : Int) ≤ r ∧ (r : Int) ≤ len ∧ (len : Int) ≤ len := by omega
theorem ret_int {h₀ h' : Heap} {L : Addr} {m : Str → Option Value} {news : List (Addr × Obj)} {s : Shared} {Q : Value → Shared → Prop} {r i : Int} {tk' : Nat} {t : Tok}
    (ret : ∀ t h' tk', Fr h₀ L h' m → News h₀ L h' news → Q (.int r t) { s with heap := h', toks := tk' }) (F : Fr h₀ L h' m) (N : News h₀ L h' news) (e : i = r) : Q (.int i t) { s with heap := h', toks := tk' } := e ▸ ret t h' tk' F N
theorem listFits_nat {r len : Nat} (hr : r ≤ len) (h : len < 20) : Builtin.List.listFitsIndex (r : Int) = true := by
  unfold Builtin.List.listFitsIndex
  simp
  omega
theorem len_size {its : Array Value} {len : Nat} (h : its.toList.length = len) (h20 : len < 20) : its.toList.length ≤ sizeLine := by
  rw [sizeLine_eq]; omega
theorem c_bls {l : Addr} {its : Array Value} {n len r : Nat} {X : Int → Str} {T : Int → Tok} {x : Str} {tx : Tok}
    (B : Below A₀ base outer h₀) (F : Fr h₀ L s.heap m) (XX : (Mine.fr2 w.params).In h₀) (N : News h₀ L s.heap news) (TT : Top topProg LL mean mg mb h₀) (hd : dp + 9 < recursionLimit) (hu : un + 60 < cLine)
    (hm : (l, listOf its n) ∈ news) (hlen : its.toList.length = len) (h20 : len < 20) (hI : ∀ i : Int, 0 ≤ i → i < len → its.toList[i.toNat]? = some ((fun i => .str (X i) (T i)) i))
    (hr : r ≤ len) (hS : ∀ i : Int, 0 ≤ i → i < len → ((fun i => (X i).cps.toList < x.cps.toList) i ↔ i < r))
    (ret : ∀ t h' tk', Fr h₀ L h' m → News h₀ L h' news → Q (.int r t) { s with heap := h', toks := tk' }) :
    wpAny (model PP w) (ktrTop dp un gd cn (CS nm ig ic mo) L a ccd cl outer) (call (.ref 67) [.ref l, .str x tx]) Q E s := by
  k_with_none
  k_with "eval Name" => (k_here; (fail_if_success (with_reducible show wpAny _ _ (eval _ (compEnvC _ _ _ _)) _ _ _)); first | (refine' nameX_L ?zqF ?zqv ?_ ?zqa ?zqb; (case zqF => k_asm); (case zqa => rfl); (case zqb => rfl); (case zqv => rfl); k_whole) | (refine' nameX_K ?zqF ?zqX ?zqT ?zqe ?_ ?zqa ?zqb; (case zqF => k_asm); (case zqX => k_asm); (case zqT => k_asm); (case zqa => rfl); (case zqb => rfl); (case zqe => k_is); k_whole) | (refine' nameX_B ?zqF ?zqX ?zqT ?zqe ?zqv ?zqn ?_ ?zqa ?zqb; (case zqF => k_asm); (case zqX => k_asm); (case zqT => k_asm); (case zqa => rfl); (case zqb => rfl); (case zqe => k_is); (case zqv => boot_fast); (case zqn => decide); k_whole) | (refine' nameX_C ?zqN ?zqc ?zqm ?zqd ?_ ?zqa ?zqb; (case zqa => rfl); (case zqb => rfl); (case zqN => k_asm); (case zqc => rfl); (case zqm => k_mem); (case zqd => k_asm); k_whole))
  k_with "callWith ref" => (k_here; first | (refine' callWith_K ?zqk1 ?zqk2 ?_; (case zqk1 => k_asm); (case zqk2 => k_is); k_whole) | (refine' callWith_KW ?zqk1 ?zqk2 ?zqk3 ?_; (case zqk1 => k_asm); (case zqk2 => k_is); (case zqk3 => exact rfl); k_whole))
  k_with "storeName" => (k_here; refine' storeX_L ?zqF ?zqN ?_ ?zqa ?zqb; (case zqF => k_asm); (case zqN => k_asm); (case zqa => rfl); (case zqb => rfl); k_whole; intro _ _ _; (try k_sweep))
  k_with "subscriptTail Name Name ref int" => k_extra "subscriptTail"
  k_with "subscriptTail Name Call ref int" => k_extra "subscriptTail"
  k_with "subscriptTail Name Subscript ref int" => k_extra "subscriptTail"
  k_with "subscriptTail" => (k_here; (with_reducible show wpAny _ _ (subscriptTail _ _ (Value.ref _) (Value.int _ _)) _ _ _); (with_unfolding_all refine' sub_list ?k1 ?k2 ?k3 ?_ ?k6); (case k1 => k_asm); (case k2 => k_dflt k_mem); (case k6 => with_unfolding_all rfl); (case k3 => k_extra "item"); k_whole)
  k_with "call builtin:len" => (k_here; (with_reducible show wpAny _ _ (call (Value.builtin "len") [Value.ref _]) _ _ _); (with_unfolding_all refine' len_led ?k1 ?k2 ?k3 ?_); (case k1 => k_asm); (case k2 => k_dflt k_mem); (case k3 => k_extra "len"); k_whole)
  k_with "exec While Compare cons nil" => k_while (fun _ lo hi => 0 ≤ lo ∧ lo ≤ r ∧ r ≤ hi ∧ hi ≤ len) (fun _ lo hi => (hi - lo).toNat) "lo" "hi"
  k_with "len" => exact ⟨hlen, by omega⟩
  k_with "item" => exact item_mid hI h20 (by assumption) (by assumption) (by assumption)
  k_with "state" => first | exact bl_start hr | exact bl_lo hS (by assumption) (by assumption) (by assumption) (by assumption) (by assumption) (by assumption) | exact bl_hi hS (by assumption) (by assumption) (by assumption) (by assumption) (by assumption) (by assumption)
  k_with "measure" => first | exact bl_mlo (by assumption) | exact bl_mhi (by assumption)
  k_steps
  all_goals (refine ret_int ret (by assumption) (by assumption) ?_; omega)
theorem c_bls4 {l : Addr} {its : Array Value} {n len r : Nat} {X : Int → Str} {T : Int → Tok} {x : Str} {tx t0 : Tok}
    (B : Below A₀ base outer h₀) (F : Fr h₀ L s.heap m) (XX : (Mine.fr2 w.params).In h₀) (N : News h₀ L s.heap news) (TT : Top topProg LL mean mg mb h₀) (hd : dp + 9 < recursionLimit) (hu : un + 60 < cLine)
    (hm : (l, listOf its n) ∈ news) (hlen : its.toList.length = len) (h20 : len < 20) (hI : ∀ i : Int, 0 ≤ i → i < len → its.toList[i.toNat]? = some ((fun i => .str (X i) (T i)) i))
    (hr : r ≤ len) (hS : ∀ i : Int, 0 ≤ i → i < len → ((fun i => (X i).cps.toList < x.cps.toList) i ↔ i < r))
    (ret : ∀ t h' tk', Fr h₀ L h' m → News h₀ L h' news → Q (.int r t) { s with heap := h', toks := tk' }) :
    wpAny (model PP w) (ktrTop dp un gd cn (CS nm ig ic mo) L a ccd cl outer) (call (.ref 67) [.ref l, .str x tx, .int 0 t0, .none]) Q E s := by
  k_with_none
  k_with "eval Name" => (k_here; (fail_if_success (with_reducible show wpAny _ _ (eval _ (compEnvC _ _ _ _)) _ _ _)); first | (refine' nameX_L ?zqF ?zqv ?_ ?zqa ?zqb; (case zqF => k_asm); (case zqa => rfl); (case zqb => rfl); (case zqv => rfl); k_whole) | (refine' nameX_K ?zqF ?zqX ?zqT ?zqe ?_ ?zqa ?zqb; (case zqF => k_asm); (case zqX => k_asm); (case zqT => k_asm); (case zqa => rfl); (case zqb => rfl); (case zqe => k_is); k_whole) | (refine' nameX_B ?zqF ?zqX ?zqT ?zqe ?zqv ?zqn ?_ ?zqa ?zqb; (case zqF => k_asm); (case zqX => k_asm); (case zqT => k_asm); (case zqa => rfl); (case zqb => rfl); (case zqe => k_is); (case zqv => boot_fast); (case zqn => decide); k_whole) | (refine' nameX_C ?zqN ?zqc ?zqm ?zqd ?_ ?zqa ?zqb; (case zqa => rfl); (case zqb => rfl); (case zqN => k_asm); (case zqc => rfl); (case zqm => k_mem); (case zqd => k_asm); k_whole))
  k_with "callWith ref" => (k_here; first | (refine' callWith_K ?zqk1 ?zqk2 ?_; (case zqk1 => k_asm); (case zqk2 => k_is); k_whole) | (refine' callWith_KW ?zqk1 ?zqk2 ?zqk3 ?_; (case zqk1 => k_asm); (case zqk2 => k_is); (case zqk3 => exact rfl); k_whole))
  k_with "storeName" => (k_here; refine' storeX_L ?zqF ?zqN ?_ ?zqa ?zqb; (case zqF => k_asm); (case zqN => k_asm); (case zqa => rfl); (case zqb => rfl); k_whole; intro _ _ _; (try k_sweep))
  k_with "subscriptTail Name Name ref int" => k_extra "subscriptTail"
  k_with "subscriptTail Name Call ref int" => k_extra "subscriptTail"
  k_with "subscriptTail Name Subscript ref int" => k_extra "subscriptTail"
  k_with "subscriptTail" => (k_here; (with_reducible show wpAny _ _ (subscriptTail _ _ (Value.ref _) (Value.int _ _)) _ _ _); (with_unfolding_all refine' sub_list ?k1 ?k2 ?k3 ?_ ?k6); (case k1 => k_asm); (case k2 => k_dflt k_mem); (case k6 => with_unfolding_all rfl); (case k3 => k_extra "item"); k_whole)
  k_with "call builtin:len" => (k_here; (with_reducible show wpAny _ _ (call (Value.builtin "len") [Value.ref _]) _ _ _); (with_unfolding_all refine' len_led ?k1 ?k2 ?k3 ?_); (case k1 => k_asm); (case k2 => k_dflt k_mem); (case k3 => k_extra "len"); k_whole)
  k_with "exec While Compare cons nil" => k_while (fun _ lo hi => 0 ≤ lo ∧ lo ≤ r ∧ r ≤ hi ∧ hi ≤ len) (fun _ lo hi => (hi - lo).toNat) "lo" "hi"
  k_with "len" => exact ⟨hlen, by omega⟩
  k_with "item" => exact item_mid hI h20 (by assumption) (by assumption) (by assumption)
  k_with "state" => first | exact bl_start hr | exact bl_lo hS (by assumption) (by assumption) (by assumption) (by assumption) (by assumption) (by assumption) | exact bl_hi hS (by assumption) (by assumption) (by assumption) (by assumption) (by assumption) (by assumption)
  k_with "measure" => first | exact bl_mlo (by assumption) | exact bl_mhi (by assumption)
  k_steps
  all_goals (refine ret_int ret (by assumption) (by assumption) ?_; omega)

theorem c_ils {l : Addr} {its : Array Value} {n len r : Nat} {X : Int → Str} {T : Int → Tok} {x : Str} {tx : Tok} {rest : List (Addr × Obj)}
    (B : Below A₀ base outer h₀) (F : Fr h₀ L s.heap m) (XX : (Mine.fr2 w.params).In h₀) (N : News h₀ L s.heap ((l, listOf its n) :: rest)) (TT : Top topProg LL mean mg mb h₀) (hd : dp + 12 < recursionLimit) (hu : un + 80 < cLine)
    (hne : ∀ p ∈ rest, p.1 ≠ l) (hlen : its.toList.length = len) (h20 : len < 20) (hI : ∀ i : Int, 0 ≤ i → i < len → its.toList[i.toNat]? = some ((fun i => .str (X i) (T i)) i))
    (hr : r ≤ len) (hS : ∀ i : Int, 0 ≤ i → i < len → ((fun i => (X i).cps.toList < x.cps.toList) i ↔ i < r))
    (ret : ∀ h' tk', Fr h₀ L h' m → News h₀ L h' ((l, listOf (kl_ins its.toList r (.str x tx)).toArray (n + 1)) :: rest) → Q .none { s with heap := h', toks := tk' }) :
    wpAny (model PP w) (ktrTop dp un gd cn (CS nm ig ic mo) L a ccd cl outer) (call (.ref 58) [.ref l, .str x tx]) Q E s := by
  k_with_none
  k_with "eval Name" => (k_here; (fail_if_success (with_reducible show wpAny _ _ (eval _ (compEnvC _ _ _ _)) _ _ _)); first | (refine' nameX_L ?zqF ?zqv ?_ ?zqa ?zqb; (case zqF => k_asm); (case zqa => rfl); (case zqb => rfl); (case zqv => rfl); k_whole) | (refine' nameX_K ?zqF ?zqX ?zqT ?zqe ?_ ?zqa ?zqb; (case zqF => k_asm); (case zqX => k_asm); (case zqT => k_asm); (case zqa => rfl); (case zqb => rfl); (case zqe => k_is); k_whole) | (refine' nameX_B ?zqF ?zqX ?zqT ?zqe ?zqv ?zqn ?_ ?zqa ?zqb; (case zqF => k_asm); (case zqX => k_asm); (case zqT => k_asm); (case zqa => rfl); (case zqb => rfl); (case zqe => k_is); (case zqv => boot_fast); (case zqn => decide); k_whole) | (refine' nameX_C ?zqN ?zqc ?zqm ?zqd ?_ ?zqa ?zqb; (case zqa => rfl); (case zqb => rfl); (case zqN => k_asm); (case zqc => rfl); (case zqm => k_mem); (case zqd => k_asm); k_whole))
  k_with "callWith ref" => (k_here; first | (refine' callWith_K ?zqk1 ?zqk2 ?_; (case zqk1 => k_asm); (case zqk2 => k_is); k_whole) | (refine' callWith_KW ?zqk1 ?zqk2 ?zqk3 ?_; (case zqk1 => k_asm); (case zqk2 => k_is); (case zqk3 => exact rfl); k_whole))
  k_with "storeName" => (k_here; refine' storeX_L ?zqF ?zqN ?_ ?zqa ?zqb; (case zqF => k_asm); (case zqN => k_asm); (case zqa => rfl); (case zqb => rfl); k_whole; intro _ _ _; (try k_sweep))
  k_with "subscriptTail Name Name ref int" => k_extra "subscriptTail"
  k_with "subscriptTail Name Call ref int" => k_extra "subscriptTail"
  k_with "subscriptTail Name Subscript ref int" => k_extra "subscriptTail"
  k_with "subscriptTail" => (k_here; (with_reducible show wpAny _ _ (subscriptTail _ _ (Value.ref _) (Value.int _ _)) _ _ _); (with_unfolding_all refine' sub_list ?k1 ?k2 ?k3 ?_ ?k6); (case k1 => k_asm); (case k2 => k_dflt k_mem); (case k6 => with_unfolding_all rfl); (case k3 => k_extra "item"); k_whole)
  k_with "call builtin:len" => (k_here; (with_reducible show wpAny _ _ (call (Value.builtin "len") [Value.ref _]) _ _ _); (with_unfolding_all refine' len_led ?k1 ?k2 ?k3 ?_); (case k1 => k_asm); (case k2 => k_dflt k_mem); (case k3 => k_extra "len"); k_whole)
  k_with "call ref" => (k_here; (with_reducible show wpAny _ _ (call (Value.ref 67) [Value.ref _, Value.str _ _, Value.int _ _, Value.none] []) _ _ _); k_dflt (k_extra "bls4"))
  k_with "call builtin:list.insert" => (k_here; (with_reducible show wpAny _ _ (call (Value.builtin _) [Value.ref _, Value.int _ _, _]) _ _ _); k_dflt (refine' kl_insert ?F ?N ?f ?e ?U ?z ?_; (case F => k_asm); (case N => k_asm); (case U => k_upd); (case f => k_extra "insf"); (case e => rfl); (case z => k_extra "insz")); intro h' F' N')
  k_with "bls4" => ((k_dflt (refine' c_bls4 (its := its) (n := n) ?k1 ?k2 ?k3 ?k4 ?k5 ?k6 ?k7 ?k8 hlen h20 hI hr hS ?_)); (case k1 => k_asm); (case k2 => k_asm); (case k3 => k_asm); (case k4 => k_asm); (case k5 => k_asm); (case k6 => ktr_room); (case k7 => ktr_units); (case k8 => k_mem); intro t h' tk' F' N')
  k_with "insf" => exact listFits_nat hr h20
  k_with "insz" => exact len_size hlen h20
  k_steps
  all_goals (exact ret _ _ (by assumption) (by assumption))
end
end Mine
end
section
open PySem PySem.W PyProof.Rows
namespace Mine
open PySem.Spec PySem.Calls
section
variable {w : World} {mean : ExcName → Option Value} {mg mb : Str → Option Value} {dp un : Nat} {gd : Option (List Code)} {cn : Str} {nm : List (Str × NameKind)} {ig ic : Bool} {mo : List (Str × Const)} {a : Addr} {ccd : Value} {cl : List (Str × Addr)} {outer : List Env} {A₀ : Around} {base h₀ : Heap} {L : Addr} {m : Str → Option Value} {s : Shared} {Q E : Value → Shared → Prop} {news : List (Addr × Obj)}
/-- what a made key does: sign times port -/
noncomputable def KeyFn (w : World) (sg : Int) (f : Addr) (kf : List (Addr × Obj)) : Prop :=
  (∃ fd : FuncData, (f, (⟨.type "function", none, .func fd, #[]⟩ : Obj)) ∈ kf) ∧
  ∀ (mean : ExcName → Option Value) (mg mb : Str → Option Value) (dp un : Nat) (gd : Option (List Code)) (cn : Str) (nm : List (Str × NameKind)) (ig ic : Bool) (mo : List (Str × Const)) (a : Addr) (ccd : Value) (cl : List (Str × Addr)) (outer : List Env) (A₀ : Around) (base h₀ : Heap) (L : Addr) (m : Str → Option Value) (s : Shared) (Q E : Value → Shared → Prop) (news : List (Addr × Obj)) (p : Int) (t : Tok),
    Below A₀ base outer h₀ → Fr h₀ L s.heap m → (Mine.fr2 w.params).In h₀ → News h₀ L s.heap news → Top topProg LL mean mg mb h₀ → dp + 3 < recursionLimit → un + 20 < cLine → CodeHd base (185, 181).fst (185, 181).snd →
    0 ≤ p → p < 100 → (∀ q ∈ kf, q ∈ news) → (∀ t h' tk', Fr h₀ L h' m → News h₀ L h' news → Q (.int (sg * p) t) { s with heap := h', toks := tk' }) →
    wpAny (model PP w) (ktrTop dp un gd cn (CS nm ig ic mo) L a ccd cl outer) (call (.ref f) [.int p t]) Q E s
noncomputable def KTab (kt : List (Addr × Obj)) : Prop :=
  kt = [(181, tabObj #[])] ∨ ∃ c' oc vs t, kt = [(181, tabObj #[rawInt 158, rawInt 11, .ref c']), (c', oc)] ∧ oc.data = .fields vs ∧ vs[1]? = some (.str (Str.ofString "_law_key" ++ Str.ofString ".<locals>." ++ Str.ofString "<lambda>") t) ∧ c' ≠ 181
/-- none of these is a list -/
noncomputable def NoSeq (l : List (Addr × Obj)) : Prop := ∀ q ∈ l, ∀ vs n, q.2.data ≠ .seq vs n
theorem noseq3 {f l c : Addr} {fo o oc : Obj} {fd : FuncData} {x : Option Value} {vs : Array Value} (h1 : fo.data = .func fd) (h2 : o.data = .cell x) (h3 : oc.data = .fields vs) : NoSeq [(f, fo), (l, o), (c, oc)] := by
  intro q hq vs' n e
  simp only [List.mem_cons, List.not_mem_nil, or_false] at hq
  rcases hq with rfl | rfl | rfl
  · simp only at e; rw [h1] at e; cases e
  · simp only at e; rw [h2] at e; cases e
  · simp only at e; rw [h3] at e; cases e
theorem ktab_noseq {kt : List (Addr × Obj)} (h : KTab kt) : NoSeq kt := by
  rcases h with rfl | ⟨c', oc, vs, t, rfl, hd, _, _⟩
  · intro q hq vs' n e
    rw [List.mem_singleton] at hq
    subst hq
    cases e
  · intro q hq vs' n e
    simp only [List.mem_cons, List.not_mem_nil, or_false] at hq
    rcases hq with rfl | rfl
    · cases e
    · simp only at e; rw [hd] at e; cases e
theorem key_fin {f c l : Addr} {fo oc o tb : Obj} {rest : List (Addr × Obj)} {sg : Int} {h' : Heap} {tk' : Nat}
    (ret : ∀ f kf kt' h' tk', KeyFn w sg f kf → NoSeq kf → KTab kt' → Fr h₀ L h' m → News h₀ L h' (kf ++ kt' ++ rest) → Q (.ref f) { s with heap := h', toks := tk' })
    (N : News h₀ L h' ((f, fo) :: (c, oc) :: (l, o) :: (181, tb) :: rest)) (F : Fr h₀ L h' m) (hT : KTab [(181, tb), (c, oc)]) (hK : KeyFn w sg f [(f, fo), (l, o), (c, oc)]) (hs : NoSeq [(f, fo), (l, o), (c, oc)]) : Q (.ref f) { s with heap := h', toks := tk' } := by
  refine ret f _ _ h' tk' hK hs hT F (fun p hp => N p ?_)
  refine sub_of hp ?_
  (repeat' (first | with_reducible refine sub_app ?_ ?_ | with_reducible refine sub_cons ?_ ?_ | exact sub_nil | (intro _ hz9; k_mem) | k_mem))
theorem key_fin2 {f c l : Addr} {fo oc o tb : Obj} {rest : List (Addr × Obj)} {sg : Int} {h' : Heap} {tk' : Nat}
    (ret : ∀ f kf kt' h' tk', KeyFn w sg f kf → NoSeq kf → KTab kt' → Fr h₀ L h' m → News h₀ L h' (kf ++ kt' ++ rest) → Q (.ref f) { s with heap := h', toks := tk' })
    (N : News h₀ L h' ((f, fo) :: (l, o) :: (181, tb) :: (c, oc) :: rest)) (F : Fr h₀ L h' m) (hT : KTab [(181, tb), (c, oc)]) (hK : KeyFn w sg f [(f, fo), (l, o), (c, oc)]) (hs : NoSeq [(f, fo), (l, o), (c, oc)]) : Q (.ref f) { s with heap := h', toks := tk' } := by
  refine ret f _ _ h' tk' hK hs hT F (fun p hp => N p ?_)
  refine sub_of hp ?_
  (repeat' (first | with_reducible refine sub_app ?_ ?_ | with_reducible refine sub_cons ?_ ?_ | exact sub_nil | (intro _ hz9; k_mem) | k_mem))
theorem c_key {sg : Int} {t : Tok} {kt rest : List (Addr × Obj)}
    (B : Below A₀ base outer h₀) (F : Fr h₀ L s.heap m) (XX : (Mine.fr2 w.params).In h₀) (N : News h₀ L s.heap (kt ++ rest)) (TT : Top topProg LL mean mg mb h₀) (hd : dp + 12 < recursionLimit) (hu : un + 80 < cLine)
    (hc : CodeHd base (185, 181).fst (185, 181).snd) (hT : KTab kt) (hs1 : -1 ≤ sg) (hs2 : sg ≤ 1)
    (hne : ∀ p ∈ rest, p.1 ≠ 181)
    (ret : ∀ f kf kt' h' tk', KeyFn w sg f kf → NoSeq kf → KTab kt' → Fr h₀ L h' m → News h₀ L h' (kf ++ kt' ++ rest) → Q (.ref f) { s with heap := h', toks := tk' }) :
    wpAny (model PP w) (ktrTop dp un gd cn (CS nm ig ic mo) L a ccd cl outer) (call (.ref 186) [.int sg t]) Q E s := by
  k_with_none
  k_with "eval Name" => (k_here; (fail_if_success (with_reducible show wpAny _ _ (eval _ (compEnvC _ _ _ _)) _ _ _)); first | (refine' nameX_L ?zqF ?zqv ?_ ?zqa ?zqb; (case zqF => k_asm); (case zqa => rfl); (case zqb => rfl); (case zqv => rfl); k_whole) | (refine' nameX_K ?zqF ?zqX ?zqT ?zqe ?_ ?zqa ?zqb; (case zqF => k_asm); (case zqX => k_asm); (case zqT => k_asm); (case zqa => rfl); (case zqb => rfl); (case zqe => k_is); k_whole) | (refine' nameX_B ?zqF ?zqX ?zqT ?zqe ?zqv ?zqn ?_ ?zqa ?zqb; (case zqF => k_asm); (case zqX => k_asm); (case zqT => k_asm); (case zqa => rfl); (case zqb => rfl); (case zqe => k_is); (case zqv => boot_fast); (case zqn => decide); k_whole) | (refine' nameX_C ?zqN ?zqc ?zqm ?zqd ?_ ?zqa ?zqb; (case zqa => rfl); (case zqb => rfl); (case zqN => k_asm); (case zqc => rfl); (case zqm => k_mem); (case zqd => k_asm); k_whole))
  k_with "callWith ref" => (k_here; first | (refine' callWith_K ?zqk1 ?zqk2 ?_; (case zqk1 => k_asm); (case zqk2 => k_is); k_whole) | (refine' callWith_KW ?zqk1 ?zqk2 ?zqk3 ?_; (case zqk1 => k_asm); (case zqk2 => k_is); (case zqk3 => exact rfl); k_whole))
  k_with "storeName" => (k_here; refine' storeX_L ?zqF ?zqN ?_ ?zqa ?zqb; (case zqF => k_asm); (case zqN => k_asm); (case zqa => rfl); (case zqb => rfl); k_whole; intro _ _ _; (try k_sweep))
  k_with "subscriptTail Name Name ref int" => k_extra "subscriptTail"
  k_with "subscriptTail Name Call ref int" => k_extra "subscriptTail"
  k_with "subscriptTail Name Subscript ref int" => k_extra "subscriptTail"
  k_with "subscriptTail" => (k_here; (with_reducible show wpAny _ _ (subscriptTail _ _ (Value.ref _) (Value.int _ _)) _ _ _); (with_unfolding_all refine' sub_list ?k1 ?k2 ?k3 ?_ ?k6); (case k1 => k_asm); (case k2 => k_dflt k_mem); (case k6 => with_unfolding_all rfl); (case k3 => k_extra "item"); k_whole)
  k_with "call builtin:len" => (k_here; (with_reducible show wpAny _ _ (call (Value.builtin "len") [Value.ref _]) _ _ _); (with_unfolding_all refine' len_led ?k1 ?k2 ?k3 ?_); (case k1 => k_asm); (case k2 => k_dflt k_mem); (case k3 => k_extra "len"); k_whole)
  rcases hT with rfl | ⟨c', oc, vs, t', rfl, hoc, hvs, hc'⟩
  · simp only [List.cons_append, List.nil_append] at N
    k_steps
    rename_i g' L' hh1 tk1 FG' F1' B' X' T' l1 o' d1 N1 f' c' oc' vs' t' ct' h2 tk2 F2 N2 d1' d2' l1' l2' kF kN Tc kX
    refine key_fin ret kN kF (.inr ⟨c', oc', vs', t', rfl, d1', d2', Nat.ne_of_gt l1'.2.1⟩) ?_ (noseq3 rfl d1 d1')
    refine ⟨⟨_, List.mem_cons_self⟩, ?_⟩
    intro mean mg mb dp un gd cn nm ig ic mo a ccd cl outer A₀ base h₀ L m s Q E news p t B F XX N TT hd hu hc hp0 hp1 hsub ret
    have m1 := hsub _ (List.mem_cons_self)
    have m2 := hsub _ (List.mem_cons_of_mem _ (List.mem_cons_self))
    have m3 := hsub _ (List.mem_cons_of_mem _ (List.mem_cons_of_mem _ (List.mem_cons_self)))
    clear hsub
    k_steps
    exact ret _ _ _ (by assumption) (by assumption)
  · simp only [List.cons_append, List.nil_append] at N
    k_steps
    rename_i g' L' hh1 tk1 FG' F1' B' X' T' l1 o' d1 N1 f' ct' h2 tk2 F2 N2 l1' kF kN Tc kX
    refine key_fin2 ret kN kF (.inr ⟨c', oc, vs, t', rfl, hoc, hvs, hc'⟩) ?_ (noseq3 rfl d1 hoc)
    refine ⟨⟨_, List.mem_cons_self⟩, ?_⟩
    intro mean mg mb dp un gd cn nm ig ic mo a ccd cl outer A₀ base h₀ L m s Q E news p t B F XX N TT hd hu hc hp0 hp1 hsub ret
    have m1 := hsub _ (List.mem_cons_self)
    have m2 := hsub _ (List.mem_cons_of_mem _ (List.mem_cons_self))
    have m3 := hsub _ (List.mem_cons_of_mem _ (List.mem_cons_of_mem _ (List.mem_cons_self)))
    clear hsub
    k_steps
    exact ret _ _ _ (by assumption) (by assumption)
end
end Mine
end
section
open PySem PySem.W PyProof.Rows
namespace Mine
open PySem.Spec PySem.Calls
section
variable {w : World} {mean : ExcName → Option Value} {mg mb : Str → Option Value} {dp un : Nat} {gd : Option (List Code)} {cn : Str} {nm : List (Str × NameKind)} {ig ic : Bool} {mo : List (Str × Const)} {a : Addr} {ccd : Value} {cl : List (Str × Addr)} {outer : List Env} {A₀ : Around} {base h₀ : Heap} {L : Addr} {m : Str → Option Value} {s : Shared} {Q E : Value → Shared → Prop} {news : List (Addr × Obj)}
theorem mid_lo {X : Int → Int} {len : Nat} {lo hi : Int} (hX : ∀ i : Int, 0 ≤ i → i < len → 0 ≤ X i ∧ X i < 100) (h0 : 0 ≤ lo) (hh : hi ≤ len) (h : lo < hi) : 0 ≤ X (Int.fdiv (lo + hi) 2) := by
  have := mid_b h
  exact (hX _ (by omega) (by omega)).1
theorem mid_hi {X : Int → Int} {len : Nat} {lo hi : Int} (hX : ∀ i : Int, 0 ≤ i → i < len → 0 ≤ X i ∧ X i < 100) (h0 : 0 ≤ lo) (hh : hi ≤ len) (h : lo < hi) : X (Int.fdiv (lo + hi) 2) < 100 := by
  have := mid_b h
  exact (hX _ (by omega) (by omega)).2
theorem c_blk {l f : Addr} {kf : List (Addr × Obj)} {its : Array Value} {n len r : Nat} {X : Int → Int} {T : Int → Tok} {sg kx : Int} {tk0 t0 : Tok}
    (B : Below A₀ base outer h₀) (F : Fr h₀ L s.heap m) (XX : (Mine.fr2 w.params).In h₀) (N : News h₀ L s.heap news) (TT : Top topProg LL mean mg mb h₀) (hd : dp + 9 < recursionLimit) (hu : un + 60 < cLine)
    (hc : CodeHd base (185, 181).fst (185, 181).snd) (hK : KeyFn w sg f kf) (hkf : ∀ q ∈ kf, q ∈ news)
    (hm : (l, listOf its n) ∈ news) (hlen : its.toList.length = len) (h20 : len < 20) (hI : ∀ i : Int, 0 ≤ i → i < len → its.toList[i.toNat]? = some ((fun i => .int (X i) (T i)) i))
    (hX : ∀ i : Int, 0 ≤ i → i < len → 0 ≤ X i ∧ X i < 100)
    (hr : r ≤ len) (hS : ∀ i : Int, 0 ≤ i → i < len → ((fun i => sg * X i < kx) i ↔ i < r))
    (ret : ∀ t h' tk', Fr h₀ L h' m → News h₀ L h' news → Q (.int r t) { s with heap := h', toks := tk' }) :
    wpAny (model PP w) (ktrTop dp un gd cn (CS nm ig ic mo) L a ccd cl outer) (call (.ref 67) [.ref l, .int kx tk0, .int 0 t0, .none] [(Str.ofString "key", .ref f)]) Q E s := by
  obtain ⟨⟨fd, hfd⟩, hK⟩ := hK
  have hfm := hkf _ hfd
  k_with_none
  k_with "eval Name" => (k_here; (fail_if_success (with_reducible show wpAny _ _ (eval _ (compEnvC _ _ _ _)) _ _ _)); first | (refine' nameX_L ?zqF ?zqv ?_ ?zqa ?zqb; (case zqF => k_asm); (case zqa => rfl); (case zqb => rfl); (case zqv => rfl); k_whole) | (refine' nameX_K ?zqF ?zqX ?zqT ?zqe ?_ ?zqa ?zqb; (case zqF => k_asm); (case zqX => k_asm); (case zqT => k_asm); (case zqa => rfl); (case zqb => rfl); (case zqe => k_is); k_whole) | (refine' nameX_B ?zqF ?zqX ?zqT ?zqe ?zqv ?zqn ?_ ?zqa ?zqb; (case zqF => k_asm); (case zqX => k_asm); (case zqT => k_asm); (case zqa => rfl); (case zqb => rfl); (case zqe => k_is); (case zqv => boot_fast); (case zqn => decide); k_whole) | (refine' nameX_C ?zqN ?zqc ?zqm ?zqd ?_ ?zqa ?zqb; (case zqa => rfl); (case zqb => rfl); (case zqN => k_asm); (case zqc => rfl); (case zqm => k_mem); (case zqd => k_asm); k_whole))
  k_with "callWith ref" => (k_here; first | (refine' callWith_K ?zqk1 ?zqk2 ?_; (case zqk1 => k_asm); (case zqk2 => k_is); k_whole) | (refine' callWith_KW ?zqk1 ?zqk2 ?zqk3 ?_; (case zqk1 => k_asm); (case zqk2 => k_is); (case zqk3 => exact rfl); k_whole))
  k_with "storeName" => (k_here; refine' storeX_L ?zqF ?zqN ?_ ?zqa ?zqb; (case zqF => k_asm); (case zqN => k_asm); (case zqa => rfl); (case zqb => rfl); k_whole; intro _ _ _; (try k_sweep))
  k_with "subscriptTail Name Name ref int" => k_extra "subscriptTail"
  k_with "subscriptTail Name Call ref int" => k_extra "subscriptTail"
  k_with "subscriptTail Name Subscript ref int" => k_extra "subscriptTail"
  k_with "subscriptTail" => (k_here; (with_reducible show wpAny _ _ (subscriptTail _ _ (Value.ref _) (Value.int _ _)) _ _ _); (with_unfolding_all refine' sub_list ?k1 ?k2 ?k3 ?_ ?k6); (case k1 => k_asm); (case k2 => k_dflt k_mem); (case k6 => with_unfolding_all rfl); (case k3 => k_extra "item"); k_whole)
  k_with "call builtin:len" => (k_here; (with_reducible show wpAny _ _ (call (Value.builtin "len") [Value.ref _]) _ _ _); (with_unfolding_all refine' len_led ?k1 ?k2 ?k3 ?_); (case k1 => k_asm); (case k2 => k_dflt k_mem); (case k3 => k_extra "len"); k_whole)
  k_with "call ref" => (k_here; (with_reducible show wpAny _ _ (call (Value.ref _) [Value.int _ _] []) _ _ _); k_dflt (k_extra "keyf"))
  k_with "exec While Compare cons nil" => k_while (fun _ lo hi => 0 ≤ lo ∧ lo ≤ r ∧ r ≤ hi ∧ hi ≤ len) (fun _ lo hi => (hi - lo).toNat) "lo" "hi"
  k_with "len" => exact ⟨hlen, by omega⟩
  k_with "item" => exact item_mid hI h20 (by assumption) (by assumption) (by assumption)
  k_with "keyf" => ((refine' hK _ _ _ _ _ _ _ _ _ _ _ _ _ _ _ _ _ _ _ _ _ _ _ _ _ _ ?k1 ?k2 ?k3 ?k4 ?k5 ?k6 ?k7 ?k8 ?k9 ?k10 hkf ?_); (case k1 => k_asm); (case k2 => k_asm); (case k3 => k_asm); (case k4 => k_asm); (case k5 => k_asm); (case k6 => ktr_room); (case k7 => ktr_units); (case k8 => assumption); (case k9 => exact mid_lo hX (by assumption) (by assumption) (by assumption)); (case k10 => exact mid_hi hX (by assumption) (by assumption) (by assumption)); intro t h' tk' F' N')
  k_with "state" => first | exact bl_start hr | exact bl_lo hS (by assumption) (by assumption) (by assumption) (by assumption) (by assumption) (by assumption) | exact bl_hi hS (by assumption) (by assumption) (by assumption) (by assumption) (by assumption) (by assumption)
  k_with "measure" => first | exact bl_mlo (by assumption) | exact bl_mhi (by assumption)
  k_steps
  all_goals (refine ret_int ret (by assumption) (by assumption) ?_; omega)
theorem c_brk {l f : Addr} {kf : List (Addr × Obj)} {its : Array Value} {n len r : Nat} {X : Int → Int} {T : Int → Tok} {sg kx : Int} {tk0 t0 : Tok}
    (B : Below A₀ base outer h₀) (F : Fr h₀ L s.heap m) (XX : (Mine.fr2 w.params).In h₀) (N : News h₀ L s.heap news) (TT : Top topProg LL mean mg mb h₀) (hd : dp + 9 < recursionLimit) (hu : un + 60 < cLine)
    (hc : CodeHd base (185, 181).fst (185, 181).snd) (hK : KeyFn w sg f kf) (hkf : ∀ q ∈ kf, q ∈ news)
    (hm : (l, listOf its n) ∈ news) (hlen : its.toList.length = len) (h20 : len < 20) (hI : ∀ i : Int, 0 ≤ i → i < len → its.toList[i.toNat]? = some ((fun i => .int (X i) (T i)) i))
    (hX : ∀ i : Int, 0 ≤ i → i < len → 0 ≤ X i ∧ X i < 100)
    (hr : r ≤ len) (hS : ∀ i : Int, 0 ≤ i → i < len → ((fun i => ¬ (kx < sg * X i)) i ↔ i < r))
    (ret : ∀ t h' tk', Fr h₀ L h' m → News h₀ L h' news → Q (.int r t) { s with heap := h', toks := tk' }) :
    wpAny (model PP w) (ktrTop dp un gd cn (CS nm ig ic mo) L a ccd cl outer) (call (.ref 49) [.ref l, .int kx tk0, .int 0 t0, .none] [(Str.ofString "key", .ref f)]) Q E s := by
  obtain ⟨⟨fd, hfd⟩, hK⟩ := hK
  have hfm := hkf _ hfd
  k_with_none
  k_with "eval Name" => (k_here; (fail_if_success (with_reducible show wpAny _ _ (eval _ (compEnvC _ _ _ _)) _ _ _)); first | (refine' nameX_L ?zqF ?zqv ?_ ?zqa ?zqb; (case zqF => k_asm); (case zqa => rfl); (case zqb => rfl); (case zqv => rfl); k_whole) | (refine' nameX_K ?zqF ?zqX ?zqT ?zqe ?_ ?zqa ?zqb; (case zqF => k_asm); (case zqX => k_asm); (case zqT => k_asm); (case zqa => rfl); (case zqb => rfl); (case zqe => k_is); k_whole) | (refine' nameX_B ?zqF ?zqX ?zqT ?zqe ?zqv ?zqn ?_ ?zqa ?zqb; (case zqF => k_asm); (case zqX => k_asm); (case zqT => k_asm); (case zqa => rfl); (case zqb => rfl); (case zqe => k_is); (case zqv => boot_fast); (case zqn => decide); k_whole) | (refine' nameX_C ?zqN ?zqc ?zqm ?zqd ?_ ?zqa ?zqb; (case zqa => rfl); (case zqb => rfl); (case zqN => k_asm); (case zqc => rfl); (case zqm => k_mem); (case zqd => k_asm); k_whole))
  k_with "callWith ref" => (k_here; first | (refine' callWith_K ?zqk1 ?zqk2 ?_; (case zqk1 => k_asm); (case zqk2 => k_is); k_whole) | (refine' callWith_KW ?zqk1 ?zqk2 ?zqk3 ?_; (case zqk1 => k_asm); (case zqk2 => k_is); (case zqk3 => exact rfl); k_whole))
  k_with "storeName" => (k_here; refine' storeX_L ?zqF ?zqN ?_ ?zqa ?zqb; (case zqF => k_asm); (case zqN => k_asm); (case zqa => rfl); (case zqb => rfl); k_whole; intro _ _ _; (try k_sweep))
  k_with "subscriptTail Name Name ref int" => k_extra "subscriptTail"
  k_with "subscriptTail Name Call ref int" => k_extra "subscriptTail"
  k_with "subscriptTail Name Subscript ref int" => k_extra "subscriptTail"
  k_with "subscriptTail" => (k_here; (with_reducible show wpAny _ _ (subscriptTail _ _ (Value.ref _) (Value.int _ _)) _ _ _); (with_unfolding_all refine' sub_list ?k1 ?k2 ?k3 ?_ ?k6); (case k1 => k_asm); (case k2 => k_dflt k_mem); (case k6 => with_unfolding_all rfl); (case k3 => k_extra "item"); k_whole)
  k_with "call builtin:len" => (k_here; (with_reducible show wpAny _ _ (call (Value.builtin "len") [Value.ref _]) _ _ _); (with_unfolding_all refine' len_led ?k1 ?k2 ?k3 ?_); (case k1 => k_asm); (case k2 => k_dflt k_mem); (case k3 => k_extra "len"); k_whole)
  k_with "call ref" => (k_here; (with_reducible show wpAny _ _ (call (Value.ref _) [Value.int _ _] []) _ _ _); k_dflt (k_extra "keyf"))
  k_with "exec While Compare cons nil" => k_while (fun _ lo hi => 0 ≤ lo ∧ lo ≤ r ∧ r ≤ hi ∧ hi ≤ len) (fun _ lo hi => (hi - lo).toNat) "lo" "hi"
  k_with "len" => exact ⟨hlen, by omega⟩
  k_with "item" => exact item_mid hI h20 (by assumption) (by assumption) (by assumption)
  k_with "keyf" => ((refine' hK _ _ _ _ _ _ _ _ _ _ _ _ _ _ _ _ _ _ _ _ _ _ _ _ _ _ ?k1 ?k2 ?k3 ?k4 ?k5 ?k6 ?k7 ?k8 ?k9 ?k10 hkf ?_); (case k1 => k_asm); (case k2 => k_asm); (case k3 => k_asm); (case k4 => k_asm); (case k5 => k_asm); (case k6 => ktr_room); (case k7 => ktr_units); (case k8 => assumption); (case k9 => exact mid_lo hX (by assumption) (by assumption) (by assumption)); (case k10 => exact mid_hi hX (by assumption) (by assumption) (by assumption)); intro t h' tk' F' N')
  k_with "state" => first | exact bl_start hr | exact bl_lo hS (by assumption) (by assumption) (by assumption) (by assumption) (by assumption) (by assumption) | exact bl_hi hS (by assumption) (by assumption) (by assumption) (by assumption) (by assumption) (fun q => q (by assumption))
  k_with "measure" => first | exact bl_mlo (by assumption) | exact bl_mhi (by assumption)
  k_steps
  all_goals (refine ret_int ret (by assumption) (by assumption) ?_; omega)
theorem c_ilk {l f : Addr} {kf : List (Addr × Obj)} {its : Array Value} {n len r : Nat} {X : Int → Int} {T : Int → Tok} {sg x : Int} {tx : Tok} {rest : List (Addr × Obj)}
    (B : Below A₀ base outer h₀) (F : Fr h₀ L s.heap m) (XX : (Mine.fr2 w.params).In h₀) (N : News h₀ L s.heap ((l, listOf its n) :: rest)) (TT : Top topProg LL mean mg mb h₀) (hd : dp + 12 < recursionLimit) (hu : un + 80 < cLine)
    (hc : CodeHd base (185, 181).fst (185, 181).snd) (hK : KeyFn w sg f kf) (hkf : ∀ q ∈ kf, q ∈ rest)
    (hne : ∀ p ∈ rest, p.1 ≠ l) (hlen : its.toList.length = len) (h20 : len < 20) (hI : ∀ i : Int, 0 ≤ i → i < len → its.toList[i.toNat]? = some ((fun i => .int (X i) (T i)) i))
    (hX : ∀ i : Int, 0 ≤ i → i < len → 0 ≤ X i ∧ X i < 100) (hx0 : 0 ≤ x) (hx1 : x < 100)
    (hr : r ≤ len) (hS : ∀ i : Int, 0 ≤ i → i < len → ((fun i => sg * X i < sg * x) i ↔ i < r))
    (ret : ∀ h' tk', Fr h₀ L h' m → News h₀ L h' ((l, listOf (kl_ins its.toList r (.int x tx)).toArray (n + 1)) :: rest) → Q .none { s with heap := h', toks := tk' }) :
    wpAny (model PP w) (ktrTop dp un gd cn (CS nm ig ic mo) L a ccd cl outer) (call (.ref 58) [.ref l, .int x tx] [(Str.ofString "key", .ref f)]) Q E s := by
  have hK0 := hK
  obtain ⟨⟨fd, hfd⟩, hK⟩ := hK
  have hkf1 : ∀ q ∈ kf, q ∈ (l, listOf its n) :: rest := fun q hq => List.mem_cons_of_mem _ (hkf q hq)
  have hfm := hkf1 _ hfd
  k_with_none
  k_with "eval Name" => (k_here; (fail_if_success (with_reducible show wpAny _ _ (eval _ (compEnvC _ _ _ _)) _ _ _)); first | (refine' nameX_L ?zqF ?zqv ?_ ?zqa ?zqb; (case zqF => k_asm); (case zqa => rfl); (case zqb => rfl); (case zqv => rfl); k_whole) | (refine' nameX_K ?zqF ?zqX ?zqT ?zqe ?_ ?zqa ?zqb; (case zqF => k_asm); (case zqX => k_asm); (case zqT => k_asm); (case zqa => rfl); (case zqb => rfl); (case zqe => k_is); k_whole) | (refine' nameX_B ?zqF ?zqX ?zqT ?zqe ?zqv ?zqn ?_ ?zqa ?zqb; (case zqF => k_asm); (case zqX => k_asm); (case zqT => k_asm); (case zqa => rfl); (case zqb => rfl); (case zqe => k_is); (case zqv => boot_fast); (case zqn => decide); k_whole) | (refine' nameX_C ?zqN ?zqc ?zqm ?zqd ?_ ?zqa ?zqb; (case zqa => rfl); (case zqb => rfl); (case zqN => k_asm); (case zqc => rfl); (case zqm => k_mem); (case zqd => k_asm); k_whole))
  k_with "callWith ref" => (k_here; first | (refine' callWith_K ?zqk1 ?zqk2 ?_; (case zqk1 => k_asm); (case zqk2 => k_is); k_whole) | (refine' callWith_KW ?zqk1 ?zqk2 ?zqk3 ?_; (case zqk1 => k_asm); (case zqk2 => k_is); (case zqk3 => exact rfl); k_whole))
  k_with "storeName" => (k_here; refine' storeX_L ?zqF ?zqN ?_ ?zqa ?zqb; (case zqF => k_asm); (case zqN => k_asm); (case zqa => rfl); (case zqb => rfl); k_whole; intro _ _ _; (try k_sweep))
  k_with "subscriptTail Name Name ref int" => k_extra "subscriptTail"
  k_with "subscriptTail Name Call ref int" => k_extra "subscriptTail"
  k_with "subscriptTail Name Subscript ref int" => k_extra "subscriptTail"
  k_with "subscriptTail" => (k_here; (with_reducible show wpAny _ _ (subscriptTail _ _ (Value.ref _) (Value.int _ _)) _ _ _); (with_unfolding_all refine' sub_list ?k1 ?k2 ?k3 ?_ ?k6); (case k1 => k_asm); (case k2 => k_dflt k_mem); (case k6 => with_unfolding_all rfl); (case k3 => k_extra "item"); k_whole)
  k_with "call builtin:len" => (k_here; (with_reducible show wpAny _ _ (call (Value.builtin "len") [Value.ref _]) _ _ _); (with_unfolding_all refine' len_led ?k1 ?k2 ?k3 ?_); (case k1 => k_asm); (case k2 => k_dflt k_mem); (case k3 => k_extra "len"); k_whole)
  k_with "call ref" => (k_here; (with_reducible show wpAny _ _ (call (Value.ref _) [Value.int _ _] []) _ _ _); k_dflt (k_extra "keyf"))
  k_with "call ref" => (k_here; (with_reducible show wpAny _ _ (call (Value.ref _) [Value.ref _, Value.int _ _, Value.int _ _, Value.none] _) _ _ _); k_dflt (k_extra "bis"))
  k_with "call builtin:list.insert" => (k_here; (with_reducible show wpAny _ _ (call (Value.builtin _) [Value.ref _, Value.int _ _, _]) _ _ _); k_dflt (refine' kl_insert ?F ?N ?f ?e ?U ?z ?_; (case F => k_asm); (case N => k_asm); (case U => k_upd); (case f => k_extra "insf"); (case e => rfl); (case z => k_extra "insz")); intro h' F' N')
  k_with "keyf" => ((refine' hK _ _ _ _ _ _ _ _ _ _ _ _ _ _ _ _ _ _ _ _ _ _ _ _ _ _ ?k1 ?k2 ?k3 ?k4 ?k5 ?k6 ?k7 ?k8 hx0 hx1 hkf1 ?_); (case k1 => k_asm); (case k2 => k_asm); (case k3 => k_asm); (case k4 => k_asm); (case k5 => k_asm); (case k6 => ktr_room); (case k7 => ktr_units); (case k8 => assumption); intro t h' tk' F' N')
  k_with "bis" => ((k_dflt (refine' c_blk (its := its) (n := n) ?k1 ?k2 ?k3 ?k4 ?k5 ?k6 ?k7 ?k8 hK0 hkf1 ?k9 hlen h20 hI hX hr hS ?_)); (case k1 => k_asm); (case k2 => k_asm); (case k3 => k_asm); (case k4 => k_asm); (case k5 => k_asm); (case k6 => ktr_room); (case k7 => ktr_units); (case k8 => assumption); (case k9 => k_mem); intro t h' tk' F' N')
  k_with "insf" => exact listFits_nat hr h20
  k_with "insz" => exact len_size hlen h20
  k_steps
  all_goals (exact ret _ _ (by assumption) (by assumption))
theorem c_irk {l f : Addr} {kf : List (Addr × Obj)} {its : Array Value} {n len r : Nat} {X : Int → Int} {T : Int → Tok} {sg x : Int} {tx : Tok} {rest : List (Addr × Obj)}
    (B : Below A₀ base outer h₀) (F : Fr h₀ L s.heap m) (XX : (Mine.fr2 w.params).In h₀) (N : News h₀ L s.heap ((l, listOf its n) :: rest)) (TT : Top topProg LL mean mg mb h₀) (hd : dp + 12 < recursionLimit) (hu : un + 80 < cLine)
    (hc : CodeHd base (185, 181).fst (185, 181).snd) (hK : KeyFn w sg f kf) (hkf : ∀ q ∈ kf, q ∈ rest)
    (hne : ∀ p ∈ rest, p.1 ≠ l) (hlen : its.toList.length = len) (h20 : len < 20) (hI : ∀ i : Int, 0 ≤ i → i < len → its.toList[i.toNat]? = some ((fun i => .int (X i) (T i)) i))
    (hX : ∀ i : Int, 0 ≤ i → i < len → 0 ≤ X i ∧ X i < 100) (hx0 : 0 ≤ x) (hx1 : x < 100)
    (hr : r ≤ len) (hS : ∀ i : Int, 0 ≤ i → i < len → ((fun i => ¬ (sg * x < sg * X i)) i ↔ i < r))
    (ret : ∀ h' tk', Fr h₀ L h' m → News h₀ L h' ((l, listOf (kl_ins its.toList r (.int x tx)).toArray (n + 1)) :: rest) → Q .none { s with heap := h', toks := tk' }) :
    wpAny (model PP w) (ktrTop dp un gd cn (CS nm ig ic mo) L a ccd cl outer) (call (.ref 40) [.ref l, .int x tx] [(Str.ofString "key", .ref f)]) Q E s := by
  have hK0 := hK
  obtain ⟨⟨fd, hfd⟩, hK⟩ := hK
  have hkf1 : ∀ q ∈ kf, q ∈ (l, listOf its n) :: rest := fun q hq => List.mem_cons_of_mem _ (hkf q hq)
  have hfm := hkf1 _ hfd
  k_with_none
  k_with "eval Name" => (k_here; (fail_if_success (with_reducible show wpAny _ _ (eval _ (compEnvC _ _ _ _)) _ _ _)); first | (refine' nameX_L ?zqF ?zqv ?_ ?zqa ?zqb; (case zqF => k_asm); (case zqa => rfl); (case zqb => rfl); (case zqv => rfl); k_whole) | (refine' nameX_K ?zqF ?zqX ?zqT ?zqe ?_ ?zqa ?zqb; (case zqF => k_asm); (case zqX => k_asm); (case zqT => k_asm); (case zqa => rfl); (case zqb => rfl); (case zqe => k_is); k_whole) | (refine' nameX_B ?zqF ?zqX ?zqT ?zqe ?zqv ?zqn ?_ ?zqa ?zqb; (case zqF => k_asm); (case zqX => k_asm); (case zqT => k_asm); (case zqa => rfl); (case zqb => rfl); (case zqe => k_is); (case zqv => boot_fast); (case zqn => decide); k_whole) | (refine' nameX_C ?zqN ?zqc ?zqm ?zqd ?_ ?zqa ?zqb; (case zqa => rfl); (case zqb => rfl); (case zqN => k_asm); (case zqc => rfl); (case zqm => k_mem); (case zqd => k_asm); k_whole))
  k_with "callWith ref" => (k_here; first | (refine' callWith_K ?zqk1 ?zqk2 ?_; (case zqk1 => k_asm); (case zqk2 => k_is); k_whole) | (refine' callWith_KW ?zqk1 ?zqk2 ?zqk3 ?_; (case zqk1 => k_asm); (case zqk2 => k_is); (case zqk3 => exact rfl); k_whole))
  k_with "storeName" => (k_here; refine' storeX_L ?zqF ?zqN ?_ ?zqa ?zqb; (case zqF => k_asm); (case zqN => k_asm); (case zqa => rfl); (case zqb => rfl); k_whole; intro _ _ _; (try k_sweep))
  k_with "subscriptTail Name Name ref int" => k_extra "subscriptTail"
  k_with "subscriptTail Name Call ref int" => k_extra "subscriptTail"
  k_with "subscriptTail Name Subscript ref int" => k_extra "subscriptTail"
  k_with "subscriptTail" => (k_here; (with_reducible show wpAny _ _ (subscriptTail _ _ (Value.ref _) (Value.int _ _)) _ _ _); (with_unfolding_all refine' sub_list ?k1 ?k2 ?k3 ?_ ?k6); (case k1 => k_asm); (case k2 => k_dflt k_mem); (case k6 => with_unfolding_all rfl); (case k3 => k_extra "item"); k_whole)
  k_with "call builtin:len" => (k_here; (with_reducible show wpAny _ _ (call (Value.builtin "len") [Value.ref _]) _ _ _); (with_unfolding_all refine' len_led ?k1 ?k2 ?k3 ?_); (case k1 => k_asm); (case k2 => k_dflt k_mem); (case k3 => k_extra "len"); k_whole)
  k_with "call ref" => (k_here; (with_reducible show wpAny _ _ (call (Value.ref _) [Value.int _ _] []) _ _ _); k_dflt (k_extra "keyf"))
  k_with "call ref" => (k_here; (with_reducible show wpAny _ _ (call (Value.ref _) [Value.ref _, Value.int _ _, Value.int _ _, Value.none] _) _ _ _); k_dflt (k_extra "bis"))
  k_with "call builtin:list.insert" => (k_here; (with_reducible show wpAny _ _ (call (Value.builtin _) [Value.ref _, Value.int _ _, _]) _ _ _); k_dflt (refine' kl_insert ?F ?N ?f ?e ?U ?z ?_; (case F => k_asm); (case N => k_asm); (case U => k_upd); (case f => k_extra "insf"); (case e => rfl); (case z => k_extra "insz")); intro h' F' N')
  k_with "keyf" => ((refine' hK _ _ _ _ _ _ _ _ _ _ _ _ _ _ _ _ _ _ _ _ _ _ _ _ _ _ ?k1 ?k2 ?k3 ?k4 ?k5 ?k6 ?k7 ?k8 hx0 hx1 hkf1 ?_); (case k1 => k_asm); (case k2 => k_asm); (case k3 => k_asm); (case k4 => k_asm); (case k5 => k_asm); (case k6 => ktr_room); (case k7 => ktr_units); (case k8 => assumption); intro t h' tk' F' N')
  k_with "bis" => ((k_dflt (refine' c_brk (its := its) (n := n) ?k1 ?k2 ?k3 ?k4 ?k5 ?k6 ?k7 ?k8 hK0 hkf1 ?k9 hlen h20 hI hX hr hS ?_)); (case k1 => k_asm); (case k2 => k_asm); (case k3 => k_asm); (case k4 => k_asm); (case k5 => k_asm); (case k6 => ktr_room); (case k7 => ktr_units); (case k8 => assumption); (case k9 => k_mem); intro t h' tk' F' N')
  k_with "insf" => exact listFits_nat hr h20
  k_with "insz" => exact len_size hlen h20
  k_steps
  all_goals (exact ret _ _ (by assumption) (by assumption))
end
end Mine
end
section
open PySem PySem.W PyProof.Rows
namespace Mine
open PySem.Spec PySem.Calls
/-- empty lists at these places -/
noncomputable def ledE (as : List Addr) : List (Addr × Obj) := as.map fun a => (a, PySem.W.listOf #[] 0)
section
variable {prog : Program} {w : World} {A : Around} {E : Value → Shared → Prop} {s : Shared} {h₀ : Heap} {L : Addr} {m : Str → Option Value} {env : Env}
theorem comp_rows {pos : Pos} {x : Str} {scope : Scope} {cl : List (Str × Addr)} {S : List (Addr × Obj) → Prop} {P : Nat → Value → Prop} {Fin : List Value → List (Addr × Obj) → Prop} {led : List (Addr × Obj)}
    (hS : ∀ l l', (∀ p ∈ l, p ∈ l') → S l → S l') :
    ∀ (n i : Nat) (as : List Addr), as.Nodup → (∀ a ∈ as, ∀ q ∈ led, q.1 ≠ a) → S (ledE as.reverse ++ led) →
      (∀ as' : List Addr, as'.length = as.length + n → as'.Nodup → (∀ a ∈ as', ∀ q ∈ led, q.1 ≠ a) → Fin (as'.map Value.ref) (ledE as'.reverse ++ led)) →
      LCg.CompRest prog w A h₀ L m env (Expr.List [] pos) x scope cl s S P Fin n i (as.map Value.ref) (ledE as.reverse ++ led) := by
  intro n
  induction n with
  | zero => intro i as hnd hoff hs hfin; exact LCg.CompRest.zero (hfin as rfl hnd hoff)
  | succ n ih =>
    intro i as hnd hoff hs hfin
    refine LCg.CompRest.succ ?_
    intro v I oI C oC D m₂ h tk E' hP hC hx F N off ne
    refine PyProof.Rows.List_ ?_
    refine wpAny_mono (Q := fun vs s' => vs = [] ∧ s' = { s with heap := h, toks := tk }) (E := fun _ _ => False) ?_ (fun vs s' q => ?_) (fun _ _ q => q.elim)
    · exact fun Γ p hΓ => ⟨rfl, rfl⟩
    · obtain ⟨rfl, rfl⟩ := q
      refine newList_K F N (fun l h' F' N' hl => ?_)
      have hl2 : ∀ p ∈ ledE as.reverse ++ led, p.1 < l := fun p hp => hl p (List.mem_cons_of_mem _ (List.mem_cons_of_mem _ (List.mem_cons_of_mem _ hp)))
      have hI := hl (I, oI) (by simp)
      have hCl := hl (C, oC) (by simp)
      have hDl := hl (D, LCg.lst (as.map Value.ref)) (by simp)
      have e1 : ledE (as ++ [l]).reverse ++ led = (l, PySem.W.listOf #[] 0) :: (ledE as.reverse ++ led) := by simp [ledE]
      refine LCg.CompEnd.intro F' N' ((l, PySem.W.listOf #[] 0) :: (ledE as.reverse ++ led)) ?_ ?_ ?_ ?_
      · intro p hp
        simp only [List.mem_cons] at hp ⊢
        rcases hp with q | q | q | q | q <;> simp [q]
      · exact ⟨⟨Nat.ne_of_gt hI, Nat.ne_of_gt hCl, Nat.ne_of_gt hDl⟩, off⟩
      · exact hS _ _ (fun p hp => List.mem_cons_of_mem _ hp) hs
      · have e2 : as.map Value.ref ++ [Value.ref l] = (as ++ [l]).map Value.ref := by simp
        rw [e2, ← e1]
        refine ih (i + 1) (as ++ [l]) ?_ ?_ ?_ ?_
        · rw [List.nodup_append]
          refine ⟨hnd, by simp, ?_⟩
          intro a ha b hb
          rw [List.mem_singleton] at hb
          subst hb
          exact Nat.ne_of_lt (hl2 (a, PySem.W.listOf #[] 0) (List.mem_append_left _ (by simp [ledE, ha])))
        · intro a ha q hq
          rcases List.mem_append.mp ha with ha | ha
          · exact hoff a ha q hq
          · rw [List.mem_singleton] at ha
            subst ha
            exact Nat.ne_of_lt (hl2 q (List.mem_append_right _ hq))
        · rw [e1]; exact hS _ _ (fun p hp => List.mem_cons_of_mem _ hp) hs
        · intro as' hlen hnd' hoff'
          exact hfin as' (by rw [hlen]; simp; omega) hnd' hoff'
end
theorem srcAt_mono {h₀ : Heap} {ax : Addr} {its : Array Value} : ∀ l l' : List (Addr × Obj), (∀ p ∈ l, p ∈ l') → LCg.SrcAt h₀ ax its l → LCg.SrcAt h₀ ax its l' := by
  rintro l l' hs (h | ⟨o, hm, r⟩)
  · exact .inl h
  · exact .inr ⟨o, hs _ hm, r⟩
/-- nine rows, by their places -/
noncomputable def rowsL (ra : Nat → Addr) (O : Nat → Obj) : List (Addr × Obj) := (List.range 9).map fun i => (ra i, O i)
/-- the rows but one -/
noncomputable def rowsB (ra : Nat → Addr) (O : Nat → Obj) (k : Nat) : List (Addr × Obj) := ((List.range 9).filter (· != k)).map fun i => (ra i, O i)
noncomputable def putO (O : Nat → Obj) (k : Nat) (o : Obj) : Nat → Obj := fun i => if i = k then o else O i
theorem mem_rowsL {ra : Nat → Addr} {O : Nat → Obj} {i : Nat} (h : i < 9) : (ra i, O i) ∈ rowsL ra O := List.mem_map.mpr ⟨i, List.mem_range.mpr h, rfl⟩
theorem rows_out {ra : Nat → Addr} {O : Nat → Obj} {k : Nat} (h : k < 9) {rest : List (Addr × Obj)} : ∀ q ∈ (ra k, O k) :: (rowsB ra O k ++ rest), q ∈ rowsL ra O ++ rest := by
  intro q hq
  rcases List.mem_cons.mp hq with rfl | hq
  · exact List.mem_append_left _ (mem_rowsL h)
  · rcases List.mem_append.mp hq with hq | hq
    · obtain ⟨i, hi, rfl⟩ := List.mem_map.mp hq
      exact List.mem_append_left _ (mem_rowsL (List.mem_range.mp (List.mem_filter.mp hi).1))
    · exact List.mem_append_right _ hq
theorem rows_in {ra : Nat → Addr} {O : Nat → Obj} {k : Nat} {o : Obj} {rest : List (Addr × Obj)} : ∀ q ∈ rowsL ra (putO O k o) ++ rest, q ∈ (ra k, o) :: (rowsB ra O k ++ rest) := by
  intro q hq
  rcases List.mem_append.mp hq with hq | hq
  · obtain ⟨i, hi, rfl⟩ := List.mem_map.mp hq
    by_cases hk : i = k
    · subst hk; simp [putO]
    · refine List.mem_cons_of_mem _ (List.mem_append_left _ (List.mem_map.mpr ⟨i, List.mem_filter.mpr ⟨hi, by simpa using hk⟩, by simp [putO, hk]⟩))
  · exact List.mem_cons_of_mem _ (List.mem_append_right _ hq)
theorem rows_ne {ra : Nat → Addr} {O : Nat → Obj} {k : Nat} (h : k < 9) {rest : List (Addr × Obj)} (hinj : ∀ i j, i < 9 → j < 9 → ra i = ra j → i = j) (hrest : ∀ i, i < 9 → ∀ q ∈ rest, q.1 ≠ ra i) : ∀ q ∈ rowsB ra O k ++ rest, q.1 ≠ ra k := by
  intro q hq
  rcases List.mem_append.mp hq with hq | hq
  · obtain ⟨i, hi, rfl⟩ := List.mem_map.mp hq
    obtain ⟨h1, h2⟩ := List.mem_filter.mp hi
    intro e
    exact absurd (hinj i k (List.mem_range.mp h1) h e) (by simpa using h2)
  · exact hrest k h q hq
end Mine
end
section
/-! the pure law: what the runs compute, in plain Lean -/
namespace Mine
/-- the hosts: ways, rooms, which are contrary -/
structure Hosts where
  W : Nat → Option Nat
  R : Nat → Nat
  C : Nat → Bool
noncomputable def Hosts.inner (H : Hosts) (i : Nat) : Bool := (List.range 9).any fun j => H.W j == some i
noncomputable def Hosts.sign (H : Hosts) (i : Nat) : Int := if H.inner i then (if H.C i then -1 else 1) else 0
/-- the test by which a newcomer p finds its place in a row -/
noncomputable def Hosts.fore (H : Hosts) (i : Nat) (p x : Int) : Bool := if H.C i then decide (H.sign i * x < H.sign i * p) else decide (¬ (H.sign i * p < H.sign i * x))
noncomputable def putAt (r : Nat) (row : List Int) (p : Int) : List Int := row.take r ++ p :: row.drop r
noncomputable def posBy (f : Int → Bool) (row : List Int) : Nat := (row.takeWhile f).length
noncomputable def insBy (f : Int → Bool) (row : List Int) (p : Int) : List Int := putAt (posBy f row) row p
noncomputable def Hosts.ins (H : Hosts) (i : Nat) (row : List Int) (p : Int) : List Int := insBy (H.fore i p) row p
structure RSt where
  rho : Nat → List Int
  aw : List Int
  st : Nat
noncomputable def RSt.put (s : RSt) (i : Nat) (row : List Int) : RSt := { s with rho := fun j => if j = i then row else s.rho j }
/-- an away one is laid left or right by turns -/
noncomputable def awIns (aw : List Int) (p : Int) : List Int := insBy (fun x => if aw.length % 2 = 0 then decide (x < p) else decide (¬ p < x)) aw p
/-- one client goes from host to host -/
noncomputable def Hosts.go (H : Hosts) : Nat → RSt → Option Nat → Int → RSt
  | 0, s, _, _ => s
  | _ + 1, s, none, _ => s
  | n + 1, s, some i, p =>
    let row := H.ins i (s.rho i) p
    if row.length ≤ H.R i then s.put i row
    else
      let s' := s.put i row.dropLast
      let q := row.getLastD 0
      match H.W i with
      | some j => H.go n { s' with st := s'.st + 1 } (some j) q
      | none => { s' with aw := awIns s'.aw q }
noncomputable def RSt.init : RSt := ⟨fun _ => [], [], 0⟩
noncomputable def Hosts.run (H : Hosts) (cl : List (Option Nat × Int)) : RSt := cl.foldl (fun s c => H.go 10 s c.1 c.2) RSt.init
end Mine
namespace Mine
theorem part_of {r : Int → Int → Prop} {f : Int → Bool} (hf : ∀ a b, r a b → f b = true → f a = true) : ∀ {row : List Int}, row.Pairwise r → ∀ i (h : i < row.length), (f row[i] = true ↔ i < posBy f row)
  | [], _, i, h => absurd h (Nat.not_lt_zero _)
  | x :: row, hp, i, h => by
    rw [List.pairwise_cons] at hp
    have ih := part_of hf hp.2
    unfold posBy at ih ⊢
    by_cases hx : f x = true
    · rw [List.takeWhile_cons_of_pos hx, List.length_cons]
      cases i with
      | zero => simp [hx]
      | succ i =>
        have := ih i (by simpa using h)
        simp only [List.getElem_cons_succ]
        exact this.trans Nat.succ_lt_succ_iff.symm
    · rw [List.takeWhile_cons_of_neg hx]
      cases i with
      | zero => simp [hx]
      | succ i =>
        have h' : i < row.length := by simpa using h
        simp only [List.getElem_cons_succ, List.length_nil, Nat.not_lt_zero, iff_false]
        intro q
        exact hx (hf _ _ (hp.1 _ (List.getElem_mem h')) q)
theorem posBy_le (f : Int → Bool) (row : List Int) : posBy f row ≤ row.length := (List.takeWhile_sublist f).length_le
theorem putAt_length (r : Nat) (row : List Int) (p : Int) : (putAt r row p).length = row.length + 1 := by
  unfold putAt
  simp only [List.length_append, List.length_take, List.length_cons, List.length_drop]
  omega
theorem putAt_perm (r : Nat) (row : List Int) (p : Int) : (putAt r row p).Perm (p :: row) := by
  unfold putAt
  refine (List.perm_middle).trans ?_
  rw [List.take_append_drop]
theorem insBy_length (f : Int → Bool) (row : List Int) (p : Int) : (insBy f row p).length = row.length + 1 := putAt_length _ _ _
theorem insBy_perm (f : Int → Bool) (row : List Int) (p : Int) : (insBy f row p).Perm (p :: row) := putAt_perm _ _ _
/-- sorted by a key -/
noncomputable def SortK (k : Int → Int) (row : List Int) : Prop := row.Pairwise fun a b => k a ≤ k b
theorem insBy_sorted {k : Int → Int} {f : Int → Bool} {p : Int} (h1 : ∀ a, f a = true → k a ≤ k p) (h2 : ∀ a, ¬ f a = true → k p ≤ k a) (hf : ∀ a b, k a ≤ k b → f b = true → f a = true) : ∀ {row : List Int}, SortK k row → SortK k (insBy f row p)
  | [], _ => by simp [insBy, putAt, SortK]
  | x :: row, hp => by
    have hp' := hp
    unfold SortK at hp
    rw [List.pairwise_cons] at hp
    have ih := insBy_sorted h1 h2 hf (row := row) hp.2
    by_cases hx : f x = true
    · have e : insBy f (x :: row) p = x :: insBy f row p := by
        unfold insBy posBy putAt
        rw [List.takeWhile_cons_of_pos hx]
        simp
      rw [e]
      unfold SortK
      rw [List.pairwise_cons]
      refine ⟨fun b hb => ?_, ih⟩
      rcases List.mem_cons.mp ((insBy_perm f row p).mem_iff.mp hb) with rfl | hb
      · exact h1 _ hx
      · exact hp.1 b hb
    · have e : insBy f (x :: row) p = p :: x :: row := by
        unfold insBy posBy putAt
        rw [List.takeWhile_cons_of_neg hx]
        simp
      rw [e]
      unfold SortK
      rw [List.pairwise_cons]
      refine ⟨fun b hb => ?_, hp'⟩
      rcases List.mem_cons.mp hb with rfl | hb
      · exact h2 _ hx
      · exact Int.le_trans (h2 _ hx) (hp.1 b hb)
theorem fore_down (H : Hosts) (i : Nat) (p : Int) : ∀ a b, H.sign i * a ≤ H.sign i * b → H.fore i p b = true → H.fore i p a = true := by
  intro a b hab hb
  unfold Hosts.fore at hb ⊢
  by_cases hc : H.C i = true
  · rw [if_pos hc] at hb ⊢; simp only [decide_eq_true_eq] at hb ⊢; omega
  · rw [if_neg hc] at hb ⊢; simp only [decide_eq_true_eq] at hb ⊢; omega
theorem fore_le (H : Hosts) (i : Nat) (p a : Int) (h : H.fore i p a = true) : H.sign i * a ≤ H.sign i * p := by
  unfold Hosts.fore at h
  split at h <;> simp only [decide_eq_true_eq] at h <;> omega
theorem fore_ge (H : Hosts) (i : Nat) (p a : Int) (h : ¬ H.fore i p a = true) : H.sign i * p ≤ H.sign i * a := by
  unfold Hosts.fore at h
  split at h <;> simp only [decide_eq_true_eq] at h <;> omega
/-- what stands in a row between the turns -/
structure RowInv (H : Hosts) (i : Nat) (row : List Int) : Prop where
  len : row.length ≤ H.R i
  rng : ∀ x ∈ row, 0 ≤ x ∧ x < 100
  srt : SortK (fun x => H.sign i * x) row
theorem ins_part {H : Hosts} {i : Nat} {row : List Int} (h : SortK (fun x => H.sign i * x) row) (p : Int) : ∀ k (hk : k < row.length), (H.fore i p row[k] = true ↔ k < posBy (H.fore i p) row) := part_of (fore_down H i p) h
theorem ins_sorted {H : Hosts} {i : Nat} {row : List Int} (h : SortK (fun x => H.sign i * x) row) (p : Int) : SortK (fun x => H.sign i * x) (H.ins i row p) :=
  insBy_sorted (fun a => fore_le H i p a) (fun a => fore_ge H i p a) (fore_down H i p) h
theorem ins_rng {H : Hosts} {i : Nat} {row : List Int} {p : Int} (h : ∀ x ∈ row, 0 ≤ x ∧ x < 100) (hp : 0 ≤ p ∧ p < 100) : ∀ x ∈ H.ins i row p, 0 ≤ x ∧ x < 100 := by
  intro x hx
  rcases List.mem_cons.mp ((insBy_perm _ row p).mem_iff.mp hx) with rfl | hx
  · exact hp
  · exact h x hx
theorem rowInv_put {H : Hosts} {i : Nat} {row : List Int} {p : Int} (h : RowInv H i row) (hp : 0 ≤ p ∧ p < 100) (hl : (H.ins i row p).length ≤ H.R i) : RowInv H i (H.ins i row p) := ⟨hl, ins_rng h.rng hp, ins_sorted h.srt p⟩
theorem rowInv_cut {H : Hosts} {i : Nat} {row : List Int} {p : Int} (h : RowInv H i row) (hp : 0 ≤ p ∧ p < 100) : RowInv H i (H.ins i row p).dropLast := by
  refine ⟨?_, fun x hx => ins_rng h.rng hp x ((List.dropLast_sublist _).subset hx), ?_⟩
  · rw [List.length_dropLast]
    unfold Hosts.ins
    rw [insBy_length]
    have := h.len
    omega
  · exact List.Pairwise.sublist (List.dropLast_sublist _) (ins_sorted h.srt p)
/-- the row of those who went away -/
structure AwInv (n : Nat) (aw : List Int) : Prop where
  len : aw.length ≤ n
  rng : ∀ x ∈ aw, 0 ≤ x ∧ x < 100
  srt : SortK (fun x => 1 * x) aw
theorem aw_sorted {n : Nat} {aw : List Int} {p : Int} (h : AwInv n aw) (hp : 0 ≤ p ∧ p < 100) : AwInv (n + 1) (awIns aw p) := by
  refine ⟨?_, ?_, ?_⟩
  · unfold awIns; rw [insBy_length]; have := h.len; omega
  · intro x hx
    rcases List.mem_cons.mp ((insBy_perm _ aw p).mem_iff.mp hx) with rfl | hx
    · exact hp
    · exact h.rng x hx
  · refine insBy_sorted ?_ ?_ ?_ h.srt
    · intro a ha; split at ha <;> simp only [decide_eq_true_eq] at ha <;> omega
    · intro a ha; split at ha <;> simp only [decide_eq_true_eq] at ha <;> omega
    · intro a b hab hb; split at hb <;> simp_all <;> omega
structure StInv (H : Hosts) (n : Nat) (s : RSt) : Prop where
  row : ∀ i, i < 9 → RowInv H i (s.rho i)
  aw : AwInv n s.aw
end Mine
end
section
open PySem PySem.W PyProof.Rows
namespace Mine
open PySem.Spec PySem.Calls
theorem rows_made {as : List Addr} (hl : as.length = 9) (hnd : as.Nodup) : ∃ ra : Nat → Addr, as = (List.range 9).map ra ∧ (∀ i j, i < 9 → j < 9 → ra i = ra j → i = j) ∧ (∀ i, i < 9 → ra i ∈ as) ∧ ∀ q ∈ rowsL ra (fun _ => PySem.W.listOf #[] 0), q ∈ ledE as.reverse := by
  have hg : ∀ i, i < 9 → as.getD i 0 ∈ as := fun i hi => by
    rw [List.getD_eq_getElem?_getD, List.getElem?_eq_getElem (by omega)]; exact List.getElem_mem _
  refine ⟨fun i => as.getD i 0, ?_, ?_, hg, ?_⟩
  · apply List.ext_getElem
    · simp [hl]
    · intro i h1 h2
      simp [List.getD_eq_getElem?_getD, List.getElem?_eq_getElem h1]
  · intro i j hi hj e
    simp only at e
    rw [List.getD_eq_getElem?_getD, List.getD_eq_getElem?_getD, List.getElem?_eq_getElem (by omega), List.getElem?_eq_getElem (by omega)] at e
    have nd := List.pairwise_iff_getElem.mp hnd
    simp only [Option.getD_some] at e
    rcases Nat.lt_trichotomy i j with h | h | h
    · exact absurd e (nd i j (by omega) (by omega) h)
    · exact h
    · exact absurd e.symm (nd j i (by omega) (by omega) h)
  · intro q hq
    obtain ⟨i, hi, rfl⟩ := List.mem_map.mp hq
    exact List.mem_map.mpr ⟨_, List.mem_reverse.mpr (hg i (List.mem_range.mp hi)), rfl⟩
noncomputable def optV : Option Nat → Tok → Value
  | none, _ => .none
  | some i, t => .int (i : Int) t
noncomputable def optD : Option Nat → Dat
  | none => .none
  | some i => .int (i : Int)
theorem optV_dat {news : List (Addr × Obj)} (o : Option Nat) (t : Tok) : DatIn news (optV o t) (optD o) := by
  cases o with
  | none => exact .none
  | some i => exact .int _ _
noncomputable abbrev tup2 (a b : Value) (n : Nat) : Obj := { cls := .type "tuple", data := .seq #[a, b] n }
/-- where the run's inputs lie -/
structure LayD where
  clA : Addr
  wyA : Addr
  roA : Addr
  coA : Addr
  iC : Array Value
  iW : Array Value
  iR : Array Value
  iCo : Array Value
  nC : Nat
  nW : Nat
  nR : Nat
  nCo : Nat
  ca : Nat → Addr
  nT : Nat → Nat
  tv : Nat → Tok
  tp : Nat → Tok
  tw : Nat → Tok
  tr : Nat → Tok
structure LayOk (H : Hosts) (pv : Nat → Option Nat) (po : Nat → Int) (Y : LayD) (news : List (Addr × Obj)) : Prop where
  mC : (Y.clA, listOf Y.iC Y.nC) ∈ news
  mW : (Y.wyA, listOf Y.iW Y.nW) ∈ news
  mR : (Y.roA, listOf Y.iR Y.nR) ∈ news
  mCo : (Y.coA, listOf Y.iCo Y.nCo) ∈ news
  lW : Y.iW.toList.length = 9
  lR : Y.iR.size = 9
  gC : ∀ i : Nat, i < 8 → Y.iC.toList[i]? = some (.ref (Y.ca i))
  mT : ∀ i : Nat, i < 8 → (Y.ca i, tup2 (optV (pv i) (Y.tv i)) (.int (po i) (Y.tp i)) (Y.nT i)) ∈ news
  gW : ∀ i : Nat, i < 9 → Y.iW.toList[i]? = some (optV (H.W i) (Y.tw i))
  gR : ∀ i : Nat, i < 9 → Y.iR.toList[i]? = some (.int (H.R i) (Y.tr i))
  gCo : ∀ i : Nat, i < 9 → Y.iCo.toList[i]? = some (.bool (H.C i))
  hW : ∀ i j, i < 9 → H.W i = some j → j < i
  hR : ∀ i, i < 9 → H.R i ≤ 2
  hpv : ∀ i, i < 8 → ∀ k, pv i = some k → k < 9
  hpo : ∀ i, i < 8 → 0 ≤ po i ∧ po i < 100
theorem LayOk.mono {H : Hosts} {pv : Nat → Option Nat} {po : Nat → Int} {Y : LayD} {news news' : List (Addr × Obj)} (h : LayOk H pv po Y news) (hs : ∀ p ∈ news, p ∈ news') : LayOk H pv po Y news' :=
  { h with mC := hs _ h.mC, mW := hs _ h.mW, mR := hs _ h.mR, mCo := hs _ h.mCo, mT := fun i hi => hs _ (h.mT i hi) }
theorem datAll_of {news : List (Addr × Obj)} {W : Nat → Option Nat} {t : Nat → Tok} : ∀ (n : Nat) (vs : List Value), vs.length = n → (∀ i : Nat, i < n → vs[i]? = some (optV (W i) (t i))) → DatAll news vs ((List.range n).map fun i => optD (W i))
  | 0, vs, hl, _ => by
    rw [List.length_eq_zero_iff.mp hl]; exact .nil
  | n + 1, vs, hl, h => by
    cases vs with
    | nil => simp at hl
    | cons v vs =>
      have h0 := h 0 (Nat.zero_lt_succ _)
      simp only [List.getElem?_cons_zero, Option.some.injEq] at h0
      rw [List.range_succ_eq_map, List.map_cons, List.map_map]
      subst h0
      refine .cons (optV_dat _ _) ?_
      exact datAll_of (W := fun i => W (i + 1)) (t := fun i => t (i + 1)) n vs (by simpa using hl) fun i hi => by
        have := h (i + 1) (Nat.succ_lt_succ hi)
        simpa using this
theorem inner_mem (H : Hosts) (i : Nat) : (Dat.int (i : Int) ∈ (List.range 9).map fun j => optD (H.W j)) ↔ H.inner i = true := by
  unfold Hosts.inner
  simp only [List.mem_map, List.mem_range, List.any_eq_true, beq_iff_eq]
  constructor
  · rintro ⟨j, hj, e⟩
    refine ⟨j, hj, ?_⟩
    cases hw : H.W j with
    | none => rw [hw] at e; cases e
    | some k => rw [hw] at e; simp only [optD, Dat.int.injEq] at e; rw [show k = i by omega]
  · rintro ⟨j, hj, e⟩
    exact ⟨j, hj, by rw [e]; rfl⟩
/-- a row's object -/
noncomputable def RowO (o : Obj) (row : List Int) : Prop := ∃ vs n, o = listOf vs.toArray n ∧ IntsAre vs row
theorem RowO.iter {o : Obj} {row : List Int} {c : String} (h : RowO o row) : ¬ IterO c o := by
  obtain ⟨vs, n, rfl, _⟩ := h
  rintro ⟨_, vs', x, t, hd, _⟩
  cases hd
section
open Classical in
theorem in_ways {prog : Program} {w : World} {A : Around} {E : Value → Shared → Prop} {s : Shared} {h₀ : Heap} {L : Addr} {news : List (Addr × Obj)} {H : Hosts} {a : Addr} {its : Array Value} {n : Nat} {tw : Nat → Tok} {i : Nat} {t : Tok} {Q : Value → Shared → Prop}
    (N : News h₀ L s.heap news) (hm : (a, listOf its n) ∈ news) (hl : its.toList.length = 9) (hg : ∀ i : Nat, i < 9 → its.toList[i]? = some (optV (H.W i) (tw i))) (hu : A.units + 64 < cLine) (h : Q (.bool (H.inner i)) s) :
    wpAny (model prog w) A (compareOp .In (.int (i : Int) t) (.ref a)) Q E s := by
  have e : decide (Dat.int (i : Int) ∈ (List.range 9).map fun j => optD (H.W j)) = H.inner i := by
    by_cases hq : H.inner i = true
    · rw [hq]; exact decide_eq_true ((inner_mem H i).mpr hq)
    · simp only [Bool.not_eq_true] at hq
      rw [hq]; exact decide_eq_false fun x => by rw [(inner_mem H i).mp x] at hq; cases hq
  refine kqd_isIn (xs := its.toList) (ds := (List.range 9).map fun j => optD (H.W j)) (d := .int i) (ka := n) N hm rfl (by simp) (datAll_of 9 its.toList hl hg) (n₁ := news) (fun _ h => h) (n₂ := news) (.int _ _) (fun _ h => h) ?_ rfl hu (by rw [e]; exact h)
  intro d hd
  obtain ⟨j, _, rfl⟩ := List.mem_map.mp hd
  cases H.W j <;> rfl
end
end Mine
namespace Mine
open PySem PySem.W PyProof.Rows
theorem news_sub {h₀ h : Heap} {L : Addr} {l l' : List (Addr × Obj)} (N : News h₀ L h l) (hs : ∀ p ∈ l', p ∈ l) : News h₀ L h l' := fun p hp => N p (hs p hp)
theorem led_rows {ra : Nat → Addr} {as : List Addr} {q : Addr × Obj} {l : List (Addr × Obj)} (h : ∀ q ∈ rowsL ra (fun _ => PySem.W.listOf #[] 0), q ∈ ledE as) : ∀ p ∈ rowsL ra (fun _ => PySem.W.listOf #[] 0) ++ (q :: l), p ∈ q :: (ledE as ++ l) := by
  intro p hp
  rcases List.mem_append.mp hp with hp | hp
  · exact List.mem_cons_of_mem _ (List.mem_append_left _ (h p hp))
  · rcases List.mem_cons.mp hp with rfl | hp
    · exact List.mem_cons_self
    · exact List.mem_cons_of_mem _ (List.mem_append_right _ hp)
end Mine
namespace Mine
theorem src_led {h₀ : Heap} {a : Addr} {its : Array Value} {n : Nat} {l : List (Addr × Obj)} (h : (a, PySem.W.listOf its n) ∈ l) : LCg.SrcAt h₀ a its l := .inr ⟨_, h, rfl, _, rfl⟩
end Mine
namespace Mine
open PySem PySem.W PyProof.Rows
theorem item_nat {its : Array Value} {k : Nat} {v : Value} (hk : k < 100) (h : its.toList[k]? = some v) : 0 ≤ (k : Int) ∧ (k : Int) < 2 ^ 62 ∧ its.toList[(k : Int).toNat]? = some v := ⟨by omega, by omega, by simpa using h⟩
theorem led_perm1 {R kt news : List (Addr × Obj)} {x d : Addr × Obj} : ∀ p ∈ (R ++ (x :: kt)) ++ (d :: news), p ∈ x :: (R ++ (d :: (kt ++ news))) := by
  intro p hp
  simp only [List.mem_append, List.mem_cons] at hp ⊢
  rcases hp with (h | h | h) | h | h <;> simp [h]
theorem kt_iter {kt : List (Addr × Obj)} {c : String} (h : KTab kt) : ∀ p ∈ kt, ¬ IterO c p.2 := by
  rcases h with rfl | ⟨c', oc, vs, t, rfl, hd, hv, _⟩
  · intro p hp
    rw [List.mem_singleton] at hp
    subst hp
    rintro ⟨hc, _⟩
    cases hc
  · intro p hp
    rcases List.mem_cons.mp hp with rfl | hp
    · rintro ⟨hc, _⟩; cases hc
    · rw [List.mem_singleton] at hp
      subst hp
      rintro ⟨_, vs', x, t', e1, e2⟩
      simp only at e1
      rw [hd] at e1
      cases e1
      rw [hv] at e2
      cases e2
end Mine
end
section
open PySem PySem.W PyProof.Rows
namespace Mine
open PySem.Spec PySem.Calls
theorem ints_fun : ∀ {vs : List Value} {row : List Int}, IntsAre vs row → ∃ T : Nat → Tok, ∀ i, i < row.length → vs[i]? = some (.int (row.getD i 0) (T i))
  | _, _, .nil => ⟨fun _ => default, fun i h => absurd h (Nat.not_lt_zero i)⟩
  | _, _, .cons x t h => by
    obtain ⟨T, hT⟩ := ints_fun h
    refine ⟨fun i => match i with | 0 => t | i + 1 => T i, fun i hi => ?_⟩
    cases i with
    | zero => simp
    | succ i => simpa using hT i (by simpa using hi)
theorem ints_len : ∀ {vs : List Value} {row : List Int}, IntsAre vs row → vs.length = row.length
  | _, _, .nil => rfl
  | _, _, .cons _ _ h => by simp [ints_len h]
theorem ints_take : ∀ {vs : List Value} {row : List Int} (n : Nat), IntsAre vs row → IntsAre (vs.take n) (row.take n)
  | _, _, 0, _ => by simpa using IntsAre.nil
  | _, _, _ + 1, .nil => by simpa using IntsAre.nil
  | _, _, n + 1, .cons x t h => by simpa using IntsAre.cons x t (ints_take n h)
theorem ints_drop : ∀ {vs : List Value} {row : List Int} (n : Nat), IntsAre vs row → IntsAre (vs.drop n) (row.drop n)
  | _, _, 0, h => by simpa using h
  | _, _, _ + 1, .nil => by simpa using IntsAre.nil
  | _, _, n + 1, .cons x t h => by simpa using ints_drop n h
theorem ints_ins {vs : List Value} {row : List Int} {r : Nat} {p : Int} {t : Tok} (h : IntsAre vs row) (hr : r ≤ row.length) : IntsAre (kl_ins vs r (.int p t)) (putAt r row p) := by
  have e : kl_ins vs r (.int p t) = vs.take r ++ .int p t :: vs.drop r := by
    unfold kl_ins
    have : (if (r : Int) < 0 then ((r : Int) + (vs.length : Int)).toNat else min (r : Int).toNat vs.length) = r := by
      rw [if_neg (by omega)]
      have := ints_len h
      simp only [Int.toNat_natCast]
      omega
    rw [this]
  rw [e]
  exact IntsAre.append (ints_take r h) (.cons p t (ints_drop r h))
theorem ints_last : ∀ {vs : List Value} {row : List Int}, IntsAre vs row → row ≠ [] → ∃ vf t, kl_last vs = some (vf, .int (row.getLastD 0) t) ∧ IntsAre vf row.dropLast
  | _, _, .nil, h => absurd rfl h
  | _, _, .cons x t (vs := vs) (ns := ns) h, _ => by
    by_cases hn : ns = []
    · subst hn
      cases h
      exact ⟨[], t, rfl, .nil⟩
    · obtain ⟨vf, t', e, hI⟩ := ints_last h hn
      refine ⟨.int x t :: vf, t', ?_, ?_⟩
      · unfold kl_last; rw [e]
        cases ns with
        | nil => exact absurd rfl hn
        | cons a l => simp [List.getLastD]
      · cases ns with
        | nil => exact absurd rfl hn
        | cons a l => simpa using IntsAre.cons x t hI
theorem news_one {h₀ h : Heap} {L : Addr} {l : List (Addr × Obj)} (N : News h₀ L h l) {p q : Addr × Obj} (hp : p ∈ l) (hq : q ∈ l) (e : p.1 = q.1) : p.2 = q.2 := by
  have a := (N p hp).1
  have b := (N q hq).1
  rw [e, b] at a
  exact (Option.some.inj a).symm
theorem ne_noseq {h₀ h : Heap} {L : Addr} {l kf : List (Addr × Obj)} (N : News h₀ L h l) {a : Addr} {its : Array Value} {n : Nat} (hl : (a, listOf its n) ∈ l) (hk : ∀ q ∈ kf, q ∈ l) (hs : NoSeq kf) : ∀ q ∈ kf, q.1 ≠ a := by
  intro q hq e
  have := news_one N (hk q hq) hl e
  exact hs q hq its n (by rw [this])
section
variable {w : World} {mean : ExcName → Option Value} {mg mb : Str → Option Value} {dp un : Nat} {gd : Option (List Code)} {cn : Str} {nm : List (Str × NameKind)} {ig ic : Bool} {mo : List (Str × Const)} {a : Addr} {ccd : Value} {cl : List (Str × Addr)} {outer : List Env} {A₀ : Around} {base h₀ : Heap} {L : Addr} {m : Str → Option Value} {s : Shared} {Q E : Value → Shared → Prop} {news : List (Addr × Obj)}
theorem i_l {l f : Addr} {kf : List (Addr × Obj)} {o : Obj} {row : List Int} {sg x : Int} {tx : Tok} {rest : List (Addr × Obj)} (B : Below A₀ base outer h₀) (F : Fr h₀ L s.heap m) (XX : (Mine.fr2 w.params).In h₀) (N : News h₀ L s.heap ((l, o) :: rest)) (TT : Top topProg LL mean mg mb h₀) (hd : dp + 12 < recursionLimit) (hu : un + 80 < cLine)
    (hc : CodeHd base (185, 181).fst (185, 181).snd) (hK : KeyFn w sg f kf) (hkf : ∀ q ∈ kf, q ∈ rest)
    (hne : ∀ p ∈ rest, p.1 ≠ l) (hO : RowO o row) (h20 : row.length < 20) (hX : ∀ y ∈ row, 0 ≤ y ∧ y < 100) (hs : SortK (fun x => sg * x) row) (hx : 0 ≤ x ∧ x < 100)
    (ret : ∀ o' h' tk', RowO o' (insBy (fun y => decide (sg * y < sg * x)) row x) → Fr h₀ L h' m → News h₀ L h' ((l, o') :: rest) → Q .none { s with heap := h', toks := tk' }) :
    wpAny (model PP w) (ktrTop dp un gd cn (CS nm ig ic mo) L a ccd cl outer) (call (.ref 58) [.ref l, .int x tx] [(Str.ofString "key", .ref f)]) Q E s := by
  obtain ⟨vs, n, rfl, hI⟩ := hO
  obtain ⟨T, hT⟩ := ints_fun hI
  have hv := part_of (r := fun a b => sg * a ≤ sg * b) (f := fun y => decide (sg * y < sg * x)) (fun a b hab hb => by simp only [decide_eq_true_eq] at hb ⊢; omega) hs
  refine c_ilk (its := vs.toArray) (n := n) (len := row.length) (r := posBy (fun y => decide (sg * y < sg * x)) row) (X := fun i => row.getD i.toNat 0) (T := fun i => T i.toNat) B F XX N TT hd hu hc hK hkf hne (by simpa using ints_len hI) h20 ?_ ?_ hx.1 hx.2 (posBy_le _ _) ?_ fun h' tk' F' N' => ?_
  · intro i h0 h1
    simpa using hT i.toNat (by omega)
  · intro i h0 h1
    refine hX _ ?_
    rw [List.getD_eq_getElem?_getD, List.getElem?_eq_getElem (by omega)]
    exact List.getElem_mem _
  · intro i h0 h1
    have := hv i.toNat (by omega)
    simp only [decide_eq_true_eq] at this
    simp only
    rw [List.getD_eq_getElem?_getD, List.getElem?_eq_getElem (by omega : i.toNat < row.length), Option.getD_some, this]
    omega
  · exact ret _ _ _ ⟨_, _, rfl, ints_ins hI (posBy_le _ _)⟩ F' N'
theorem i_r {l f : Addr} {kf : List (Addr × Obj)} {o : Obj} {row : List Int} {sg x : Int} {tx : Tok} {rest : List (Addr × Obj)} (B : Below A₀ base outer h₀) (F : Fr h₀ L s.heap m) (XX : (Mine.fr2 w.params).In h₀) (N : News h₀ L s.heap ((l, o) :: rest)) (TT : Top topProg LL mean mg mb h₀) (hd : dp + 12 < recursionLimit) (hu : un + 80 < cLine)
    (hc : CodeHd base (185, 181).fst (185, 181).snd) (hK : KeyFn w sg f kf) (hkf : ∀ q ∈ kf, q ∈ rest)
    (hne : ∀ p ∈ rest, p.1 ≠ l) (hO : RowO o row) (h20 : row.length < 20) (hX : ∀ y ∈ row, 0 ≤ y ∧ y < 100) (hs : SortK (fun x => sg * x) row) (hx : 0 ≤ x ∧ x < 100)
    (ret : ∀ o' h' tk', RowO o' (insBy (fun y => decide (¬ (sg * x < sg * y))) row x) → Fr h₀ L h' m → News h₀ L h' ((l, o') :: rest) → Q .none { s with heap := h', toks := tk' }) :
    wpAny (model PP w) (ktrTop dp un gd cn (CS nm ig ic mo) L a ccd cl outer) (call (.ref 40) [.ref l, .int x tx] [(Str.ofString "key", .ref f)]) Q E s := by
  obtain ⟨vs, n, rfl, hI⟩ := hO
  obtain ⟨T, hT⟩ := ints_fun hI
  have hv := part_of (r := fun a b => sg * a ≤ sg * b) (f := fun y => decide (¬ (sg * x < sg * y))) (fun a b hab hb => by simp only [decide_eq_true_eq] at hb ⊢; omega) hs
  refine c_irk (its := vs.toArray) (n := n) (len := row.length) (r := posBy (fun y => decide (¬ (sg * x < sg * y))) row) (X := fun i => row.getD i.toNat 0) (T := fun i => T i.toNat) B F XX N TT hd hu hc hK hkf hne (by simpa using ints_len hI) h20 ?_ ?_ hx.1 hx.2 (posBy_le _ _) ?_ fun h' tk' F' N' => ?_
  · intro i h0 h1
    simpa using hT i.toNat (by omega)
  · intro i h0 h1
    refine hX _ ?_
    rw [List.getD_eq_getElem?_getD, List.getElem?_eq_getElem (by omega)]
    exact List.getElem_mem _
  · intro i h0 h1
    have := hv i.toNat (by omega)
    simp only [decide_eq_true_eq] at this
    simp only
    rw [List.getD_eq_getElem?_getD, List.getElem?_eq_getElem (by omega : i.toNat < row.length), Option.getD_some, this]
    omega
  · exact ret _ _ _ ⟨_, _, rfl, ints_ins hI (posBy_le _ _)⟩ F' N'
end
section
variable {prog : Program} {w : World} {A : Around} {E : Value → Shared → Prop} {s : Shared} {h₀ : Heap} {L : Addr} {m : Str → Option Value}
theorem r_pop {l : Addr} {o : Obj} {row : List Int} {rest : List (Addr × Obj)} {Q : Value → Shared → Prop} (F : Fr h₀ L s.heap m) (N : News h₀ L s.heap ((l, o) :: rest)) (hne : ∀ p ∈ rest, p.1 ≠ l) (hO : RowO o row) (h20 : row.length < 20) (h1 : row ≠ [])
    (ret : ∀ o' t h', RowO o' row.dropLast → Fr h₀ L h' m → News h₀ L h' ((l, o') :: rest) → Q (.int (row.getLastD 0) t) { s with heap := h' }) : wpAny (model prog w) A (call (.builtin "list.pop") [.ref l]) Q E s := by
  obtain ⟨vs, n, rfl, hI⟩ := hO
  obtain ⟨vf, t, e, hIf⟩ := ints_last hI h1
  refine kl_pop (its := vs.toArray) (n := n) (p := vf) F N (by simpa using e) (.head hne) ?_ fun h' F' N' => ret _ _ _ ⟨vf, _, rfl, hIf⟩ F' N'
  have := ints_len hI
  have h2 : 20 ≤ sizeLine := by decide
  show vs.toArray.toList.length ≤ sizeLine
  simp only
  omega
theorem r_len {l : Addr} {o : Obj} {row : List Int} {news : List (Addr × Obj)} {Q : Value → Shared → Prop} (N : News h₀ L s.heap news) (hm : (l, o) ∈ news) (hO : RowO o row) (h20 : row.length < 20)
    (h : Q (.int (row.length : Int) (s.toks + 1)) { s with toks := s.toks + 1 + 1 }) : wpAny (model prog w) A (call (.builtin "len") [.ref l]) Q E s := by
  obtain ⟨vs, n, rfl, hI⟩ := hO
  exact len_led N hm ⟨by simpa using ints_len hI, by omega⟩ h
end
/-- where the rows lie, and what lies elsewhere -/
structure StatF (ra : Nat → Addr) (aw D : Addr) (sz : Nat) (news : List (Addr × Obj)) : Prop where
  inj : ∀ i j, i < 9 → j < 9 → ra i = ra j → i = j
  raw : ∀ i, i < 9 → aw ≠ ra i
  rD : ∀ i, i < 9 → D ≠ ra i
  rn : ∀ i, i < 9 → ∀ q ∈ news, q.1 ≠ ra i
  rs : ∀ i, i < 9 → ra i < sz
  r1 : ∀ i, i < 9 → ra i ≠ 181
  aD : D ≠ aw
  an : ∀ q ∈ news, q.1 ≠ aw
  as : aw < sz
  a1 : aw ≠ 181
  d1 : D ≠ 181
  n1 : ∀ q ∈ news, q.1 ≠ 181
  s1 : 181 < sz
theorem led_k {ra : Nat → Addr} {O : Nat → Obj} {own kt news : List (Addr × Obj)} {x d : Addr × Obj} : ∀ p ∈ kt ++ (own ++ (rowsL ra O ++ (x :: d :: news))), p ∈ own ++ (rowsL ra O ++ (x :: (kt ++ (d :: news)))) := by
  intro p hp
  refine sub_of hp ?_
  (repeat' (first | with_reducible refine sub_app ?_ ?_ | with_reducible refine sub_cons ?_ ?_ | exact sub_nil | (intro _ hz9; k_mem) | k_mem))
theorem led_row {ra : Nat → Addr} {O : Nat → Obj} {own kf kt news : List (Addr × Obj)} {x d : Addr × Obj} {k : Nat} (hk : k < 9) : ∀ p ∈ (ra k, O k) :: (rowsB ra O k ++ (kf ++ (kt ++ (own ++ (x :: d :: news))))), p ∈ kf ++ kt ++ (own ++ (rowsL ra O ++ (x :: d :: news))) := by
  intro p hp
  have := rows_out (ra := ra) (O := O) hk p hp
  refine sub_of this ?_
  (repeat' (first | with_reducible refine sub_app ?_ ?_ | with_reducible refine sub_cons ?_ ?_ | exact sub_nil | (intro _ hz9; k_mem) | k_mem))
theorem led_back {ra : Nat → Addr} {O : Nat → Obj} {own kf kt news : List (Addr × Obj)} {x d : Addr × Obj} {k : Nat} {o' : Obj} : ∀ p ∈ own ++ (rowsL ra (putO O k o') ++ (x :: (kt ++ (d :: news)))), p ∈ (ra k, o') :: (rowsB ra O k ++ (kf ++ (kt ++ (own ++ (x :: d :: news))))) := by
  intro p hp
  refine rows_in p ?_
  refine sub_of hp ?_
  (repeat' (first | with_reducible refine sub_app ?_ ?_ | with_reducible refine sub_cons ?_ ?_ | exact sub_nil | (intro _ hz9; k_mem) | k_mem))
theorem led_k2 {ra : Nat → Addr} {O : Nat → Obj} {own kf kt news : List (Addr × Obj)} {x d : Addr × Obj} {k : Nat} {o' : Obj} : ∀ p ∈ kt ++ ((ra k, o') :: (rowsB ra O k ++ (own ++ (x :: d :: news)))), p ∈ (ra k, o') :: (rowsB ra O k ++ (kf ++ (kt ++ (own ++ (x :: d :: news))))) := by
  intro p hp
  refine sub_of hp ?_
  (repeat' (first | with_reducible refine sub_app ?_ ?_ | with_reducible refine sub_cons ?_ ?_ | exact sub_nil | (intro _ hz9; k_mem) | k_mem))
theorem led_aw {ra : Nat → Addr} {O : Nat → Obj} {own kf kt news : List (Addr × Obj)} {x d : Addr × Obj} {k : Nat} {o' : Obj} : ∀ p ∈ x :: (kf ++ (kt ++ ((ra k, o') :: (rowsB ra O k ++ (own ++ (d :: news)))))), p ∈ kf ++ kt ++ ((ra k, o') :: (rowsB ra O k ++ (own ++ (x :: d :: news)))) := by
  intro p hp
  refine sub_of hp ?_
  (repeat' (first | with_reducible refine sub_app ?_ ?_ | with_reducible refine sub_cons ?_ ?_ | exact sub_nil | (intro _ hz9; k_mem) | k_mem))
theorem led_back2 {ra : Nat → Addr} {O : Nat → Obj} {own kf kt news : List (Addr × Obj)} {x d : Addr × Obj} {k : Nat} {o' : Obj} : ∀ p ∈ own ++ (rowsL ra (putO O k o') ++ (x :: (kt ++ (d :: news)))), p ∈ x :: (kf ++ (kt ++ ((ra k, o') :: (rowsB ra O k ++ (own ++ (d :: news)))))) := by
  intro p hp
  have : p ∈ (ra k, o') :: (rowsB ra O k ++ (own ++ (x :: (kt ++ (d :: news))))) := by
    refine rows_in p ?_
    refine sub_of hp ?_
    (repeat' (first | with_reducible refine sub_app ?_ ?_ | with_reducible refine sub_cons ?_ ?_ | exact sub_nil | (intro _ hz9; k_mem) | k_mem))
  refine sub_of this ?_
  (repeat' (first | with_reducible refine sub_app ?_ ?_ | with_reducible refine sub_cons ?_ ?_ | exact sub_nil | (intro _ hz9; k_mem) | k_mem))
section
variable {h₀ h : Heap} {L : Addr} {ra : Nat → Addr} {aw D : Addr} {sz : Nat} {O : Nat → Obj} {own kf kt news : List (Addr × Obj)} {oA oD o' : Obj} {k : Nat} {row : List Int}
theorem ne_row (S : StatF ra aw D sz news) (hk : k < 9) (ho : ∀ p ∈ own, sz ≤ p.1) (N : News h₀ L h ((ra k, o') :: (rowsB ra O k ++ (kf ++ (kt ++ (own ++ ((aw, oA) :: (D, oD) :: news))))))) (hO : RowO o' row) (hf : NoSeq kf) (ht : NoSeq kt) :
    ∀ q ∈ rowsB ra O k ++ (kf ++ (kt ++ (own ++ ((aw, oA) :: (D, oD) :: news)))), q.1 ≠ ra k := by
  obtain ⟨vs, n, rfl, _⟩ := hO
  intro q hq
  rcases List.mem_append.mp hq with h1 | h1
  · exact rows_ne (rest := []) hk S.inj (fun _ _ _ h => nomatch h) q (List.mem_append_left _ h1)
  · rcases List.mem_append.mp h1 with h2 | h2
    · exact ne_noseq N List.mem_cons_self (fun q hq => by simp [hq]) hf q h2
    · rcases List.mem_append.mp h2 with h3 | h3
      · exact ne_noseq N List.mem_cons_self (fun q hq => by simp [hq]) ht q h3
      · rcases List.mem_append.mp h3 with h4 | h4
        · exact Nat.ne_of_gt (Nat.lt_of_lt_of_le (S.rs k hk) (ho q h4))
        · simp only [List.mem_cons] at h4
          rcases h4 with rfl | rfl | h4
          · exact S.raw k hk
          · exact S.rD k hk
          · exact S.rn k hk q h4
theorem ne_aw (S : StatF ra aw D sz news) (hk : k < 9) (ho : ∀ p ∈ own, sz ≤ p.1) (N : News h₀ L h ((aw, oA) :: (kf ++ (kt ++ ((ra k, o') :: (rowsB ra O k ++ (own ++ ((D, oD) :: news)))))))) (hO : RowO oA row) (hf : NoSeq kf) (ht : NoSeq kt) :
    ∀ q ∈ kf ++ (kt ++ ((ra k, o') :: (rowsB ra O k ++ (own ++ ((D, oD) :: news))))), q.1 ≠ aw := by
  obtain ⟨vs, n, rfl, _⟩ := hO
  intro q hq
  rcases List.mem_append.mp hq with h1 | h1
  · exact ne_noseq N List.mem_cons_self (fun q hq => by simp [hq]) hf q h1
  · rcases List.mem_append.mp h1 with h2 | h2
    · exact ne_noseq N List.mem_cons_self (fun q hq => by simp [hq]) ht q h2
    · rcases List.mem_cons.mp h2 with rfl | h3
      · exact (S.raw k hk).symm
      · rcases List.mem_append.mp h3 with h4 | h4
        · obtain ⟨i, hi, rfl⟩ := List.mem_map.mp h4
          exact (S.raw i (List.mem_range.mp (List.mem_filter.mp hi).1)).symm
        · rcases List.mem_append.mp h4 with h5 | h5
          · exact Nat.ne_of_gt (Nat.lt_of_lt_of_le S.as (ho q h5))
          · rcases List.mem_cons.mp h5 with rfl | h6
            · exact S.aD
            · exact S.an q h6
theorem ne_181 (S : StatF ra aw D sz news) (ho : ∀ p ∈ own, sz ≤ p.1) : ∀ q ∈ own ++ (rowsL ra O ++ ((aw, oA) :: (D, oD) :: news)), q.1 ≠ 181 := by
  intro q hq
  rcases List.mem_append.mp hq with h1 | h1
  · exact Nat.ne_of_gt (Nat.lt_of_lt_of_le S.s1 (ho q h1))
  · rcases List.mem_append.mp h1 with h2 | h2
    · obtain ⟨i, hi, rfl⟩ := List.mem_map.mp h2
      exact S.r1 i (List.mem_range.mp hi)
    · simp only [List.mem_cons] at h2
      rcases h2 with rfl | rfl | h2
      · exact S.a1
      · exact S.d1
      · exact S.n1 q h2
theorem ne_181b (S : StatF ra aw D sz news) (hk : k < 9) (ho : ∀ p ∈ own, sz ≤ p.1) : ∀ q ∈ (ra k, o') :: (rowsB ra O k ++ (own ++ ((aw, oA) :: (D, oD) :: news))), q.1 ≠ 181 := by
  intro q hq
  rcases List.mem_cons.mp hq with rfl | h1
  · exact S.r1 k hk
  · rcases List.mem_append.mp h1 with h2 | h2
    · obtain ⟨i, hi, rfl⟩ := List.mem_map.mp h2
      exact S.r1 i (List.mem_range.mp (List.mem_filter.mp hi).1)
    · refine ne_181 (O := O) (oA := oA) (oD := oD) S ho q ?_
      rcases List.mem_append.mp h2 with h3 | h3
      · exact List.mem_append_left _ h3
      · exact List.mem_append_right _ (List.mem_append_right _ h3)
end
theorem lst_get {ra : Nat → Addr} {k : Nat} (hk : k < 9) : (((List.range 9).map ra).map Value.ref).toArray.toList[k]? = some (.ref (ra k)) := by
  simp [hk]
end Mine
namespace Mine
open PySem PySem.W PyProof.Rows
theorem ins_l {H : Hosts} {i : Nat} {o : Obj} {row : List Int} {p sg : Int} (hC : H.C i = true) (hs : H.sign i = sg) (h : RowO o (insBy (fun y => decide (sg * y < sg * p)) row p)) : RowO o (H.ins i row p) := by
  have e : H.fore i p = fun y => decide (sg * y < sg * p) := by funext y; simp [Hosts.fore, hC, hs]
  unfold Hosts.ins; rw [e]; exact h
theorem ins_r {H : Hosts} {i : Nat} {o : Obj} {row : List Int} {p sg : Int} (hC : H.C i = false) (hs : H.sign i = sg) (h : RowO o (insBy (fun y => decide (¬ (sg * p < sg * y))) row p)) : RowO o (H.ins i row p) := by
  have e : H.fore i p = fun y => decide (¬ (sg * p < sg * y)) := by funext y; simp [Hosts.fore, hC, hs]
  unfold Hosts.ins; rw [e]; exact h
theorem aw_l {o : Obj} {aw : List Int} {p : Int} (h2 : aw.length % 2 = 0) (h : RowO o (insBy (fun y => decide (1 * y < 1 * p)) aw p)) : RowO o (awIns aw p) := by
  unfold awIns
  have e : (fun x => if aw.length % 2 = 0 then decide (x < p) else decide (¬ p < x)) = fun y => decide (1 * y < 1 * p) := by funext y; simp [h2]
  rw [e]; exact h
theorem aw_r {o : Obj} {aw : List Int} {p : Int} (h2 : ¬ aw.length % 2 = 0) (h : RowO o (insBy (fun y => decide (¬ (1 * p < 1 * y))) aw p)) : RowO o (awIns aw p) := by
  unfold awIns
  have e : (fun x => if aw.length % 2 = 0 then decide (x < p) else decide (¬ p < x)) = fun y => decide (¬ (1 * p < 1 * y)) := by funext y; simp [h2]
  rw [e]; exact h
theorem in_ways2 {prog : Program} {w : World} {A : Around} {E : Value → Shared → Prop} {s : Shared} {h₀ : Heap} {L : Addr} {news : List (Addr × Obj)} {H : Hosts} {a : Addr} {its : Array Value} {n : Nat} {tw : Nat → Tok} {i : Nat} {t : Tok} {Q : Value → Shared → Prop} {b : Bool}
    (N : News h₀ L s.heap news) (hm : (a, listOf its n) ∈ news) (hl : its.toList.length = 9) (hg : ∀ i : Nat, i < 9 → its.toList[i]? = some (optV (H.W i) (tw i))) (hu : A.units + 64 < cLine) (hb : H.inner i = b) (h : Q (.bool b) s) :
    wpAny (model prog w) A (compareOp .In (.int (i : Int) t) (.ref a)) Q E s := in_ways N hm hl hg hu (by rw [hb]; exact h)
end Mine
namespace Mine
theorem ins_length (H : Hosts) (i : Nat) (row : List Int) (p : Int) : (H.ins i row p).length = row.length + 1 := by unfold Hosts.ins; exact insBy_length _ _ _
end Mine
namespace Mine
open PySem PySem.W PyProof.Rows
theorem off1_mem {D : Addr} : ∀ {l : List (Addr × Obj)}, LCg.Off1 D l → ∀ p ∈ l, p.1 ≠ D
  | [], _, _, h => nomatch h
  | q :: l, ⟨h1, h2⟩, p, hp => by
    rcases List.mem_cons.mp hp with rfl | hp
    · exact h1
    · exact off1_mem h2 p hp
theorem ktab_181 {kt : List (Addr × Obj)} (h : KTab kt) : ∃ o, ((181 : Addr), o) ∈ kt := by
  rcases h with rfl | ⟨c', oc, vs, t, rfl, _⟩
  · exact ⟨_, List.mem_cons_self⟩
  · exact ⟨_, List.mem_cons_self⟩
theorem stat_mk {h₀ h : Heap} {L : Addr} {ra : Nat → Addr} {aw D : Addr} {oA oD : Obj} {as : List Addr} {kt news : List (Addr × Obj)} (hT : KTab kt) (hne : ∀ p ∈ news, p.1 ≠ 181)
    (hinj : ∀ i j, i < 9 → j < 9 → ra i = ra j → i = j) (hras : ∀ i, i < 9 → ra i ∈ as) (hoff : ∀ a ∈ as, ∀ q ∈ kt ++ news, q.1 ≠ a) (o1 : LCg.Off1 D (ledE as.reverse ++ (kt ++ news)))
    (hl1 : ∀ p ∈ rowsL ra (fun _ => listOf #[] 0) ++ ((D, oD) :: (kt ++ news)), p.1 < aw) (N : News h₀ L h ((aw, oA) :: (rowsL ra (fun _ => listOf #[] 0) ++ ((D, oD) :: (kt ++ news))))) :
    StatF ra aw D h.objs.size news := by
  obtain ⟨o, ho⟩ := ktab_181 hT
  have h181 : 181 < aw := hl1 (181, o) (by simp [ho])
  have hr1 : ∀ i, i < 9 → (ra i, listOf #[] 0) ∈ rowsL ra (fun _ => listOf #[] 0) := fun i hi => mem_rowsL (O := fun _ => listOf #[] 0) hi
  have hE : ∀ i, i < 9 → (ra i, listOf #[] 0) ∈ ledE as.reverse := fun i hi => List.mem_map.mpr ⟨_, List.mem_reverse.mpr (hras i hi), rfl⟩
  exact {
    inj := hinj
    raw := fun i hi => Nat.ne_of_gt (hl1 _ (List.mem_append_left _ (hr1 i hi)))
    rD := fun i hi e => off1_mem o1 _ (List.mem_append_left _ (hE i hi)) e.symm
    rn := fun i hi q hq => hoff _ (hras i hi) q (List.mem_append_right _ hq)
    rs := fun i hi => Heap.lt_size (N _ (List.mem_cons_of_mem _ (List.mem_append_left _ (hr1 i hi)))).1
    r1 := fun i hi e => hoff _ (hras i hi) _ (List.mem_append_left _ ho) e.symm
    aD := Nat.ne_of_lt (hl1 (D, oD) (by simp))
    an := fun q hq => Nat.ne_of_lt (hl1 q (by simp [hq]))
    as := Heap.lt_size (N _ List.mem_cons_self).1
    a1 := Nat.ne_of_gt h181
    d1 := fun e => off1_mem o1 _ (List.mem_append_right _ (List.mem_append_left _ ho)) e.symm
    n1 := hne
    s1 := Heap.lt_size (N (181, o) (by simp [ho])).1 }
end Mine
namespace Mine
theorem fm2 {n : Nat} (h : Int.fmod (n : Int) 2 = 0) : n % 2 = 0 := by
  rw [Int.fmod_eq_emod_of_nonneg _ (by decide)] at h; omega
theorem fm2n {n : Nat} (h : ¬ Int.fmod (n : Int) 2 = 0) : ¬ n % 2 = 0 := by
  rw [Int.fmod_eq_emod_of_nonneg _ (by decide)] at h; omega
end Mine
end
section
open PySem PySem.W PyProof.Rows
namespace Mine
open PySem.Spec PySem.Calls
/-- the run's state, as it lies -/
structure RC where
  s : RSt
  O : Nat → Obj
  A : Obj
  stok : Tok
  kt : List (Addr × Obj)
noncomputable def rcVals (Y : LayD) (D aw : Addr) (c : RC) : List (Str × Value) :=
  [(Str.ofString "steps", .int (c.s.st : Int) c.stok), (Str.ofString "clients", .ref Y.clA), (Str.ofString "ways", .ref Y.wyA), (Str.ofString "rooms", .ref Y.roA), (Str.ofString "contrary", .ref Y.coA), (Str.ofString "rows", .ref D), (Str.ofString "away", .ref aw)]
noncomputable def rcLed (ra : Nat → Addr) (aw : Addr) (c : RC) : List (Addr × Obj) := rowsL ra c.O ++ ((aw, c.A) :: c.kt)
structure RCok (H : Hosts) (n : Nat) (c : RC) : Prop where
  inv : StInv H n c.s
  rows : ∀ i, i < 9 → RowO (c.O i) (c.s.rho i)
  away : RowO c.A c.s.aw
  tab : KTab c.kt
/-- the state while one goes from host to host -/
structure WC where
  s : RSt
  O : Nat → Obj
  A : Obj
  stok : Tok
  kt : List (Addr × Obj)
  k : Nat
  place : Option Nat
  port : Int
  pV : Value
  pt : Tok
  qt : Tok
noncomputable def wcVals (Y : LayD) (D aw : Addr) (c : WC) : List (Str × Value) :=
  [(Str.ofString "place", c.pV), (Str.ofString "port", .int c.port c.qt), (Str.ofString "steps", .int (c.s.st : Int) c.stok), (Str.ofString "clients", .ref Y.clA), (Str.ofString "ways", .ref Y.wyA), (Str.ofString "rooms", .ref Y.roA), (Str.ofString "contrary", .ref Y.coA), (Str.ofString "rows", .ref D), (Str.ofString "away", .ref aw)]
structure WCok (H : Hosts) (n : Nat) (target : RSt) (c : WC) : Prop where
  row : ∀ i, i < 9 → RowInv H i (c.s.rho i)
  aw1 : AwInv (n + 1) c.s.aw
  aw2 : c.place ≠ none → AwInv n c.s.aw
  rows : ∀ i, i < 9 → RowO (c.O i) (c.s.rho i)
  away : RowO c.A c.s.aw
  tab : KTab c.kt
  goal : H.go c.k c.s c.place c.port = target
  plc : ∀ i, c.place = some i → i < c.k ∧ i < 9
  prt : 0 ≤ c.port ∧ c.port < 100
  pv : c.pV = optV c.place c.pt
noncomputable def clOf (pv : Nat → Option Nat) (po : Nat → Int) (tb : List UInt8) : List (Option Nat × Int) := tb.map fun b => (pv b.toNat, po b.toNat)
theorem rc_iter0 {ra : Nat → Addr} {aw : Addr} {kt : List (Addr × Obj)} {c : String} {t : Tok} (hT : KTab kt) : ∀ p ∈ rcLed ra aw ⟨RSt.init, fun _ => listOf #[] 0, listOf #[] 0, t, kt⟩, ¬ IterO c p.2 := by
  have e : RowO (listOf #[] 0) [] := ⟨[], 0, rfl, .nil⟩
  intro p hp
  rcases List.mem_append.mp hp with hp | hp
  · obtain ⟨i, _, rfl⟩ := List.mem_map.mp hp
    exact e.iter
  · rcases List.mem_cons.mp hp with rfl | hp
    · exact e.iter
    · exact kt_iter hT p hp
theorem rc_ok0 {H : Hosts} {kt : List (Addr × Obj)} {t : Tok} (hT : KTab kt) : RCok H 0 ⟨RSt.init, fun _ => listOf #[] 0, listOf #[] 0, t, kt⟩ := by
  have e : RowO (listOf #[] 0) [] := ⟨[], 0, rfl, .nil⟩
  exact ⟨⟨fun i _ => ⟨Nat.zero_le _, fun x hx => (by cases hx), List.Pairwise.nil⟩, ⟨Nat.le_refl _, fun x hx => (by cases hx), List.Pairwise.nil⟩⟩, fun _ _ => e, e, hT⟩
theorem wc_start {H : Hosts} {pv : Nat → Option Nat} {po : Nat → Int} {Y : LayD} {news : List (Addr × Obj)} {i n : Nat} {c : RC} {qt : Tok} (hY : LayOk H pv po Y news) (h : RCok H i c) (hn : n < 8) :
    WCok H i (H.go 10 c.s (pv n) (po n)) ⟨c.s, c.O, c.A, c.stok, c.kt, 10, pv n, po n, optV (pv n) (Y.tv n), Y.tv n, qt⟩ :=
  ⟨h.inv.row, ⟨Nat.le_succ_of_le h.inv.aw.len, h.inv.aw.rng, h.inv.aw.srt⟩, fun _ => h.inv.aw, h.rows, h.away, h.tab, rfl, fun i hi => ⟨(by have := hY.hpv n hn i hi; show i < 10; omega), hY.hpv n hn i hi⟩, hY.hpo n hn, rfl⟩

theorem go_none (H : Hosts) : ∀ (n : Nat) (s : RSt) (p : Int), H.go n s none p = s
  | 0, _, _ => rfl
  | _ + 1, _, _ => rfl
theorem last_mem : ∀ {row : List Int}, row ≠ [] → row.getLastD 0 ∈ row
  | [], h => absurd rfl h
  | [x], _ => by simp [List.getLastD]
  | x :: y :: r, _ => by
    have := last_mem (row := y :: r) (by first | k_mem | simp)
    simp only [List.getLastD] at this ⊢
    exact List.mem_cons_of_mem _ this
theorem ins_ne {H : Hosts} {i : Nat} {row : List Int} {p : Int} : H.ins i row p ≠ [] := by
  intro e
  have := ins_length H i row p
  rw [e] at this
  simp at this
theorem last_rng {H : Hosts} {i : Nat} {row : List Int} {p : Int} (h : ∀ x ∈ row, 0 ≤ x ∧ x < 100) (hp : 0 ≤ p ∧ p < 100) : 0 ≤ (H.ins i row p).getLastD 0 ∧ (H.ins i row p).getLastD 0 < 100 := ins_rng h hp _ (last_mem ins_ne)
theorem srt_sg {H : Hosts} {i : Nat} {row : List Int} {sg : Int} (e : H.sign i = sg) (h : SortK (fun x => H.sign i * x) row) : SortK (fun x => sg * x) row := by rw [← e]; exact h
section
variable {H : Hosts} {n : Nat} {tgt : RSt} {ws : RSt} {wO : Nat → Obj} {wA : Obj} {wst wpt wqt t1 t2 t3 : Tok} {wkt kt' : List (Addr × Obj)} {wk pl : Nat} {wpo : Int} {wpV : Value} {o oA : Obj}
theorem put_rows {row : List Int} (h : ∀ i, i < 9 → RowO (wO i) (ws.rho i)) (ho : RowO o row) : ∀ i, i < 9 → RowO (putO wO pl o i) ((ws.put pl row).rho i) := by
  intro i hi
  by_cases e : i = pl
  · subst e; simpa [putO, RSt.put] using ho
  · simpa [putO, RSt.put, e] using h i hi
theorem put_inv {row : List Int} (h : ∀ i, i < 9 → RowInv H i (ws.rho i)) (ho : RowInv H pl row) : ∀ i, i < 9 → RowInv H i ((ws.put pl row).rho i) := by
  intro i hi
  by_cases e : i = pl
  · subst e; simpa [RSt.put] using ho
  · simpa [RSt.put, e] using h i hi
theorem wc_put (hw : WCok H n tgt ⟨ws, wO, wA, wst, wkt, wk, some pl, wpo, wpV, wpt, wqt⟩) (hO : RowO o (H.ins pl (ws.rho pl) wpo)) (hl : (H.ins pl (ws.rho pl) wpo).length ≤ H.R pl) (hT : KTab kt') :
    WCok H n tgt ⟨ws.put pl (H.ins pl (ws.rho pl) wpo), putO wO pl o, wA, t1, kt', wk - 1, none, wpo, .none, t2, t3⟩ := by
  obtain ⟨hk, h9⟩ := hw.plc pl rfl
  obtain ⟨k', rfl⟩ : ∃ k', wk = k' + 1 := ⟨wk - 1, by simp only at hk; omega⟩
  refine ⟨put_inv hw.row (rowInv_put (hw.row pl h9) hw.prt hl), hw.aw1, fun h => absurd rfl h, put_rows hw.rows hO, hw.away, hT, ?_, (fun _ h => nomatch h), hw.prt, rfl⟩
  have := hw.goal
  simp only [Hosts.go] at this
  rw [if_pos hl] at this
  simp only [go_none]
  exact this
theorem wc_next {j : Nat} {q : Int} (hw : WCok H n tgt ⟨ws, wO, wA, wst, wkt, wk, some pl, wpo, wpV, wpt, wqt⟩) (hO : RowO o (H.ins pl (ws.rho pl) wpo).dropLast) (hl : ¬ (H.ins pl (ws.rho pl) wpo).length ≤ H.R pl) (hT : KTab kt') (hW : H.W pl = some j) (hj : j < pl) (hq : q = (H.ins pl (ws.rho pl) wpo).getLastD 0) :
    WCok H n tgt ⟨{ ws.put pl (H.ins pl (ws.rho pl) wpo).dropLast with st := ws.st + 1 }, putO wO pl o, wA, t1, kt', wk - 1, some j, q, .int (j : Int) t2, t2, t3⟩ := by
  obtain ⟨hk, h9⟩ := hw.plc pl rfl
  obtain ⟨k', rfl⟩ : ∃ k', wk = k' + 1 := ⟨wk - 1, by simp only at hk; omega⟩
  subst hq
  simp only at hk
  refine ⟨put_inv hw.row (rowInv_cut (hw.row pl h9) hw.prt), hw.aw1, fun _ => hw.aw2 (by first | k_mem | simp), put_rows hw.rows hO, hw.away, hT, ?_, ?_, last_rng (hw.row pl h9).rng hw.prt, rfl⟩
  · have := hw.goal
    simp only [Hosts.go] at this
    rw [if_neg hl, hW] at this
    exact this
  · intro i hi
    simp only [Option.some.injEq] at hi
    subst hi
    simp only
    omega
theorem wc_away {q : Int} (hw : WCok H n tgt ⟨ws, wO, wA, wst, wkt, wk, some pl, wpo, wpV, wpt, wqt⟩) (hO : RowO o (H.ins pl (ws.rho pl) wpo).dropLast) (hl : ¬ (H.ins pl (ws.rho pl) wpo).length ≤ H.R pl) (hT : KTab kt') (hW : H.W pl = none) (hA : RowO oA (awIns ws.aw ((H.ins pl (ws.rho pl) wpo).getLastD 0))) (hq : q = (H.ins pl (ws.rho pl) wpo).getLastD 0) :
    WCok H n tgt ⟨{ ws.put pl (H.ins pl (ws.rho pl) wpo).dropLast with aw := awIns ws.aw ((H.ins pl (ws.rho pl) wpo).getLastD 0) }, putO wO pl o, oA, t1, kt', wk - 1, none, q, .none, t2, t3⟩ := by
  obtain ⟨hk, h9⟩ := hw.plc pl rfl
  obtain ⟨k', rfl⟩ : ∃ k', wk = k' + 1 := ⟨wk - 1, by simp only at hk; omega⟩
  subst hq
  refine ⟨put_inv hw.row (rowInv_cut (hw.row pl h9) hw.prt), aw_sorted (hw.aw2 (by first | k_mem | simp)) (last_rng (hw.row pl h9).rng hw.prt), fun h => absurd rfl h, put_rows hw.rows hO, hA, hT, ?_, (fun _ h => nomatch h), last_rng (hw.row pl h9).rng hw.prt, rfl⟩
  have := hw.goal
  simp only [Hosts.go] at this
  rw [if_neg hl, hW] at this
  simp only [go_none]
  exact this
end
theorem run_step {H : Hosts} {pv : Nat → Option Nat} {po : Nat → Int} {tb : Array UInt8} {i : Nat} {n : UInt8} {s : RSt} (hb : tb[i]? = some n) (hs : s = H.run (clOf pv po (tb.toList.take i))) : H.go 10 s (pv n.toNat) (po n.toNat) = H.run (clOf pv po (tb.toList.take (i + 1))) := by
  have e : tb.toList.take (i + 1) = tb.toList.take i ++ [n] := by
    rw [List.take_add_one]
    simp [hb]
  rw [e, hs]
  unfold clOf Hosts.run
  rw [List.map_append, List.foldl_append]
  rfl
theorem rc_iter {ra : Nat → Addr} {aw : Addr} {H : Hosts} {n : Nat} {c : RC} {k : String} (h : RCok H n c) : ∀ p ∈ rcLed ra aw c, ¬ IterO k p.2 := by
  intro p hp
  rcases List.mem_append.mp hp with hp | hp
  · obtain ⟨i, hi, rfl⟩ := List.mem_map.mp hp
    exact (h.rows i (List.mem_range.mp hi)).iter
  · rcases List.mem_cons.mp hp with rfl | hp
    · exact h.away.iter
    · exact kt_iter h.tab p hp
theorem rc_end {H : Hosts} {pv : Nat → Option Nat} {po : Nat → Int} {tb : Array UInt8} {i : Nat} {b : UInt8} {s : RSt} {ws : RSt} {wO : Nat → Obj} {wA : Obj} {wst wpt wqt t1 : Tok} {wkt : List (Addr × Obj)} {wk : Nat} {wpo : Int} {wpV : Value}
    (hw : WCok H i (H.go 10 s (pv b.toNat) (po b.toNat)) ⟨ws, wO, wA, wst, wkt, wk, none, wpo, wpV, wpt, wqt⟩) (hb : tb[i]? = some b) (hs : s = H.run (clOf pv po (tb.toList.take i))) :
    RCok H (i + 1) ⟨ws, wO, wA, t1, wkt⟩ ∧ (⟨ws, wO, wA, t1, wkt⟩ : RC).s = H.run (clOf pv po (tb.toList.take (i + 1))) := by
  refine ⟨⟨⟨hw.row, hw.aw1⟩, hw.rows, hw.away, hw.tab⟩, ?_⟩
  rw [← run_step hb hs, ← hw.goal, go_none]
theorem led_end {ra : Nat → Addr} {aw : Addr} {own news : List (Addr × Obj)} {d : Addr × Obj} {ws : RSt} {wO : Nat → Obj} {wA : Obj} {t1 : Tok} {wkt : List (Addr × Obj)} : ∀ p ∈ own ++ (rcLed ra aw ⟨ws, wO, wA, t1, wkt⟩ ++ (d :: news)), p ∈ own ++ (rowsL ra wO ++ ((aw, wA) :: (wkt ++ (d :: news)))) := by
  intro p hp
  simpa [rcLed] using hp
end Mine
namespace Mine
open PySem PySem.W PyProof.Rows
open PySem.Spec PySem.Calls
noncomputable def runD (s : RSt) : Dat := .list [.list ((List.range 9).map fun i => .list ((s.rho i).map .int)), .list (s.aw.map .int), .int (s.st : Int)]
theorem dat_ints {news : List (Addr × Obj)} : ∀ {vs : List Value} {row : List Int}, IntsAre vs row → DatAll news vs (row.map .int)
  | _, _, .nil => .nil
  | _, _, .cons x t h => .cons (.int x t) (dat_ints h)
theorem dat_map {α : Type} {news : List (Addr × Obj)} {f : α → Value} {g : α → Dat} : ∀ {l : List α}, (∀ i ∈ l, DatIn news (f i) (g i)) → DatAll news (l.map f) (l.map g)
  | [], _ => .nil
  | a :: l, h => .cons (h a List.mem_cons_self) (dat_map fun i hi => h i (List.mem_cons_of_mem _ hi))
theorem dat_row {news : List (Addr × Obj)} {a : Addr} {o : Obj} {row : List Int} (hm : (a, o) ∈ news) (h : RowO o row) : DatIn news (.ref a) (.list (row.map .int)) := by
  obtain ⟨vs, n, rfl, hI⟩ := h
  exact .list hm (dat_ints hI)
section
variable {h₀ : Heap} {L : Addr} {m : Str → Option Value} {s : Shared} {Q : Value → Shared → Prop} {news : List (Addr × Obj)}
theorem run_fin {H : Hosts} {pv : Nat → Option Nat} {po : Nat → Int} {tb : Array UInt8} {ra : Nat → Addr} {aw D l' : Addr} {sz n k : Nat} {c : RC} {h' : Heap} {tk' : Nat} (S : StatF ra aw D sz news) (hR : RCok H n c ∧ c.s = H.run (clOf pv po (tb.toList.take tb.size)))
    (F : Fr h₀ L h' m) (N : News h₀ L h' ((l', listOf #[.ref D, .ref aw, .int (c.s.st : Int) c.stok] k) :: (rcLed ra aw c ++ ((D, LCg.lst (((List.range 9).map ra).map Value.ref)) :: news))))
    (hl : ∀ p ∈ rcLed ra aw c ++ ((D, LCg.lst (((List.range 9).map ra).map Value.ref)) :: news), p.1 < l')
    (ret : ∀ v h' tk' kt' news', Fr h₀ L h' m → News h₀ L h' (kt' ++ news') → (∀ p ∈ news, p ∈ news') → (∀ p ∈ news', p.1 ≠ 181) → KTab kt' → DatIn news' v (runD (H.run (clOf pv po tb.toList))) → Q v { s with heap := h', toks := tk' }) :
    Q (.ref l') { s with heap := h', toks := tk' } := by
  obtain ⟨⟨inv, rows, away, tab⟩, hs⟩ := hR
  rw [show tb.toList.take tb.size = tb.toList from List.take_of_length_le (Nat.le_of_eq Array.length_toList)] at hs
  obtain ⟨o, ho⟩ := ktab_181 tab
  have h181 : 181 < l' := hl (181, o) (by first | k_mem | simp [rcLed, ho])
  refine ret _ _ _ c.kt ((l', listOf #[.ref D, .ref aw, .int (c.s.st : Int) c.stok] k) :: (rowsL ra c.O ++ ((aw, c.A) :: (D, LCg.lst (((List.range 9).map ra).map Value.ref)) :: news))) F (news_sub N ?_) (fun p hp => by simp [hp]) ?_ tab ?_
  · intro p hp
    dsimp only [rcLed] at hp ⊢
    refine sub_of hp ?_
    (repeat' (first | with_reducible refine sub_app ?_ ?_ | with_reducible refine sub_cons ?_ ?_ | exact sub_nil | (intro _ hz9; k_mem) | k_mem))
  · intro p hp
    rcases List.mem_cons.mp hp with rfl | hp
    · exact Nat.ne_of_gt h181
    · exact ne_181 (own := []) S (fun _ h => nomatch h) p hp
  · rw [← hs]
    refine .list (vs := [.ref D, .ref aw, .int (c.s.st : Int) c.stok]) List.mem_cons_self (.cons ?_ (.cons ?_ (.cons (.int _ _) .nil)))
    · refine .list (vs := ((List.range 9).map ra).map Value.ref) (n := 9) (by first | k_mem | simp) ?_
      rw [List.map_map]
      exact dat_map fun i hi => dat_row (o := c.O i) (List.mem_cons_of_mem _ (List.mem_append_left _ (mem_rowsL (List.mem_range.mp hi)))) (rows i (List.mem_range.mp hi))
    · exact dat_row (o := c.A) (by first | k_mem | simp) away
end
end Mine
namespace Mine
open PySem PySem.W PyProof.Rows
open PySem.Spec PySem.Calls
/-- what stands once a newcomer has been laid into its row -/
noncomputable def CutQ {g h : Heap} {L : Addr} {m : Str → Option Value} (_ : Fr g L h m) (s : Shared) (H : Hosts) (ra : Nat → Addr) (wO : Nat → Obj) (pl : Nat) (row : List Int) (p : Int) (tl : List (Addr × Obj)) (f : Flow) (s' : Shared) : Prop :=
  f = .next ∧ ∃ h' tk' vs9 n9 kf kt9, s' = { s with heap := h', toks := tk' } ∧ Fr g L h' m ∧ News g L h' ((ra pl, listOf (List.toArray vs9) n9) :: (rowsB ra wO pl ++ (kf ++ (kt9 ++ tl)))) ∧ RowO (listOf (List.toArray vs9) n9) (H.ins pl row p) ∧ NoSeq kf ∧ KTab kt9
theorem cut_end {g h : Heap} {L : Addr} {m : Str → Option Value} {F : Fr g L h m} {s : Shared} {H : Hosts} {ra : Nat → Addr} {wO : Nat → Obj} {pl : Nat} {row : List Int} {p : Int} {tl : List (Addr × Obj)} {h' : Heap} {tk' : Nat} {vs9 : List Value} {n9 : Nat} {kf kt9 : List (Addr × Obj)}
    (F' : Fr g L h' m) (N' : News g L h' ((ra pl, listOf (List.toArray vs9) n9) :: (rowsB ra wO pl ++ (kf ++ (kt9 ++ tl))))) (hO : RowO (listOf (List.toArray vs9) n9) (H.ins pl row p)) (hs : NoSeq kf) (hT : KTab kt9) : CutQ F s H ra wO pl row p tl .next { s with heap := h', toks := tk' } :=
  ⟨rfl, h', tk', vs9, n9, kf, kt9, rfl, F', N', hO, hs, hT⟩
end Mine
end
section
open PySem PySem.W PyProof.Rows
namespace Mine
open PySem.Spec PySem.Calls
section
variable {prog : Program} {w : World} {A : Around} {E : Value → Shared → Prop} {s : Shared} {h₀ : Heap} {L : Addr} {m : Str → Option Value} {l : Addr} {o : Obj} {row : List Int} {rest : List (Addr × Obj)} {Q : Value → Shared → Prop}
theorem up1 {h : Heap} (f : Array Value → Array Value) {its : Array Value} {n : Nat} (N : News h₀ L h ((l, listOf its n) :: rest)) (hne : ∀ p ∈ rest, p.1 ≠ l) : News h₀ L (h.update l (Obj.mapSeq f)) ((l, listOf (f its) (if (f its).size == its.size then n else n + 1)) :: rest) :=
  ki_turn (pre := []) f N (fun _ h => nomatch h) hne rfl rfl
theorem rowO_arr {a : Array Value} {n : Nat} {row : List Int} (h : IntsAre a.toList row) : RowO (listOf a n) row := ⟨a.toList, n, by rw [Array.toArray_toList], h⟩
theorem sz20 : 100 ≤ sizeLine := by decide
theorem r_append {x : Int} {t : Tok} (F : Fr h₀ L s.heap m) (N : News h₀ L s.heap ((l, o) :: rest)) (hne : ∀ p ∈ rest, p.1 ≠ l) (hO : RowO o row) (h20 : row.length < 20)
    (ret : ∀ o' h', RowO o' (row ++ [x]) → Fr h₀ L h' m → News h₀ L h' ((l, o') :: rest) → Q .none { s with heap := h' }) : wpAny (model prog w) A (call (.builtin "list.append") [.ref l, .int x t]) Q E s := by
  obtain ⟨vs, n, rfl, hI⟩ := hO
  refine append_K (its := vs.toArray) (n := n) F N (.head hne) (fun h' F' N' => ret _ _ ⟨vs ++ [.int x t], n + 1, ?_, IntsAre.append hI (.cons x t .nil)⟩ F' N') ?_
  · simp
  · rw [List.size_toArray, ints_len hI]; exact Nat.le_trans (by omega) sz20
theorem r_rev (F : Fr h₀ L s.heap m) (N : News h₀ L s.heap ((l, o) :: rest)) (hne : ∀ p ∈ rest, p.1 ≠ l) (hO : RowO o row) (h20 : row.length < 20)
    (ret : ∀ o' h', RowO o' row.reverse → Fr h₀ L h' m → News h₀ L h' ((l, o') :: rest) → Q .none { s with heap := h' }) : wpAny (model prog w) A (call (.builtin "list.reverse") [.ref l]) Q E s := by
  obtain ⟨vs, n, rfl, hI⟩ := hO
  refine kl_reverse (its := vs.toArray) (n := n) (l := vs.reverse) F N (by simp) (.head hne) ?_ fun h' F' N' => ret _ _ ⟨vs.reverse, n, rfl, IntsAre.reverse hI⟩ F' N'
  have := ints_len hI
  have := sz20
  show vs.toArray.toList.length ≤ sizeLine
  simp only
  omega
theorem r_extend {b : Addr} {o2 : Obj} {row2 : List Int} (F : Fr h₀ L s.heap m) (N : News h₀ L s.heap ((l, o) :: rest)) (hb : (b, o2) ∈ rest) (hne : ∀ p ∈ rest, p.1 ≠ l) (hO : RowO o row) (hO2 : RowO o2 row2) (h20 : row.length < 20) (h20' : row2.length < 20)
    (ret : ∀ o' h', RowO o' (row ++ row2) → Fr h₀ L h' m → News h₀ L h' ((l, o') :: rest) → Q .none { s with heap := h' }) : wpAny (model prog w) A (call (.builtin "list.extend") [.ref l, .ref b]) Q E s := by
  obtain ⟨vs, n, rfl, hI⟩ := hO
  obtain ⟨vs2, n2, rfl, hI2⟩ := hO2
  have z := N (l, listOf vs.toArray n) (.head _)
  have e1 := ints_len hI
  have e2 := ints_len hI2
  have := sz20
  refine call_meets PySem.F.slot_list_extend ⟨_, z.1, rfl⟩ PySem.F.entry_list_extend (PySem.F.args_list_extend_2 _ _) (PySem.AutoSeq1.list_extend_list_list_0 l vs.toArray n b vs2.toArray n2 ?_ ?_ ?_) ⟨z.1, (N _ (List.mem_cons_of_mem _ hb)).1, ret _ _ ?_ (F.change (Heap.SameBut.update ..) z.2.1 z.2.2) (up1 _ N hne)⟩
  · simp only [List.size_toArray, Bool.and_eq_true, not_and, Bool.not_eq_true]
    intro _
    rw [e1, e2]
    exact decide_eq_false (by omega)
  · rw [List.size_toArray]; omega
  · rw [List.size_toArray, List.size_toArray]; omega
  · exact rowO_arr (by simpa using IntsAre.append hI hI2)
theorem callWith_bkw0 {M : Model} {env : Env} {pos : Pos} {id : String} {first : List Value} {kws : List Keyword} (hall : (backToKw pos (keywordEach kws env)).all (·.1.isSome) = true) (hkw : (backToKw pos (keywordEach kws env)).any (·.1.isNone) = false)
    (h : wpAny M A (evalAll ((backToKw pos (keywordEach kws env)).map (·.2))) (fun ks s₂ => wpAny M A (call (.builtin id) (first ++ []) (((backToKw pos (keywordEach kws env)).filterMap (·.1)).zip ks)) Q E s₂) E s) :
    wpAny M A (callWith pos (.builtin id) first (backTo pos (starEach [] env)) (backToKw pos (keywordEach kws env))) Q E s :=
  callWith_builtin_kwB rfl hkw (evalArgs_kw2_nil hall h)
theorem r_sort {b : Bool} (F : Fr h₀ L s.heap m) (N : News h₀ L s.heap ((l, o) :: rest)) (hne : ∀ p ∈ rest, p.1 ≠ l) (hO : RowO o row) (h20 : row.length < 20)
    (ret : ∀ o' row' h', RowO o' row' → row'.Perm row → Ordered b row' → Fr h₀ L h' m → News h₀ L h' ((l, o') :: rest) → Q .none { s with heap := h' }) : wpAny (model prog w) A (call (.builtin "list.sort") [.ref l] [(Str.ofString "reverse", .bool b)]) Q E s := by
  obtain ⟨vs, n, rfl, hI⟩ := hO
  have z := N (l, listOf vs.toArray n) (.head _)
  have e1 := ints_len hI
  have ho : s.heap.get? l = some (seqObj "list" vs.toArray n) := z.1
  refine wpAny_call_entry_kw slot_list_sort ⟨_, z.1, rfl⟩ entry_list_sort (list_sort_tree_rev (n := n) (vs := vs) ho hI (by omega) fun out ns' a1 a2 a3 => ⟨_, rfl, ?_⟩) (args_list_sort_rev _ _)
  obtain ⟨c, hc⟩ := sortedHeap_at (vs := vs) (out := out) ho
  have F4 : Fr h₀ L (sortedHeap s.heap l vs out) m :=
    ksk_fr (((ksk_fr F (Heap.SameBut.update s.heap l (Obj.mapSeq fun _ => #[])) z.2.1 z.2.2).push (seqObj "tuple" vs.toArray 0)).push (seqObj "list" #[] 0)) (Heap.SameBut.update _ l (Obj.mapSeq fun _ => out)) z.2.1 z.2.2
  refine ret (listOf out c) ns' _ (rowO_arr a1) a2 a3 F4 ?_
  intro p hq
  rcases List.mem_cons.mp hq with rfl | hq
  · exact ⟨hc, z.2⟩
  · have y := N p (List.mem_cons_of_mem _ hq)
    exact ⟨(sortedHeap_old (hne p hq) (Heap.lt_size y.1)).trans y.1, y.2⟩
theorem r_set {D : Addr} {vs : List Value} {n k : Nat} {t : Tok} {v : Value} {Q : Unit → Shared → Prop} (F : Fr h₀ L s.heap m) (N : News h₀ L s.heap ((D, listOf vs.toArray n) :: rest)) (hne : ∀ p ∈ rest, p.1 ≠ D) (hk : k < vs.length) (h20 : vs.length < 20)
    (ret : ∀ h', Fr h₀ L h' m → News h₀ L h' ((D, listOf (vs.set k v).toArray n) :: rest) → Q () { s with heap := h' }) : wpAny (model prog w) A (setItem (.ref D) (.int (k : Int) t) v) Q E s := by
  have z := N (D, listOf vs.toArray n) (.head _)
  refine ki_setAt (n := n) z.1 (by omega) (by omega) (by rw [List.size_toArray]; omega) (ret _ (F.change (Heap.SameBut.update ..) z.2.1 z.2.2) ?_)
  have := up1 (·.setIfInBounds (k : Int).toNat v) N hne
  have e : vs.toArray.setIfInBounds (k : Int).toNat v = (vs.set k v).toArray := by simp
  simpa [e] using this
theorem slc_from {vs : List Value} {row : List Int} {R : Nat} (h : IntsAre vs row) : IntsAre (slicePick vs.toArray (some (R : Int)) none none).toList (row.drop R) := by
  have := kmk_from (x := (R : Int)) h (by omega)
  simpa using this
theorem slc_upto {vs : List Value} {row : List Int} {R : Nat} (h : IntsAre vs row) : IntsAre (slicePick vs.toArray none (some (R : Int)) none).toList (row.take R) := by
  have := kmk_upto (y := (R : Int)) h (by omega)
  simpa using this
theorem r_slice {value slice : PySem.Expr} {vl vu : Value} {lo hi : Option Int} {news : List (Addr × Obj)} {ms : List Int} (F : Fr h₀ L s.heap m) (N : News h₀ L s.heap news) (hm : (l, o) ∈ news) (hO : RowO o row) (h20 : row.length < 20) (pl : IsPart vl lo) (pu : IsPart vu hi) (hx : ∀ vs, IntsAre vs row → IntsAre (slicePick vs.toArray lo hi none).toList ms)
    (h : ∀ D o' h', RowO o' ms → Fr h₀ L h' m → News h₀ L h' ((D, o') :: news) → (∀ p ∈ news, p.1 < D) → Q (.ref D) { s with heap := h' })
    (hs : subscripted slice false (.ref l) (.ref s.heap.objs.size) = operate [.ref s.heap.objs.size, .ref l] (getItem (.ref l) (.ref s.heap.objs.size))) (ht : ∀ r, letTemporaryGo value (.ref l) r = pure ()) :
    wpAny (model prog w) A (subscriptTail value slice (.ref l) (.ref s.heap.objs.size)) Q E { s with heap := s.heap.push { cls := .type "slice", data := .fields #[vl, vu, .none] } } := by
  obtain ⟨vs, n, rfl, hI⟩ := hO
  have e1 := ints_len hI
  have := sz20
  refine kmk_slice_ints (vs := vs) (ns := row) (ms := ms) (c := ms.length) F N ⟨_, (N _ hm).1, rfl, n, rfl⟩ pl pu hI (hx vs hI) rfl (fun D ws h' F' N' l1 hI' _ _ => h D _ h' ⟨ws, 0, rfl, hI'⟩ F' N' l1) hs ht ?_
  rw [List.size_toArray]; omega
end
/-- the one ordered row of these -/
noncomputable def Srt (b : Bool) (l : List Int) : List Int := l.mergeSort fun x y => if b then decide (y ≤ x) else decide (x ≤ y)
theorem srt_perm (b : Bool) (l : List Int) : (Srt b l).Perm l := List.mergeSort_perm _ _
theorem srt_ordered (b : Bool) (l : List Int) : (Srt b l).Pairwise (fun x y => if b then y ≤ x else x ≤ y) := by
  have := List.pairwise_mergeSort (le := fun x y : Int => if b then decide (y ≤ x) else decide (x ≤ y)) (by intro a b' c; cases b <;> simp <;> omega) (by intro a b'; cases b <;> simp <;> omega) l
  refine List.Pairwise.imp ?_ this
  intro x y h
  cases b <;> simpa using h
theorem srt_uniq {b : Bool} {l l' : List Int} (hp : l'.Perm l) (ho : l'.Pairwise (fun x y => if b then y ≤ x else x ≤ y)) : l' = Srt b l := by
  have h2 := hp.trans (srt_perm b l).symm
  have h3 := srt_ordered b l
  cases b with
  | false => exact ksm_same h2 (by simpa using ho) (by simpa using h3)
  | true =>
    have e := ksm_same ((List.reverse_perm l').trans (h2.trans (List.reverse_perm (Srt true l)).symm)) (by rw [List.pairwise_reverse]; simpa using ho) (by rw [List.pairwise_reverse]; simpa using h3)
    exact List.reverse_inj.mp e
theorem srt_ord {b : Bool} {l l' : List Int} (hp : l'.Perm l) (ho : Ordered b l') : l' = Srt b l := srt_uniq hp (by cases b <;> simpa [Ordered] using ho)
theorem srt_congr {b : Bool} {l l' : List Int} (hp : l'.Perm l) : Srt b l' = Srt b l := srt_uniq ((srt_perm b l').trans hp) (srt_ordered b l')
noncomputable def Hosts.ord (H : Hosts) (i : Nat) (l : List Int) : List Int := if H.inner i then Srt (H.C i) l else if H.C i then l.reverse else l
noncomputable def Hosts.eStep (H : Hosts) (s : RSt) (i : Nat) : RSt :=
  let l := H.ord i (s.rho i)
  let s' := s.put i (l.take (H.R i))
  match H.W i with
  | none => { s' with aw := s.aw ++ l.drop (H.R i) }
  | some j => { s'.put j (s'.rho j ++ l.drop (H.R i)) with st := s.st + (l.drop (H.R i)).length }
noncomputable def come (cl : List (Option Nat × Int)) : RSt := cl.foldl (fun s c => match c.1 with | none => s | some i => s.put i (s.rho i ++ [c.2])) RSt.init
noncomputable def Hosts.eRun (H : Hosts) (s : RSt) (n : Nat) : RSt := (List.range n).foldl (fun s i => H.eStep s (8 - i)) s
noncomputable def Hosts.fin (H : Hosts) (cl : List (Option Nat × Int)) : RSt := let s := H.eRun (come cl) 9; { s with aw := Srt false s.aw }
end Mine
end
section
open PySem PySem.W PyProof.Rows
namespace Mine
open PySem.Spec PySem.Calls

section
variable {w : World} {mean : ExcName → Option Value} {mg mb : Str → Option Value} {dp un : Nat} {gd : Option (List Code)} {cn : Str} {nm : List (Str × NameKind)} {ig ic : Bool} {mo : List (Str × Const)} {a : Addr} {ccd : Value} {cl : List (Str × Addr)} {outer : List Env} {A₀ : Around} {base h₀ : Heap} {L : Addr} {m : Str → Option Value} {s : Shared} {Q E : Value → Shared → Prop} {news : List (Addr × Obj)}

theorem sub_ints {prog : Program} {w : World} {A : Around} {E : Value → Shared → Prop} {s : Shared} {value slice : PySem.Expr} {l : Addr} {vs : List Value} {ns : List Int} {k : Int} {u : Tok} {Q : Value → Shared → Prop}
    (hl : s.heap.IsList l vs.toArray) (hi : IntsAre vs ns) (h0 : 0 ≤ k) (h1 : k < ns.length) (hfit : k < 2 ^ 62) (h : ∀ t, Q (.int (ns.getD k.toNat 0) t) s)
    (hs : subscripted slice false (.ref l) (.int k u) = operate [.ref l, .int k u] (getItem (.ref l) (.int k u)) := by with_unfolding_all rfl) :
    wpAny (model prog w) A (subscriptTail value slice (.ref l) (.int k u)) Q E s :=
  tail_any hl.typeIs slot_list_getitem.lookup (getItem_intsK hl hi h0 h1 (by omega) h) hs
theorem r_get {prog : Program} {w : World} {A : Around} {E : Value → Shared → Prop} {s : Shared} {h₀ : Heap} {L : Addr} {news : List (Addr × Obj)} {l : Addr} {vs : List Value} {n k : Nat} {u : Tok} {v : Value} {Q : Value → Shared → Prop}
    (N : News h₀ L s.heap news) (hm : (l, listOf vs.toArray n) ∈ news) (hk : k < 1000) (hx : vs[k]? = some v) (h : Q v s) : wpAny (model prog w) A (getItem (.ref l) (.int (k : Int) u)) Q E s := by
  have hl := PySem.IsL.isList (N _ hm).1
  exact wpAny_getItem_list hl (by omega) (by omega) (by simpa using hx) h
noncomputable def DrawsOk (i : Nat) (ds : List Value) : Prop := ds.length = 16 ∧ ∀ j < 16, ∃ (x : Int) (t : Tok), ds[j]? = some (.int x t) ∧ 0 ≤ x ∧ x < 1000 + 1000000 * (i : Int)
theorem draws_set {i j : Nat} {ds : List Value} {x y : Int} {t t' : Tok} (h : DrawsOk i ds) (hj : j < 16) (hx : ds[j]? = some (.int x t)) (h0 : 0 ≤ y) (h1 : y < 1000000) : DrawsOk (i + 1) (ds.set j (.int (x + y) t')) := by
  refine ⟨by rw [List.length_set]; exact h.1, fun k hk => ?_⟩
  obtain ⟨z, u, a, b, c⟩ := h.2 k hk
  by_cases e : j = k
  · subst e
    rw [hx] at a
    cases a
    exact ⟨x + y, t', by rw [List.getElem?_set_self (by rw [h.1]; exact hj)], by omega, by omega⟩
  · exact ⟨z, u, by rw [List.getElem?_set_ne e]; exact a, b, by omega⟩
theorem draws_ix (i : Nat) : ∃ j : Nat, (((0 : Int) + (i : Int) * 1) * 5).fmod 16 = (j : Int) ∧ j < 16 := by
  refine ⟨(i * 5) % 16, ?_, Nat.mod_lt _ (by decide)⟩
  rw [Int.fmod_eq_emod_of_nonneg _ (by decide)]
  omega
theorem dr_one {x : Int} {t : Tok} {ds : List Value} {j : Nat} (h : ds[j]? = some (.int x t)) (h1 : decide (0 ≤ x ∧ x < 1000 + 1000000 * ((0 : Nat) : Int)) = true) : ∃ (x : Int) (t : Tok), ds[j]? = some (.int x t) ∧ 0 ≤ x ∧ x < 1000 + 1000000 * ((0 : Nat) : Int) := ⟨x, t, h, (of_decide_eq_true h1).1, (of_decide_eq_true h1).2⟩
theorem draws_init {t0 t1 t2 t3 t4 t5 t6 t7 t8 t9 t10 t11 t12 t13 t14 t15 : Tok} : DrawsOk 0 [.int 3 t0, .int 19 t1, .int 9 t2, .int 25 t3, .int 6 t4, .int 34 t5, .int 22 t6, .int 1 t7, .int 68 t8, .int 32 t9, .int 49 t10, .int 86 t11, .int 25 t12, .int 44 t13, .int 17 t14, .int 78 t15] := by
  refine ⟨rfl, fun j hj => ?_⟩
  match j, hj with
  | 0, _ => exact dr_one rfl rfl
  | 1, _ => exact dr_one rfl rfl
  | 2, _ => exact dr_one rfl rfl
  | 3, _ => exact dr_one rfl rfl
  | 4, _ => exact dr_one rfl rfl
  | 5, _ => exact dr_one rfl rfl
  | 6, _ => exact dr_one rfl rfl
  | 7, _ => exact dr_one rfl rfl
  | 8, _ => exact dr_one rfl rfl
  | 9, _ => exact dr_one rfl rfl
  | 10, _ => exact dr_one rfl rfl
  | 11, _ => exact dr_one rfl rfl
  | 12, _ => exact dr_one rfl rfl
  | 13, _ => exact dr_one rfl rfl
  | 14, _ => exact dr_one rfl rfl
  | 15, _ => exact dr_one rfl rfl
  | n + 16, h => exact absurd h (Nat.not_lt.mpr (Nat.le_add_left 16 n))
noncomputable def drVals (sA D : Addr) (_ : List Value × Nat) : List (Str × Value) := [(Str.ofString "script", .ref sA), (Str.ofString "draws", .ref D)]
noncomputable def drLed (D : Addr) (c : List Value × Nat) : List (Addr × Obj) := [(D, listOf c.1.toArray c.2)]
noncomputable def drOk (i : Nat) (c : List Value × Nat) : Prop := DrawsOk i c.1
theorem dr_end {h₀ : Heap} {L D : Addr} {s : Shared} {h' : Heap} {tk k : Nat} {m' : Str → Option Value} {vs : List Value} {v : Value} {n : Nat} {own fix rest' : List (Addr × Obj)} {i : Nat} {vals : List Value × Nat → List (Str × Value)} {P : Nat → List Value × Nat → Prop} (F : Fr h₀ L h' m') (N : News h₀ L h' ((D, listOf (vs.set k v).toArray n) :: rest'))
    (hm : ∀ p ∈ vals (vs.set k v, n), m' p.1 = some p.2) (hsub : ∀ p ∈ own ++ fix, p ∈ rest') (hp : P (i + 1) (vs.set k v, n)) : F2End h₀ L s vals (drLed D) fix "range_iterator" P i own { s with heap := h', toks := tk } := by
  refine f2_end (vs.set k v, n) F N hm ?_ ?_ hp
  · intro p hp
    simp only [drLed, List.mem_cons, List.mem_append, List.not_mem_nil, or_false] at hp ⊢
    rcases hp with h | h | h
    · exact .inr (hsub p (List.mem_append_left _ h))
    · exact .inl h
    · exact .inr (hsub p (List.mem_append_right _ h))
  · intro p hp
    simp only [drLed, List.mem_singleton] at hp
    subst hp
    rintro ⟨h, _⟩
    exact absurd (Value.type.inj h) (by decide)
theorem draws_for {prog : Program} {w : World} {A : Around} {E : Value → Shared → Prop} {Q : Flow → Shared → Prop} {s : Shared} {env : Env} {h₀ : Heap} {m : Str → Option Value} {news : List (Addr × Obj)} {x : Str} {body : List Stmt} {D sA r : Addr} {ds : List Value} {n k : Nat} {e : Int} {t1 t2 t3 : Tok}
    (hh : A.handled = none) (F : Fr h₀ env.locals s.heap m) (N : News h₀ env.locals s.heap ((D, listOf ds.toArray n) :: news)) (hr : IsRange s.heap r 0 e 1 t1 t2 t3) (he : e = (k : Int)) (hk : k ≤ 63)
    (hm1 : m (Str.ofString "script") = some (.ref sA)) (hm2 : m (Str.ofString "draws") = some (.ref D)) (hne : ∀ p ∈ news, p.1 ≠ D) (hd : DrawsOk 0 ds)
    (turn : ∀ (i : Nat) t (c : List Value × Nat) h tk (u : Str → Option Value) (own : List (Addr × Obj)), i < k → DrawsOk i c.1 → (∀ p ∈ own ++ news, p.1 ≠ D) → Fr h₀ env.locals h (fun y => if y = x then some (.int ((0 : Int) + i * 1) t) else if y = Str.ofString "script" then some (.ref sA) else if y = Str.ofString "draws" then some (.ref D) else u y) → News h₀ env.locals h ((D, listOf c.1.toArray c.2) :: (own ++ news)) →
      wpAny (model prog w) A (execs body env) (F2Post h₀ env.locals { s with heap := h, toks := tk } (drVals sA D) (drLed D) news "range_iterator" drOk Q i own) E { s with heap := h, toks := tk })
    (done : ∀ (c : List Value × Nat) h tk (u : Str → Option Value), DrawsOk k c.1 → Fr h₀ env.locals h (fun y => if y = Str.ofString "script" then some (.ref sA) else if y = Str.ofString "draws" then some (.ref D) else u y) → News h₀ env.locals h ((D, listOf c.1.toArray c.2) :: news) → Q .next { s with heap := h, toks := tk }) :
    wpAny (model prog w) A (pyIter (.ref r)) (fun it s₂ => LoopAtV prog w A h₀ env x body Q E it s₂) E s := by
  subst he
  have hD : D ≠ s.heap.objs.size := Nat.ne_of_lt (Heap.lt_size (N _ List.mem_cons_self).1)
  refine f2_range (σ := List Value × Nat) (nn := k) (drVals sA D) (drLed D) news drOk (ds, n) hh F N hr (small_one (by decide) (by decide) (by omega) (by omega)) (by rw [rangeSize_nat]; omega) ?_ (fun _ h => h) (fun p hp => ?_) hd ?_ ?_
  · intro p hp
    simp only [drVals, List.mem_cons, List.not_mem_nil, or_false] at hp
    rcases hp with rfl | rfl
    · exact hm1
    · exact hm2
  · simp only [drLed, List.mem_singleton] at hp
    subst hp
    rintro ⟨h, _⟩
    exact absurd (Value.type.inj h) (by decide)
  · intro i t c h tk u own hi hp _ hown _ F' N'
    skip
    refine turn i t c h tk u own hi hp (fun p hp => ?_) F' (News.perm N' ?_)
    · rcases List.mem_append.mp hp with h1 | h1
      · rw [hown p h1]; exact fun e => hD e.symm
      · exact hne p h1
    · (dsimp only [drLed]; repeat' (first | with_reducible refine sub_app ?_ ?_ | with_reducible refine sub_cons ?_ ?_ | exact sub_nil | (intro _ hz9; k_mem) | k_mem))
  · intro c h tk u hp F' N'
    skip
    exact done c h tk u hp F' N'
theorem c_draws {sA : Addr} {vs : List Value} {xs : List Int}
    (B : Below A₀ base outer h₀) (F : Fr h₀ L s.heap m) (XX : (Mine.fr2 w.params).In h₀) (N : News h₀ L s.heap news) (TT : Top topProg LL mean mg mb h₀) (hd : dp + 20 < recursionLimit) (hu : un + 160 < cLine)
    (hl : h₀.IsList sA vs.toArray) (hI : IntsAre vs xs) (h63 : ¬ (63 : Int) < xs.length)
    (ret : ∀ h' tk' dA (ds : List Value) n news', ds.length = 16 → (∀ j < 16, ∃ (x : Int) (t : Tok), ds[j]? = some (.int x t) ∧ 0 ≤ x ∧ x < 1000000000) → (dA, listOf ds.toArray n) ∈ news' → Fr h₀ L h' m → News h₀ L h' news' → (∀ p ∈ news, p ∈ news') → Q (.ref dA) { s with heap := h', toks := tk' }) :
    wpAny (model PP w) (ktrTop dp un gd cn (CS nm ig ic mo) L a ccd cl outer) (call (.ref 144) [.ref sA]) Q E s := by
  k_with_none
  k_with "eval Name" => (k_here; (fail_if_success (with_reducible show wpAny _ _ (eval _ (compEnvC _ _ _ _)) _ _ _)); first | (refine' nameX_L ?zqF ?zqv ?_ ?zqa ?zqb; (case zqF => k_asm); (case zqa => rfl); (case zqb => rfl); (case zqv => rfl); k_whole) | (refine' nameX_K ?zqF ?zqX ?zqT ?zqe ?_ ?zqa ?zqb; (case zqF => k_asm); (case zqX => k_asm); (case zqT => k_asm); (case zqa => rfl); (case zqb => rfl); (case zqe => k_is); k_whole) | (refine' nameX_B ?zqF ?zqX ?zqT ?zqe ?zqv ?zqn ?_ ?zqa ?zqb; (case zqF => k_asm); (case zqX => k_asm); (case zqT => k_asm); (case zqa => rfl); (case zqb => rfl); (case zqe => k_is); (case zqv => boot_fast); (case zqn => decide); k_whole) | (refine' nameX_C ?zqN ?zqc ?zqm ?zqd ?_ ?zqa ?zqb; (case zqa => rfl); (case zqb => rfl); (case zqN => k_asm); (case zqc => rfl); (case zqm => k_mem); (case zqd => k_asm); k_whole))
  k_with "callWith ref" => (k_here; first | (refine' callWith_K ?zqk1 ?zqk2 ?_; (case zqk1 => k_asm); (case zqk2 => k_is); k_whole) | (refine' callWith_KW ?zqk1 ?zqk2 ?zqk3 ?_; (case zqk1 => k_asm); (case zqk2 => k_is); (case zqk3 => exact rfl); k_whole))
  k_with "storeName" => (k_here; refine' storeX_L ?zqF ?zqN ?_ ?zqa ?zqb; (case zqF => k_asm); (case zqN => k_asm); (case zqa => rfl); (case zqb => rfl); k_whole; intro _ _ _; (try k_sweep))
  k_with "subscriptTail Name Name ref int" => k_extra "subscriptTail"
  k_with "subscriptTail Name Call ref int" => k_extra "subscriptTail"
  k_with "subscriptTail Name Subscript ref int" => k_extra "subscriptTail"
  k_with "subscriptTail" => (k_here; (with_reducible show wpAny _ _ (subscriptTail _ _ (Value.ref _) (Value.int _ _)) _ _ _); (with_unfolding_all refine' sub_list ?k1 ?k2 ?k3 ?_ ?k6); (case k1 => k_asm); (case k2 => k_dflt k_mem); (case k6 => with_unfolding_all rfl); (case k3 => k_extra "item"); k_whole)
  k_with "call builtin:len" => (k_here; (with_reducible show wpAny _ _ (call (Value.builtin "len") [Value.ref _]) _ _ _); (with_unfolding_all refine' len_led ?k1 ?k2 ?k3 ?_); (case k1 => k_asm); (case k2 => k_dflt k_mem); (case k3 => k_extra "len"); k_whole)
  k_with "call builtin:len" => (k_here; k_dflt (k_extra "slen"))
  k_with "getItem ref int" => (k_here; k_dflt (k_extra "gitem"))
  k_with "subscriptTail" => (k_here; k_dflt (k_extra "sitem"))
  k_with "setItem ref int" => (k_here; k_dflt (k_extra "set"))
  k_with "pyIter ref" => (k_dflt (k_extra "iterrange"))
  k_with "slen" => ((rename Fr _ _ _ _ => lF); (rename Fr h₀ _ _ _ => lG); (refine len_ints_fit (stays_list lF.keep (stays_list lG.keep hl)) hI (by omega) ?_))
  k_with "iterrange" => ((rename Fr _ _ _ _ => lF'); (rename News _ _ _ _ => lN'); (rename PySem.IsRange _ _ _ _ _ _ _ _ => lR'); (refine' draws_for (sA := sA) (by rfl) lF' lN' lR' (if_neg (by omega)) (by omega) ?hm1 ?hm2 ?hne ?hd ?turn ?done); (case hm1 => with_unfolding_all rfl); (case hm2 => with_unfolding_all rfl); (case hne => (rename (∀ (p : Addr × Obj), p ∈ news → p.1 < _) => l1; exact fun p hp => Nat.ne_of_lt (l1 p hp))); (case hd => exact draws_init); (case' turn => (clear lF' lN' lR'; intro i t c h tk u own hi hp hne F' N')); (case' done => (intro c h tk u hp F' N')))
  k_with "gitem" => ((obtain ⟨j, hj, hj16⟩ : ∃ j : Nat, (((0 : Int) + (i : Int) * 1) * 5).fmod 16 = (j : Int) ∧ j < 16 := draws_ix i); (rw [hj]); (obtain ⟨x, tx, hx, hx0, hx1⟩ := hp.2 j hj16); (refine r_get N' (.head _) (by omega) hx ?_))
  k_with "sitem" => ((rename Fr _ _ _ _ => lF9); (refine sub_ints (stays_list lF9.keep (stays_list lG.keep hl)) hI (by omega) (by omega) (by omega) ?_); (intro tsx))
  k_with "set" => ((refine' r_set ?se1 N' hne (by rw [hp.1]; exact hj16) (by rw [hp.1]; decide) ?_); (case se1 => k_asm); (intro h' F9 N9))
  k_steps
  · ((rename News _ _ _ _ => lN); (rename Fr _ _ _ _ => lF))
    refine ret _ _ _ c.1 c.2 _ hp.1 (fun j hj => ?_) (.head _) lF lN (fun p h => List.mem_cons_of_mem _ h)
    obtain ⟨x, t, a, b, e⟩ := hp.2 j hj
    exact ⟨x, t, a, b, by omega⟩
  · have hm0 : 0 ≤ (xs.getD ((0 : Int) + (i : Int) * 1).toNat 0).fmod 1000000 := Int.fmod_nonneg_of_pos _ (by decide)
    have hm9 : (xs.getD ((0 : Int) + (i : Int) * 1).toNat 0).fmod 1000000 < 1000000 := Int.fmod_lt_of_pos _ (by decide)
    refine dr_end F9 N9 ?_ ?_ ?_
    · ((rename Fr _ _ _ _ => hvF); refine hv_of hvF ?_; repeat' (first | exact hv_nil | refine hv_cons ?_ ?_ | with_unfolding_all rfl))
    · intro p hp
      exact hp
    · exact draws_set hp hj16 hx hm0 hm9
end
end Mine
end
section
open PySem PySem.W PyProof.Rows
namespace Mine
open PySem.Spec PySem.Calls

section
variable {w : World} {mean : ExcName → Option Value} {mg mb : Str → Option Value} {dp un : Nat} {gd : Option (List Code)} {cn : Str} {nm : List (Str × NameKind)} {ig ic : Bool} {mo : List (Str × Const)} {a : Addr} {ccd : Value} {cl : List (Str × Addr)} {outer : List Env} {A₀ : Around} {base h₀ : Heap} {L : Addr} {m : Str → Option Value} {s : Shared} {Q : Value → Shared → Prop} {news : List (Addr × Obj)}

noncomputable def b8 : Array UInt8 := #[0, 1, 2, 3, 4, 5, 6, 7]
noncomputable def inn (wd i0 : Nat) : Nat → Array UInt8 → Array UInt8
  | 0, a => a
  | j + 1, a => (inn wd i0 j a).setIfInBounds (i0 + wd - 1 - j) (i0 + j).toUInt8
noncomputable def outA (wd : Nat) : Nat → Array UInt8
  | 0 => Array.replicate 8 0
  | k + 1 => inn wd (k * wd) wd (outA wd k)
theorem b8_get {k : Int} (h0 : 0 ≤ k) (h8 : k < 8) : ([0, 1, 2, 3, 4, 5, 6, 7] : List Int).getD k.toNat 0 = k := by
  obtain ⟨n, rfl⟩ := Int.eq_ofNat_of_zero_le h0
  exact (by decide : ∀ n, n < 8 → ([0, 1, 2, 3, 4, 5, 6, 7] : List Int).getD ((n : Nat) : Int).toNat 0 = ((n : Nat) : Int)) n (Int.ofNat_lt.mp h8)
theorem mul_ix {p k wd : Nat} (h : p = k * wd) : (0 : Int) + (k : Int) * (wd : Int) = (p : Int) := by
  subst h
  rw [Int.natCast_mul]
  omega
theorem inn_size {wd i0 : Nat} : ∀ {j : Nat} {a : Array UInt8}, (inn wd i0 j a).size = a.size
  | 0, a => rfl
  | j + 1, a => by
    unfold inn
    rw [Array.size_setIfInBounds]
    exact inn_size
theorem inn_step {wd p j : Nat} {a : Array UInt8} (hj : j < wd) : (inn wd p j a).setIfInBounds ((p : Int) + (wd : Int) - 1 - (j : Int)).toNat ((p : Int) + (j : Int)).toNat.toUInt8 = inn wd p (j + 1) a := by
  have e1 : ((p : Int) + (wd : Int) - 1 - (j : Int)).toNat = p + wd - 1 - j := by omega
  have e2 : ((p : Int) + (j : Int)).toNat = p + j := by omega
  rw [e1, e2]
  rfl
theorem outA_size {wd : Nat} : ∀ {k : Nat}, (outA wd k).size = 8
  | 0 => by simp [outA]
  | k + 1 => by
    unfold outA
    rw [inn_size]
    exact outA_size
theorem ba_setL {prog : Program} {A : Around} {E : Value → Shared → Prop} {D : Addr} {b : Array UInt8} {k x : Int} {t u : Tok} {rest : List (Addr × Obj)} {Q : Unit → Shared → Prop} (F : Fr h₀ L s.heap m) (N : News h₀ L s.heap ((D, baO b) :: rest)) (hne : ∀ p ∈ rest, p.1 ≠ D) (hb : b.size = 8) (hk0 : 0 ≤ k) (hk : k < 8) (hx0 : 0 ≤ x) (hx : x < 256)
    (ret : ∀ h', Fr h₀ L h' m → News h₀ L h' ((D, baO (b.setIfInBounds k.toNat x.toNat.toUInt8)) :: rest) → Q () { s with heap := h' }) : wpAny (model prog w) A (setItem (.ref D) (.int k t) (.int x u)) Q E s := by
  have z := N (D, baO b) (.head _)
  refine ba_set z.1 hb hk0 hk hx0 hx fun h' sb g' => ret h' (F.change sb z.2.1 z.2.2) fun p hp => ?_
  rcases List.mem_cons.mp hp with rfl | h9
  · exact ⟨g', z.2.1, z.2.2⟩
  · have y := N p (List.mem_cons_of_mem _ h9)
    exact ⟨(sb.2 _ (hne p h9)).trans y.1, y.2.1, y.2.2⟩
noncomputable def baVals (V : List (Str × Value)) (_ : Array UInt8) : List (Str × Value) := V
noncomputable def baLed (D : Addr) (c : Array UInt8) : List (Addr × Obj) := [(D, baO c)]
noncomputable def baP (G : Nat → Array UInt8) (i : Nat) (c : Array UInt8) : Prop := c = G i
theorem ba_it {D : Addr} {c : Array UInt8} {icls : String} (h : icls ≠ "bytearray") : ∀ p ∈ baLed D c, ¬ IterO icls p.2 := by
  intro p hp
  simp only [baLed, List.mem_singleton] at hp
  subst hp
  rintro ⟨h9, _⟩
  exact h (Value.type.inj h9).symm
theorem ba_for {prog : Program} {A : Around} {E : Value → Shared → Prop} {Q : Flow → Shared → Prop} {env : Env} {x : Str} {body : List Stmt} {D r : Addr} {a0 : Array UInt8} {a e st : Int} {nn : Nat} {t1 t2 t3 : Tok} (V : List (Str × Value)) (G : Nat → Array UInt8)
    (hh : A.handled = none) (F : Fr h₀ env.locals s.heap m) (N : News h₀ env.locals s.heap ((D, baO a0) :: news)) (hr : IsRange s.heap r a e st t1 t2 t3) (hsm : Builtin.Range.small a e st = true) (hsz : Builtin.Range.rangeSize a e st = (nn : Int))
    (hm : ∀ p ∈ V, m p.1 = some p.2) (hne : ∀ p ∈ news, p.1 ≠ D) (h0 : a0 = G 0)
    (turn : ∀ (i : Nat) t h tk (u : Str → Option Value) (own : List (Addr × Obj)), i < nn → (∀ p ∈ own ++ news, p.1 ≠ D) → Fr h₀ env.locals h (fun y => if y = x then some (.int (a + i * st) t) else frV V u y) → News h₀ env.locals h ((D, baO (G i)) :: (own ++ news)) →
      wpAny (model prog w) A (execs body env) (F2Post h₀ env.locals { s with heap := h, toks := tk } (baVals V) (baLed D) news "range_iterator" (baP G) Q i own) E { s with heap := h, toks := tk })
    (done : ∀ h tk (u : Str → Option Value), Fr h₀ env.locals h (frV V u) → News h₀ env.locals h ((D, baO (G nn)) :: news) → Q .next { s with heap := h, toks := tk }) :
    wpAny (model prog w) A (pyIter (.ref r)) (fun it s₂ => LoopAtV prog w A h₀ env x body Q E it s₂) E s := by
  have hD : D ≠ s.heap.objs.size := Nat.ne_of_lt (Heap.lt_size (N _ List.mem_cons_self).1)
  refine f2_range (σ := Array UInt8) (nn := nn) (baVals V) (baLed D) news (baP G) a0 hh F N hr hsm hsz hm (fun _ h => h) (ba_it (by decide)) h0 ?_ ?_
  · intro i t c h tk u own hi hp _ hown _ F' N'
    cases (show c = G i from hp)
    refine turn i t h tk u own hi (fun p hp => ?_) F' (News.perm N' ?_)
    · rcases List.mem_append.mp hp with h1 | h1
      · rw [hown p h1]; exact fun e => hD e.symm
      · exact hne p h1
    · (dsimp only [baLed]; repeat' (first | with_reducible refine sub_app ?_ ?_ | with_reducible refine sub_cons ?_ ?_ | exact sub_nil | (intro _ hz9; k_mem) | k_mem))
  · intro c h tk u hp F' N'
    cases (show c = G nn from hp)
    exact done h tk u F' N'
theorem news_new {g h h' : Heap} {L : Addr} {m : Str → Option Value} {news : List (Addr × Obj)} {o : Obj} (F : Fr g L h m) (N : News g L h news) (kp : ∀ b o, h.get? b = some o → h'.get? b = some o) (e : h'.get? h.objs.size = some o) : News g L h' ((h.objs.size, o) :: news) := by
  intro p hp
  rcases List.mem_cons.mp hp with rfl | h9
  · exact ⟨e, fun q => absurd F.ns.lt (q ▸ Nat.lt_irrefl _), next_is_new F⟩
  · exact N.grown kp p h9
theorem c_swap {wd nn : Nat} {t t2 : Tok}
    (B : Below A₀ base outer h₀) (F : Fr h₀ L s.heap m) (XX : (Mine.fr2 w.params).In h₀) (N : News h₀ L s.heap news) (TT : Top topProg LL mean mg mb h₀) (hd : dp + 20 < recursionLimit) (hu : un + 160 < cLine)
    (hsm : Builtin.Range.small 0 8 wd = true) (hsz : Builtin.Range.rangeSize 0 8 wd = (nn : Int)) (hfit : ∀ k < nn, k * wd + wd ≤ 8) (h1 : 1 ≤ wd) (h8 : wd ≤ 8)
    (ret : ∀ t' h' tk', Fr h₀ L h' m → News h₀ L h' news → Q (.bytes (outA wd nn) t') { s with heap := h', toks := tk' }) :
    wpN (model PP w) (ktrTop dp un gd cn (CS nm ig ic mo) L a ccd cl outer) (call (.ref 137) [.bytes b8 t, .int (wd : Int) t2]) Q s := by
  refine N_call ?_
  (refine' codeN_def ?k1 ?k2 ?k3 ?k4 ?k5 ?kA ?kF ?kK ?k6 ?k7 ?k8 ?k9 ?kB ?_ ?c2 ?c3 ?c4 ?c5; (case kA => exact rfl); (case kF => exact rfl); (case kK => exact rfl); (case k2 => k_asm); (case k1 => k_asm); (case k3 => k_asm); (case k4 => k_asm); (case k5 => k_asm); (case k6 => k_is); (case k7 => k_is); (case k8 => k_room); (case k9 => first | exact binds_K (by k_in) rfl (by k_is) rfl rfl rfl | exact BindsTo.of_eq rfl); (case kB => exact locs rfl); (case c2 => exact rfl); (case c3 => exact rfl); (case c4 => exact rfl); (case c5 => decide); intro g' L' h' FG' F' N' B' X' T' hlt)
  refine N_execs_cons (N_Assign_Name (N_Call ?_))
  k_with_none
  k_with "eval Name" => (k_here; (fail_if_success (with_reducible show wpAny _ _ (eval _ (compEnvC _ _ _ _)) _ _ _)); first | (refine' nameX_L ?zqF ?zqv ?_ ?zqa ?zqb; (case zqF => k_asm); (case zqa => rfl); (case zqb => rfl); (case zqv => rfl); k_whole) | (refine' nameX_K ?zqF ?zqX ?zqT ?zqe ?_ ?zqa ?zqb; (case zqF => k_asm); (case zqX => k_asm); (case zqT => k_asm); (case zqa => rfl); (case zqb => rfl); (case zqe => k_is); k_whole) | (refine' nameX_B ?zqF ?zqX ?zqT ?zqe ?zqv ?zqn ?_ ?zqa ?zqb; (case zqF => k_asm); (case zqX => k_asm); (case zqT => k_asm); (case zqa => rfl); (case zqb => rfl); (case zqe => k_is); (case zqv => boot_fast); (case zqn => decide); k_whole) | (refine' nameX_C ?zqN ?zqc ?zqm ?zqd ?_ ?zqa ?zqb; (case zqa => rfl); (case zqb => rfl); (case zqN => k_asm); (case zqc => rfl); (case zqm => k_mem); (case zqd => k_asm); k_whole))
  k_with "callWith ref" => (k_here; first | (refine' callWith_K ?zqk1 ?zqk2 ?_; (case zqk1 => k_asm); (case zqk2 => k_is); k_whole) | (refine' callWith_KW ?zqk1 ?zqk2 ?zqk3 ?_; (case zqk1 => k_asm); (case zqk2 => k_is); (case zqk3 => exact rfl); k_whole))
  k_with "storeName" => (k_here; refine' storeX_L ?zqF ?zqN ?_ ?zqa ?zqb; (case zqF => k_asm); (case zqN => k_asm); (case zqa => rfl); (case zqb => rfl); k_whole; intro _ _ _; (try k_sweep))
  k_with "subscriptTail Name Name ref int" => k_extra "subscriptTail"
  k_with "subscriptTail Name Call ref int" => k_extra "subscriptTail"
  k_with "subscriptTail Name Subscript ref int" => k_extra "subscriptTail"
  k_with "subscriptTail" => (k_here; (with_reducible show wpAny _ _ (subscriptTail _ _ (Value.ref _) (Value.int _ _)) _ _ _); (with_unfolding_all refine' sub_list ?k1 ?k2 ?k3 ?_ ?k6); (case k1 => k_asm); (case k2 => k_dflt k_mem); (case k6 => with_unfolding_all rfl); (case k3 => k_extra "item"); k_whole)
  k_with "call builtin:len" => (k_here; (with_reducible show wpAny _ _ (call (Value.builtin "len") [Value.ref _]) _ _ _); (with_unfolding_all refine' len_led ?k1 ?k2 ?k3 ?_); (case k1 => k_asm); (case k2 => k_dflt k_mem); (case k3 => k_extra "len"); k_whole)
  k_with "setItem ref int" => (k_here; k_dflt (k_extra "set"))
  k_with "subscriptTail" => (k_here; k_dflt (k_extra "bitem"))
  k_with "call type:bytes" => (k_here; k_dflt (k_extra "bytes"))
  k_with "pyIter ref" => (k_dflt (k_extra "iterrange"))
  k_with "set" => ((rename News _ _ _ _ => lN9); (refine' ba_setL ?se1 lN9 hne2 ?se2 (by omega) (by omega) (by omega) (by omega) ?_); (case se1 => k_asm); (case se2 => (rw [inn_size]; exact outA_size)); (intro h' F9 N9))
  k_with "bitem" => ((refine KBw.item_K (ks := [0, 1, 2, 3, 4, 5, 6, 7]) (by decide) (by decide) (by omega) (by show _ < (8 : Int); omega) ?_); (intro tb kb _ _; rw [b8_get (by omega) (by omega)]))
  k_with "bytes" => ((rename News _ _ _ _ => lN9); (refine ba_bytes (lN9 _ (.head _)).1 outA_size ?_))
  k_with "iterrange" => ((rename Fr _ _ _ _ => lF'); (rename News _ _ _ _ => lN'); (rename PySem.IsRange _ _ _ _ _ _ _ _ => lR'); first
    | ((refine' ba_for (x := Str.ofString "i") (nn := nn) [(Str.ofString "data", .bytes b8 t), (Str.ofString "width", .int (wd : Int) t2), (Str.ofString "swapped_data", .ref D)] (outA wd) (by rfl) lF' lN' lR' hsm hsz ?hm ?hne rfl ?turn ?done); (case hm => ((rename Fr _ _ _ _ => hvF); refine hv_of hvF ?_; repeat' (first | exact hv_nil | refine hv_cons ?_ ?_ | with_unfolding_all rfl))); (case hne => exact hneD); (case' turn => (clear lF' lN' lR'); (intro k tki h tk u own hk hne F' N'); (skip); (obtain ⟨p, hp⟩ : ∃ p : Nat, p = k * wd := ⟨_, rfl⟩); (have hpi : (0 : Int) + (k : Int) * (wd : Int) = (p : Int) := mul_ix hp); (rw [hpi] at F'); (have hpf := hfit k hk); (rw [← hp] at hpf)); (case' done => (clear lF' lN' lR'; intro h tk u F' N'; skip)))
    | ((refine' ba_for (x := Str.ofString "j") (nn := wd) [(Str.ofString "data", .bytes b8 t), (Str.ofString "width", .int (wd : Int) t2), (Str.ofString "swapped_data", .ref D), (Str.ofString "i", .int (p : Int) tki)] (fun j => inn wd p j (outA wd k)) (by rfl) lF' lN' lR' (small_one (by decide) (by decide) (by omega) (by omega)) (by rw [rangeSize_nat]; omega) ?hm2 ?hne2 rfl ?turn2 ?done2); (case hm2 => ((rename Fr _ _ _ _ => hvF); refine hv_of hvF ?_; repeat' (first | exact hv_nil | refine hv_cons ?_ ?_ | with_unfolding_all rfl))); (case hne2 => exact hne); (case' turn2 => (clear lF' lN' lR'; intro j tkj h tk u own2 hj hne2 F' N'; skip; rw [show (0 : Int) + (j : Int) * 1 = (j : Int) by omega] at F')); (case' done2 => (clear lF' lN' lR'; intro h tk u F' N'; skip))))
  k_steps
  refine N_callWith_type1 ?_
  k_steps
  (rename News _ _ _ _ => lN); (rename Fr _ _ _ _ => lF)
  refine ba_call rfl fun h1 tk1 kp sz gS => ?_
  have F2 := lF.keptAll kp
  obtain ⟨D, hD⟩ : ∃ D, h'.objs.size = D := ⟨_, rfl⟩
  have hneD : ∀ p ∈ news, p.1 ≠ D := fun p hp => Nat.ne_of_lt (Nat.lt_trans (hlt p hp) (hD ▸ lF.ns.lt))
  have N2 : News g' L' h1 ((D, baO (Array.replicate 8 0)) :: news) := hD ▸ news_new lF lN kp gS
  clear lF lN kp sz gS
  change wpAny _ _ (storeName _ _ (.ref h'.objs.size)) _ _ _
  rw [hD]
  clear hD
  k_steps
  refine N_any ?_
  k_steps
  · ((rename News _ _ _ _ => lN); (rename Fr _ _ _ _ => lF))
    exact ret _ _ _ lF (News.perm lN fun p h => List.mem_cons_of_mem _ h)
  all_goals first
    | (refine f2_end (inn wd p wd (outA wd k)) F' N' ?_ ?_ (ba_it (by decide)) (show inn wd p wd (outA wd k) = outA wd (k + 1) by subst hp; rfl)
       · ((rename Fr _ _ _ _ => hvF); refine hv_of hvF ?_; repeat' (first | exact hv_nil | refine hv_cons ?_ ?_ | with_unfolding_all rfl))
       · (dsimp only [baLed]; repeat' (first | with_reducible refine sub_app ?_ ?_ | with_reducible refine sub_cons ?_ ?_ | exact sub_nil | (intro _ hz9; k_mem) | k_mem)))
    | (refine f2_end _ F9 N9 ?_ ?_ (ba_it (by decide)) (show (inn wd p j (outA wd k)).setIfInBounds _ _ = inn wd p (j + 1) (outA wd k) from inn_step hj)
       · ((rename Fr _ _ _ _ => hvF); refine hv_of hvF ?_; repeat' (first | exact hv_nil | refine hv_cons ?_ ?_ | with_unfolding_all rfl))
       · (dsimp only [baLed]; repeat' (first | with_reducible refine sub_app ?_ ?_ | with_reducible refine sub_cons ?_ ?_ | exact sub_nil | (intro _ hz9; k_mem) | k_mem)))
end
end Mine
end
section
open PySem PySem.W PyProof.Rows PySem.Calls
namespace Mine
noncomputable def pre8 : Nat → Array UInt8
  | 0 => #[]
  | i + 1 => (pre8 i).push i.toUInt8
theorem pre8_size : ∀ i, (pre8 i).size = i
  | 0 => rfl
  | i + 1 => by rw [pre8, Array.size_push, pre8_size i]
theorem pre8_b8 : pre8 8 = b8 := by decide
section
variable {prog : Program} {w : World} {A : Around} {E : Value → Shared → Prop} {s : Shared}
theorem rng_loop {R : Result → Shared → Prop} {I S : Addr} (hh : A.handled = none) (hIS : I ≠ S) :
    ∀ (k i : Nat) (s : Shared), 8 - i = k → i ≤ 8 → IsRangeIter s.heap I (0 + (i : Nat) * 1) ((8 : Nat) - (i : Nat)) 1 → s.heap.get? S = some (baO (pre8 i)) →
      (∀ h' t k', (∀ b o, b ≠ I → b ≠ S → s.heap.get? b = some o → h'.get? b = some o) → R (.ok (.ret (.bytes b8 t))) { s with heap := h', toks := k' }) →
      codeAny (model prog w) A (.builtin "bytes.__new__.loop" ⟨[.type "bytes", .ref I, .ref S], []⟩) R s := by
  have W := Walks.range (prog := prog) (w := w) (A := A.in1) hh I 0 1 8
  intro k
  induction k with
  | zero =>
    intro i s hk hle hit hS hR
    have hin : i = 8 := by omega
    subst hin
    refine codeAny_builtin F.bm_entry_loop ?_
    rw [Around.under_plainId F.bm_plain_loop _]
    show wpAny _ A.in1 (pyNext (.ref I) >>= _) _ _ s
    refine wpAny_bind (W.done _ _ _ hit fun h' tk' he => ?_)
    have hS' : h'.get? S = some (baO (pre8 8)) := he S _ (by rw [List.mem_singleton]; exact Ne.symm hIS) hS
    refine wpAny_bind ?_
    refine payload_ba hS' ?_
    refine wpAny_bind (wpAny_mkBytes ?_ (by rw [pre8_size]; decide +kernel))
    rw [pre8_b8]
    show wpAny _ _ (if (Value.type "bytes" == Value.type "bytes") = true then _ else _) _ _ _
    refine bm_if_true (by decide) ?_
    have fin := hR h' 
    first
      | exact wpAny_pure (hR h' _ _ fun b o hb _ e => he b o (by rw [List.mem_singleton]; exact hb) e)
      | exact wpAny_bind (wpAny_pure (wpAny_pure (hR h' _ _ fun b o hb _ e => he b o (by rw [List.mem_singleton]; exact hb) e)))
  | succ k ih =>
    intro i s hk hle hit hS hR
    have hlt : i < 8 := by omega
    refine codeAny_builtin F.bm_entry_loop ?_
    rw [Around.under_plainId F.bm_plain_loop _]
    show wpAny _ A.in1 (pyNext (.ref I) >>= _) _ _ s
    refine wpAny_bind (W.item i _ _ _ hlt hit fun v h' tk' hP hit' hs => ?_)
    obtain ⟨t, rfl⟩ := hP
    have hS' : h'.get? S = some (baO (pre8 i)) := hs S _ (by rw [List.mem_singleton]; exact Ne.symm hIS) hS
    obtain ⟨n, hn⟩ : ∃ n : Int, n = 0 + (i : Int) * 1 := ⟨_, rfl⟩
    rw [← hn]
    have hnt : n.toNat = i := by omega
    refine wpAny_bind (wpAny_holding (wpAny_of_eq (rfl : asIndex (.int n t) = pure n) ?_))
    refine wpAny_bind (wpAny_letGo ?_)
    refine bm_if_false (by simp only [Bool.or_eq_false_iff, decide_eq_false_iff_not]; omega) ?_
    refine wpAny_bind ?_
    show wpAny _ _ (updateBytearray S (·.push n.toNat.toUInt8)) _ _ _
    refine ba_upd hS' (by rw [Array.size_push, pre8_size]; omega) fun h2 sb2 g2 => ?_
    have g3 : h2.get? S = some (baO (pre8 (i + 1))) := by rw [g2, hnt]; rfl
    refine wpAny_pure ⟨plainId_quiet F.bm_plain_loop _, ih (i + 1) { s with heap := h2, toks := tk' } (by omega) hlt ?_ g3 fun h3 t' k' hk3 => ?_⟩
    · exact W.frame (i + 1) _ _ hit' fun b hb o e => by
        rw [List.mem_singleton] at hb
        subst hb
        exact (sb2.2 _ hIS).trans e
    · refine hR h3 t' k' fun b o hbI hbS e => hk3 b o hbI hbS ((sb2.2 b hbS).trans (hs b o (by rw [List.mem_singleton]; exact hbI) e))
theorem rg_nobytes : typeLookup (.type "range") "__bytes__" = pure none := by rw [typeLookup_type, builtinLookup_eq_fast]; kernel_rfl
theorem rg_noindex : typeLookup (.type "range") "__index__" = pure none := by rw [typeLookup_type, builtinLookup_eq_fast]; kernel_rfl
theorem rg_nobuffer : typeLookup (.type "range") "__buffer__" = pure none := by rw [typeLookup_type, builtinLookup_eq_fast]; kernel_rfl
theorem rg_len : typeLookup (.type "range") "__len__" = pure (some (.builtin "range.__len__")) := by rw [typeLookup_type, builtinLookup_eq_fast]; kernel_rfl
theorem rg_split : splitId "range.__len__" = some ("range", "__len__") := by decide +kernel
theorem rg_self : isSubtype (.type "range") (.type "range") = pure true := by rw [isSubtype_type]; kernel_rfl
noncomputable def rangeIterO (n : Int) : Obj := { cls := .type "range_iterator", data := .fields #[rawInt 0, rawInt n, rawInt 1] }
theorem rng_new {r : Addr} {t1 t2 t3 : Tok} {Q : Value → Shared → Prop} (hh : A.handled = none) (hr : IsRange s.heap r 0 8 1 t1 t2 t3)
    (hQ : ∀ h' t k, (∀ b o, s.heap.get? b = some o → h'.get? b = some o) → Q (.bytes b8 t) { s with heap := h', toks := k }) :
    codeAny (model prog w) A (.call (.builtin "bytes.__new__") ⟨[.type "bytes", .ref r], []⟩) (wants Q E) s := by
  refine codeAny_of_tree ?_
  show wpAny _ A.in1 (do checkBuiltinCall "bytes.__new__" ⟨[.type "bytes", .ref r], []⟩; again (.builtin "bytes.__new__" ⟨[.type "bytes", .ref r], []⟩)) _ _ s
  refine wpAny_bind (wpAny_of_eq (F.bm_newCall _) (wpAny_pure ⟨plainId_quiet F.bm_plain _, codeAny_builtin F.bm_entry ?_⟩))
  rw [Around.under_plainId F.bm_plain _]
  have hT : s.TypeIs (.ref r) "range" := ⟨_, hr, rfl⟩
  unfold Builtin.«bytes.__new__»
  refine wpAny_bind (wpAny_of_eq (a := true) rfl ?_)
  refine bm_if_false rfl ?_
  refine wpAny_bind (wpAny_of_eq F.bm_sub ?_)
  refine bm_if_false rfl ?_
  refine wpAny_bind (wpAny_of_eq (F.bm_bind _) ?_)
  refine wpAny_bind (wpAny_of_eq (a := ()) rfl ?_)
  refine wpAny_bind (wpAny_of_eq (a := ()) rfl ?_)
  refine bm_if_false rfl ?_
  refine wpAny_bind (wpAny_specialOf hT rg_nobytes ?_)
  refine wpAny_bind (wpAny_bind ?_)
  show wpAny _ _ (load r >>= _) _ _ _
  refine wpAny_bind (wpAny_load hr ?_)
  refine wpAny_pure (wpAny_pure ?_)
  refine bm_if_false rfl ?_
  refine wpAny_bind (wpAny_specialOf hT rg_noindex ?_)
  refine bm_if_true rfl ?_
  first
    | show wpAny _ _ (Builtin.Bytes.buffer? "bytes.__new__" (.ref r) true >>= _) _ _ _
    | (refine wpAny_bind ?_; show wpAny _ _ (Builtin.Bytes.buffer? "bytes.__new__" (.ref r) true >>= _) _ _ _)
  refine wpAny_bind ?_
  unfold Builtin.Bytes.buffer?
  refine wpAny_bind (wpAny_specialOf hT rg_nobuffer ?_)
  refine wpAny_bind (wpAny_specialOf hT rg_nobuffer ?_)
  refine wpAny_pure ?_
  refine wpAny_bind (wpAny_tryCatch (wpAny_pyIter_range hr (by decide) ?_))
  have hr₁ := (show ∀ o, IsRange (s.heap.push o) r 0 8 1 t1 t2 t3 from fun o => Heap.get?_push_of_some _ hr)
  refine wpAny_bind (wpAny_holding ?_)
  unfold Builtin.Bytes.lengthHint
  refine wpAny_bind (wpAny_specialOf ⟨_, hr₁ _, rfl⟩ rg_len ?_)
  dsimp only
  rw [rg_split]
  dsimp only
  refine wpAny_bind (wpAny_isInstance ⟨_, hr₁ _, rfl⟩ rg_self ?_)
  refine bm_if_false rfl ?_
  refine bm_if_false (by decide +kernel) ?_
  refine bm_if_true rfl ?_
  refine wpAny_bind (wpAny_rule ?_)
  refine wpAny_bind (wpAny_attempt (call_len_range (hr₁ _) (n := 8) (by decide) (by decide) ?_))
  refine wpAny_bind (wpAny_of_eq (a := some (8 : Int)) rfl ?_)
  dsimp only
  refine bm_if_false (by decide +kernel) ?_
  refine wpAny_pure ?_
  refine wpAny_bind ?_
  unfold Builtin.Bytes.newBytearray
  refine wpAny_newObj_type ?_ (Nat.zero_le _)
  have hI : IsRangeIter ((s.heap.push (rangeIterO 8)).push (baO #[])) s.heap.objs.size (0 + (0 : Nat) * 1) ((8 : Nat) - (0 : Nat)) 1 :=
    Heap.get?_push_of_some _ (Heap.get?_push_size _ rfl)
  have hS : ((s.heap.push (rangeIterO 8)).push (baO #[])).get? (s.heap.objs.size + 1) = some (baO #[]) := by
    have := Heap.get?_push_size (s.heap.push (rangeIterO 8)) (show (baO #[]).isFreed = false from rfl)
    rwa [Heap.size_push] at this
  have main := fun tk => rng_loop (prog := prog) (w := w) (A := A) (R := wants Q E) (I := s.heap.objs.size) (S := s.heap.objs.size + 1) hh (Nat.ne_of_lt (Nat.lt_succ_self _)) 8 0 { s with heap := (s.heap.push (rangeIterO 8)).push (baO #[]), toks := tk } rfl (Nat.zero_le _) hI hS
    fun h' t k hk => hQ h' t k fun b o e => hk b o (Nat.ne_of_lt (Heap.lt_size e)) (Nat.ne_of_lt (Nat.lt_succ_of_lt (Heap.lt_size e))) (Heap.get?_push_of_some _ (Heap.get?_push_of_some _ e))
  refine wpAny_pure ⟨plainId_quiet F.bm_plain_loop _, ?_⟩
  show codeAny _ _ (.builtin "bytes.__new__.loop" ⟨[.type "bytes", .ref s.heap.objs.size, .ref (s.heap.push (rangeIterO 8)).objs.size], []⟩) _ _
  rw [Heap.size_push]
  exact main _
theorem rng_bytes {r : Addr} {t1 t2 t3 : Tok} {Q : Value → Shared → Prop} (hh : A.handled = none) (hr : IsRange s.heap r 0 8 1 t1 t2 t3)
    (hQ : ∀ h' t k, (∀ b o, s.heap.get? b = some o → h'.get? b = some o) → Q (.bytes b8 t) { s with heap := h', toks := k }) : wpAny (model prog w) A (call (.type "bytes") [.ref r]) Q E s := by
  refine callType_codes (Q₁ := fun obj s₁ => s₁.TypeIs obj "bytes" ∧ Q obj s₁) F.bm_called (F.bm_typeCall _) F.entry_object_init
    (rng_new hh hr fun h' t k hk => ⟨PySem.W.typeIs_bytes _ _ _, hQ h' t k hk⟩) fun obj s₁ h₁ => ?_
  exact ⟨h₁.1, F.args_object_init_2 obj _, object_init_meets F.bm_called.init.lookup F.bm_called.made (by decide) prog w A.in1 _ s₁ ⟨h₁.1, rfl, h₁.2⟩⟩
end
end Mine
end
section
open PySem
namespace Mine
open PySem.Sre
noncomputable def reC : Array Nat := #[14, 8, 1, 2, 4294967295, 1, 1, 46, 0, 16, 46, 24, 9, 1, 4294967295, 13, 4, 8, 0, 0, 1, 6, 5, 1]
/-- the machine, about to try at s -/
noncomputable def stA (t : Array Nat) (s : Nat) (f : Bool) (seen : Seen) : M :=
  { code := reC, text := t, lim := t.size, start := s, lastStart := t.size, wholeText := false, mustAdvance := false, pc := 9, pos := s, handed := s, outermost := f, marks := #[], lastmark := -1, lastindex := -1, loops := #[], inner := none, frames := [{ wait := .nextStart, pc := 9, pos := s, outermost := f }], weight := 1, answer := none, seen := seen, outcome := none }
theorem run_one {m : M} {n : Nat} (h : m.outcome = none) : m.runFor (n + 1) = m.step.runFor n := by
  rw [M.runFor, h]; rfl
/-- one step on the sign that is sought -/
theorem step_lit {t : Array Nat} {s : Nat} {f : Bool} {seen : Seen} : (stA t s f seen).step = if s ≥ t.size then { stA t s f (seen.add 16) with answer := some false } else Bool.rec (motive := fun _ => M) { stA t s f (seen.add 16) with answer := some false } { stA t s f (seen.add 16) with pc := 11, pos := s + 1 } (t.getD s 0 == 46) := by kernel_rfl
/-- no at one place: on to the next -/
theorem step_next {t : Array Nat} {s : Nat} {f : Bool} {seen : Seen} {pc pos handed : Nat} {o : Bool} : ({ stA t s f seen with answer := some false, pc := pc, pos := pos, handed := handed, outermost := o } : M).step = if s < t.size then stA t (s + 1) false seen else { stA t s f seen with answer := some false, frames := [], weight := 0, handed := handed } := by kernel_rfl
theorem lit_no {t : Array Nat} {s : Nat} {f : Bool} {seen : Seen} (hs : s < t.size) (hc : t.getD s 0 ≠ 46) : (stA t s f seen).step = { stA t s f (seen.add 16) with answer := some false } := by
  rw [step_lit, if_neg (Nat.not_le_of_lt hs), beq_false_of_ne hc]
theorem sre_other {t : Array Nat} {s : Nat} {f : Bool} {seen : Seen} (hs : s < t.size) (hc : t.getD s 0 ≠ 46) : ∃ seen', (stA t s f seen).runFor 2 = stA t (s + 1) false seen' := by
  refine ⟨seen.add 16, ?_⟩
  rw [run_one rfl, lit_no hs hc, run_one rfl]
  exact step_next.trans (if_pos hs)
theorem lit_step {t : Array Nat} {s : Nat} {f : Bool} {seen : Seen} (hs : s < t.size) (hc : t.getD s 0 = 46) : (stA t s f seen).step = { stA t s f seen with seen := seen.add 16, pc := 11, pos := s + 1 } := by
  rw [step_lit, if_neg (Nat.not_le_of_lt hs), hc]
  rfl
theorem back_step {t : Array Nat} {s : Nat} {f : Bool} {seen : Seen} (m : M) (hs : s < t.size) (hm : m = { stA t s f seen with answer := some false, pc := m.pc, pos := m.pos, handed := m.handed, outermost := m.outermost }) : m.step = stA t (s + 1) false seen := by
  rw [hm]
  exact step_next.trans (if_pos hs)
noncomputable def sN (seen : Seen) : Seen := ((seen.add 8).add 55).add 0
noncomputable def sD (seen : Seen) : Seen := (seen.add 8).add 55
theorem acc_if {c : Nat} {seen : Seen} : accepts reC 15 c seen = if (isDigit c != false) = true then .ok (true, sD seen) else .ok (false, sN seen) := by kernel_rfl
theorem acc_no {c : Nat} {seen : Seen} (h : isDigit c = false) : accepts reC 15 c seen = .ok (false, sN seen) := by
  rw [acc_if, h]; rfl
theorem acc_yes {c : Nat} {seen : Seen} (h : isDigit c = true) : accepts reC 15 c seen = .ok (true, sD seen) := by
  rw [acc_if, h]; rfl
theorem sre_run_step {t : Array Nat} {n p k : Nat} {seen : Seen} : Sre.run reC t 15 (n + 1) p k seen = Except.bind (accepts reC 15 (t.getD p 0) seen) (fun ys => if ys.1 = true then Sre.run reC t 15 n (p + 1) (k + 1) ys.2 else .ok (k, ys.2)) := by rfl
theorem run_no {t : Array Nat} {n p k : Nat} {seen : Seen} (h : isDigit (t.getD p 0) = false) : Sre.run reC t 15 (n + 1) p k seen = .ok (k, sN seen) := by
  rw [sre_run_step, acc_no h]; rfl
theorem run_1 {t : Array Nat} {n p : Nat} {seen : Seen} (h : isDigit (t.getD p 0) = true) (h2 : 0 < n → isDigit (t.getD (p + 1) 0) = false) : ∃ s', Sre.run reC t 15 (n + 1) p 0 seen = .ok (1, s') := by
  cases n with
  | zero =>
    refine ⟨sD seen, ?_⟩
    rw [sre_run_step, acc_yes h]; rfl
  | succ n =>
    refine ⟨sN (sD seen), ?_⟩
    rw [sre_run_step, acc_yes h]
    exact run_no (h2 (Nat.zero_lt_succ _))
/-- what comes of the run of digits -/
noncomputable def repK (t : Array Nat) (s : Nat) (f : Bool) (r : Except String (Nat × Seen)) : M :=
  match r with
  | .error why => ({ stA t s f {} with pc := 11, pos := s + 1 } : M).stick why
  | .ok (n, seen) => if n < 1 then { stA t s f seen with pc := 11, pos := s + 1, answer := some false } else ({ stA t s f seen with pc := 11, pos := s + 1 + n } : M).afterRun .giveBack n (({ stA t s f seen with pc := 11, pos := s + 1 + n } : M).keep false)
theorem step_rep {t : Array Nat} {s : Nat} {f : Bool} {seen : Seen} {p : Nat × Seen} (hn : ¬ ((1 : Nat) : Int) > (t.size : Int) - ((s + 1 : Nat) : Int)) (hr : Sre.run reC t 15 (min 4294967295 ((t.size : Int) - ((s + 1 : Nat) : Int)).toNat) (s + 1) 0 ((seen.add 24).add 13) = .ok p) : ({ stA t s f seen with pc := 11, pos := s + 1 } : M).step = repK t s f (.ok p) := by
  have e : ∃ X Y : Except String (Nat × Seen) → M, ({ stA t s f seen with pc := 11, pos := s + 1 } : M).step = (if ((1 : Nat) : Int) > (t.size : Int) - ((s + 1 : Nat) : Int) then X (.error "") else Y (Sre.run reC t 15 (min 4294967295 ((t.size : Int) - ((s + 1 : Nat) : Int)).toNat) (s + 1) 0 ((seen.add 24).add 13))) ∧ ∀ p, Y (.ok p) = repK t s f (.ok p) := by
    refine ⟨fun _ => { stA t s f (seen.add 24) with pc := 11, pos := s + 1, answer := some false }, fun r => Except.rec (motive := fun _ => M) (fun why => ({ stA t s f (seen.add 24) with pc := 11, pos := s + 1 } : M).stick why) (fun p => repK t s f (.ok p)) r, ?_, fun _ => rfl⟩
    kernel_rfl
  obtain ⟨X, Y, h1, h2⟩ := e
  rw [h1, if_neg hn, hr, h2]
theorem rep_room {t : Array Nat} {s : Nat} (h1 : s + 1 < t.size) (hn : t.size < 1000) : ¬ ((1 : Nat) : Int) > (t.size : Int) - ((s + 1 : Nat) : Int) ∧ min 4294967295 ((t.size : Int) - ((s + 1 : Nat) : Int)).toNat = (t.size - (s + 2)) + 1 := by
  have e : ((t.size : Int) - ((s + 1 : Nat) : Int)).toNat = t.size - (s + 1) := Int.toNat_sub _ _
  rw [e, Nat.min_eq_right (by omega)]
  omega
theorem rep_none {t : Array Nat} {s : Nat} {f : Bool} {seen : Seen} (h1 : t.size ≤ s + 1) (hs : s < t.size) : ({ stA t s f seen with pc := 11, pos := s + 1 } : M).step = { stA t s f (seen.add 24) with pc := 11, pos := s + 1, answer := some false } := by
  have e : ∃ X, ({ stA t s f seen with pc := 11, pos := s + 1 } : M).step = (if ((1 : Nat) : Int) > (t.size : Int) - ((s + 1 : Nat) : Int) then { stA t s f (seen.add 24) with pc := 11, pos := s + 1, answer := some false } else X) := ⟨_, by with_unfolding_all rfl⟩
  obtain ⟨X, e⟩ := e
  rw [e, if_pos (by omega)]
theorem rep_no {t : Array Nat} {s : Nat} {f : Bool} {seen : Seen} (h1 : s + 1 < t.size) (hn : t.size < 1000) (hd : isDigit (t.getD (s + 1) 0) = false) : ∃ s', ({ stA t s f seen with pc := 11, pos := s + 1 } : M).step = { stA t s f s' with pc := 11, pos := s + 1, answer := some false } := by
  obtain ⟨hr, hm⟩ := rep_room h1 hn
  exact ⟨_, step_rep hr (by rw [hm]; exact run_no hd)⟩
theorem rep_yes {t : Array Nat} {s : Nat} {f : Bool} {seen : Seen} (h1 : s + 1 < t.size) (hn : t.size < 1000) (hd : isDigit (t.getD (s + 1) 0) = true) (hd2 : s + 2 < t.size → isDigit (t.getD (s + 2) 0) = false) :
    ∃ s', ({ stA t s f seen with pc := 11, pos := s + 1 } : M).step = { stA t s f s' with pc := 21, pos := s + 2, handed := s + 2, weight := 2, frames := [{ wait := .giveBack, pc := 11, pos := s + 2, outermost := f, count := 1 }, { wait := .nextStart, pc := 9, pos := s, outermost := f }] } := by
  obtain ⟨hr, hm⟩ := rep_room h1 hn
  obtain ⟨s', hx⟩ := run_1 (t := t) (n := t.size - (s + 2)) (p := s + 1) (seen := (seen.add 24).add 13) hd (fun h => hd2 (by omega))
  exact ⟨s', (step_rep hr (by rw [hm]; exact hx)).trans (by with_unfolding_all rfl)⟩
noncomputable def stB (t : Array Nat) (s : Nat) (f : Bool) (seen : Seen) : M := { stA t s f seen with pc := 21, pos := s + 2, handed := s + 2, weight := 2, frames := [{ wait := .giveBack, pc := 11, pos := s + 2, outermost := f, count := 1 }, { wait := .nextStart, pc := 9, pos := s, outermost := f }] }
theorem step_at {t : Array Nat} {s : Nat} {f : Bool} {seen : Seen} : (stB t s f seen).step = if ((s + 2 == t.size) || (s + 2 + 1 == t.size && t.getD (s + 2) 0 == 10)) = true then { stB t s f ((seen.add 6).add 48) with pc := 23 } else { stB t s f ((seen.add 6).add 48) with answer := some false } := by kernel_rfl
theorem at_no {t : Array Nat} {s : Nat} {f : Bool} {seen : Seen} (h1 : s + 2 < t.size) (h10 : t.getD (s + 2) 0 ≠ 10) : ∃ s', (stB t s f seen).runFor 3 = stA t (s + 1) false s' := by
  refine ⟨(seen.add 6).add 48, ?_⟩
  have a1 : (stB t s f seen).step = { stB t s f ((seen.add 6).add 48) with answer := some false } := by
    rw [step_at, beq_false_of_ne (Nat.ne_of_lt h1), beq_false_of_ne h10, Bool.and_false]; rfl
  have a2 : ({ stB t s f ((seen.add 6).add 48) with answer := some false } : M).step = { stA t s f ((seen.add 6).add 48) with pc := 11, pos := s + 2, handed := s + 2, weight := 1, answer := some false } := by with_unfolding_all rfl
  rw [run_one rfl, a1, run_one rfl, a2, run_one rfl]
  exact step_next.trans (if_pos (Nat.lt_of_le_of_lt (Nat.le_add_right _ _) h1))
theorem at_yes {t : Array Nat} {s : Nat} {f : Bool} {seen : Seen} (h1 : s + 2 = t.size) : ∃ m, (stB t s f seen).runFor 5 = m ∧ m.outcome = some .matched := by
  have a1 : (stB t s f seen).step = { stB t s f ((seen.add 6).add 48) with pc := 23 } := by
    rw [step_at, h1, beq_self_eq_true]; rfl
  refine ⟨_, rfl, ?_⟩
  rw [run_one rfl, a1]
  cases f <;> with_unfolding_all rfl
theorem end_no {t : Array Nat} {f : Bool} {seen : Seen} : ∃ m, (stA t t.size f seen).runFor 3 = m ∧ m.outcome = some .failed := by
  refine ⟨_, rfl, ?_⟩
  have a1 : (stA t t.size f seen).step = { stA t t.size f (seen.add 16) with answer := some false } := by rw [step_lit, if_pos (Nat.le_refl _)]
  have a2 : ({ stA t t.size f (seen.add 16) with answer := some false } : M).step = { stA t t.size f (seen.add 16) with answer := some false, frames := [], weight := 0 } := (step_next (o := f) (pc := 9) (pos := t.size) (handed := t.size)).trans (if_neg (Nat.lt_irrefl _))
  rw [run_one rfl, a1, run_one rfl, a2]
  rfl
theorem runFor_add : ∀ (a b : Nat) (m : M), m.runFor (a + b) = (m.runFor a).runFor b
  | 0, b, m => by simp [M.runFor]
  | a + 1, b, m => by
    rw [show a + 1 + b = (a + b) + 1 by omega, M.runFor, M.runFor]
    by_cases h : m.outcome.isSome = true
    · rw [if_pos h, if_pos h]
      cases b with
      | zero => rfl
      | succ b => rw [M.runFor, if_pos h]
    · rw [if_neg h, if_neg h, runFor_add a b]
noncomputable def ends (t : Array Nat) : Bool := decide (2 ≤ t.size) && (t.getD (t.size - 2) 0 == 46) && isDigit (t.getD (t.size - 1) 0)
structure TxtOk (t : Array Nat) : Prop where
  few : t.size < 1000
  lone : ∀ s, s + 2 < t.size → t.getD s 0 = 46 → isDigit (t.getD (s + 1) 0) = true → isDigit (t.getD (s + 2) 0) = false ∧ t.getD (s + 2) 0 ≠ 10
theorem sre_all {t : Array Nat} (h : TxtOk t) : ∀ (n s : Nat) (f : Bool) (seen : Seen), n = t.size - s → s ≤ t.size → (ends t = true → s + 2 ≤ t.size) → ∃ k m, k ≤ 5 * n + 9 ∧ (stA t s f seen).runFor k = m ∧ m.outcome = some (if ends t then .matched else .failed)
  | 0, s, f, seen, hn, hs, he => by
    have e : s = t.size := by omega
    subst e
    obtain ⟨m, hm, ho⟩ := end_no (t := t) (f := f) (seen := seen)
    refine ⟨3, m, by omega, hm, ?_⟩
    cases hE : ends t with
    | true => have := he hE; omega
    | false => exact ho
  | n + 1, s, f, seen, hn, hs, he => by
    have hlt : s < t.size := by omega
    have next : ∀ (j : Nat) (m : M), j ≤ 5 → (ends t = true → s + 1 + 2 ≤ t.size) → (∃ s', (stA t s f seen).runFor j = stA t (s + 1) false s') → ∃ k m, k ≤ 5 * (n + 1) + 9 ∧ (stA t s f seen).runFor k = m ∧ m.outcome = some (if ends t then .matched else .failed) := by
      rintro j _ hj hE ⟨s', hs'⟩
      obtain ⟨k, m, hk, hm, ho⟩ := sre_all h n (s + 1) false s' (by omega) (by omega) hE
      exact ⟨j + k, m, by omega, by rw [runFor_add, hs', hm], ho⟩
    by_cases hc : t.getD s 0 = 46
    · by_cases h1 : s + 1 < t.size
      · by_cases hd : isDigit (t.getD (s + 1) 0) = true
        · by_cases h2 : s + 2 < t.size
          · obtain ⟨l1, l2⟩ := h.lone s h2 hc hd
            refine next 5 (stA t s f seen) (by omega) ?_ ?_
            · intro hE
              have := he hE
              by_cases e3 : s + 3 = t.size
              · unfold ends at hE
                simp only [Bool.and_eq_true] at hE
                rw [show t.size - 1 = s + 2 by omega, l1] at hE
                exact absurd hE.2 (by simp)
              · omega
            · obtain ⟨s1, e1⟩ := rep_yes (f := f) (seen := seen.add 16) h1 h.few hd (fun _ => l1)
              obtain ⟨s2, e2⟩ := at_no (f := f) (seen := s1) h2 l2
              refine ⟨s2, ?_⟩
              rw [run_one rfl, lit_step hlt hc, run_one rfl]
              have e1' := e1
              simp only [stA] at e1' ⊢
              rw [e1']
              exact e2
          · have e : s + 2 = t.size := by omega
            have hE : ends t = true := by
              unfold ends
              rw [show t.size - 2 = s by omega, show t.size - 1 = s + 1 by omega, hc, hd]
              simp; omega
            obtain ⟨s1, e1⟩ := rep_yes (f := f) (seen := seen.add 16) h1 h.few hd (fun q => absurd q h2)
            obtain ⟨m, hm, ho⟩ := at_yes (f := f) (seen := s1) e
            refine ⟨7, m, by omega, ?_, by rw [hE]; exact ho⟩
            rw [run_one rfl, lit_step hlt hc, run_one rfl]
            have e1' := e1
            simp only [stA] at e1' ⊢
            rw [e1']
            exact hm
        · simp only [Bool.not_eq_true] at hd
          refine next 3 (stA t s f seen) (by omega) ?_ ?_
          · intro hE
            have := he hE
            by_cases e3 : s + 2 = t.size
            · unfold ends at hE
              simp only [Bool.and_eq_true] at hE
              rw [show t.size - 1 = s + 1 by omega, hd] at hE
              exact absurd hE.2 (by simp)
            · omega
          · obtain ⟨s1, e1⟩ := rep_no (f := f) (seen := seen.add 16) h1 h.few hd
            refine ⟨s1, ?_⟩
            rw [run_one rfl, lit_step hlt hc, run_one rfl]
            have e1' := e1
            simp only [stA] at e1' ⊢
            rw [e1', run_one rfl]
            exact back_step (f := f) _ hlt rfl
      · refine next 3 (stA t s f seen) (by omega) ?_ ?_
        · intro hE; have := he hE; omega
        · refine ⟨(seen.add 16).add 24, ?_⟩
          rw [run_one rfl, lit_step hlt hc, run_one rfl]
          have e1' := rep_none (f := f) (seen := seen.add 16) (by omega : t.size ≤ s + 1) hlt
          simp only [stA] at e1' ⊢
          rw [e1', run_one rfl]
          exact back_step (f := f) _ hlt rfl
    · refine next 2 (stA t s f seen) (by omega) ?_ (sre_other hlt hc)
      intro hE
      have := he hE
      by_cases e3 : s + 2 = t.size
      · unfold ends at hE
        simp only [Bool.and_eq_true] at hE
        rw [show t.size - 2 = s by omega] at hE
        exact absurd (by simpa using hE.1.2) hc
      · omega
theorem search_eq {t : Array Nat} (h2 : 2 ≤ t.size) : forSearch reC t 0 0 t.size false = stA t 0 true (({} : Seen).add 14) := by
  have h : ∃ X, forSearch reC t 0 0 t.size false = if (decide (0 > t.size) || decide (t.size - 0 < 2)) = true then X else stA t 0 true (({} : Seen).add 14) := ⟨_, by with_unfolding_all rfl⟩
  obtain ⟨X, h⟩ := h
  rw [h, if_neg]
  simp
  omega
end Mine
end
section
open PySem PySem.W PyProof.Rows PySem.Calls
namespace Mine
theorem rp_slot : Slot "re.Pattern" "search" "re.Pattern.search" :=
  .of (owner := "re.Pattern") (n := "search") (by rw [typeLookup_type, builtinLookup_eq_fast]; kernel_rfl) (by decide +kernel) (by decide +kernel) (by decide +kernel)
    (by first | exact .inl (by decide +kernel) | exact .inr (by decide +kernel)) (by rw [isSubtype_type]; kernel_rfl)
theorem rp_type : typeOf (.builtin "re.Pattern.search") = pure (.type "method_descriptor") := by show builtinType _ = _; rw [builtinType_eq_fast]; kernel_rfl
theorem rp_entry : entryFor table "re.Pattern.search" = some Builtin.«re.Pattern.search» := entryFor_of_tree (by kernel_rfl)
theorem rp_args (a b : Value) : argsOk "re.Pattern.search" ⟨[a, b], []⟩ := by unfold argsOk; kernel_rfl
theorem rp_plain : PlainAttrs "re.Pattern" :=
  ⟨⟨"object.__getattribute__", by rw [typeLookup_type, builtinLookup_eq_fast]; kernel_rfl, by decide +kernel⟩, by rw [typeLookup_type, builtinLookup_eq_fast]; kernel_rfl⟩
theorem rp_obj (p : _) : ((Mine.fr2 p).lookup 116).map (fun o => (o.cls, o.dict)) = some (.type "re.Pattern", none) := by rfl
end Mine
end
section
open PySem PySem.W PyProof.Rows PySem.Calls
namespace Mine
open PySem.Builtin PySem.Builtin.Re
theorem rp_named (x : Value) : reNamed "re.Pattern.search" "search" ["string", "pos", "endpos"] 1 [x] [] = pure [some x, none, none] := by
  rfl
noncomputable abbrev rpObj : Obj := { cls := .type "re.Pattern", data := .fields #[.str (Str.ofString "\\.\\d+$") 408, .int 256 435, .int 0 0, .none, .none, .ref 115, .int 0 0] }
noncomputable abbrev rpCode : Array Value := #[.int 14 0, .int 8 0, .int 1 0, .int 2 0, .int 4294967295 0, .int 1 0, .int 1 0, .int 46 0, .int 0 0, .int 16 0, .int 46 0, .int 24 0, .int 9 0, .int 1 0, .int 4294967295 0, .int 13 0, .int 4 0, .int 8 0, .int 0 0, .int 0 0, .int 1 0, .int 6 0, .int 5 0, .int 1 0]
theorem rp_116 (p) : (Mine.fr2 p).lookup 116 = some rpObj := by rfl
theorem rp_115 (p) : (Mine.fr2 p).lookup 115 = some { cls := .type "tuple", data := .seq rpCode } := by rfl
section
variable {prog : Program} {w : World} {A : Around} {E : Value → Shared → Prop} {s : Shared}
theorem rp_target {x : Str} {t : Tok} {Q : ReTarget → Shared → Prop} (h116 : s.heap.get? 116 = some rpObj) (h115 : s.heap.get? 115 = some { cls := .type "tuple", data := .seq rpCode }) (hz : x.cps.size < 1000)
    (h : Q { pattern := .ref 116, string := .str x t, code := reC, text := x.cps, kind := 0, groups := 0, pos := 0, lim := x.cps.size } s) : wpAny (model prog w) A (reTarget "re.Pattern.search" "search" ⟨[.ref 116, .str x t], []⟩) Q E s := by
  unfold reTarget
  show wpAny _ _ (reNamed "re.Pattern.search" "search" ["string", "pos", "endpos"] 1 [.str x t] [] >>= _) _ _ _
  rw [rp_named]
  refine wpAny_bind (wpAny_pure ?_)
  refine wpAny_bind (wpAny_pure ?_)
  refine wpAny_bind (wpAny_pure ?_)
  refine wpAny_bind (wpAny_fieldsOf h116 rfl ?_)
  rw [show reTextOf (.str x t) = pure (x.cps, 0) from rfl]
  refine wpAny_bind (wpAny_pure ?_)
  show wpAny _ _ (reNoCollectionInside (Value.str x t) 0 >>= _) _ _ _
  rw [show reNoCollectionInside (Value.str x t) 0 = pure () from rfl]
  refine wpAny_bind (wpAny_pure ?_)
  refine wpAny_bind ?_
  show wpAny _ _ (seqItems? (.ref 115) >>= fun r => pure ((r.getD #[]).map reRawOf)) _ _ _
  refine wpAny_bind (wpAny_seqItems h115 rfl ?_)
  refine wpAny_pure ?_
  refine wpAny_pure ?_
  have e : min (2 ^ 63 - 1 : Int).toNat x.cps.size = x.cps.size := by omega
  have e0 : min (0 : Int).toNat x.cps.size = 0 := by simp
  simp only [e, e0]
  rw [show (Array.map (fun x => x.toNat) (Array.map reRawOf ((some rpCode).getD #[]))) = reC by decide +kernel]
  exact h
theorem rp_drive {Q : Sre.M → Shared → Prop} : ∀ (n : Nat) (m : Sre.M) (k : Nat), k ≤ 4 * n → 0 < n → (m.runFor k).outcome.isSome = true → Q (m.runFor k) s → wpAny (model prog w) A (reDrive n m) Q E s
  | 0, _, _, _, h, _, _ => absurd h (Nat.lt_irrefl 0)
  | n + 1, m, k, hk, _, ho, hQ => by
    unfold reDrive
    show wpAny _ _ (if (m.runFor 4).outcome.isSome = true then pure (m.runFor 4) else _) _ _ _
    by_cases h4 : (m.runFor 4).outcome.isSome = true
    · rw [if_pos h4]
      refine wpAny_pure ?_
      have same : ∀ (j : Nat) (m : Sre.M), m.outcome.isSome = true → m.runFor j = m := by
        intro j m hm
        cases j with
        | zero => rfl
        | succ j => rw [Sre.M.runFor, if_pos hm]
      have e : m.runFor 4 = m.runFor k := by
        by_cases hk4 : k ≤ 4
        · obtain ⟨d, hd⟩ : ∃ d, 4 = k + d := ⟨4 - k, by omega⟩
          rw [hd, runFor_add, same d _ ho]
        · obtain ⟨d, rfl⟩ : ∃ d, k = 4 + d := ⟨k - 4, by omega⟩
          rw [runFor_add, same d _ h4]
      rw [e]; exact hQ
    · rw [if_neg h4]
      refine wpAny_bind (wpAny_rule ?_)
      by_cases hk4 : k ≤ 4
      · have : (m.runFor 4).outcome.isSome = true := by
          obtain ⟨d, hd⟩ : ∃ d, 4 = k + d := ⟨4 - k, by omega⟩
          rw [hd, runFor_add]
          cases d with
          | zero => exact ho
          | succ d => rw [Sre.M.runFor, if_pos ho]; exact ho
        exact absurd this h4
      · obtain ⟨d, rfl⟩ : ∃ d, k = 4 + d := ⟨k - 4, by omega⟩
        rw [runFor_add] at ho hQ
        exact rp_drive n _ d (by omega) (by omega) ho hQ
theorem rp_seen {seen : Sre.Seen} {Q : PUnit → Shared → Prop} (h : Q ⟨⟩ s) : ∀ (l : List Nat), wpAny (model prog w) A (forIn l PUnit.unit fun i _ => do
    if seen.has i = true then rule (Sre.names.getD i ""); pure (ForInStep.yield PUnit.unit)
    else pure (ForInStep.yield PUnit.unit)) Q E s
  | [] => wpAny_pure h
  | i :: l => by
    rw [List.forIn_cons]
    refine wpAny_bind ?_
    by_cases hs : seen.has i = true
    · rw [if_pos hs]
      exact wpAny_bind (wpAny_rule (wpAny_pure (rp_seen h l)))
    · rw [if_neg hs]
      exact wpAny_pure (rp_seen h l)
theorem rp_run {m : Sre.M} {k : Nat} {Q : Option Sre.M → Shared → Prop} (hk : k ≤ 100000) (b : Bool) (ho : (m.runFor k).outcome = some (if b then .matched else .failed)) (h : Q (if b then some (m.runFor k) else none) s) : wpAny (model prog w) A (reRunToEnd m) Q E s := by
  unfold reRunToEnd
  refine wpAny_bind (rp_drive (2 ^ 64) m k (by omega) (by decide) (by rw [ho]; rfl) ?_)
  refine wpAny_bind (rp_seen ?_ _)
  rw [ho]
  cases b with
  | true => exact wpAny_pure h
  | false => exact wpAny_pure h
noncomputable abbrev mtObj (vs : Array Value) : Obj := { cls := .type "re.Match", data := .fields vs }
theorem k_search {h₀ : Heap} {L : Addr} {m : Str → Option Value} {news : List (Addr × Obj)} {p : _} {x : Str} {t : Tok} {Q : Value → Shared → Prop} (F : Fr h₀ L s.heap m) (N : News h₀ L s.heap news) (X : (Mine.fr2 p).In h₀) (hT : TxtOk x.cps) (h2 : 2 ≤ x.cps.size)
    (no : ends x.cps = false → Q .none s) (yes : ends x.cps = true → ∀ a vs h', Fr h₀ L h' m → News h₀ L h' ((a, mtObj vs) :: news) → Q (.ref a) { s with heap := h' }) :
    wpAny (model prog w) A (call (.builtin "re.Pattern.search") [.ref 116, .str x t]) Q E s := by
  have h116 : s.heap.get? 116 = some rpObj := F.keep _ _ (X _ _ (rp_116 p))
  have h115 : s.heap.get? 115 = some { cls := .type "tuple", data := .seq rpCode } := F.keep _ _ (X _ _ (rp_115 p))
  refine wpAny_call_entry rp_slot ⟨_, h116, rfl⟩ rp_entry ?_ (rp_args _ _)
  unfold Builtin.«re.Pattern.search»
  refine wpAny_bind (rp_target h116 h115 hT.few ?_)
  obtain ⟨k, mm, hk, hm, ho⟩ := sre_all hT x.cps.size 0 true (({} : Sre.Seen).add 14) (by omega) (Nat.zero_le _) (fun _ => by omega)
  subst hm
  unfold reAnswer
  have hf := hT.few
  rw [show Sre.forSearch (ReTarget.code { pattern := Value.ref 116, string := Value.str x t, code := reC, text := x.cps, kind := 0, groups := 0, pos := 0, lim := x.cps.size }) x.cps 0 0 x.cps.size false = _ from search_eq h2]
  refine wpAny_bind (rp_run (k := k) (by omega) (ends x.cps) ho ?_)
  cases hE : ends x.cps with
  | false =>
    simp only [Bool.false_eq_true, if_false]
    exact wpAny_pure ⟨_, rfl, no hE⟩
  | true =>
    simp only [if_true]
    unfold reNewMatch
    refine wpAny_bind ?_
    show wpAny _ _ (newTuple _ >>= fun r => newFields "re.Match" [Value.str x t, Value.ref 116, _, _, _, r]) _ _ _
    refine wpAny_bind (newTuple_N F N (hsz := (by show 2 ≤ sizeLine; decide)) fun h' F' N' => ?_)
    refine wpAny_newObj_type ?_
    refine wpAny_pure ⟨_, rfl, ?_⟩
    exact yes hE _ _ _ (F'.push _) (news_sub (News.push F' N' _) fun p hp => by rcases List.mem_cons.mp hp with rfl | hp; exact List.mem_cons_self; exact List.mem_cons_of_mem _ (List.mem_cons_of_mem _ hp))
theorem k_match {h₀ : Heap} {L : Addr} {news : List (Addr × Obj)} {a : Addr} {vs : Array Value} {Q : Bool → Shared → Prop} (N : News h₀ L s.heap news) (hm : (a, mtObj vs) ∈ news) (h : Q true s) : wpAny (model prog w) A (truthy (.ref a)) Q E s := by
  have hT : s.TypeIs (.ref a) "re.Match" := ⟨_, (N _ hm).1, rfl⟩
  have n1 : typeLookup (.type "re.Match") "__bool__" = pure none := by rw [typeLookup_type, builtinLookup_eq_fast]; kernel_rfl
  have n2 : typeLookup (.type "re.Match") "__len__" = pure none := by rw [typeLookup_type, builtinLookup_eq_fast]; kernel_rfl
  unfold truthy
  first
    | refine wpAny_bind (wpAny_callSpecial?_none (name := Str.ofString "__bool__") hT n1 ?_)
    | refine wpAny_bind (wpAny_pure (wpAny_bind (wpAny_callSpecial?_none (name := Str.ofString "__bool__") hT n1 ?_)))
  first
    | refine wpAny_bind (wpAny_specialOf (name := Str.ofString "__len__") hT n2 ?_)
    | refine wpAny_bind (wpAny_pure (wpAny_bind (wpAny_specialOf (name := Str.ofString "__len__") hT n2 ?_)))
  exact wpAny_pure h
theorem k_searchM {h₀ : Heap} {L : Addr} {m : Str → Option Value} {p : _} {pl : Sem Bool} {Q : Value × List Value → Shared → Prop} (F : Fr h₀ L s.heap m) (X : (Mine.fr2 p).In h₀) (h : Q (.builtin "re.Pattern.search", [.ref 116]) s) :
    wpAny (model prog w) A (getMethod (.ref 116) (Str.ofString "search") pl) Q E s :=
  getMethod_builtin ⟨_, F.keep _ _ (X _ _ (rp_116 p)), rfl⟩ rp_plain rp_slot rp_type (fun a e => by cases e; exact ⟨_, F.keep _ _ (X _ _ (rp_116 p)), rfl⟩) h
end
end Mine
end
section
open PySem PySem.W PyProof.Rows
namespace Mine
open PySem.Spec PySem.Calls

section
variable {w : World} {mean : ExcName → Option Value} {mg mb : Str → Option Value} {dp un : Nat} {gd : Option (List Code)} {cn : Str} {nm : List (Str × NameKind)} {ig ic : Bool} {mo : List (Str × Const)} {a : Addr} {ccd : Value} {cl : List (Str × Addr)} {outer : List Env} {A₀ : Around} {base h₀ : Heap} {L : Addr} {m : Str → Option Value} {s : Shared} {Q E : Value → Shared → Prop} {news : List (Addr × Obj)}

noncomputable def saidD (q : Int) (x : Str) : Dat := if q.fmod 16 < 10 then .tuple [.str x, .int (q.fmod 40)] else if q.fmod 16 = 10 then .str (Str.ofString "another reply") else if q.fmod 16 = 15 then .str (Str.ofString "no number") else .str (Str.ofString "no form")
theorem c_said {d : Int} {x : Str} {t u : Tok}
    (B : Below A₀ base outer h₀) (F : Fr h₀ L s.heap m) (XX : (Mine.fr2 w.params).In h₀) (N : News h₀ L s.heap news) (TT : Top topProg LL mean mg mb h₀) (hd : dp + 10 < recursionLimit) (hu : un + 60 < cLine)
    (h0 : 0 ≤ d) (hb : d < 2 ^ 60)
    (ret : ∀ v h' tk' news', DatIn news' v (saidD (d.fdiv 9) x) → Fr h₀ L h' m → News h₀ L h' news' → (∀ p ∈ news, p ∈ news') → Q v { s with heap := h', toks := tk' }) :
    wpAny (model PP w) (ktrTop dp un gd cn (CS nm ig ic mo) L a ccd cl outer) (call (.ref 165) [.int d t, .str x u]) Q E s := by
  k_with_none
  k_with "eval Name" => (k_here; (fail_if_success (with_reducible show wpAny _ _ (eval _ (compEnvC _ _ _ _)) _ _ _)); first | (refine' nameX_L ?zqF ?zqv ?_ ?zqa ?zqb; (case zqF => k_asm); (case zqa => rfl); (case zqb => rfl); (case zqv => rfl); k_whole) | (refine' nameX_K ?zqF ?zqX ?zqT ?zqe ?_ ?zqa ?zqb; (case zqF => k_asm); (case zqX => k_asm); (case zqT => k_asm); (case zqa => rfl); (case zqb => rfl); (case zqe => k_is); k_whole) | (refine' nameX_B ?zqF ?zqX ?zqT ?zqe ?zqv ?zqn ?_ ?zqa ?zqb; (case zqF => k_asm); (case zqX => k_asm); (case zqT => k_asm); (case zqa => rfl); (case zqb => rfl); (case zqe => k_is); (case zqv => boot_fast); (case zqn => decide); k_whole) | (refine' nameX_C ?zqN ?zqc ?zqm ?zqd ?_ ?zqa ?zqb; (case zqa => rfl); (case zqb => rfl); (case zqN => k_asm); (case zqc => rfl); (case zqm => k_mem); (case zqd => k_asm); k_whole))
  k_with "callWith ref" => (k_here; first | (refine' callWith_K ?zqk1 ?zqk2 ?_; (case zqk1 => k_asm); (case zqk2 => k_is); k_whole) | (refine' callWith_KW ?zqk1 ?zqk2 ?zqk3 ?_; (case zqk1 => k_asm); (case zqk2 => k_is); (case zqk3 => exact rfl); k_whole))
  k_with "storeName" => (k_here; refine' storeX_L ?zqF ?zqN ?_ ?zqa ?zqb; (case zqF => k_asm); (case zqN => k_asm); (case zqa => rfl); (case zqb => rfl); k_whole; intro _ _ _; (try k_sweep))
  k_with "subscriptTail Name Name ref int" => k_extra "subscriptTail"
  k_with "subscriptTail Name Call ref int" => k_extra "subscriptTail"
  k_with "subscriptTail Name Subscript ref int" => k_extra "subscriptTail"
  k_with "subscriptTail" => (k_here; (with_reducible show wpAny _ _ (subscriptTail _ _ (Value.ref _) (Value.int _ _)) _ _ _); (with_unfolding_all refine' sub_list ?k1 ?k2 ?k3 ?_ ?k6); (case k1 => k_asm); (case k2 => k_dflt k_mem); (case k6 => with_unfolding_all rfl); (case k3 => k_extra "item"); k_whole)
  k_with "call builtin:len" => (k_here; (with_reducible show wpAny _ _ (call (Value.builtin "len") [Value.ref _]) _ _ _); (with_unfolding_all refine' len_led ?k1 ?k2 ?k3 ?_); (case k1 => k_asm); (case k2 => k_dflt k_mem); (case k3 => k_extra "len"); k_whole)
  k_steps
  all_goals ((rename News _ _ _ _ => lN); (rename Fr _ _ _ _ => lF); unfold saidD at ret)
  · rw [if_pos (by assumption)] at ret
    exact ret _ _ _ _ (.tuple (vs := [.str x u, .int ((d.fdiv 9).fmod 40) _]) List.mem_cons_self (.cons (.str _ _) (.cons (.int _ _) .nil))) lF lN (fun p h => List.mem_cons_of_mem _ h)
  · rw [if_neg (by assumption), if_pos (by assumption)] at ret
    exact ret _ _ _ _ (.str _ _) lF lN (fun p h => h)
  · rw [if_neg (by assumption), if_neg (by assumption), if_pos (by assumption)] at ret
    exact ret _ _ _ _ (.str _ _) lF lN (fun p h => h)
  · rw [if_neg (by assumption), if_neg (by assumption), if_neg (by assumption)] at ret
    exact ret _ _ _ _ (.str _ _) lF lN (fun p h => h)
noncomputable def replyP (q : Int) (x : Str) : Str :=
  if q.fmod 16 = 10 then Str.ofString "227 ready (" ++ (Txt.mul x 3 ++ Str.ofString (toString (q.fmod 40)) ++ x) ++ Str.ofString ")"
  else if q.fmod 16 = 11 then Str.ofString "229 ready 2" ++ Str.ofString (toString (q.fmod 40)) ++ Str.ofString "2)"
  else if q.fmod 16 = 12 then Str.ofString "229 ready (" ++ (Txt.mul x 3 ++ Str.ofString (toString (q.fmod 40)) ++ x) ++ x
  else if q.fmod 16 = 13 then Str.ofString "229 ready (" ++ (Txt.mul x 3 ++ Str.ofString (toString (q.fmod 40)) ++ x) ++ Str.ofString "+)"
  else if q.fmod 16 = 14 then Str.ofString "229 ready (" ++ (Txt.mul x 3 ++ Str.ofString (toString (q.fmod 40)) ++ x) ++ x ++ Str.ofString ")"
  else if q.fmod 16 = 15 then Str.ofString "229 ready (" ++ Txt.slice (Txt.mul x 3 ++ Str.ofString (toString (q.fmod 40)) ++ x) (some 1) none ++ x ++ Str.ofString ")"
  else Str.ofString "229 ready (" ++ (Txt.mul x 3 ++ Str.ofString (toString (q.fmod 40)) ++ x) ++ Str.ofString ")"
theorem port_len (q : Int) : (Str.ofString (toString (q.fmod 40))).length ≤ 2 := by
  have h : ∀ n : Fin 40, (Str.ofString (toString ((n.val : Nat) : Int))).length ≤ 2 := by decide
  have h1 : 0 ≤ q.fmod 40 := Int.fmod_nonneg_of_pos _ (by decide)
  have h2 : q.fmod 40 < 40 := Int.fmod_lt_of_pos _ (by decide)
  have := h ⟨(q.fmod 40).toNat, by omega⟩
  simpa [Int.toNat_of_nonneg h1] using this
theorem c_reply {d : Int} {x : Str} {t u : Tok}
    (B : Below A₀ base outer h₀) (F : Fr h₀ L s.heap m) (XX : (Mine.fr2 w.params).In h₀) (N : News h₀ L s.heap news) (TT : Top topProg LL mean mg mb h₀) (hd : dp + 10 < recursionLimit) (hu : un + 60 < cLine)
    (h0 : 0 ≤ d) (hb : d < 2 ^ 60) (hx : x.length ≤ 1) (hx3 : (Txt.mul x 3).length ≤ 3)
    (ret : ∀ t' h' tk', Fr h₀ L h' m → News h₀ L h' news → Q (.str (replyP (d.fdiv 9) x) t') { s with heap := h', toks := tk' }) :
    wpAny (model PP w) (ktrTop dp un gd cn (CS nm ig ic mo) L a ccd cl outer) (call (.ref 158) [.int d t, .str x u]) Q E s := by
  have hpl := port_len (d.fdiv 9)
  k_with_none
  k_with "eval Name" => (k_here; (fail_if_success (with_reducible show wpAny _ _ (eval _ (compEnvC _ _ _ _)) _ _ _)); first | (refine' nameX_L ?zqF ?zqv ?_ ?zqa ?zqb; (case zqF => k_asm); (case zqa => rfl); (case zqb => rfl); (case zqv => rfl); k_whole) | (refine' nameX_K ?zqF ?zqX ?zqT ?zqe ?_ ?zqa ?zqb; (case zqF => k_asm); (case zqX => k_asm); (case zqT => k_asm); (case zqa => rfl); (case zqb => rfl); (case zqe => k_is); k_whole) | (refine' nameX_B ?zqF ?zqX ?zqT ?zqe ?zqv ?zqn ?_ ?zqa ?zqb; (case zqF => k_asm); (case zqX => k_asm); (case zqT => k_asm); (case zqa => rfl); (case zqb => rfl); (case zqe => k_is); (case zqv => boot_fast); (case zqn => decide); k_whole) | (refine' nameX_C ?zqN ?zqc ?zqm ?zqd ?_ ?zqa ?zqb; (case zqa => rfl); (case zqb => rfl); (case zqN => k_asm); (case zqc => rfl); (case zqm => k_mem); (case zqd => k_asm); k_whole))
  k_with "callWith ref" => (k_here; first | (refine' callWith_K ?zqk1 ?zqk2 ?_; (case zqk1 => k_asm); (case zqk2 => k_is); k_whole) | (refine' callWith_KW ?zqk1 ?zqk2 ?zqk3 ?_; (case zqk1 => k_asm); (case zqk2 => k_is); (case zqk3 => exact rfl); k_whole))
  k_with "storeName" => (k_here; refine' storeX_L ?zqF ?zqN ?_ ?zqa ?zqb; (case zqF => k_asm); (case zqN => k_asm); (case zqa => rfl); (case zqb => rfl); k_whole; intro _ _ _; (try k_sweep))
  k_with "subscriptTail Name Name ref int" => k_extra "subscriptTail"
  k_with "subscriptTail Name Call ref int" => k_extra "subscriptTail"
  k_with "subscriptTail Name Subscript ref int" => k_extra "subscriptTail"
  k_with "subscriptTail" => (k_here; (with_reducible show wpAny _ _ (subscriptTail _ _ (Value.ref _) (Value.int _ _)) _ _ _); (with_unfolding_all refine' sub_list ?k1 ?k2 ?k3 ?_ ?k6); (case k1 => k_asm); (case k2 => k_dflt k_mem); (case k6 => with_unfolding_all rfl); (case k3 => k_extra "item"); k_whole)
  k_with "call builtin:len" => (k_here; (with_reducible show wpAny _ _ (call (Value.builtin "len") [Value.ref _]) _ _ _); (with_unfolding_all refine' len_led ?k1 ?k2 ?k3 ?_); (case k1 => k_asm); (case k2 => k_dflt k_mem); (case k3 => k_extra "len"); k_whole)
  k_with "binaryOp Add str str" => (k_here; k_dflt (k_extra "add"))
  k_with "add" => ((refine' KXadd.add (K := 60) (L := 60) ?ad1 ?ad2 (by decide) ?_); (case ad1 => first | decide | omega); (case ad2 => first | decide | omega); (intro t9 k9 hl9))
  k_steps
  all_goals ((rename News _ _ _ _ => lN); (rename Fr _ _ _ _ => lF); unfold replyP at ret)
  all_goals first
    | (rw [if_pos (by assumption)] at ret; exact ret _ _ _ lF lN)
    | (rw [if_neg (by assumption), if_pos (by assumption)] at ret; exact ret _ _ _ lF lN)
    | (rw [if_neg (by assumption), if_neg (by assumption), if_pos (by assumption)] at ret; exact ret _ _ _ lF lN)
    | (rw [if_neg (by assumption), if_neg (by assumption), if_neg (by assumption), if_pos (by assumption)] at ret; exact ret _ _ _ lF lN)
    | (rw [if_neg (by assumption), if_neg (by assumption), if_neg (by assumption), if_neg (by assumption), if_pos (by assumption)] at ret; exact ret _ _ _ lF lN)
    | (rw [if_neg (by assumption), if_neg (by assumption), if_neg (by assumption), if_neg (by assumption), if_neg (by assumption), if_pos (by assumption)] at ret; exact ret _ _ _ lF lN)
    | (rw [if_neg (by assumption), if_neg (by assumption), if_neg (by assumption), if_neg (by assumption), if_neg (by assumption), if_neg (by assumption)] at ret; exact ret _ _ _ lF lN)
    | skip
end
end Mine
end
section
open PySem PySem.W PyProof.Rows
namespace Mine
noncomputable def readT (x : Str) : Nat × Int :=
  if (Txt.slice x none (some 3) != Str.ofString "229") = true then (1, 0)
  else if Txt.find x (Str.ofString "(") < 0 then (2, 0)
  else if Txt.find3 x (Str.ofString ")") (Txt.find x (Str.ofString "(") + 1) < 0 then (2, 0)
  else if (Txt.item x (Txt.find x (Str.ofString "(") + 1) != Txt.item x (Txt.find3 x (Str.ofString ")") (Txt.find x (Str.ofString "(") + 1) - 1)) = true then (2, 0)
  else if (Txt.split (Txt.slice x (some (Txt.find x (Str.ofString "(") + 1)) (some (Txt.find3 x (Str.ofString ")") (Txt.find x (Str.ofString "(") + 1)))) (Txt.item x (Txt.find x (Str.ofString "(") + 1))).length ≠ 5 then (2, 0)
  else match PySem.intText? ((Txt.split (Txt.slice x (some (Txt.find x (Str.ofString "(") + 1)) (some (Txt.find3 x (Str.ofString ")") (Txt.find x (Str.ofString "(") + 1)))) (Txt.item x (Txt.find x (Str.ofString "(") + 1))).getD 3 Str.empty) with
    | some n => (0, n)
    | none => (3, 0)
noncomputable def saidT (q : Int) : Nat × Int := if q.fmod 16 < 10 then (0, q.fmod 40) else if q.fmod 16 = 10 then (1, 0) else if q.fmod 16 = 15 then (3, 0) else (2, 0)
noncomputable def marks : List Str := [Str.ofString "|", Str.ofString "!", Str.ofString ";", Str.ofString " "]
noncomputable def parseB (x : Str) : Bool := decide (x.length ≤ 40) && decide (0 ≤ Txt.find x (Str.ofString "(") → 0 ≤ Txt.find3 x (Str.ofString ")") (Txt.find x (Str.ofString "(") + 1) → Txt.find x (Str.ofString "(") + 1 < x.length ∧ Txt.find3 x (Str.ofString ")") (Txt.find x (Str.ofString "(") + 1) < x.length)
  && match Txt.split (Txt.slice x (some (Txt.find x (Str.ofString "(") + 1)) (some (Txt.find3 x (Str.ofString ")") (Txt.find x (Str.ofString "(") + 1)))) (Txt.item x (Txt.find x (Str.ofString "(") + 1)) with
    | [_, _, _, y, _] => decide (y.length ≤ 640 ∧ (PySem.intText? y = none → y = Str.empty))
    | _ => true
noncomputable def bothB (n k : Nat) : Bool := decide (readT (replyP (n : Int) (marks.getD k Str.empty)) = saidT (n : Int)) && parseB (replyP (n : Int) (marks.getD k Str.empty))
theorem both_0 : ((List.range 10).all fun n => (List.range 4).all fun k => bothB (0 + n) k) = true := by decide +kernel
theorem both_1 : ((List.range 10).all fun n => (List.range 4).all fun k => bothB (10 + n) k) = true := by decide +kernel
theorem both_2 : ((List.range 10).all fun n => (List.range 4).all fun k => bothB (20 + n) k) = true := by decide +kernel
theorem both_3 : ((List.range 10).all fun n => (List.range 4).all fun k => bothB (30 + n) k) = true := by decide +kernel
theorem both_4 : ((List.range 10).all fun n => (List.range 4).all fun k => bothB (40 + n) k) = true := by decide +kernel
theorem both_5 : ((List.range 10).all fun n => (List.range 4).all fun k => bothB (50 + n) k) = true := by decide +kernel
theorem both_6 : ((List.range 10).all fun n => (List.range 4).all fun k => bothB (60 + n) k) = true := by decide +kernel
theorem both_7 : ((List.range 10).all fun n => (List.range 4).all fun k => bothB (70 + n) k) = true := by decide +kernel
theorem both_get {c : Nat} (h : ((List.range 10).all fun n => (List.range 4).all fun k => bothB (c + n) k) = true) {n k : Nat} (h1 : c ≤ n) (h2 : n < c + 10) (hk : k < 4) : bothB n k = true := by
  rw [List.all_eq_true] at h
  have h3 := h (n - c) (List.mem_range.mpr (by omega))
  rw [List.all_eq_true] at h3
  have h4 := h3 k (List.mem_range.mpr hk)
  rwa [show c + (n - c) = n by omega] at h4
theorem read_both (n : Fin 80) (k : Fin 4) : bothB n.val k.val = true := by
  have hn := n.isLt
  have hk := k.isLt
  have hc : n.val < 10 ∨ (10 ≤ n.val ∧ n.val < 20) ∨ (20 ≤ n.val ∧ n.val < 30) ∨ (30 ≤ n.val ∧ n.val < 40) ∨ (40 ≤ n.val ∧ n.val < 50) ∨ (50 ≤ n.val ∧ n.val < 60) ∨ (60 ≤ n.val ∧ n.val < 70) ∨ (70 ≤ n.val) := (by decide : ∀ n, n < 80 → (n < 10 ∨ (10 ≤ n ∧ n < 20) ∨ (20 ≤ n ∧ n < 30) ∨ (30 ≤ n ∧ n < 40) ∨ (40 ≤ n ∧ n < 50) ∨ (50 ≤ n ∧ n < 60) ∨ (60 ≤ n ∧ n < 70) ∨ (70 ≤ n))) n.val hn
  rcases hc with h | h | h | h | h | h | h | h
  · exact both_get both_0 (by omega) (by omega) hk
  · exact both_get both_1 (by omega) (by omega) hk
  · exact both_get both_2 (by omega) (by omega) hk
  · exact both_get both_3 (by omega) (by omega) hk
  · exact both_get both_4 (by omega) (by omega) hk
  · exact both_get both_5 (by omega) (by omega) hk
  · exact both_get both_6 (by omega) (by omega) hk
  · exact both_get both_7 (by omega) (by omega) hk
theorem read_all (n : Fin 80) (k : Fin 4) : readT (replyP (n.val : Int) (marks.getD k.val Str.empty)) = saidT (n.val : Int) := by
  have h := read_both n k
  unfold bothB at h
  rw [Bool.and_eq_true] at h
  exact of_decide_eq_true h.1
theorem parse_all (n : Fin 80) (k : Fin 4) : parseB (replyP (n.val : Int) (marks.getD k.val Str.empty)) = true := by
  have h := read_both n k
  unfold bothB at h
  rw [Bool.and_eq_true] at h
  exact h.2
end Mine
end
section
open PySem PySem.W PyProof.Rows
namespace Mine
open PySem.Spec PySem.Calls

section
variable {w : World} {mean : ExcName → Option Value} {mg mb : Str → Option Value} {dp un : Nat} {gd : Option (List Code)} {cn : Str} {nm : List (Str × NameKind)} {ig ic : Bool} {mo : List (Str × Const)} {a : Addr} {ccd : Value} {cl : List (Str × Addr)} {outer : List Env} {A₀ : Around} {base h₀ : Heap} {L : Addr} {m : Str → Option Value} {s : Shared} {Q E : Value → Shared → Prop} {news : List (Addr × Obj)}

noncomputable def lpos (x : Str) : Int := Txt.find x (Str.ofString "(") + 1
noncomputable def rpos (x : Str) : Int := Txt.find3 x (Str.ofString ")") (lpos x)
structure ParseOk (x : Str) : Prop where
  len : x.length ≤ 40
  pos : 0 ≤ Txt.find x (Str.ofString "(") → 0 ≤ rpos x → lpos x < x.length ∧ rpos x < x.length
  num : ∀ y, (Txt.split (Txt.slice x (some (lpos x)) (some (rpos x))) (Txt.item x (lpos x))).length = 5 → (Txt.split (Txt.slice x (some (lpos x)) (some (rpos x))) (Txt.item x (lpos x)))[3]? = some y → y.length ≤ 640 ∧ (PySem.intText? y = none → y = Str.empty)
noncomputable def readD (p : Nat × Int) (z : Str) : Dat := if p.1 = 0 then .tuple [.str z, .int p.2] else if p.1 = 1 then .str (Str.ofString "another reply") else if p.1 = 2 then .str (Str.ofString "no form") else .str (Str.ofString "no number")
theorem getD3 {l : List Str} {y : Str} (h : l[Int.toNat 3]? = some y) : l.getD 3 Str.empty = y := by
  rw [List.getD_eq_getElem?_getD, show l[3]? = some y from h]
  rfl
theorem ne_b {b : Bool} (h : b = false) : ¬ b = true := by rw [h]; decide
theorem readT_1 {x : Str} (h1 : (Txt.slice x none (some 3) != Str.ofString "229") = true) : readT x = (1, 0) := by
  unfold readT
  rw [if_pos h1]
theorem readT_2 {x : Str} (h1 : (Txt.slice x none (some 3) != Str.ofString "229") = false) (h2 : Txt.find x (Str.ofString "(") < 0) : readT x = (2, 0) := by
  unfold readT
  rw [if_neg (ne_b h1), if_pos h2]
theorem readT_3 {x : Str} (h1 : (Txt.slice x none (some 3) != Str.ofString "229") = false) (h2 : ¬ Txt.find x (Str.ofString "(") < 0) (h3 : Txt.find3 x (Str.ofString ")") (Txt.find x (Str.ofString "(") + 1) < 0) : readT x = (2, 0) := by
  unfold readT
  rw [if_neg (ne_b h1), if_neg h2, if_pos h3]
theorem readT_4 {x : Str} (h1 : (Txt.slice x none (some 3) != Str.ofString "229") = false) (h2 : ¬ Txt.find x (Str.ofString "(") < 0) (h3 : ¬ Txt.find3 x (Str.ofString ")") (Txt.find x (Str.ofString "(") + 1) < 0) (h4 : (Txt.item x (Txt.find x (Str.ofString "(") + 1) != Txt.item x (Txt.find3 x (Str.ofString ")") (Txt.find x (Str.ofString "(") + 1) - 1)) = true) : readT x = (2, 0) := by
  unfold readT
  rw [if_neg (ne_b h1), if_neg h2, if_neg h3, if_pos h4]
theorem readT_5 {x : Str} (h1 : (Txt.slice x none (some 3) != Str.ofString "229") = false) (h2 : ¬ Txt.find x (Str.ofString "(") < 0) (h3 : ¬ Txt.find3 x (Str.ofString ")") (Txt.find x (Str.ofString "(") + 1) < 0) (h4 : (Txt.item x (Txt.find x (Str.ofString "(") + 1) != Txt.item x (Txt.find3 x (Str.ofString ")") (Txt.find x (Str.ofString "(") + 1) - 1)) = false) (h5 : (Txt.split (Txt.slice x (some (Txt.find x (Str.ofString "(") + 1)) (some (Txt.find3 x (Str.ofString ")") (Txt.find x (Str.ofString "(") + 1)))) (Txt.item x (Txt.find x (Str.ofString "(") + 1))).length ≠ 5) : readT x = (2, 0) := by
  unfold readT
  rw [if_neg (ne_b h1), if_neg h2, if_neg h3, if_neg (ne_b h4), if_pos h5]
theorem readT_num {x : Str} (hg : (readT x).1 ≠ 3) (h1 : (Txt.slice x none (some 3) != Str.ofString "229") = false) (h2 : ¬ Txt.find x (Str.ofString "(") < 0) (h3 : ¬ Txt.find3 x (Str.ofString ")") (Txt.find x (Str.ofString "(") + 1) < 0) (h4 : (Txt.item x (Txt.find x (Str.ofString "(") + 1) != Txt.item x (Txt.find3 x (Str.ofString ")") (Txt.find x (Str.ofString "(") + 1) - 1)) = false) (h5 : (Txt.split (Txt.slice x (some (Txt.find x (Str.ofString "(") + 1)) (some (Txt.find3 x (Str.ofString ")") (Txt.find x (Str.ofString "(") + 1)))) (Txt.item x (Txt.find x (Str.ofString "(") + 1))).length = 5) : ∃ n, PySem.intText? ((Txt.split (Txt.slice x (some (Txt.find x (Str.ofString "(") + 1)) (some (Txt.find3 x (Str.ofString ")") (Txt.find x (Str.ofString "(") + 1)))) (Txt.item x (Txt.find x (Str.ofString "(") + 1))).getD 3 Str.empty) = some n ∧ readT x = (0, n) := by
  unfold readT at hg ⊢
  rw [if_neg (ne_b h1), if_neg h2, if_neg h3, if_neg (ne_b h4), if_neg (fun q => q h5)] at hg ⊢
  cases e : PySem.intText? ((Txt.split (Txt.slice x (some (Txt.find x (Str.ofString "(") + 1)) (some (Txt.find3 x (Str.ofString ")") (Txt.find x (Str.ofString "(") + 1)))) (Txt.item x (Txt.find x (Str.ofString "(") + 1))).getD 3 Str.empty) with
  | none => rw [e] at hg; exact absurd rfl hg
  | some n => exact ⟨n, rfl, rfl⟩
theorem rd1 {x z : Str} {l : List (Addr × Obj)} {t : Tok} (hr : readT x = (1, 0)) : DatIn l (.str (Str.ofString "another reply") t) (readD (readT x) z) := by
  rw [hr]
  exact .str _ _
theorem rd2 {x z : Str} {l : List (Addr × Obj)} {t : Tok} (hr : readT x = (2, 0)) : DatIn l (.str (Str.ofString "no form") t) (readD (readT x) z) := by
  rw [hr]
  exact .str _ _
theorem rd0 {x z : Str} {l : List (Addr × Obj)} {n : Int} {v : Value} (hr : readT x = (0, n)) (h : DatIn l v (.tuple [.str z, .int n])) : DatIn l v (readD (readT x) z) := by
  rw [hr]
  exact h
theorem c_readG {x z : Str} {p : Addr} {np : Nat} {t u t2 : Tok}
    (B : Below A₀ base [] h₀) (F : Fr h₀ L s.heap m) (XX : (Mine.fr2 w.params).In h₀) (N : News h₀ L s.heap news) (TT : Top topProg LL mean mg mb h₀) (hd : dp + 20 < recursionLimit) (hu : un + 160 < cLine)
    (XB : (Mine.fr2 w.params).In base) (TB : Top topProg LL mean mg mb base)
    (hm : (p, tup2 (.str z u) (.int 21 t2) np) ∈ news) (hx : ParseOk x) (hgood : (readT x).1 ≠ 3)
    (ret : ∀ v h' tk' news', DatIn news' v (readD (readT x) z) → Fr h₀ L h' m → News h₀ L h' news' → (∀ p ∈ news, p ∈ news') → Q v { s with heap := h', toks := tk' }) :
    wpAny (model PP w) (ktrTop dp un gd cn (CS nm ig ic mo) L a ccd cl []) (call (.ref 172) [.str x t, .ref p]) Q E s := by
  have hx1 := hx.len
  have hpos := hx.pos
  have hnum := hx.num
  unfold lpos rpos lpos at hpos
  unfold rpos lpos at hnum
  k_with_none
  k_with "eval Name" => (k_here; (fail_if_success (with_reducible show wpAny _ _ (eval _ (compEnvC _ _ _ _)) _ _ _)); first | (refine' nameX_L ?zqF ?zqv ?_ ?zqa ?zqb; (case zqF => k_asm); (case zqa => rfl); (case zqb => rfl); (case zqv => rfl); k_whole) | (refine' nameX_K ?zqF ?zqX ?zqT ?zqe ?_ ?zqa ?zqb; (case zqF => k_asm); (case zqX => k_asm); (case zqT => k_asm); (case zqa => rfl); (case zqb => rfl); (case zqe => k_is); k_whole) | (refine' nameX_B ?zqF ?zqX ?zqT ?zqe ?zqv ?zqn ?_ ?zqa ?zqb; (case zqF => k_asm); (case zqX => k_asm); (case zqT => k_asm); (case zqa => rfl); (case zqb => rfl); (case zqe => k_is); (case zqv => boot_fast); (case zqn => decide); k_whole) | (refine' nameX_C ?zqN ?zqc ?zqm ?zqd ?_ ?zqa ?zqb; (case zqa => rfl); (case zqb => rfl); (case zqN => k_asm); (case zqc => rfl); (case zqm => k_mem); (case zqd => k_asm); k_whole))
  k_with "callWith ref" => (k_here; first | (refine' callWith_K ?zqk1 ?zqk2 ?_; (case zqk1 => k_asm); (case zqk2 => k_is); k_whole) | (refine' callWith_KW ?zqk1 ?zqk2 ?zqk3 ?_; (case zqk1 => k_asm); (case zqk2 => k_is); (case zqk3 => exact rfl); k_whole))
  k_with "storeName" => (k_here; refine' storeX_L ?zqF ?zqN ?_ ?zqa ?zqb; (case zqF => k_asm); (case zqN => k_asm); (case zqa => rfl); (case zqb => rfl); k_whole; intro _ _ _; (try k_sweep))
  k_with "subscriptTail Name Name ref int" => k_extra "subscriptTail"
  k_with "subscriptTail Name Call ref int" => k_extra "subscriptTail"
  k_with "subscriptTail Name Subscript ref int" => k_extra "subscriptTail"
  k_with "subscriptTail" => (k_here; (with_reducible show wpAny _ _ (subscriptTail _ _ (Value.ref _) (Value.int _ _)) _ _ _); (with_unfolding_all refine' sub_list ?k1 ?k2 ?k3 ?_ ?k6); (case k1 => k_asm); (case k2 => k_dflt k_mem); (case k6 => with_unfolding_all rfl); (case k3 => k_extra "item"); k_whole)
  k_with "call builtin:len" => (k_here; (with_reducible show wpAny _ _ (call (Value.builtin "len") [Value.ref _]) _ _ _); (with_unfolding_all refine' len_led ?k1 ?k2 ?k3 ?_); (case k1 => k_asm); (case k2 => k_dflt k_mem); (case k3 => k_extra "len"); k_whole)
  k_with "call builtin:len" => (refine len_strs (by first | assumption | exact News.isList (by assumption) (by k_mem)) (by have := len_le_of_split (by assumption); omega) ?_)
  k_with "subscriptTail Name Constant ref int" => ((with_reducible show wpAny _ _ (subscriptTail _ _ (Value.ref _) (Value.int 3 _)) _ _ _); (refine item_strs (by first | assumption | exact News.isList (by assumption) (by k_mem)) (by omega) (by have := len_of_split (by assumption); omega) (by omega) ?_); (intro _ _ _))
  k_with "call type:int" => (k_here; k_dflt (k_extra "int"))
  k_with "subscriptTail Name BinOp str int" => (k_here; k_dflt (k_extra "stritem"))
  k_with "stritem" => ((have hps := hpos (by omega) (by omega)); (refine' item_str ?i1 ?i2 ?i3 ?_); (case i1 => exact fitsSsize_of (N := 9223372036854775808) (by omega) (by omega) (by decide)); (case i2 => omega); (case i3 => omega); (intro hit))
  k_with "int" => ((rename (_ : List Str)[_]? = some _ => hy'); (rename List.map _ _ = Txt.split _ _ => hsp); (have hln := congrArg List.length hsp); (rw [List.length_map] at hln); (have hq := hnum _ (by omega) (by rw [← hsp]; exact hy')); (have hg := getD3 hy'); (rw [hsp] at hg); (obtain ⟨nn, hI, hr⟩ := readT_num hgood (by assumption) (by assumption) (by assumption) (by assumption) (by omega)); (rw [hg] at hI); (refine KIN.call_text hI hq.1 ?_); (try dsimp only))
  refine wpAny_call ?_
  (refine' code_defR ?k1 ?k2 ?k3 ?k4 ?k5 ?kA ?kF ?kK ?k6 ?k7 ?k8 ?k9 ?kB ?_ ?c2 ?c3 ?c4 ?c5; (case kA => exact rfl); (case kF => exact rfl); (case kK => exact rfl); (case k2 => k_asm); (case k1 => k_asm); (case k3 => k_asm); (case k4 => k_asm); (case k5 => k_asm); (case k6 => k_is); (case k7 => k_is); (case k8 => k_room); (case k9 => first | exact binds_K (by k_in) rfl (by k_is) rfl rfl rfl | exact BindsTo.of_eq rfl); (case kB => exact locs rfl); (case c2 => exact rfl); (case c3 => exact rfl); (case c4 => exact rfl); (case c5 => decide); k_whole; intro g' L' h' FG' F' N' B' X' T' D'; (try dsimp only); (try k_lift B'); (try k_fold))
  k_steps
  all_goals try (show LeaveR _ _ _ _ _ _ _ _)
  · ((rename News _ _ _ _ => lN); (rename Fr _ _ _ _ => lF); (rename KtsTurn _ _ _ => lT))
    have hr := readT_1 (by assumption)
    refine leaveS0_ lF lN lT fun kF kN => ret _ _ _ _ (rd1 hr) kF kN fun p h => ?_
    first | exact h | exact List.mem_cons_of_mem _ h
  · ((rename News _ _ _ _ => lN); (rename Fr _ _ _ _ => lF); (rename KtsTurn _ _ _ => lT))
    have hr := readT_2 (by assumption) (by assumption)
    refine leaveS0_ lF lN lT fun kF kN => ret _ _ _ _ (rd2 hr) kF kN fun p h => ?_
    first | exact h | exact List.mem_cons_of_mem _ h
  · ((rename News _ _ _ _ => lN); (rename Fr _ _ _ _ => lF); (rename KtsTurn _ _ _ => lT))
    have hr := readT_3 (by assumption) (by assumption) (by assumption)
    refine leaveS0_ lF lN lT fun kF kN => ret _ _ _ _ (rd2 hr) kF kN fun p h => ?_
    first | exact h | exact List.mem_cons_of_mem _ h
  · ((rename News _ _ _ _ => lN); (rename Fr _ _ _ _ => lF); (rename KtsTurn _ _ _ => lT))
    have hr := readT_4 (by assumption) (by assumption) (by assumption) (by assumption)
    refine leaveS0_ lF lN lT fun kF kN => ret _ _ _ _ (rd2 hr) kF kN fun p h => ?_
    first | exact h | exact List.mem_cons_of_mem _ h
  · ((rename News _ _ _ _ => lN); (rename Fr _ _ _ _ => lF); (rename KtsTurn _ _ _ => lT))
    rename List.map _ _ = Txt.split _ _ => hsp
    have hln := congrArg List.length hsp
    rw [List.length_map] at hln
    have hr := readT_5 (by assumption) (by assumption) (by assumption) (by assumption) (by omega)
    refine leaveS0_ lF lN lT fun kF kN => ret _ _ _ _ (rd2 hr) kF kN fun p h => ?_
    first | exact h | exact List.mem_cons_of_mem _ h
  · ((rename News _ _ _ _ => lN); (rename Fr _ _ _ _ => lF))
    exact leaveS0_ lF lN KtsTurn.refl fun kF kN => ret _ _ _ _ (rd0 hr (.tuple List.mem_cons_self (.cons (.str _ _) (.cons (.int _ _) .nil)))) kF kN fun p h => List.mem_cons_of_mem _ (List.mem_cons_of_mem _ h)
end
end Mine
end
section
open PySem PySem.W PyProof.Rows
namespace Mine
open PySem.Spec PySem.Calls

section
variable {w : World} {mean : ExcName → Option Value} {mg mb : Str → Option Value} {dp un : Nat} {gd : Option (List Code)} {cn : Str} {nm : List (Str × NameKind)} {ig ic : Bool} {mo : List (Str × Const)} {a : Addr} {ccd : Value} {cl : List (Str × Addr)} {outer : List Env} {A₀ : Around} {base h₀ : Heap} {L : Addr} {m : Str → Option Value} {s : Shared} {Q : Value → Shared → Prop} {news : List (Addr × Obj)}

inductive Hid (p : Prop) : Prop
  | mk (h : p) : Hid p
inductive HasFr (g h : Heap) : Prop
  | mk (L : Addr) (m : Str → Option Value) (F : Fr g L h m) : HasFr g h
theorem X_callWith_K {E Q : Value → Shared → Prop} {A : Around} {env : Env} {pos : Pos} {f : Addr} {e : Expr} {rest : List Expr} {K : Frag} {oc : Value} {od : Option Addr} {fd : FuncData} {osl : Array (Option Value)} (X : K.In h₀) (ho : K.lookup f = some ⟨oc, od, .func fd, osl⟩)
    (h : wpAny (model PP w) A (spliced (backTo pos (starEach (e :: rest) env))) (fun vs s₁ => HasFr h₀ s₁.heap ∧ wpX (model PP w) A (call (.ref f) vs) Q E s₁) E s)
    (he : starEach (e :: rest) env = (false, eval e env) :: starEach rest env := by rfl) :
    wpX (model PP w) A (callWith pos (.ref f) [] (backTo pos (starEach (e :: rest) env)) []) Q E s :=
  X_callWith_def (fd := fd) rfl (wpAny_mono h (fun _ s₁ ⟨⟨L', m', F'⟩, k⟩ => ⟨X.keeps F'.keep _ _ ho, k⟩) fun _ _ x => x) he
theorem getD5 {l : List Str} (h : l.length = 5) : l[3]? = some (l.getD 3 Str.empty) := by
  rw [List.getD_eq_getElem?_getD, List.getElem?_eq_getElem (by omega)]
  rfl
theorem readT_bad {x : Str} (h : (readT x).1 = 3) : (Txt.slice x none (some 3) != Str.ofString "229") = false ∧ ¬ Txt.find x (Str.ofString "(") < 0 ∧ ¬ Txt.find3 x (Str.ofString ")") (Txt.find x (Str.ofString "(") + 1) < 0
    ∧ (Txt.item x (Txt.find x (Str.ofString "(") + 1) != Txt.item x (Txt.find3 x (Str.ofString ")") (Txt.find x (Str.ofString "(") + 1) - 1)) = false
    ∧ (Txt.split (Txt.slice x (some (Txt.find x (Str.ofString "(") + 1)) (some (Txt.find3 x (Str.ofString ")") (Txt.find x (Str.ofString "(") + 1)))) (Txt.item x (Txt.find x (Str.ofString "(") + 1))).length = 5
    ∧ PySem.intText? ((Txt.split (Txt.slice x (some (Txt.find x (Str.ofString "(") + 1)) (some (Txt.find3 x (Str.ofString ")") (Txt.find x (Str.ofString "(") + 1)))) (Txt.item x (Txt.find x (Str.ofString "(") + 1))).getD 3 Str.empty) = none := by
  unfold readT at h
  split at h
  · exact absurd h (by decide)
  split at h
  · exact absurd h (by decide)
  split at h
  · exact absurd h (by decide)
  split at h
  · exact absurd h (by decide)
  split at h
  · exact absurd h (by decide)
  split at h
  · exact absurd (show (0 : Nat) = 3 from h) (by decide)
  rename_i h1 h2 h3 h4 h5 _ h6
  exact ⟨by simpa using h1, h2, h3, by simpa using h4, Classical.not_not.mp h5, h6⟩
theorem X_gen {α : Type} {M : Model} {A : Around} {t : Sem α} {Q : α → Shared → Prop} {E : Value → Shared → Prop} {s : Shared} (h : ∀ (G : α → Shared → Prop) (H : Value → Shared → Prop), (∀ a s, Q a s → G a s) → (∀ a s, E a s → H a s) → wpX M A t G H s) : wpX M A t Q E s := h Q E (fun _ _ x => x) fun _ _ x => x
theorem c_readX {x z : Str} {p : Addr} {np : Nat} {t u t2 : Tok}
    (B : Below A₀ base [] h₀) (F : Fr h₀ L s.heap m) (XX : (Mine.fr2 w.params).In h₀) (N : News h₀ L s.heap news) (TT : Top topProg LL mean mg mb h₀) (hd : dp + 20 < recursionLimit) (hu : un + 160 < cLine)
    (XB : (Mine.fr2 w.params).In base) (TB : Top topProg LL mean mg mb base)
    (hm : (p, tup2 (.str z u) (.int 21 t2) np) ∈ news) (hx : ParseOk x) (hbad : (readT x).1 = 3)
    (ret : ∀ t' h' tk' news', Fr h₀ L h' m → News h₀ L h' news' → (∀ p ∈ news, p ∈ news') → Q (.str (Str.ofString "no number") t') { s with heap := h', toks := tk' }) :
    wpN (model PP w) (ktrTop dp un gd cn (CS nm ig ic mo) L a ccd cl []) (call (.ref 172) [.str x t, .ref p]) Q s := by
  have hx1 := hx.len
  have hpos := hx.pos
  have hnum := hx.num
  unfold lpos rpos lpos at hpos
  unfold rpos lpos at hnum
  obtain ⟨b1, b2, b3, b4, b56⟩ := readT_bad hbad
  replace b56 := Hid.mk b56
  clear hbad
  k_with_none
  k_with "eval Name" => (k_here; (fail_if_success (with_reducible show wpAny _ _ (eval _ (compEnvC _ _ _ _)) _ _ _)); first | (refine' nameX_L ?zqF ?zqv ?_ ?zqa ?zqb; (case zqF => k_asm); (case zqa => rfl); (case zqb => rfl); (case zqv => rfl); k_whole) | (refine' nameX_K ?zqF ?zqX ?zqT ?zqe ?_ ?zqa ?zqb; (case zqF => k_asm); (case zqX => k_asm); (case zqT => k_asm); (case zqa => rfl); (case zqb => rfl); (case zqe => k_is); k_whole) | (refine' nameX_B ?zqF ?zqX ?zqT ?zqe ?zqv ?zqn ?_ ?zqa ?zqb; (case zqF => k_asm); (case zqX => k_asm); (case zqT => k_asm); (case zqa => rfl); (case zqb => rfl); (case zqe => k_is); (case zqv => boot_fast); (case zqn => decide); k_whole) | (refine' nameX_C ?zqN ?zqc ?zqm ?zqd ?_ ?zqa ?zqb; (case zqa => rfl); (case zqb => rfl); (case zqN => k_asm); (case zqc => rfl); (case zqm => k_mem); (case zqd => k_asm); k_whole))
  k_with "callWith ref" => (k_here; first | (refine' callWith_K ?zqk1 ?zqk2 ?_; (case zqk1 => k_asm); (case zqk2 => k_is); k_whole) | (refine' callWith_KW ?zqk1 ?zqk2 ?zqk3 ?_; (case zqk1 => k_asm); (case zqk2 => k_is); (case zqk3 => exact rfl); k_whole))
  k_with "storeName" => (k_here; refine' storeX_L ?zqF ?zqN ?_ ?zqa ?zqb; (case zqF => k_asm); (case zqN => k_asm); (case zqa => rfl); (case zqb => rfl); k_whole; intro _ _ _; (try k_sweep))
  k_with "subscriptTail Name Name ref int" => k_extra "subscriptTail"
  k_with "subscriptTail Name Call ref int" => k_extra "subscriptTail"
  k_with "subscriptTail Name Subscript ref int" => k_extra "subscriptTail"
  k_with "subscriptTail" => (k_here; (with_reducible show wpAny _ _ (subscriptTail _ _ (Value.ref _) (Value.int _ _)) _ _ _); (with_unfolding_all refine' sub_list ?k1 ?k2 ?k3 ?_ ?k6); (case k1 => k_asm); (case k2 => k_dflt k_mem); (case k6 => with_unfolding_all rfl); (case k3 => k_extra "item"); k_whole)
  k_with "call builtin:len" => (k_here; (with_reducible show wpAny _ _ (call (Value.builtin "len") [Value.ref _]) _ _ _); (with_unfolding_all refine' len_led ?k1 ?k2 ?k3 ?_); (case k1 => k_asm); (case k2 => k_dflt k_mem); (case k3 => k_extra "len"); k_whole)
  k_with "subscriptTail Name BinOp str int" => (k_here; k_dflt (k_extra "stritem"))
  k_with "call builtin:len" => (refine len_strs (by first | assumption | exact News.isList (by assumption) (by k_mem)) (by have := len_le_of_split (by assumption); omega) ?_)
  k_with "subscriptTail Name Constant ref int" => ((with_reducible show wpAny _ _ (subscriptTail _ _ (Value.ref _) (Value.int 3 _)) _ _ _); (refine item_strs (by first | assumption | exact News.isList (by assumption) (by k_mem)) (by omega) (by have := len_of_split (by assumption); omega) (by omega) ?_); (intro _ _ _))
  k_with "stritem" => ((have hps := hpos (by omega) (by omega)); (refine' item_str ?i1 ?i2 ?i3 ?_); (case i1 => exact fitsSsize_of (N := 9223372036854775808) (by omega) (by omega) (by decide)); (case i2 => omega); (case i3 => omega); (intro hit))
  refine N_call ?_
  (refine' codeN_defS ?k1 ?k2 ?k3 ?k4 ?k5 ?kA ?kF ?kK ?k6 ?k7 ?k8 ?k9 ?kB ?_ ?c2 ?c3 ?c4 ?c5; (case kA => exact rfl); (case kF => exact rfl); (case kK => exact rfl); (case k2 => k_asm); (case k1 => k_asm); (case k3 => k_asm); (case k4 => k_asm); (case k5 => k_asm); (case k6 => k_is); (case k7 => k_is); (case k8 => k_room); (case k9 => first | exact binds_K (by k_in) rfl (by k_is) rfl rfl rfl | exact BindsTo.of_eq rfl); (case kB => exact locs rfl); (case c2 => exact rfl); (case c3 => exact rfl); (case c4 => exact rfl); (case c5 => decide); intro g' L' h' FG' F' N' B' X' T' D'; (try k_lift B'))
  refine N_execs_cons (X_Try (X_execs_cons (X_Return (X_Call ?_))))
  k_steps
  refine X_gen fun G1 H1 hG1 hH1 => ?_
  refine' X_callWith_K ?ka ?kb ?_
  (case ka => k_asm)
  (case kb => k_is)
  k_steps
  · (rename Fr _ _ _ _ => lF9); exact .mk _ _ lF9
  refine X_call ?_
  (refine' codeX_def ?k1 ?k2 ?k3 ?k4 ?k5 ?kA ?kF ?kK ?k6 ?k7 ?k8 ?k9 ?kB ?_ ?c2 ?c3 ?c4 ?c5; (case kA => exact rfl); (case kF => exact rfl); (case kK => exact rfl); (case k2 => k_asm); (case k1 => k_asm); (case k3 => k_asm); (case k4 => k_asm); (case k5 => k_asm); (case k6 => k_is); (case k7 => k_is); (case k8 => k_room); (case k9 => first | exact binds_K (by k_in) rfl (by k_is) rfl rfl rfl | exact BindsTo.of_eq rfl); (case kB => exact locs rfl); (case c2 => exact rfl); (case c3 => exact rfl); (case c4 => exact rfl); (case c5 => decide); intro g2 L2 h2 FG2 F2 N2 B2 X2 T2 hlt2; (try k_lift B2))
  refine X_gen fun G2 H2 hG2 hH2 => ?_
  refine X_execs_split 9 ?_
  dsimp only [List.take_succ_cons, List.take_zero, List.drop_succ_cons, List.drop_zero]
  refine wpAny_gen fun G3 hG3 => ?_
  k_steps
  · exfalso
    rename List.map _ _ = Txt.split _ _ => hsp
    have hln := congrArg List.length hsp
    rw [List.length_map] at hln
    obtain ⟨b5, b6⟩ := b56
    omega
  rename List.map _ _ = Txt.split _ _ => hsp
  have hln := congrArg List.length hsp
  rw [List.length_map] at hln
  obtain ⟨b5, b6⟩ := b56
  have hnum2 := fun y => hnum y b5
  rw [← hsp] at hnum2 b6
  clear b5 hsp hln hnum
  replace b6 := Hid.mk b6
  replace hnum2 := Hid.mk hnum2
  refine hG3 _ _ ?_
  show wpX _ _ _ _ _ _
  refine X_execs_cons (X_Assign_Name (X_Call ?_))
  k_steps
  refine X_callWith_type1 ?_
  k_steps
  obtain ⟨b6⟩ := b6
  obtain ⟨hnum2⟩ := hnum2
  have hye := (hnum2 _ (getD5 (by rw [List.length_map]; omega))).2 b6
  clear hnum2 b6
  change wpX _ _ (call (Value.type "int") [Value.str (List.getD _ 3 Str.empty) _]) _ _ _
  rw [hye]
  refine X_int_bad rfl fun h3 tk3 e nx => ?_
  k_steps
  refine hH2 _ _ ?_
  k_steps
  refine hH1 _ _ ?_
  k_steps
  ((rename News _ _ _ _ => lN); (rename Fr _ _ _ _ => lF))
  refine ret _ _ _ _ lF lN fun p h => ?_
  first | exact h | exact List.mem_cons_of_mem _ h
end
end Mine
end
section
open PySem PySem.W PyProof.Rows
namespace Mine
open PySem.Spec PySem.Calls

section
variable {w : World} {mean : ExcName → Option Value} {mg mb : Str → Option Value} {dp un : Nat} {gd : Option (List Code)} {cn : Str} {nm : List (Str × NameKind)} {ig ic : Bool} {mo : List (Str × Const)} {a : Addr} {ccd : Value} {cl : List (Str × Addr)} {outer : List Env} {A₀ : Around} {base h₀ : Heap} {L : Addr} {m : Str → Option Value} {s : Shared} {Q E : Value → Shared → Prop} {news : List (Addr × Obj)}

theorem f2_next {σ : Type} {h₀ : Heap} {L : Addr} {s s₃ : Shared} {Q : Flow → Shared → Prop} {vals : σ → List (Str × Value)} {vf : σ → List (Addr × Obj)} {fix own : List (Addr × Obj)} {icls : String} {P : Nat → σ → Prop} {i : Nat} (h : F2End h₀ L s vals vf fix icls P i own s₃) : F2Post h₀ L s vals vf fix icls P Q i own .next s₃ := h
theorem c_run {H : Hosts} {pv : Nat → Option Nat} {po : Nat → Int} {Y : LayD} {tb : Array UInt8} {t : Tok} {kt : List (Addr × Obj)}
    (B : Below A₀ base outer h₀) (F : Fr h₀ L s.heap m) (XX : (Mine.fr2 w.params).In h₀) (N : News h₀ L s.heap (kt ++ news)) (TT : Top topProg LL mean mg mb h₀) (hd : dp + 30 < recursionLimit) (hu : un + 200 < cLine)
    (hc : CodeHd base (185, 181).fst (185, 181).snd) (hT : KTab kt) (hne : ∀ p ∈ news, p.1 ≠ 181) (hY : LayOk H pv po Y news) (htb : tb.size = 8) (htb8 : ∀ (i : Nat) b, tb[i]? = some b → b.toNat < 8)
    (ret : ∀ v h' tk' kt' news', Fr h₀ L h' m → News h₀ L h' (kt' ++ news') → (∀ p ∈ news, p ∈ news') → (∀ p ∈ news', p.1 ≠ 181) → KTab kt' → DatIn news' v (runD (H.run (clOf pv po tb.toList))) → Q v { s with heap := h', toks := tk' }) :
    wpAny (model PP w) (ktrTop dp un gd cn (CS nm ig ic mo) L a ccd cl outer) (call (.ref 191) [.bytes tb t, .ref Y.clA, .ref Y.wyA, .ref Y.roA, .ref Y.coA]) Q E s := by
  have mR := hY.mR
  k_with_none
  k_with "eval Name" => (k_here; (fail_if_success (with_reducible show wpAny _ _ (eval _ (compEnvC _ _ _ _)) _ _ _)); first | (refine' nameX_L ?zqF ?zqv ?_ ?zqa ?zqb; (case zqF => k_asm); (case zqa => rfl); (case zqb => rfl); (case zqv => rfl); k_whole) | (refine' nameX_K ?zqF ?zqX ?zqT ?zqe ?_ ?zqa ?zqb; (case zqF => k_asm); (case zqX => k_asm); (case zqT => k_asm); (case zqa => rfl); (case zqb => rfl); (case zqe => k_is); k_whole) | (refine' nameX_B ?zqF ?zqX ?zqT ?zqe ?zqv ?zqn ?_ ?zqa ?zqb; (case zqF => k_asm); (case zqX => k_asm); (case zqT => k_asm); (case zqa => rfl); (case zqb => rfl); (case zqe => k_is); (case zqv => boot_fast); (case zqn => decide); k_whole) | (refine' nameX_C ?zqN ?zqc ?zqm ?zqd ?_ ?zqa ?zqb; (case zqa => rfl); (case zqb => rfl); (case zqN => k_asm); (case zqc => rfl); (case zqm => k_mem); (case zqd => k_asm); k_whole))
  k_with "callWith ref" => (k_here; first | (refine' callWith_K ?zqk1 ?zqk2 ?_; (case zqk1 => k_asm); (case zqk2 => k_is); k_whole) | (refine' callWith_KW ?zqk1 ?zqk2 ?zqk3 ?_; (case zqk1 => k_asm); (case zqk2 => k_is); (case zqk3 => exact rfl); k_whole))
  k_with "storeName" => (k_here; refine' storeX_L ?zqF ?zqN ?_ ?zqa ?zqb; (case zqF => k_asm); (case zqN => k_asm); (case zqa => rfl); (case zqb => rfl); k_whole; intro _ _ _; (try k_sweep))
  k_with "subscriptTail Name Name ref int" => k_extra "subscriptTail"
  k_with "subscriptTail Name Call ref int" => k_extra "subscriptTail"
  k_with "subscriptTail Name Subscript ref int" => k_extra "subscriptTail"
  k_with "subscriptTail" => (k_here; (with_reducible show wpAny _ _ (subscriptTail _ _ (Value.ref _) (Value.int _ _)) _ _ _); (with_unfolding_all refine' sub_list ?k1 ?k2 ?k3 ?_ ?k6); (case k1 => k_asm); (case k2 => k_dflt k_mem); (case k6 => with_unfolding_all rfl); (case k3 => k_extra "item"); k_whole)
  k_with "call builtin:len" => (k_here; (with_reducible show wpAny _ _ (call (Value.builtin "len") [Value.ref _]) _ _ _); (with_unfolding_all refine' len_led ?k1 ?k2 ?k3 ?_); (case k1 => k_asm); (case k2 => k_dflt k_mem); (case k3 => k_extra "len"); k_whole)
  k_with "CompSrc" => (k_here; k_dflt (k_extra "compsrc"))
  k_with "CompRest" => (k_dflt (k_extra "comprest"))
  k_with "exec Assign cons ListComp" => (k_here; k_dflt (refine LCg.Assign_ListComp_U (F₀ := by k_asm) (by rfl) (by with_unfolding_all rfl) (by rfl) (by decide) (by rfl) (by decide) (by rfl) (by rfl) (by rfl) ?_); k_dflt lcg_toSrc)
  k_with "pyIter bytes" => (k_dflt (k_extra "iterbytes"))
  k_with "call ref" => (k_here; (with_reducible show wpAny _ _ (call (Value.ref _) _ _) _ _ _); k_dflt (k_extra "callref"))
  k_with "call builtin:len" => (k_here; (with_reducible show wpAny _ _ (call (Value.builtin "len") [Value.ref _]) _ _ _); (with_unfolding_all refine' r_len ?rk1 ?rk2 ?rk3 ?rk4 ?_); (case rk1 => k_asm); (case rk2 => k_dflt k_mem); (case rk3 => assumption); (case rk4 => assumption); k_whole)
  k_with "call builtin:list.pop" => (k_here; (with_reducible show wpAny _ _ (call (Value.builtin _) [Value.ref _]) _ _ _); k_dflt (k_extra "pop"))
  k_with "compareOp In int ref" => (k_here; k_dflt (k_extra "in"))
  k_with "exec If" => (k_here; (with_reducible show wpAny _ _ (exec (Stmt.If (PySem.Expr.Subscript _ _ _) _ _ _) _) _ _ _); k_dflt (k_extra "cut"))
  k_with "compsrc" => (refine LCg.CompSrc.ledger (its := Y.iR) (k := Y.nR) (by rfl) (by k_asm) (by k_asm) (List.mem_append_right _ mR) (by rw [hY.lR]; exact Nat.le_of_ble_eq_true rfl) ?_; intro g')
  k_with "comprest" => (refine comp_rows (led := kt ++ news) srcAt_mono Y.iR.size 0 [] List.nodup_nil (fun _ h => nomatch h) (show LCg.SrcAt _ _ _ (kt ++ news) from src_led (List.mem_append_right _ mR)) ?_; intro as' hlen hnd hoff; rw [hY.lR] at hlen; unfold LCg.FinA; intro D hh2 tk2 F' N1 o1; obtain ⟨ra, hra, hinj, hras, hsub⟩ := rows_made (by simpa using hlen) hnd; have N' := news_sub N1 (led_rows hsub); clear N1)
  k_with "iterbytes" => ((rename Fr _ _ _ _ => lF'); (rename News _ _ _ _ => lN'); (rename_i aw hx1 hl1 hx2 hx3); (have S := stat_mk (as := as') (kt := kt) (ra := ra) (aw := aw) (D := D) (news := news) hT hne hinj hras hoff o1 (by exact hl1) (by exact lN')); (subst hra); (refine' f2_bytes (σ := RC) (rcVals Y D aw) (rcLed ra aw) ((D, LCg.lst (((List.range 9).map ra).map Value.ref)) :: news) (fun i c => RCok H i c ∧ c.s = H.run (clOf pv po (tb.toList.take i))) ⟨RSt.init, fun _ => listOf #[] 0, listOf #[] 0, _, kt⟩ (by rfl) lF' lN' ?hm ?hn ?hc ?hp ?turn ?done); (case hm => ((rename Fr _ _ _ _ => hvF); refine hv_of hvF ?_; repeat' (first | exact hv_nil | refine hv_cons ?_ ?_ | with_unfolding_all rfl))); (case hn => exact led_perm1); (case hc => exact rc_iter0 hT); (case hp => exact ⟨rc_ok0 hT, rfl⟩); clear lF' lN'; (case' turn => intro i n tn c hq tk3 uu own hb hP hcs hown F' N'; refine wpAny_gen fun G1 hG1 => ?_; have hn8 := htb8 i n hb; have mT := hY.mT n.toNat hn8; have mC := hY.mC; have mW := hY.mW; have mCo := hY.mCo; simp only [rcLed, List.append_assoc, List.cons_append] at N'; skip))
  k_with "exec While Compare cons nil" => ((rename Fr _ _ _ _ => lF'); (rename News _ _ _ _ => lN'); (refine' w2_rule (σ := WC) (wcVals Y D aw) (fun wc => own ++ (rowsL ra wc.O ++ ((aw, wc.A) :: (wc.kt ++ ((D, LCg.lst (((List.range 9).map ra).map Value.ref)) :: news))))) (fun wc => WCok H i (H.go 10 c.s (pv n.toNat) (po n.toNat)) wc) (fun wc => wc.k) ⟨c.s, c.O, c.A, c.stok, c.kt, 10, pv n.toNat, po n.toNat, optV (pv n.toNat) (Y.tv n.toNat), Y.tv n.toNat, Y.tp n.toNat⟩ lF' lN' ?whm ?whn ?whp ?wturn); (case whm => ((rename Fr _ _ _ _ => hvF); refine hv_of hvF ?_; repeat' (first | exact hv_nil | refine hv_cons ?_ ?_ | with_unfolding_all rfl))); (case whn => exact fun _ h => h); (case whp => exact wc_start hY hP.1 hn8); clear lF' lN'; (case' wturn => intro wc hh4 tk4 u4 hw F' N'; refine wpAny_genW fun G2 hG2 => ?_; obtain ⟨ws, wO, wA, wst, wkt, wk, wpl, wpo, wpV, wpt, wqt⟩ := wc; skip; (rcases wpl with _ | pl <;> (have hpv := hw.pv; simp only [optV] at hpv; subst hpv) <;> try (have hpl := hw.plc _ rfl; (have h9 := hpl.2; have hk1 : pl < wk := hpl.1; have gco := hY.gCo pl h9; have gw := hY.gW pl h9; have hRO : RowO (wO pl) (ws.rho pl) := hw.rows pl h9; have hRI : RowInv H pl (ws.rho pl) := hw.row pl h9; have hAO : RowO wA ws.aw := hw.away; have hAI : AwInv i ws.aw := hw.aw2 (by first | k_mem | simp); have hT' : KTab wkt := hw.tab; have hi8 : i < 8 := (by have := Array.getElem?_eq_some_iff.mp hb; obtain ⟨x, _⟩ := this; omega); have hR2 := hY.hR pl h9; have hRl : (ws.rho pl).length ≤ H.R pl := hRI.len; have hPr : 0 ≤ wpo ∧ wpo < 100 := hw.prt; have hL20 : (H.ins pl (ws.rho pl) wpo).length < 20 := (by have : (H.ins pl (ws.rho pl) wpo).length = (ws.rho pl).length + 1 := ins_length _ _ _ _; omega); have hLr := last_rng (H := H) (i := pl) hRI.rng hPr; have hRl20 : (ws.rho pl).length < 20 := (by omega); have hA20 : ws.aw.length < 20 := (by have := hAI.len; omega); skip)))))
  k_with "cut" => ((refine' wpAny_mono (Q := CutQ F' s H ra wO pl (ws.rho pl) wpo (own ++ ((aw, wA) :: (D, LCg.lst (((List.range 9).map ra).map Value.ref)) :: news))) ?cut1 ?cut2 (fun _ _ x => x)); (case' cut1 => (cases hC : H.C pl <;> cases hIn : H.inner pl <;> rw [hC] at gco)); (case' cut2 => (intro f9 s9 hq9; obtain ⟨rfl, h', tk', vs9, n9, kf, kt9, rfl, F2', N2', hO', hKs, hT9⟩ := hq9; clear F' N'; have hne' := ne_row S h9 hown N2' hO' hKs (ktab_noseq hT9); rcases hWp : H.W pl with _ | j <;> rw [hWp] at gw <;> simp only [optV] at gw)))
  k_with "in" => ((refine' in_ways2 (H := H) (its := Y.iW) (n := Y.nW) (tw := Y.tw) ?n1 ?n2 hY.lW hY.gW ?n5 hIn ?_); (case n1 => k_asm); (case n2 => k_dflt k_mem); (case n5 => ktr_units))
  k_with "callref" => first
    | ((rename News _ _ _ _ => lN'); (refine' c_key (kt := wkt) ?ck1 ?ck2 ?ck3 (news_sub lN' led_k) ?ck4 ?ck5 ?ck6 hc hT' ?ck7 ?ck8 (ne_181 S hown) ?_); (case ck1 => k_asm); (case ck2 => k_asm); (case ck3 => k_asm); (case ck4 => k_asm); (case ck5 => ktr_room); (case ck6 => ktr_units); (case ck7 => decide); (case ck8 => decide); clear lN'; (intro kfA kf kt9 h' tk' hK hKs hT9 F' N'); (have N2' := news_sub N' (led_row h9)); (have hne' := ne_row S h9 hown N2' hRO hKs (ktab_noseq hT9)); clear N')
    | ((refine' i_l ?il1 ?il2 ?il3 ?il4 ?il5 ?il6 ?il7 hc hK (fun q hq => List.mem_append_right _ (List.mem_append_left _ hq)) hne' hRO hRl20 hRI.rng (srt_sg (by first | k_mem | simp [Hosts.sign, hC, hIn]) hRI.srt) hPr ?_); (case il1 => k_asm); (case il2 => k_asm); (case il3 => k_asm); (case il4 => k_asm); (case il5 => k_asm); (case il6 => ktr_room); (case il7 => ktr_units); (intro o9 h' tk' hO9 F' N'); (have hO' := ins_l hC (by first | k_mem | simp [Hosts.sign, hC, hIn]) hO9); clear hO9; (have hO2' := hO'; obtain ⟨vs9, n9, e9, hI9⟩ := hO2'; subst e9; clear hI9))
    | ((refine' i_r ?ir1 ?ir2 ?ir3 ?ir4 ?ir5 ?ir6 ?ir7 hc hK (fun q hq => List.mem_append_right _ (List.mem_append_left _ hq)) hne' hRO hRl20 hRI.rng (srt_sg (by first | k_mem | simp [Hosts.sign, hC, hIn]) hRI.srt) hPr ?_); (case ir1 => k_asm); (case ir2 => k_asm); (case ir3 => k_asm); (case ir4 => k_asm); (case ir5 => k_asm); (case ir6 => ktr_room); (case ir7 => ktr_units); (intro o9 h' tk' hO9 F' N'); (have hO' := ins_r hC (by first | k_mem | simp [Hosts.sign, hC, hIn]) hO9); clear hO9; (have hO2' := hO'; obtain ⟨vs9, n9, e9, hI9⟩ := hO2'; subst e9; clear hI9))
    | ((rename News _ _ _ _ => lN'); (refine' c_key (kt := kt9) ?dk1 ?dk2 ?dk3 (news_sub lN' led_k2) ?dk4 ?dk5 ?dk6 hc hT9 ?dk7 ?dk8 (ne_181b S h9 hown) ?_); (case dk1 => k_asm); (case dk2 => k_asm); (case dk3 => k_asm); (case dk4 => k_asm); (case dk5 => ktr_room); (case dk6 => ktr_units); (case dk7 => decide); (case dk8 => decide); clear lN'; (intro kfA2 kf2 kt10 h' tk' hK2 hKs2 hT10 F' N'); (have N2' := news_sub N' led_aw); (have hne2' := ne_aw S h9 hown N2' hAO hKs2 (ktab_noseq hT10)); clear N')
    | ((refine' i_l ?al1 ?al2 ?al3 ?al4 ?al5 ?al6 ?al7 hc hK2 (fun q hq => List.mem_append_left _ hq) hne2' hAO hA20 hAI.rng hAI.srt hLr ?_); (case al1 => k_asm); (case al2 => k_asm); (case al3 => k_asm); (case al4 => k_asm); (case al5 => k_asm); (case al6 => ktr_room); (case al7 => ktr_units); (intro o7 h' tk' hO7 F' N'); (have hA' := aw_l (fm2 (by assumption)) hO7))
    | ((refine' i_r ?ar1 ?ar2 ?ar3 ?ar4 ?ar5 ?ar6 ?ar7 hc hK2 (fun q hq => List.mem_append_left _ hq) hne2' hAO hA20 hAI.rng hAI.srt hLr ?_); (case ar1 => k_asm); (case ar2 => k_asm); (case ar3 => k_asm); (case ar4 => k_asm); (case ar5 => k_asm); (case ar6 => ktr_room); (case ar7 => ktr_units); (intro o7 h' tk' hO7 F' N'); (have hA' := aw_r (fm2n (by assumption)) hO7))
  k_with "pop" => ((refine' r_pop ?pp1 ?pp2 hne' hO' hL20 ins_ne ?_); (case pp1 => k_asm); (case pp2 => k_asm); (intro o8 t8 h' hO8 F' N'))
  k_with "item" => first | exact item_nat (by omega) (hY.gC _ hn8) | exact item_nat (by omega) gco | exact item_nat (by omega) gw | exact item_nat (by omega) (hY.gR _ h9) | exact item_nat (by omega) (lst_get h9)
  k_steps
  all_goals first
    | ((rename News _ _ _ _ => lN); (rename Fr _ _ _ _ => lF); exact cut_end lF lN hO' hKs hT9)
    | ((rename News _ _ _ _ => lN); (rename Fr _ _ _ _ => lF); refine hG1 _ _ (f2_next (f2_end ⟨ws, wO, wA, wst, wkt⟩ lF lN ?_ (led_end (t1 := wst)) (rc_iter (c := ⟨ws, wO, wA, wst, wkt⟩) (rc_end (t1 := wst) hw hb hP.2).1) (rc_end (t1 := wst) hw hb hP.2))); ((rename Fr _ _ _ _ => hvF); refine hv_of hvF ?_; repeat' (first | exact hv_nil | refine hv_cons ?_ ?_ | with_unfolding_all rfl)))
    | ((rename News _ _ _ _ => lN); (rename Fr _ _ _ _ => lF); refine' hG2 _ _ (w2_end ⟨ws.put pl (H.ins pl (ws.rho pl) wpo), putO wO pl (listOf vs9.toArray n9), wA, wst, kt9, wk - 1, none, wpo, .none, wpt, wqt⟩ lF lN ?putm led_back ?putp ?putl); (case putm => ((rename Fr _ _ _ _ => hvF); refine hv_of hvF ?_; repeat' (first | exact hv_nil | refine hv_cons ?_ ?_ | with_unfolding_all rfl))); (case putl => show wk - 1 < wk; omega); (case putp => exact (wc_put hw hO' (Int.ofNat_le.mp (by assumption)) hT9)))
    | ((rename News _ _ _ _ => lN); (rename Fr _ _ _ _ => lF); refine' hG2 _ _ (w2_end ⟨{ ws.put pl (H.ins pl (ws.rho pl) wpo).dropLast with st := ws.st + 1 }, putO wO pl o8, wA, _, kt9, wk - 1, some j, (H.ins pl (ws.rho pl) wpo).getLastD 0, .int (j : Int) (Y.tw pl), Y.tw pl, t8⟩ lF lN ?nextm led_back ?nextp ?nextl); (case nextm => ((rename Fr _ _ _ _ => hvF); refine hv_of hvF ?_; repeat' (first | exact hv_nil | refine hv_cons ?_ ?_ | with_unfolding_all rfl))); (case nextl => show wk - 1 < wk; omega); (case nextp => exact (wc_next hw hO8 (fun h => absurd (Int.ofNat_le.mpr h) (by assumption)) hT9 hWp (hY.hW pl j h9 hWp) rfl)))
    | ((rename News _ _ _ _ => lN); (rename Fr _ _ _ _ => lF); refine' hG2 _ _ (w2_end ⟨{ ws.put pl (H.ins pl (ws.rho pl) wpo).dropLast with aw := awIns ws.aw ((H.ins pl (ws.rho pl) wpo).getLastD 0) }, putO wO pl o8, o7, wst, kt10, wk - 1, none, (H.ins pl (ws.rho pl) wpo).getLastD 0, .none, wpt, t8⟩ lF lN ?awaym led_back2 ?awayp ?awayl); (case awaym => ((rename Fr _ _ _ _ => hvF); refine hv_of hvF ?_; repeat' (first | exact hv_nil | refine hv_cons ?_ ?_ | with_unfolding_all rfl))); (case awayl => show wk - 1 < wk; omega); (case awayp => exact (wc_away hw hO8 (fun h => absurd (Int.ofNat_le.mpr h) (by assumption)) hT10 hWp hA' rfl)))
    | (refine' run_fin (n := tb.size) S ?rf1 ?rf2 ?rf3 ?rf4 ret; (case rf3 => assumption); (case rf1 => assumption); (case rf2 => assumption); (case rf4 => assumption))
end
end Mine
end
section
open PySem PySem.W PyProof.Rows
namespace Mine
open PySem.Spec PySem.Calls
/-- loop one: the rows apart from all else -/
structure Stat1 (ra : Nat → Addr) (D : Addr) (sz : Nat) (news : List (Addr × Obj)) : Prop where
  inj : ∀ i j, i < 9 → j < 9 → ra i = ra j → i = j
  rD : ∀ i, i < 9 → D ≠ ra i
  rn : ∀ i, i < 9 → ∀ q ∈ news, q.1 ≠ ra i
  rs : ∀ i, i < 9 → ra i < sz
  dn : ∀ q ∈ news, q.1 ≠ D
theorem stat1_mk {h₀ h : Heap} {L : Addr} {ra : Nat → Addr} {D : Addr} {oD : Obj} {as : List Addr} {news : List (Addr × Obj)}
    (hinj : ∀ i j, i < 9 → j < 9 → ra i = ra j → i = j) (hras : ∀ i, i < 9 → ra i ∈ as) (hoff : ∀ a ∈ as, ∀ q ∈ news, q.1 ≠ a) (o1 : LCg.Off1 D (ledE as.reverse ++ news))
    (N : News h₀ L h (rowsL ra (fun _ => listOf #[] 0) ++ ((D, oD) :: news))) : Stat1 ra D h.objs.size news := by
  have hr1 : ∀ i, i < 9 → (ra i, listOf #[] 0) ∈ rowsL ra (fun _ => listOf #[] 0) := fun i hi => mem_rowsL (O := fun _ => listOf #[] 0) hi
  have hE : ∀ i, i < 9 → (ra i, listOf #[] 0) ∈ ledE as.reverse := fun i hi => List.mem_map.mpr ⟨_, List.mem_reverse.mpr (hras i hi), rfl⟩
  exact {
    inj := hinj
    rD := fun i hi e => off1_mem o1 _ (List.mem_append_left _ (hE i hi)) e.symm
    rn := fun i hi q hq => hoff _ (hras i hi) q hq
    rs := fun i hi => Heap.lt_size (N _ (List.mem_append_left _ (hr1 i hi))).1
    dn := fun q hq => off1_mem o1 q (List.mem_append_right _ hq) }
theorem e_row {ra : Nat → Addr} {O : Nat → Obj} {own news : List (Addr × Obj)} {d : Addr × Obj} {k : Nat} (hk : k < 9) : ∀ p ∈ (ra k, O k) :: (rowsB ra O k ++ (own ++ (d :: news))), p ∈ own ++ (rowsL ra O ++ (d :: news)) := by
  intro p hp
  have := rows_out (ra := ra) (O := O) hk p hp
  refine sub_of this ?_
  (repeat' (first | with_reducible refine sub_app ?_ ?_ | with_reducible refine sub_cons ?_ ?_ | exact sub_nil | (intro _ hz9; k_mem) | k_mem))
theorem e_back {ra : Nat → Addr} {O : Nat → Obj} {own news : List (Addr × Obj)} {d : Addr × Obj} {k : Nat} {o' : Obj} : ∀ p ∈ own ++ (rowsL ra (putO O k o') ++ (d :: news)), p ∈ (ra k, o') :: (rowsB ra O k ++ (own ++ (d :: news))) := by
  intro p hp
  refine rows_in p ?_
  refine sub_of hp ?_
  (repeat' (first | with_reducible refine sub_app ?_ ?_ | with_reducible refine sub_cons ?_ ?_ | exact sub_nil | (intro _ hz9; k_mem) | k_mem))
theorem e_ne {ra : Nat → Addr} {D : Addr} {sz k : Nat} {O : Nat → Obj} {own news : List (Addr × Obj)} {oD : Obj} (S : Stat1 ra D sz news) (hk : k < 9) (ho : ∀ p ∈ own, sz ≤ p.1) : ∀ q ∈ rowsB ra O k ++ (own ++ ((D, oD) :: news)), q.1 ≠ ra k := by
  intro q hq
  rcases List.mem_append.mp hq with h1 | h1
  · exact rows_ne (rest := []) hk S.inj (fun _ _ _ h => nomatch h) q (List.mem_append_left _ h1)
  · rcases List.mem_append.mp h1 with h4 | h4
    · exact Nat.ne_of_gt (Nat.lt_of_lt_of_le (S.rs k hk) (ho q h4))
    · simp only [List.mem_cons] at h4
      rcases h4 with rfl | h4
      · exact S.rD k hk
      · exact S.rn k hk q h4
/-- loop one's state -/
structure E1 where
  s : RSt
  O : Nat → Obj
noncomputable def e1Vals (Y : LayD) (D : Addr) (_ : E1) : List (Str × Value) :=
  [(Str.ofString "come", .ref D), (Str.ofString "wishes", .ref Y.clA), (Str.ofString "up", .ref Y.wyA), (Str.ofString "rooms", .ref Y.roA), (Str.ofString "contrary", .ref Y.coA)]
structure E1ok (pv : Nat → Option Nat) (po : Nat → Int) (tb : Array UInt8) (i : Nat) (c : E1) : Prop where
  rows : ∀ j, j < 9 → RowO (c.O j) (c.s.rho j)
  run : c.s = come (clOf pv po (tb.toList.take i))
/-- the first n values of f together -/
noncomputable def sumN (f : Nat → Nat) : Nat → Nat
  | 0 => 0
  | n + 1 => sumN f n + f n
theorem sumN_put {f g : Nat → Nat} {i : Nat} (h : ∀ j, j ≠ i → g j = f j) : ∀ {n : Nat}, (i < n → sumN g n + f i = sumN f n + g i) ∧ (n ≤ i → sumN g n = sumN f n)
  | 0 => ⟨fun e => absurd e (Nat.not_lt_zero _), fun _ => rfl⟩
  | n + 1 => by
    have ih := @sumN_put f g i h n
    refine ⟨fun e => ?_, fun e => ?_⟩
    · rcases Nat.lt_or_eq_of_le (Nat.le_of_lt_succ e) with e | e
      · show sumN g n + g n + f i = sumN f n + f n + g i
        rw [h n (Nat.ne_of_gt e), Nat.add_right_comm, ih.1 e, Nat.add_right_comm]
      · subst e
        show sumN g i + g i + f i = sumN f i + f i + g i
        rw [ih.2 (Nat.le_refl _), Nat.add_right_comm]
    · show sumN g n + g n = sumN f n + f n
      rw [ih.2 (Nat.le_of_succ_le e), h n (Nat.ne_of_lt e)]
theorem sumN_le {f : Nat → Nat} {i : Nat} : ∀ {n : Nat}, i < n → f i ≤ sumN f n
  | 0, e => absurd e (Nat.not_lt_zero _)
  | n + 1, e => by
    rcases Nat.lt_or_eq_of_le (Nat.le_of_lt_succ e) with e | e
    · exact Nat.le_trans (sumN_le e) (Nat.le_add_right _ _)
    · subst e
      exact Nat.le_add_left _ _
noncomputable def tot (s : RSt) : Nat := sumN (fun j => (s.rho j).length) 9 + s.aw.length
theorem nine {i : Nat} (h : i < 9) : i = 0 ∨ i = 1 ∨ i = 2 ∨ i = 3 ∨ i = 4 ∨ i = 5 ∨ i = 6 ∨ i = 7 ∨ i = 8 := (by decide : ∀ i, i < 9 → (i = 0 ∨ i = 1 ∨ i = 2 ∨ i = 3 ∨ i = 4 ∨ i = 5 ∨ i = 6 ∨ i = 7 ∨ i = 8)) i h
theorem tot_put {s : RSt} {i : Nat} {row : List Int} (h : i < 9) : tot (s.put i row) + (s.rho i).length = tot s + row.length := by
  have e := (sumN_put (f := fun j => (s.rho j).length) (g := fun j => ((s.put i row).rho j).length) (i := i) (n := 9) (fun j hj => by show (if j = i then row else s.rho j).length = _; rw [if_neg hj])).1 h
  have e2 : ((s.put i row).rho i).length = row.length := by show (if i = i then row else s.rho i).length = _; rw [if_pos rfl]
  rw [e2] at e
  show sumN _ 9 + s.aw.length + (s.rho i).length = sumN _ 9 + s.aw.length + row.length
  rw [Nat.add_right_comm, e, Nat.add_right_comm]
theorem tot_le {s : RSt} {i : Nat} (h : i < 9) : (s.rho i).length ≤ tot s := Nat.le_trans (sumN_le (f := fun j => (s.rho j).length) h) (Nat.le_add_right _ _)
theorem tot_aw {s : RSt} : s.aw.length ≤ tot s := Nat.le_add_left _ _
theorem come_tot {pv : Nat → Option Nat} {po : Nat → Int} (h9 : ∀ b i, pv b = some i → i < 9) : ∀ (l : List UInt8), tot (come (clOf pv po l)) ≤ l.length ∧ (come (clOf pv po l)).aw = [] ∧ (come (clOf pv po l)).st = 0 := by
  intro l
  rw [← List.reverse_reverse l]
  induction l.reverse with
  | nil => exact ⟨Nat.le_refl _, rfl, rfl⟩
  | cons b l ih =>
    rw [List.reverse_cons]
    have e : come (clOf pv po (l.reverse ++ [b])) = (match pv b.toNat with | none => come (clOf pv po l.reverse) | some i => (come (clOf pv po l.reverse)).put i ((come (clOf pv po l.reverse)).rho i ++ [po b.toNat])) := by
      unfold clOf come
      rw [List.map_append, List.foldl_append]
      rfl
    rw [e]
    cases hp : pv b.toNat with
    | none => exact ⟨by simpa using Nat.le_succ_of_le ih.1, ih.2⟩
    | some i =>
      have := tot_put (s := come (clOf pv po l.reverse)) (row := (come (clOf pv po l.reverse)).rho i ++ [po b.toNat]) (h9 _ _ hp)
      refine ⟨?_, ih.2⟩
      simp only [List.length_append, List.length_singleton] at this ⊢
      have := ih.1
      omega
theorem come_snoc {pv : Nat → Option Nat} {po : Nat → Int} {tb : Array UInt8} {i : Nat} {b : UInt8} (hb : tb[i]? = some b) :
    come (clOf pv po (tb.toList.take (i + 1))) = (match pv b.toNat with | none => come (clOf pv po (tb.toList.take i)) | some k => (come (clOf pv po (tb.toList.take i))).put k ((come (clOf pv po (tb.toList.take i))).rho k ++ [po b.toNat])) := by
  have e : tb.toList.take (i + 1) = tb.toList.take i ++ [b] := by
    rw [List.take_add_one]
    simp [hb]
  rw [e]
  unfold clOf come
  rw [List.map_append, List.foldl_append]
  rfl
theorem e1_skip {pv : Nat → Option Nat} {po : Nat → Int} {tb : Array UInt8} {i : Nat} {b : UInt8} {c : E1} (hb : tb[i]? = some b) (hp : pv b.toNat = none) (h : E1ok pv po tb i c) : E1ok pv po tb (i + 1) c := ⟨h.rows, by rw [come_snoc hb, hp]; exact h.run⟩
theorem e1_put {pv : Nat → Option Nat} {po : Nat → Int} {tb : Array UInt8} {i k : Nat} {b : UInt8} {s : RSt} {O : Nat → Obj} {o : Obj} (hb : tb[i]? = some b) (hp : pv b.toNat = some k) (h : E1ok pv po tb i ⟨s, O⟩) (ho : RowO o (s.rho k ++ [po b.toNat])) : E1ok pv po tb (i + 1) ⟨s.put k (s.rho k ++ [po b.toNat]), putO O k o⟩ :=
  ⟨put_rows h.rows ho, by
    have hr := h.run
    simp only at hr
    rw [come_snoc hb, hp, ← hr]⟩
theorem e1_it {ra : Nat → Addr} {c : E1} {k : String} (h : ∀ j, j < 9 → RowO (c.O j) (c.s.rho j)) : ∀ p ∈ rowsL ra c.O, ¬ IterO k p.2 := by
  intro p hp
  obtain ⟨i, hi, rfl⟩ := List.mem_map.mp hp
  exact (h i (List.mem_range.mp hi)).iter
theorem e1_ok0 {pv : Nat → Option Nat} {po : Nat → Int} {tb : Array UInt8} : E1ok pv po tb 0 ⟨RSt.init, fun _ => listOf #[] 0⟩ := ⟨fun _ _ => ⟨[], 0, rfl, .nil⟩, rfl⟩
/-- loop two's state -/
structure E2 where
  s : RSt
  ra : Nat → Addr
  O : Nat → Obj
  A : Obj
  stok : Tok
structure Stat2 (ra : Nat → Addr) (aw D I : Addr) (news : List (Addr × Obj)) : Prop where
  inj : ∀ i j, i < 9 → j < 9 → ra i = ra j → i = j
  raw : ∀ i, i < 9 → aw ≠ ra i
  rD : ∀ i, i < 9 → D ≠ ra i
  rn : ∀ i, i < 9 → ∀ q ∈ news, q.1 ≠ ra i
  ri : ∀ i, i < 9 → ra i ≠ I
  aD : D ≠ aw
  an : ∀ q ∈ news, q.1 ≠ aw
  ai : aw ≠ I
  dn : ∀ q ∈ news, q.1 ≠ D
  di : D ≠ I
noncomputable abbrev dL (ra : Nat → Addr) : Obj := listOf (((List.range 9).map ra).map Value.ref).toArray 9
noncomputable def e2Vals (Y : LayD) (D aw : Addr) (c : E2) : List (Str × Value) :=
  [(Str.ofString "steps", .int (c.s.st : Int) c.stok), (Str.ofString "away", .ref aw), (Str.ofString "come", .ref D), (Str.ofString "up", .ref Y.wyA), (Str.ofString "rooms", .ref Y.roA), (Str.ofString "contrary", .ref Y.coA)]
noncomputable def e2Led (D aw : Addr) (c : E2) : List (Addr × Obj) := rowsL c.ra c.O ++ [(aw, c.A), (D, dL c.ra)]
structure E2ok (H : Hosts) (s₁ : RSt) (aw D I : Addr) (news : List (Addr × Obj)) (i : Nat) (c : E2) : Prop where
  st : Stat2 c.ra aw D I news
  rows : ∀ j, j < 9 → RowO (c.O j) (c.s.rho j)
  away : RowO c.A c.s.aw
  run : c.s = H.eRun s₁ i
  few : tot c.s ≤ 8
theorem eRun_succ (H : Hosts) (s : RSt) (n : Nat) : H.eRun s (n + 1) = H.eStep (H.eRun s n) (8 - n) := by
  unfold Hosts.eRun
  rw [List.range_succ, List.foldl_append]
  rfl
theorem ord_len (H : Hosts) (i : Nat) (l : List Int) : (H.ord i l).length = l.length := by
  unfold Hosts.ord
  split
  · exact (srt_perm _ _).length_eq
  · split <;> simp
theorem List.length_take_append_drop_len {l : List Int} {n : Nat} : (l.take n).length + (l.drop n).length = l.length := by
  rw [← List.length_append, List.take_append_drop]
theorem eStep_tot {H : Hosts} {s : RSt} {i : Nat} (hi : i < 9) (hW : ∀ j, H.W i = some j → j < i) : tot (H.eStep s i) = tot s := by
  have h1 := tot_put (s := s) (row := (H.ord i (s.rho i)).take (H.R i)) hi
  have h2 := ord_len H i (s.rho i)
  unfold Hosts.eStep
  cases hw : H.W i with
  | none =>
    simp only
    have h3 : tot { s.put i ((H.ord i (s.rho i)).take (H.R i)) with aw := s.aw ++ (H.ord i (s.rho i)).drop (H.R i) } = tot (s.put i ((H.ord i (s.rho i)).take (H.R i))) + ((H.ord i (s.rho i)).drop (H.R i)).length := by
      show sumN _ 9 + (s.aw ++ _).length = sumN _ 9 + s.aw.length + _
      rw [List.length_append, Nat.add_assoc]
    rw [h3]
    have h5 := List.length_take_append_drop_len (l := H.ord i (s.rho i)) (n := H.R i)
    omega
  | some j =>
    have hj := hW j hw
    simp only
    have h3 := tot_put (s := s.put i ((H.ord i (s.rho i)).take (H.R i))) (i := j) (row := (s.put i ((H.ord i (s.rho i)).take (H.R i))).rho j ++ (H.ord i (s.rho i)).drop (H.R i)) (by omega)
    have h4 : ∀ (s' : RSt) (n : Nat), tot { s' with st := n } = tot s' := fun _ _ => rfl
    rw [h4]
    rw [List.length_append] at h3
    have h5 := List.length_take_append_drop_len (l := H.ord i (s.rho i)) (n := H.R i)
    omega
end Mine
end
section
open PySem PySem.W PyProof.Rows
namespace Mine
open PySem.Spec PySem.Calls
theorem stat2_mk {h₀ h : Heap} {L : Addr} {ra : Nat → Addr} {D aw : Addr} {oD oA : Obj} {O : Nat → Obj} {sz : Nat} {news : List (Addr × Obj)} (S : Stat1 ra D sz news)
    (hl1 : ∀ p ∈ rowsL ra O ++ ((D, oD) :: news), p.1 < aw) (N : News h₀ L h ((aw, oA) :: (rowsL ra O ++ ((D, oD) :: news)))) : Stat2 ra aw D h.objs.size news := by
  have hr1 : ∀ i, i < 9 → (ra i, O i) ∈ rowsL ra O := fun i hi => mem_rowsL hi
  exact {
    inj := S.inj
    raw := fun i hi => Nat.ne_of_gt (hl1 _ (List.mem_append_left _ (hr1 i hi)))
    rD := S.rD
    rn := S.rn
    ri := fun i hi => Nat.ne_of_lt (Heap.lt_size (N _ (List.mem_cons_of_mem _ (List.mem_append_left _ (hr1 i hi)))).1)
    aD := Nat.ne_of_lt (hl1 (D, oD) (by first | k_mem | simp))
    an := fun q hq => Nat.ne_of_lt (hl1 q (by first | k_mem | simp [hq]))
    ai := Nat.ne_of_lt (Heap.lt_size (N _ List.mem_cons_self).1)
    dn := S.dn
    di := Nat.ne_of_lt (Heap.lt_size (N (D, oD) (by first | k_mem | simp)).1) }
section
variable {ra : Nat → Addr} {O : Nat → Obj} {own news : List (Addr × Obj)} {D aw I a1 a2 : Addr} {oA oD oD' o o1 o2 oj : Obj} {k j : Nat}
theorem e2_row {s : RSt} {A : Obj} {st : Tok} (hk : k < 9) : ∀ p ∈ (ra k, O k) :: (rowsB ra O k ++ (own ++ ((aw, A) :: (D, dL ra) :: news))), p ∈ own ++ (e2Led D aw ⟨s, ra, O, A, st⟩ ++ news) := by
  intro p hp
  have := rows_out (ra := ra) (O := O) hk p hp
  dsimp only [e2Led] at this ⊢
  refine sub_of this ?_
  (repeat' (first | with_reducible refine sub_app ?_ ?_ | with_reducible refine sub_cons ?_ ?_ | exact sub_nil | (intro _ hz9; k_mem) | k_mem))
theorem e2_tl (S : Stat2 ra aw D I news) (ho : ∀ p ∈ own, p.1 = I) (hk : k < 9) : ∀ q ∈ own ++ ((aw, oA) :: (D, oD) :: news), q.1 ≠ ra k := by
  intro q hq
  rcases List.mem_append.mp hq with h1 | h1
  · rw [ho q h1]; exact (S.ri k hk).symm
  · simp only [List.mem_cons] at h1
    rcases h1 with rfl | rfl | h1
    · exact S.raw k hk
    · exact S.rD k hk
    · exact S.rn k hk q h1
theorem e2_ne (S : Stat2 ra aw D I news) (ho : ∀ p ∈ own, p.1 = I) (hk : k < 9) : ∀ q ∈ rowsB ra O k ++ (own ++ ((aw, oA) :: (D, oD) :: news)), q.1 ≠ ra k :=
  rows_ne hk S.inj fun i hi => e2_tl S ho hi
theorem rowsB_mem {p : Addr × Obj} (h : p ∈ rowsB ra O k) : ∃ i, i < 9 ∧ i ≠ k ∧ p = (ra i, O i) := by
  obtain ⟨i, hi, rfl⟩ := List.mem_map.mp h
  obtain ⟨h1, h2⟩ := List.mem_filter.mp hi
  exact ⟨i, List.mem_range.mp h1, by simpa using h2, rfl⟩
/-- the list of rows apart from all else -/
theorem e2_set : ∀ p ∈ (D, oD) :: ((a2, o2) :: (a1, o1) :: (ra k, o) :: (rowsB ra O k ++ (own ++ ((aw, oA) :: news)))), p ∈ (a2, o2) :: (a1, o1) :: (ra k, o) :: (rowsB ra O k ++ (own ++ ((aw, oA) :: (D, oD) :: news))) := by
  (repeat' (first | with_reducible refine sub_app ?_ ?_ | with_reducible refine sub_cons ?_ ?_ | exact sub_nil | (intro _ hz9; k_mem) | k_mem))
theorem e2_neD (S : Stat2 ra aw D I news) (ho : ∀ p ∈ own, p.1 = I) (hk : k < 9) (h1 : D < a1) (h2 : D < a2) : ∀ q ∈ (a2, o2) :: (a1, o1) :: (ra k, o) :: (rowsB ra O k ++ (own ++ ((aw, oA) :: news))), q.1 ≠ D := by
  intro q hq
  simp only [List.mem_cons, List.mem_append] at hq
  rcases hq with rfl | rfl | rfl | h | h | rfl | h
  · exact Nat.ne_of_gt h2
  · exact Nat.ne_of_gt h1
  · exact (S.rD k hk).symm
  · obtain ⟨i, hi, _, rfl⟩ := rowsB_mem h
    exact (S.rD i hi).symm
  · rw [ho q h]; exact S.di.symm
  · exact S.aD.symm
  · exact S.dn q h
/-- the rows but two -/
noncomputable def rowsC (ra : Nat → Addr) (O : Nat → Obj) (k j : Nat) : List (Addr × Obj) := ((List.range 9).filter fun i => i != k && i != j).map fun i => (ra i, O i)
theorem rowsC_mem {p : Addr × Obj} (h : p ∈ rowsC ra O k j) : ∃ i, i < 9 ∧ i ≠ k ∧ i ≠ j ∧ p = (ra i, O i) := by
  obtain ⟨i, hi, rfl⟩ := List.mem_map.mp h
  obtain ⟨h1, h2⟩ := List.mem_filter.mp hi
  simp only [Bool.and_eq_true, bne_iff_ne, ne_eq] at h2
  exact ⟨i, List.mem_range.mp h1, h2.1, h2.2, rfl⟩
theorem rowsC_in {i : Nat} (h : i < 9) (h1 : i ≠ k) (h2 : i ≠ j) : (ra i, O i) ∈ rowsC ra O k j := List.mem_map.mpr ⟨i, List.mem_filter.mpr ⟨List.mem_range.mpr h, by simp [h1, h2]⟩, rfl⟩
theorem rowsB_in {i : Nat} (h : i < 9) (h1 : i ≠ k) : (ra i, O i) ∈ rowsB ra O k := List.mem_map.mpr ⟨i, List.mem_filter.mpr ⟨List.mem_range.mpr h, by simp [h1]⟩, rfl⟩
theorem e2_rj (hj : j < 9) (hjk : j ≠ k) : ∀ p ∈ (ra j, O j) :: (D, oD) :: (a2, o2) :: (a1, o1) :: (ra k, o) :: (rowsC ra O k j ++ (own ++ ((aw, oA) :: news))), p ∈ (D, oD) :: ((a2, o2) :: (a1, o1) :: (ra k, o) :: (rowsB ra O k ++ (own ++ ((aw, oA) :: news)))) := by
  have hB : ∀ q ∈ rowsB ra O k, q ∈ (D, oD) :: ((a2, o2) :: (a1, o1) :: (ra k, o) :: (rowsB ra O k ++ (own ++ ((aw, oA) :: news)))) := fun q h => .tail _ (.tail _ (.tail _ (.tail _ (List.mem_append_left _ h))))
  refine sub_cons (hB _ (rowsB_in hj hjk)) (sub_cons (.head _) (sub_cons (.tail _ (.head _)) (sub_cons (.tail _ (.tail _ (.head _))) (sub_cons (.tail _ (.tail _ (.tail _ (.head _)))) (sub_app (fun p h => ?_) (fun p h => .tail _ (.tail _ (.tail _ (.tail _ (List.mem_append_right _ h))))))))))
  obtain ⟨i, hi, hik, _, rfl⟩ := rowsC_mem h
  exact hB _ (rowsB_in hi hik)
theorem e2_nej (S : Stat2 ra aw D I news) (ho : ∀ p ∈ own, p.1 = I) (hk : k < 9) (hj : j < 9) (hjk : j ≠ k) (h1 : ra j < a1) (h2 : ra j < a2) : ∀ q ∈ (D, oD) :: (a2, o2) :: (a1, o1) :: (ra k, o) :: (rowsC ra O k j ++ (own ++ ((aw, oA) :: news))), q.1 ≠ ra j := by
  intro q hq
  simp only [List.mem_cons, List.mem_append] at hq
  rcases hq with rfl | rfl | rfl | rfl | h | h | rfl | h
  · exact S.rD j hj
  · exact Nat.ne_of_gt h2
  · exact Nat.ne_of_gt h1
  · exact fun e => hjk (S.inj k j hk hj e).symm
  · obtain ⟨i, hi, _, hij, rfl⟩ := rowsC_mem h
    exact fun e => hij (S.inj i j hi hj e)
  · rw [ho q h]; exact (S.ri j hj).symm
  · exact S.raw j hj
  · exact S.rn j hj q h
theorem e2_aw : ∀ p ∈ (aw, oA) :: ((D, oD) :: (a2, o2) :: (a1, o1) :: (ra k, o) :: (rowsB ra O k ++ (own ++ news))), p ∈ (D, oD) :: ((a2, o2) :: (a1, o1) :: (ra k, o) :: (rowsB ra O k ++ (own ++ ((aw, oA) :: news)))) := by
  (repeat' (first | with_reducible refine sub_app ?_ ?_ | with_reducible refine sub_cons ?_ ?_ | exact sub_nil | (intro _ hz9; k_mem) | k_mem))
theorem e2_neaw (S : Stat2 ra aw D I news) (ho : ∀ p ∈ own, p.1 = I) (hk : k < 9) (h1 : aw < a1) (h2 : aw < a2) : ∀ q ∈ (D, oD) :: (a2, o2) :: (a1, o1) :: (ra k, o) :: (rowsB ra O k ++ (own ++ news)), q.1 ≠ aw := by
  intro q hq
  simp only [List.mem_cons, List.mem_append] at hq
  rcases hq with rfl | rfl | rfl | rfl | h | h | h
  · exact S.aD
  · exact Nat.ne_of_gt h2
  · exact Nat.ne_of_gt h1
  · exact (S.raw k hk).symm
  · obtain ⟨i, hi, _, rfl⟩ := rowsB_mem h
    exact (S.raw i hi).symm
  · rw [ho q h]; exact S.ai.symm
  · exact S.an q h
/-- the rows' list, one of them laid anew -/
noncomputable abbrev raP (ra : Nat → Addr) (k : Nat) (a2 : Addr) : Nat → Addr := fun i => if i = k then a2 else ra i
theorem dL_set (hk : k < 9) : listOf ((((List.range 9).map ra).map Value.ref).set k (.ref a2)).toArray 9 = dL (raP ra k a2) := by
  have : (((List.range 9).map ra).map Value.ref).set k (.ref a2) = ((List.range 9).map (raP ra k a2)).map Value.ref := by
    apply List.ext_getElem
    · simp
    · intro i h1 h2
      simp only [List.length_set, List.length_map, List.length_range] at h1
      rw [List.getElem_set]
      by_cases h : k = i
      · subst h; simp [raP]
      · have h' : i ≠ k := fun e => h e.symm
        simp [h, h', raP]
  rw [this]
theorem dL_get (hj : j < 9) (hjk : j ≠ k) : ((((List.range 9).map ra).map Value.ref).set k (.ref a2)).toArray.toList[j]? = some (.ref (ra j)) := by
  simp [hjk.symm, hj]
theorem dL_get2 (hj : j < 9) : (((List.range 9).map ra).map Value.ref).toArray.toList[j]? = some (.ref (ra j)) := by
  simp [hj]
theorem stat2_put (S : Stat2 ra aw D I news) (hk : k < 9) (hr : ∀ i, i < 9 → i ≠ k → ra i < a2) (hw : aw < a2) (hD : D < a2) (hn : ∀ q ∈ news, q.1 < a2) (hI : I < a2) : Stat2 (raP ra k a2) aw D I news := by
  have key : ∀ (P : Addr → Prop), P a2 → (∀ i, i < 9 → P (ra i)) → ∀ i, i < 9 → P (raP ra k a2 i) := by
    intro P h1 h2 i hi
    show P (if i = k then a2 else ra i)
    split
    · exact h1
    · exact h2 i hi
  exact {
    inj := fun i j hi hj e => by
      simp only [raP] at e
      split at e <;> split at e
      · omega
      · rename_i h1 h2; exact absurd e (Nat.ne_of_gt (hr j hj h2))
      · rename_i h1 h2; exact absurd e (Nat.ne_of_lt (hr i hi h1))
      · exact S.inj i j hi hj e
    raw := key (fun x => aw ≠ x) (Nat.ne_of_lt hw) S.raw
    rD := key (fun x => D ≠ x) (Nat.ne_of_lt hD) S.rD
    rn := key (fun x => ∀ q ∈ news, q.1 ≠ x) (fun q hq => Nat.ne_of_lt (hn q hq)) S.rn
    ri := key (fun x => x ≠ I) (Nat.ne_of_gt hI) S.ri
    aD := S.aD
    an := S.an
    ai := S.ai
    dn := S.dn
    di := S.di }
theorem e2_none {H : Hosts} {s₁ s : RSt} {A A' : Obj} {st st' : Tok} {i : Nat} (h : E2ok H s₁ aw D I news i ⟨s, ra, O, A, st⟩) (hk : k < 9) (hki : k = 8 - i) (hS : Stat2 (raP ra k a2) aw D I news) (hW : H.W k = none)
    (ho : RowO o2 ((H.ord k (s.rho k)).take (H.R k))) (hA : RowO A' (s.aw ++ (H.ord k (s.rho k)).drop (H.R k))) (hWj : ∀ j, H.W k = some j → j < k) :
    E2ok H s₁ aw D I news (i + 1) ⟨{ s.put k ((H.ord k (s.rho k)).take (H.R k)) with aw := s.aw ++ (H.ord k (s.rho k)).drop (H.R k) }, raP ra k a2, putO O k o2, A', st'⟩ := by
  have e : H.eStep s k = { s.put k ((H.ord k (s.rho k)).take (H.R k)) with aw := s.aw ++ (H.ord k (s.rho k)).drop (H.R k) } := by
    unfold Hosts.eStep; rw [hW]
  refine ⟨hS, put_rows h.rows ho, hA, ?_, ?_⟩
  · rw [eRun_succ, ← hki, ← h.run]; exact e.symm
  · show tot { s.put k ((H.ord k (s.rho k)).take (H.R k)) with aw := s.aw ++ (H.ord k (s.rho k)).drop (H.R k) } ≤ 8
    rw [← e, eStep_tot hk hWj]; exact h.few
theorem e2_some {H : Hosts} {s₁ s : RSt} {A : Obj} {st st' : Tok} {i j : Nat} (h : E2ok H s₁ aw D I news i ⟨s, ra, O, A, st⟩) (hk : k < 9) (hki : k = 8 - i) (hS : Stat2 (raP ra k a2) aw D I news) (hW : H.W k = some j)
    (ho : RowO o2 ((H.ord k (s.rho k)).take (H.R k))) (hj : RowO oj (s.rho j ++ (H.ord k (s.rho k)).drop (H.R k))) (hWj : ∀ j, H.W k = some j → j < k) :
    E2ok H s₁ aw D I news (i + 1) ⟨{ (s.put k ((H.ord k (s.rho k)).take (H.R k))).put j (s.rho j ++ (H.ord k (s.rho k)).drop (H.R k)) with st := s.st + ((H.ord k (s.rho k)).drop (H.R k)).length }, raP ra k a2, putO (putO O k o2) j oj, A, st'⟩ := by
  have hjk : j ≠ k := Nat.ne_of_lt (hWj j hW)
  have e : H.eStep s k = { (s.put k ((H.ord k (s.rho k)).take (H.R k))).put j (s.rho j ++ (H.ord k (s.rho k)).drop (H.R k)) with st := s.st + ((H.ord k (s.rho k)).drop (H.R k)).length } := by
    unfold Hosts.eStep; rw [hW]; simp [RSt.put, hjk]
  refine ⟨hS, put_rows (ws := s.put k ((H.ord k (s.rho k)).take (H.R k))) (put_rows h.rows ho) hj, h.away, ?_, ?_⟩
  · rw [eRun_succ, ← hki, ← h.run]; exact e.symm
  · show tot { (s.put k ((H.ord k (s.rho k)).take (H.R k))).put j (s.rho j ++ (H.ord k (s.rho k)).drop (H.R k)) with st := s.st + ((H.ord k (s.rho k)).drop (H.R k)).length } ≤ 8
    rw [← e, eStep_tot hk hWj]; exact h.few
theorem e2_it {H : Hosts} {s₁ : RSt} {i : Nat} {c : E2} {x : String} (h : E2ok H s₁ aw D I news i c) : ∀ p ∈ e2Led D aw c, ¬ IterO x p.2 := by
  intro p hp
  rcases List.mem_append.mp hp with hp | hp
  · obtain ⟨i, hi, rfl⟩ := List.mem_map.mp hp
    exact (h.rows i (List.mem_range.mp hi)).iter
  · simp only [List.mem_cons, List.not_mem_nil, or_false] at hp
    rcases hp with rfl | rfl
    · exact h.away.iter
    · rintro ⟨_, vs', x, t', e1, e2⟩; cases e1
theorem e2_endN {s' : RSt} {st' : Tok} {A' : Obj} (hk : k < 9) : ∀ p ∈ own ++ (e2Led D aw ⟨s', raP ra k a2, putO O k o2, A', st'⟩ ++ news), p ∈ (aw, A') :: ((D, dL (raP ra k a2)) :: (a2, o2) :: (a1, o1) :: (ra k, o) :: (rowsB ra O k ++ (own ++ news))) := by
  have t5 : ∀ q ∈ rowsB ra O k ++ (own ++ news), q ∈ (aw, A') :: ((D, dL (raP ra k a2)) :: (a2, o2) :: (a1, o1) :: (ra k, o) :: (rowsB ra O k ++ (own ++ news))) := fun q h => .tail _ (.tail _ (.tail _ (.tail _ (.tail _ h))))
  refine sub_app (fun p h => t5 _ (List.mem_append_right _ (List.mem_append_left _ h))) (sub_app (show ∀ p ∈ rowsL _ _ ++ [_, _], _ from sub_app (fun p h => ?_) (sub_cons (.head _) (sub_cons (.tail _ (.head _)) sub_nil))) (fun p h => t5 _ (List.mem_append_right _ (List.mem_append_right _ h))))
  obtain ⟨i, hi, rfl⟩ := List.mem_map.mp h
  show (raP ra k a2 i, putO O k o2 i) ∈ _
  by_cases hik : i = k
  · subst hik
    rw [show raP ra i a2 i = a2 from if_pos rfl, show putO O i o2 i = o2 from if_pos rfl]
    exact .tail _ (.tail _ (.head _))
  · rw [show raP ra k a2 i = ra i from if_neg hik, show putO O k o2 i = O i from if_neg hik]
    exact t5 _ (List.mem_append_left _ (rowsB_in (List.mem_range.mp hi) hik))
theorem e2_endS {s' : RSt} {st' : Tok} (hk : k < 9) (hj : j < 9) (hjk : j ≠ k) : ∀ p ∈ own ++ (e2Led D aw ⟨s', raP ra k a2, putO (putO O k o2) j oj, oA, st'⟩ ++ news), p ∈ (ra j, oj) :: (D, dL (raP ra k a2)) :: (a2, o2) :: (a1, o1) :: (ra k, o) :: (rowsC ra O k j ++ (own ++ ((aw, oA) :: news))) := by
  have t5 : ∀ q ∈ rowsC ra O k j ++ (own ++ ((aw, oA) :: news)), q ∈ (ra j, oj) :: (D, dL (raP ra k a2)) :: (a2, o2) :: (a1, o1) :: (ra k, o) :: (rowsC ra O k j ++ (own ++ ((aw, oA) :: news))) := fun q h => .tail _ (.tail _ (.tail _ (.tail _ (.tail _ h))))
  have tr : ∀ q ∈ own ++ ((aw, oA) :: news), q ∈ (ra j, oj) :: (D, dL (raP ra k a2)) :: (a2, o2) :: (a1, o1) :: (ra k, o) :: (rowsC ra O k j ++ (own ++ ((aw, oA) :: news))) := fun q h => t5 _ (List.mem_append_right _ h)
  refine sub_app (fun p h => tr _ (List.mem_append_left _ h)) (sub_app (show ∀ p ∈ rowsL _ _ ++ [_, _], _ from sub_app (fun p h => ?_) (sub_cons (tr _ (List.mem_append_right _ (.head _))) (sub_cons (.tail _ (.head _)) sub_nil))) (fun p h => tr _ (List.mem_append_right _ (.tail _ h))))
  obtain ⟨i, hi, rfl⟩ := List.mem_map.mp h
  show (raP ra k a2 i, putO (putO O k o2) j oj i) ∈ _
  by_cases hik : i = k
  · subst hik
    rw [show raP ra i a2 i = a2 from if_pos rfl, show putO (putO O i o2) j oj i = putO O i o2 i from if_neg hjk.symm, show putO O i o2 i = o2 from if_pos rfl]
    exact .tail _ (.tail _ (.head _))
  · rw [show raP ra k a2 i = ra i from if_neg hik]
    by_cases hij : i = j
    · subst hij
      rw [show putO (putO O k o2) i oj i = oj from if_pos rfl]
      exact .head _
    · rw [show putO (putO O k o2) j oj i = putO O k o2 i from if_neg hij, show putO O k o2 i = O i from if_neg hik]
      exact t5 _ (List.mem_append_left _ (rowsC_in (List.mem_range.mp hi) hik hij))
/-- what stands once a row has been put in order -/
noncomputable def CutE {g h : Heap} {L : Addr} {m : Str → Option Value} (_ : Fr g L h m) (s : Shared) (a : Addr) (row : List Int) (tl : List (Addr × Obj)) (f : Flow) (s' : Shared) : Prop :=
  f = .next ∧ ∃ h' tk' vs n, s' = { s with heap := h', toks := tk' } ∧ Fr g L h' m ∧ News g L h' ((a, listOf (List.toArray vs) n) :: tl) ∧ RowO (listOf (List.toArray vs) n) row
theorem cutE_end {g h : Heap} {L : Addr} {m : Str → Option Value} {F : Fr g L h m} {s : Shared} {a : Addr} {row row' : List Int} {tl : List (Addr × Obj)} {h' : Heap} {tk' : Nat} {o : Obj}
    (F' : Fr g L h' m) (N' : News g L h' ((a, o) :: tl)) (hO : RowO o row') (e : row' = row) : CutE F s a row tl .next { s with heap := h', toks := tk' } := by
  obtain ⟨vs, n, rfl, hI⟩ := hO
  subst e
  exact ⟨rfl, h', tk', vs, n, rfl, F', N', vs, n, rfl, hI⟩
theorem ord_srt {H : Hosts} {l l' : List Int} {k : Nat} (hI : H.inner k = true) (hp : l'.Perm l) (ho : Ordered (H.C k) l') : l' = H.ord k l := by
  unfold Hosts.ord; rw [if_pos hI]; exact srt_ord hp ho
theorem ord_rev {H : Hosts} {l : List Int} {k : Nat} (hI : H.inner k = false) (hC : H.C k = true) : l.reverse = H.ord k l := by
  unfold Hosts.ord; rw [if_neg (by first | k_mem | simp [hI]), if_pos hC]
theorem ord_id {H : Hosts} {l : List Int} {k : Nat} (hI : H.inner k = false) (hC : H.C k = false) : l = H.ord k l := by
  unfold Hosts.ord; rw [if_neg (by first | k_mem | simp [hI]), if_neg (by first | k_mem | simp [hC])]
end
theorem e2_fin {ra : Nat → Addr} {O : Nat → Obj} {news : List (Addr × Obj)} {D aw : Addr} {s : RSt} {vsA : List Value} {nA : Nat} {st : Tok} : ∀ p ∈ (aw, listOf vsA.toArray nA) :: (D, dL ra) :: (rowsL ra O ++ news), p ∈ e2Led D aw ⟨s, ra, O, listOf vsA.toArray nA, st⟩ ++ news := by
  (dsimp only [e2Led]; repeat' (first | with_reducible refine sub_app ?_ ?_ | with_reducible refine sub_cons ?_ ?_ | exact sub_nil | (intro _ hz9; k_mem) | k_mem))
theorem allLt_mem {d : Nat} : ∀ {l : List (Addr × Obj)}, PySem.W.AllLt d l → ∀ p ∈ l, p.1 < d
  | [], _, _, h => nomatch h
  | q :: l, ⟨h1, h2⟩, p, hp => by
    rcases List.mem_cons.mp hp with rfl | hp
    · exact h1
    · exact allLt_mem h2 p hp
theorem end_fin {h₀ : Heap} {L : Addr} {m : Str → Option Value} {s : Shared} {Q : Value → Shared → Prop} {news : List (Addr × Obj)} {H : Hosts} {pv : Nat → Option Nat} {po : Nat → Int} {tb : Array UInt8} {ra : Nat → Addr} {O : Nat → Obj} {aw D l' I a3 : Addr} {k c3 : Nat} {es s2 : RSt} {oA : Obj} {est : Tok} {vs3 : List Value} {ns3 : List Int} {h' : Heap} {tk' : Nat}
    (hP : E2ok H es aw D I news 9 ⟨s2, ra, O, oA, est⟩) (hes : es = come (clOf pv po (tb.toList.take tb.size))) (F : Fr h₀ L h' m)
    (N : News h₀ L h' ((l', listOf #[.ref D, .ref a3, .int (s2.st : Int) est] k) :: (a3, listOf vs3.toArray c3) :: (aw, oA) :: (D, dL ra) :: (rowsL ra O ++ news)))
    (hl : ∀ q ∈ news, q.1 < l') (l3 : ∀ q ∈ news, q.1 < a3) (hI3 : IntsAre vs3 ns3) (hp3 : ns3.Perm s2.aw) (ho3 : ns3.Pairwise (· ≤ ·))
    (ret : ∀ v h' tk' new, Fr h₀ L h' m → News h₀ L h' (new ++ news) → (∀ p ∈ new, ∀ q ∈ news, q.1 ≠ p.1) → DatIn (new ++ news) v (runD (H.fin (clOf pv po tb.toList))) → Q v { s with heap := h', toks := tk' }) :
    Q (.ref l') { s with heap := h', toks := tk' } := by
  rw [show tb.toList.take tb.size = tb.toList from List.take_of_length_le (Nat.le_of_eq Array.length_toList)] at hes
  obtain ⟨st, rows, away, run, few⟩ := hP
  simp only at st rows run
  refine ret _ _ _ ((l', listOf #[.ref D, .ref a3, .int (s2.st : Int) est] k) :: (a3, listOf vs3.toArray c3) :: (aw, oA) :: (D, dL ra) :: rowsL ra O) F (news_sub N ?_) ?_ ?_
  · (repeat' (first | with_reducible refine sub_app ?_ ?_ | with_reducible refine sub_cons ?_ ?_ | exact sub_nil | (intro _ hz9; k_mem) | k_mem))
  · intro p hp q hq
    simp only [List.mem_cons] at hp
    rcases hp with rfl | rfl | rfl | rfl | h
    · exact Nat.ne_of_lt (hl q hq)
    · exact Nat.ne_of_lt (l3 q hq)
    · exact st.an q hq
    · exact st.dn q hq
    · obtain ⟨i, hi, rfl⟩ := List.mem_map.mp h
      exact st.rn i (List.mem_range.mp hi) q hq
  · have e : H.fin (clOf pv po tb.toList) = { s2 with aw := ns3 } := by
      have e2 : ns3 = Srt false s2.aw := srt_uniq hp3 (by simpa using ho3)
      unfold Hosts.fin
      rw [← hes, ← run, e2]
    rw [e]
    refine .list (vs := [.ref D, .ref a3, .int (s2.st : Int) est]) (List.mem_append_left _ List.mem_cons_self) (.cons ?_ (.cons ?_ (.cons (.int _ _) .nil)))
    · refine .list (vs := ((List.range 9).map ra).map Value.ref) (n := 9) (by first | k_mem | simp) ?_
      rw [List.map_map]
      exact dat_map fun i hi => dat_row (o := O i) (List.mem_append_left _ (by first | k_mem | simp [mem_rowsL (ra := ra) (O := O) (List.mem_range.mp hi)])) (rows i (List.mem_range.mp hi))
    · exact .list (vs := vs3) (n := c3) (by first | k_mem | simp) (dat_ints hI3)
end Mine
end
section
open PySem PySem.W PyProof.Rows
namespace Mine
open PySem.Spec PySem.Calls

section
variable {w : World} {mean : ExcName → Option Value} {mg mb : Str → Option Value} {dp un : Nat} {gd : Option (List Code)} {cn : Str} {nm : List (Str × NameKind)} {ig ic : Bool} {mo : List (Str × Const)} {a : Addr} {ccd : Value} {cl : List (Str × Addr)} {outer : List Env} {A₀ : Around} {base h₀ : Heap} {L : Addr} {m : Str → Option Value} {s : Shared} {Q E : Value → Shared → Prop} {news : List (Addr × Obj)}

theorem c_end {H : Hosts} {pv : Nat → Option Nat} {po : Nat → Int} {Y : LayD} {tb : Array UInt8} {t : Tok}
    (B : Below A₀ base outer h₀) (F : Fr h₀ L s.heap m) (XX : (Mine.fr2 w.params).In h₀) (N : News h₀ L s.heap news) (TT : Top topProg LL mean mg mb h₀) (hd : dp + 30 < recursionLimit) (hu : un + 200 < cLine)
    (hY : LayOk H pv po Y news) (htb : tb.size = 8) (htb8 : ∀ (i : Nat) b, tb[i]? = some b → b.toNat < 8) (hp9 : ∀ b i, pv b = some i → i < 9)
    (ret : ∀ v h' tk' new, Fr h₀ L h' m → News h₀ L h' (new ++ news) → (∀ p ∈ new, ∀ q ∈ news, q.1 ≠ p.1) → DatIn (new ++ news) v (runD (H.fin (clOf pv po tb.toList))) → Q v { s with heap := h', toks := tk' }) :
    wpAny (model PP w) (ktrTop dp un gd cn (CS nm ig ic mo) L a ccd cl outer) (call (.ref 196) [.bytes tb t, .ref Y.clA, .ref Y.wyA, .ref Y.roA, .ref Y.coA]) Q E s := by
  have mR := hY.mR
  k_with_none
  k_with "eval Name" => (k_here; (fail_if_success (with_reducible show wpAny _ _ (eval _ (compEnvC _ _ _ _)) _ _ _)); first | (refine' nameX_L ?zqF ?zqv ?_ ?zqa ?zqb; (case zqF => k_asm); (case zqa => rfl); (case zqb => rfl); (case zqv => rfl); k_whole) | (refine' nameX_K ?zqF ?zqX ?zqT ?zqe ?_ ?zqa ?zqb; (case zqF => k_asm); (case zqX => k_asm); (case zqT => k_asm); (case zqa => rfl); (case zqb => rfl); (case zqe => k_is); k_whole) | (refine' nameX_B ?zqF ?zqX ?zqT ?zqe ?zqv ?zqn ?_ ?zqa ?zqb; (case zqF => k_asm); (case zqX => k_asm); (case zqT => k_asm); (case zqa => rfl); (case zqb => rfl); (case zqe => k_is); (case zqv => boot_fast); (case zqn => decide); k_whole) | (refine' nameX_C ?zqN ?zqc ?zqm ?zqd ?_ ?zqa ?zqb; (case zqa => rfl); (case zqb => rfl); (case zqN => k_asm); (case zqc => rfl); (case zqm => k_mem); (case zqd => k_asm); k_whole))
  k_with "callWith ref" => (k_here; first | (refine' callWith_K ?zqk1 ?zqk2 ?_; (case zqk1 => k_asm); (case zqk2 => k_is); k_whole) | (refine' callWith_KW ?zqk1 ?zqk2 ?zqk3 ?_; (case zqk1 => k_asm); (case zqk2 => k_is); (case zqk3 => exact rfl); k_whole))
  k_with "storeName" => (k_here; refine' storeX_L ?zqF ?zqN ?_ ?zqa ?zqb; (case zqF => k_asm); (case zqN => k_asm); (case zqa => rfl); (case zqb => rfl); k_whole; intro _ _ _; (try k_sweep))
  k_with "subscriptTail Name Name ref int" => k_extra "subscriptTail"
  k_with "subscriptTail Name Call ref int" => k_extra "subscriptTail"
  k_with "subscriptTail Name Subscript ref int" => k_extra "subscriptTail"
  k_with "subscriptTail" => (k_here; (with_reducible show wpAny _ _ (subscriptTail _ _ (Value.ref _) (Value.int _ _)) _ _ _); (with_unfolding_all refine' sub_list ?k1 ?k2 ?k3 ?_ ?k6); (case k1 => k_asm); (case k2 => k_dflt k_mem); (case k6 => with_unfolding_all rfl); (case k3 => k_extra "item"); k_whole)
  k_with "call builtin:len" => (k_here; (with_reducible show wpAny _ _ (call (Value.builtin "len") [Value.ref _]) _ _ _); (with_unfolding_all refine' len_led ?k1 ?k2 ?k3 ?_); (case k1 => k_asm); (case k2 => k_dflt k_mem); (case k3 => k_extra "len"); k_whole)
  k_with "CompSrc" => (k_here; k_dflt (k_extra "compsrc"))
  k_with "CompRest" => (k_dflt (k_extra "comprest"))
  k_with "exec Assign cons ListComp" => (k_here; k_dflt (refine LCg.Assign_ListComp_U (F₀ := by k_asm) (by rfl) (by with_unfolding_all rfl) (by rfl) (by decide) (by rfl) (by decide) (by rfl) (by rfl) (by rfl) ?_); k_dflt lcg_toSrc)
  k_with "pyIter bytes" => (k_dflt (k_extra "iterbytes"))
  k_with "pyIter ref" => (k_dflt (k_extra "iterrange"))
  k_with "exec For Name Call cons nil" => (k_here; (rename Fr _ _ _ _ => lF'); (with_unfolding_all refine' For_invVF lF' ?k1 ?k2 ?_; (case k1 => exact rfl); (case k2 => exact rfl); k_whole))
  k_with "compareOp In int ref" => (k_here; k_dflt (k_extra "in"))
  k_with "call builtin:len" => (k_here; (with_reducible show wpAny _ _ (call (Value.builtin "len") [Value.ref _]) _ _ _); (with_unfolding_all refine' r_len ?rk1 ?rk2 ?rk3 ?rk4 ?_); (case rk1 => k_asm); (case rk2 => k_dflt k_mem); (case rk3 => assumption); (case rk4 => (rw [List.length_drop]; omega)); k_whole)
  k_with "call builtin:list.append" => (k_here; k_dflt (k_extra "append"))
  k_with "call builtin:list.sort" => (k_here; k_dflt (k_extra "sort"))
  k_with "call builtin:list.reverse" => (k_here; k_dflt (k_extra "reverse"))
  k_with "call builtin:list.extend" => (k_here; k_dflt (k_extra "extend"))
  k_with "call builtin:sorted" => (k_here; k_dflt (k_extra "sorted"))
  k_with "setItem ref int" => (k_here; k_dflt (k_extra "set"))
  k_with "subscriptTail Subscript Slice ref ref" => (k_here; k_dflt (k_extra "slice"))
  k_with "subscriptTail Name Slice ref ref" => (k_here; k_dflt (k_extra "slice"))
  k_with "callWith" => (k_here; k_dflt (k_extra "callkw"))
  k_with "exec If" => (k_here; k_dflt (k_extra "cut"))
  k_with "compsrc" => (refine LCg.CompSrc.ledger (its := Y.iR) (k := Y.nR) (by rfl) (by k_asm) (by k_asm) mR (by rw [hY.lR]; exact Nat.le_of_ble_eq_true rfl) ?_; intro g')
  k_with "comprest" => (refine comp_rows (led := news) srcAt_mono Y.iR.size 0 [] List.nodup_nil (fun _ h => nomatch h) (show LCg.SrcAt _ _ _ news from src_led mR) ?_; intro as' hlen hnd hoff; rw [hY.lR] at hlen; unfold LCg.FinA; intro D hh2 tk2 F' N1 o1; obtain ⟨ra, hra, hinj, hras, hsub⟩ := rows_made (by simpa using hlen) hnd; have N' := news_sub N1 (led_rows hsub); clear N1)
  k_with "iterbytes" => ((rename Fr _ _ _ _ => lF'); (rename News _ _ _ _ => lN'); (have S1 := stat1_mk hinj hras hoff o1 lN'); (subst hra); (refine' f2_bytes (σ := E1) (e1Vals Y D) (fun c => rowsL ra c.O) ((D, dL ra) :: news) (fun i c => E1ok pv po tb i c) ⟨RSt.init, fun _ => listOf #[] 0⟩ (by rfl) lF' lN' ?hm ?hn ?hc ?hp ?turn ?done); (case hm => ((rename Fr _ _ _ _ => hvF); refine hv_of hvF ?_; repeat' (first | exact hv_nil | refine hv_cons ?_ ?_ | with_unfolding_all rfl))); (case hn => exact fun _ h => h); (case hc => exact e1_it (c := ⟨RSt.init, fun _ => listOf #[] 0⟩) (fun _ _ => ⟨[], 0, rfl, .nil⟩)); (case hp => exact e1_ok0); clear lF' lN'; (case' turn => (intro i n tn c hq tk3 uu own hb hP hcs hown F' N'; refine wpAny_gen fun G1 hG1 => ?_; obtain ⟨es, eO⟩ := c; skip; have hn8 := htb8 i n hb; have mT := hY.mT n.toNat hn8; have mC := hY.mC; rcases hpv : pv n.toNat with _ | pl <;> rw [hpv] at mT <;> simp only [optV] at mT <;> try ((have h9 := hp9 _ _ hpv; have hRO : RowO (eO pl) (es.rho pl) := hP.rows pl h9; have hRl : (es.rho pl).length < 20 := (by have h1 := tot_le (s := es) h9; have h2 := (come_tot (pv := pv) (po := po) hp9 (tb.toList.take i)).1; have h3 := hP.run; simp only at h3; rw [← h3] at h2; have h4 := List.length_take_le i tb.toList; simp only [Array.length_toList, List.length_take] at h2 h4; omega); have N2' := news_sub N' (e_row (O := eO) h9); clear N'; have hne' := e_ne S1 h9 hown (O := eO) (oD := dL ra); have hO2' := hRO; obtain ⟨vs9, n9, e9, hI9⟩ := hO2'; rw [e9] at N2' hRO)))); (case' done => (intro c hq tk3 uu hP F' N'; obtain ⟨es, eO⟩ := c; skip)))
  k_with "iterrange" => ((rename Fr _ _ _ _ => lF'); (rename News _ _ _ _ => lN'); (rename PySem.IsRange _ _ _ _ _ _ _ _ => lR'); (rename_i aw hx0 xF0 xN0 hl1 hx2 hx3 xF xN hx4 xtk xt xu xv xkeep); (try clear xF); (try clear xN); (try clear xF0); (try clear xN0); (have S2 := stat2_mk S1 (allLt_mem hl1) lN'); (have hrun := hP.run; have hct := come_tot (pv := pv) (po := po) hp9 (tb.toList.take tb.size)); (simp only at hrun; rw [← hrun] at hct); (refine' f2_range (σ := E2) (nn := 9) (e2Vals Y D aw) (e2Led D aw) news (fun i c => E2ok H es aw D hx4.objs.size news i c) ⟨es, ra, eO, listOf #[] 0, _⟩ (by rfl) lF' lN' lR' (by decide) (by decide) ?rhm ?rhn ?rhc ?rhp ?rturn ?rdone); (case rhm => ((rename Fr _ _ _ _ => hvF); refine hv_of hvF ?_; repeat' (first | exact hv_nil | refine hv_cons ?_ ?_ | with_unfolding_all rfl | (dsimp only; rw [hct.2.2]; with_unfolding_all rfl)))); (case rhn => (intro p hp; simp only [e2Led, List.mem_append, List.mem_cons, List.not_mem_nil, or_false] at hp ⊢; rcases hp with (h | h | h) | h <;> simp [h])); (case rhp => exact ⟨S2, hP.rows, ⟨[], 0, rfl, by rw [hct.2.1]; exact .nil⟩, rfl, Nat.le_trans hct.1 (Nat.le_trans (List.length_take_le _ _) (by rw [htb]; exact Nat.le_refl _))⟩); (case rhc => exact e2_it (H := H) (s₁ := es) (I := hx4.objs.size) (news := news) (i := 0) ⟨S2, hP.rows, ⟨[], 0, rfl, by rw [hct.2.1]; exact .nil⟩, rfl, Nat.le_trans hct.1 (Nat.le_trans (List.length_take_le _ _) (by rw [htb]; exact Nat.le_refl _))⟩); clear lF' lN' lR'; (case' rturn => (intro i tn c hq tk3 uu own hi9 hP2 hcs hown hex F' N'; refine wpAny_gen fun G2 hG2 => ?_; obtain ⟨es2, ra2, eO2, eA, est⟩ := c; skip; obtain ⟨pl, hpl⟩ : ∃ pl, pl = 8 - i := ⟨_, rfl⟩; (have e8 : (8 + (i : Int) * (-1)) = (pl : Int) := by omega); rw [e8] at F'; clear e8; have h9 : pl < 9 := (by omega); have hS := hP2.st; have hRO : RowO (eO2 pl) (es2.rho pl) := hP2.rows pl h9; have hRl : (es2.rho pl).length < 20 := Nat.lt_of_le_of_lt (Nat.le_trans (tot_le h9) hP2.few) (by decide); have hAO : RowO eA es2.aw := hP2.away; have hAl : es2.aw.length < 20 := Nat.lt_of_le_of_lt (Nat.le_trans tot_aw hP2.few) (by decide); have N2' := news_sub N' (e2_row (O := eO2) h9); clear N'; have hne' := e2_ne hS hown h9 (O := eO2) (oA := eA) (oD := dL ra2); (obtain ⟨vs9, n9, e9, hI9⟩ := id hRO; rw [e9] at N2' hRO); (obtain ⟨vsA, nA, eAe, hIA⟩ := id hAO; subst eAe); have gco := hY.gCo pl h9; have gw := hY.gW pl h9; have hoL : ((H.ord pl (es2.rho pl)).length < 20) := (by rw [ord_len]; exact hRl); have mW := hY.mW; have mCo := hY.mCo)); (case' rdone => (intro c hq tk3 uu hP2 F' N'; obtain ⟨es2, ra2, eO2, eA, est⟩ := c; skip; have hAO : RowO eA es2.aw := hP2.away; obtain ⟨vsA, nA, eAe, hIA⟩ := id hAO; subst eAe; have N2' := news_sub N' (e2_fin (vsA := vsA) (nA := nA)); clear N'))) 
  k_with "cut" => ((refine' wpAny_mono (Q := CutE F' s (ra2 pl) (H.ord pl (es2.rho pl)) (rowsB ra2 eO2 pl ++ (own ++ ((aw, listOf vsA.toArray nA) :: (D, dL ra2) :: news)))) ?cut1 ?cut2 (fun _ _ x => x)); (case' cut1 => (cases hC : H.C pl <;> cases hIn : H.inner pl <;> rw [hC] at gco)); (case' cut2 => (clear hRO hRl; intro f9 s9 hq9; obtain ⟨rfl, h', tk', vs7, n7, rfl, F2', N3', hO7⟩ := hq9; clear F' N2'; rcases hWp : H.W pl with _ | j <;> rw [hWp] at gw <;> simp only [optV] at gw)))
  k_with "in" => ((refine' in_ways2 (H := H) (its := Y.iW) (n := Y.nW) (tw := Y.tw) ?n1 ?n2 hY.lW hY.gW ?n5 hIn ?_); (case n1 => k_asm); (case n2 => k_dflt k_mem); (case n5 => ktr_units))
  k_with "callkw" => ((with_unfolding_all refine' callWith_bkw0 (id := "list.sort") (first := [.ref (ra2 pl)]) ?kw1 ?kw2 ?_); (case kw1 => rfl); (case kw2 => rfl))
  k_with "sort" => ((refine' r_sort ?so1 ?so2 hne' hRO hRl ?_); (case so1 => k_asm); (case so2 => k_asm); (intro o8 row8 h' hO8 hp8 ho8 F' N'))
  k_with "reverse" => ((refine' r_rev ?rv1 ?rv2 hne' hRO hRl ?_); (case rv1 => k_asm); (case rv2 => k_asm); (intro o8 h' hO8 F' N'))
  k_with "slice" => first
    | ((refine' r_slice (ms := (H.ord pl (es2.rho pl)).drop (H.R pl)) ?sl1 ?sl2 ?sl3 hO7 hoL ?sl4 ?sl5 (fun vs h => slc_from h) ?_ ?sl6 ?sl7); (case sl1 => k_asm); (case sl2 => k_asm); (case sl3 => k_dflt k_mem); (case sl4 => kmk_part); (case sl5 => kmk_part); (case sl6 => with_unfolding_all rfl); (case sl7 => kmk_pure); (intro a1 o1' h' hO1 F' N' l1'))
    | ((refine' r_slice (ms := (H.ord pl (es2.rho pl)).take (H.R pl)) ?tl1 ?tl2 ?tl3 hO7 hoL ?tl4 ?tl5 (fun vs h => slc_upto h) ?_ ?tl6 ?tl7); (case tl1 => k_asm); (case tl2 => k_asm); (case tl3 => k_dflt k_mem); (case tl4 => kmk_part); (case tl5 => kmk_part); (case tl6 => with_unfolding_all rfl); (case tl7 => kmk_pure); (intro a2 o2' h' hO2 F' N' l2'))
  k_with "set" => ((rename News _ _ _ _ => lN'); (refine' r_set (k := pl) ?se1 (news_sub lN' e2_set) (e2_neD hS hown h9 (l1' (D, dL ra2) (by first | k_mem | simp)) (l2' (D, dL ra2) (by first | k_mem | simp))) (by simpa using h9) (by first | k_mem | simp) ?_); (case se1 => k_asm); clear lN'; (intro h' F' N'); (first | ((have hjl := hY.hW pl j h9 hWp; have hjk : j ≠ pl := Nat.ne_of_lt hjl; have hj9 : j < 9 := Nat.lt_trans hjl h9; have hRj : RowO (eO2 j) (es2.rho j) := hP2.rows j hj9; have hjL : (es2.rho j).length < 20 := Nat.lt_of_le_of_lt (Nat.le_trans (tot_le hj9) hP2.few) (by decide); have N2' := news_sub N' (e2_rj (O := eO2) hj9 hjk); clear N'; (obtain ⟨vsj, nj, ej, hIj⟩ := id hRj); rw [ej] at N2' hRj)) | skip))
  k_with "extend" => first
    | ((rename News _ _ _ _ => lN'); (refine' r_extend (o2 := o1') ?ea1 (news_sub lN' e2_aw) (by first | k_mem | simp) (e2_neaw hS hown h9 (l1' (aw, listOf vsA.toArray nA) (by first | k_mem | simp)) (l2' (aw, listOf vsA.toArray nA) (by first | k_mem | simp))) hAO hO1 hAl ?ea2 ?_); (case ea1 => k_asm); (case ea2 => (rw [List.length_drop]; omega)); clear lN'; (intro o6 h' hO6 F' N'))
    | ((rename News _ _ _ _ => lN'); (refine' r_extend (o2 := o1') ?eb1 lN' (by first | k_mem | simp) (e2_nej hS hown h9 hj9 hjk (l1' (ra2 j, eO2 j) (by first | k_mem | simp [rowsB_in hj9 hjk])) (l2' (ra2 j, eO2 j) (by first | k_mem | simp [rowsB_in hj9 hjk]))) hRj hO1 hjL ?eb2 ?_); (case eb1 => k_asm); (case eb2 => (rw [List.length_drop]; omega)); clear lN'; (intro o6 h' hO6 F' N'))
  k_with "sorted" => ((rename News _ _ _ _ => lN'); (refine' kso_sorted ?sr1 lN' (kso_isList lN' (List.mem_cons_self) (by first | k_mem | simp)) hIA ?sr2 ?_); (case sr1 => k_asm); (case sr2 => exact Nat.lt_of_le_of_lt (Nat.le_trans tot_aw hP2.few) (by decide)); clear lN'; (intro a3 vs3 ns3 c3 h' F' N' l3 hI3 hlen3 hp3 ho3 hx3))
  k_with "append" => ((refine' r_append ?pp1 ?pp2 hne' hRO hRl ?_); (case pp1 => k_asm); (case pp2 => k_asm); (intro o8 h' hO8 F' N'))
  k_with "item" => first | exact item_nat (by omega) (hY.gC _ hn8) | exact item_nat (by omega) (dL_get2 h9) | exact item_nat (by omega) (dL_get hj9 hjk) | exact item_nat (by omega) gco | exact item_nat (by omega) gw | exact item_nat (by omega) (hY.gR _ h9)
  k_steps
  all_goals first
    | ((rename News _ _ _ _ => lN); (rename Fr _ _ _ _ => lF); refine hG1 _ _ (f2_end ⟨es, eO⟩ lF lN ?_ (fun _ h => h) (e1_it (c := ⟨es, eO⟩) hP.rows) (e1_skip hb hpv hP)); ((rename Fr _ _ _ _ => hvF); refine hv_of hvF ?_; repeat' (first | exact hv_nil | refine hv_cons ?_ ?_ | with_unfolding_all rfl)))
    | ((rename News _ _ _ _ => lN); (rename Fr _ _ _ _ => lF); have hPP := e1_put hb hpv hP hO8; refine hG1 _ _ (f2_end ⟨es.put pl (es.rho pl ++ [po n.toNat]), putO eO pl o8⟩ lF lN ?_ e_back (e1_it (c := ⟨es.put pl (es.rho pl ++ [po n.toNat]), putO eO pl o8⟩) hPP.rows) hPP); ((rename Fr _ _ _ _ => hvF); refine hv_of hvF ?_; repeat' (first | exact hv_nil | refine hv_cons ?_ ?_ | with_unfolding_all rfl)))
    | ((rename News _ _ _ _ => lN); (rename Fr _ _ _ _ => lF); exact cutE_end lF lN hO8 (ord_srt hIn hp8 (by rw [hC]; exact ho8)))
    | ((rename News _ _ _ _ => lN); (rename Fr _ _ _ _ => lF); exact cutE_end lF lN hO8 (ord_rev hIn hC))
    | ((rename News _ _ _ _ => lN); (rename Fr _ _ _ _ => lF); exact cutE_end lF lN hRO (ord_id hIn hC))
    | ((rename News _ _ _ _ => lN); (rename Fr _ _ _ _ => lF); (rw [dL_set h9] at lN); obtain ⟨oI, hoI⟩ := hex; have hS' := stat2_put (a2 := a2) hS h9 (fun i hi hn => l2' (ra2 i, eO2 i) (by first | k_mem | simp [rowsB_in hi hn])) (l2' (aw, listOf vsA.toArray nA) (by first | k_mem | simp)) (l2' (D, dL ra2) (by first | k_mem | simp)) (fun q hq => l2' q (by first | k_mem | simp [hq])) (l2' (hx4.objs.size, oI) (by first | k_mem | simp [hoI])); (first
        | (have hE := e2_none (st' := est) hP2 h9 hpl hS' hWp hO2 hO6 (fun j hj => hY.hW pl j h9 hj); refine' hG2 _ _ (f2_end _ lF lN ?nem (e2_endN h9) (e2_it hE) hE); (case nem => ((rename Fr _ _ _ _ => hvF); refine hv_of hvF ?_; repeat' (first | exact hv_nil | refine hv_cons ?_ ?_ | with_unfolding_all rfl))))
        | (refine' hG2 _ _ (f2_end ⟨{ (es2.put pl ((H.ord pl (es2.rho pl)).take (H.R pl))).put j (es2.rho j ++ (H.ord pl (es2.rho pl)).drop (H.R pl)) with st := es2.st + ((H.ord pl (es2.rho pl)).drop (H.R pl)).length }, raP ra2 pl a2, putO (putO eO2 pl o2') j o6, listOf vsA.toArray nA, _⟩ lF lN ?sem (e2_endS (s' := es2) (st' := est) h9 hj9 hjk) ?sit ?sep); (case sem => ((rename Fr _ _ _ _ => hvF); refine hv_of hvF ?_; repeat' (first | exact hv_nil | refine hv_cons ?_ ?_ | with_unfolding_all rfl))); (case sit => exact e2_it (e2_some (st' := _) hP2 h9 hpl hS' hWp hO2 hO6 (fun j hj => hY.hW pl j h9 hj))); (case sep => exact e2_some hP2 h9 hpl hS' hWp hO2 hO6 (fun j hj => hY.hW pl j h9 hj)))))
    | ((rename News _ _ _ _ => lN); (rename Fr _ _ _ _ => lF); refine' end_fin hP2 hP.run lF lN ?fi1 ?fi2 hI3 hp3 ho3 ret; (case fi2 => exact fun q hq => l3 q (by first | k_mem | simp [hq])); (case fi1 => (rename _ ∧ _ ∧ _ ∧ PySem.W.AllLt _ _ => hlA); exact fun q hq => allLt_mem hlA.2.2.2 q (List.mem_append_right _ hq)))
    | skip
end
end Mine
end
section
/-! the plain law: the run ends where the leaves-up pass ends -/
namespace Mine
theorem insBy_nil (f : Int → Bool) (p : Int) : insBy f [] p = [p] := rfl
theorem insBy_cons (f : Int → Bool) (x : Int) (l : List Int) (p : Int) : insBy f (x :: l) p = if f x then x :: insBy f l p else p :: x :: l := by
  unfold insBy posBy putAt
  by_cases h : f x = true
  · rw [List.takeWhile_cons_of_pos h, if_pos h]; simp
  · rw [List.takeWhile_cons_of_neg h, if_neg h]; simp
theorem ins_take (f : Int → Bool) (p : Int) : ∀ (l : List Int) (R : Nat), (insBy f (l.take R) p).take R = (insBy f l p).take R
  | [], R => by simp
  | x :: l, 0 => by simp
  | x :: l, R + 1 => by
    have ih := ins_take f p l R
    rw [List.take_succ_cons, insBy_cons, insBy_cons]
    by_cases h : f x = true
    · rw [if_pos h, if_pos h, List.take_succ_cons, List.take_succ_cons, ih]
    · rw [if_neg h, if_neg h, List.take_succ_cons, List.take_succ_cons]
      cases R with
      | zero => simp
      | succ R => rw [List.take_succ_cons, List.take_succ_cons, List.take_take, Nat.min_eq_left (Nat.le_succ R)]
theorem insBy_all {f : Int → Bool} {p : Int} : ∀ {l : List Int}, (∀ x, f x = true) → insBy f l p = l ++ [p]
  | [], _ => rfl
  | x :: l, h => by rw [insBy_cons, if_pos (h x), insBy_all h]; rfl
theorem insBy_none {f : Int → Bool} {p : Int} : ∀ {l : List Int}, (∀ x, f x = false) → insBy f l p = p :: l
  | [], _ => rfl
  | x :: l, h => by rw [insBy_cons, if_neg (by simp [h x])]
theorem ord_snoc (H : Hosts) (i : Nat) (l : List Int) (p : Int) : H.ord i (l ++ [p]) = insBy (H.fore i p) (H.ord i l) p := by
  unfold Hosts.ord
  by_cases hI : H.inner i = true
  · rw [if_pos hI, if_pos hI]
    refine (srt_uniq ?_ ?_).symm
    · exact (insBy_perm _ _ _).trans (((srt_perm _ _).cons p).trans (List.perm_append_comm (l₁ := [p])))
    · have h1 : SortK (fun x => H.sign i * x) (Srt (H.C i) l) := by
        refine List.Pairwise.imp ?_ (srt_ordered (H.C i) l)
        intro x y h
        simp only [Hosts.sign, if_pos hI]
        cases hc : H.C i <;> rw [hc] at h <;> simp at h ⊢ <;> omega
      have h2 := ins_sorted h1 p
      refine List.Pairwise.imp ?_ h2
      intro x y h
      simp only [Hosts.sign, if_pos hI] at h
      cases hc : H.C i <;> rw [hc] at h <;> simp at h ⊢ <;> omega
  · rw [if_neg hI, if_neg hI]
    by_cases hC : H.C i = true
    · rw [if_pos hC, if_pos hC, insBy_none]
      · simp
      · intro x; simp [Hosts.fore, hC, Hosts.sign, hI]
    · rw [if_neg hC, if_neg hC, insBy_all]
      intro x; simp [Hosts.fore, hC, Hosts.sign, hI]
/-- what is gathered of those that were too many, from the last host on -/
noncomputable def gat (P : Nat → Bool) (f : Nat → List Int) : Nat → List Int
  | 0 => []
  | n + 1 => gat P f n ++ (if P (8 - n) then f (8 - n) else [])
theorem gat_upd {P : Nat → Bool} {f f' : Nat → List Int} {i : Nat} {e : List Int} (ho : ∀ k, k ≠ i → f' k = f k) (hi : (f' i).Perm (f i ++ e)) (h9 : i < 9) : ∀ n, n ≤ 9 → (gat P f' n).Perm (gat P f n ++ (if 8 - i < n ∧ P i = true then e else []))
  | 0, _ => by simp [gat]
  | n + 1, hn => by
    have ih := gat_upd (P := P) ho hi h9 n (by omega)
    unfold gat
    by_cases hk : 8 - n = i
    · have e1 : ¬ (8 - i < n) := by omega
      have e2 : 8 - i < n + 1 := by omega
      rw [hk]
      by_cases hP : P i = true
      · simp only [e1, false_and, if_false, List.append_nil] at ih
        simp only [e2, hP, and_self, if_true]
        rw [List.append_assoc]
        exact ih.append hi
      · simp only [e1, false_and, if_false, List.append_nil] at ih
        simp only [hP, and_false, if_false, List.append_nil]
        simpa using ih
    · rw [ho _ hk]
      have e3 : (8 - i < n + 1) ↔ (8 - i < n) := by
        constructor <;> intro h <;> omega
      simp only [e3]
      refine (ih.append_right _).trans ?_
      rw [List.append_assoc, List.append_assoc]
      exact List.Perm.append_left _ List.perm_append_comm
noncomputable def ovr (H : Hosts) (A : Nat → List Int) (i : Nat) : List Int := (H.ord i (A i)).drop (H.R i)
noncomputable def chl (H : Hosts) (A : Nat → List Int) (n j : Nat) : List Int := gat (fun i => H.W i == some j) (ovr H A) n
noncomputable def rts (H : Hosts) (A : Nat → List Int) (n : Nat) : List Int := gat (fun i => H.W i == none) (ovr H A) n
noncomputable def mvs (H : Hosts) (A : Nat → List Int) (n : Nat) : List Int := gat (fun i => (H.W i).isSome) (ovr H A) n
noncomputable def pnd (o : Option (Nat × Int)) (i : Nat) : List Int := match o with | some (k, p) => if k = i then [p] else [] | none => []
structure Inv (H : Hosts) (s : RSt) (A d : Nat → List Int) (o : Option (Nat × Int)) : Prop where
  rho : ∀ i, i < 9 → s.rho i = (H.ord i (A i)).take (H.R i)
  arr : ∀ i, i < 9 → (A i ++ pnd o i).Perm (d i ++ chl H A 9 i)
  leaf : ∀ i, i < 9 → H.inner i = false → A i ++ pnd o i = d i
  aw : s.aw.Perm (rts H A 9)
  awS : SortK (fun x => 1 * x) s.aw
  st : s.st = (mvs H A 9).length
theorem awIns_perm (aw : List Int) (p : Int) : (awIns aw p).Perm (p :: aw) := insBy_perm _ _ _
theorem awIns_srt {aw : List Int} {p : Int} (h : SortK (fun x => 1 * x) aw) : SortK (fun x => 1 * x) (awIns aw p) := by
  refine insBy_sorted ?_ ?_ ?_ h
  · intro a ha; split at ha <;> simp only [decide_eq_true_eq] at ha <;> omega
  · intro a ha; split at ha <;> simp only [decide_eq_true_eq] at ha <;> omega
  · intro a b hab hb; split at hb <;> simp_all <;> omega
noncomputable def addA (A : Nat → List Int) (i : Nat) (p : Int) : Nat → List Int := fun k => if k = i then A i ++ [p] else A k
section
variable {H : Hosts} {s : RSt} {A d : Nat → List Int} {i : Nat} {p : Int}
theorem rho_add (h : ∀ k, k < 9 → s.rho k = (H.ord k (A k)).take (H.R k)) {row : List Int} (hr : row = (H.ord i (A i ++ [p])).take (H.R i)) : ∀ k, k < 9 → (s.put i row).rho k = (H.ord k (addA A i p k)).take (H.R k) := by
  intro k hk
  by_cases e : k = i
  · subst e; simp [RSt.put, addA, hr]
  · simpa [RSt.put, addA, e] using h k hk
theorem ovr_other : ∀ k, k ≠ i → ovr H (addA A i p) k = ovr H A k := by
  intro k hk; simp [ovr, addA, hk]
theorem add_self : addA A i p i = A i ++ [p] := by simp [addA]
theorem pnd_self : pnd (some (i, p)) i = [p] := by simp [pnd]
theorem arr_shift (k : Nat) : addA A i p k = A k ++ pnd (some (i, p)) k := by
  by_cases e : k = i
  · subst e; simp [addA, pnd]
  · have e' : ¬ i = k := fun h => e h.symm
    simp [addA, pnd, e, e']
/-- it finds room -/
theorem inv_room (h : Inv H s A d (some (i, p))) (h9 : i < 9) (hl : (H.ins i (s.rho i) p).length ≤ H.R i) : Inv H (s.put i (H.ins i (s.rho i) p)) (addA A i p) d none := by
  have hr := h.rho i h9
  have hl2 : (s.rho i).length + 1 ≤ H.R i := by rw [← ins_length H i (s.rho i) p]; exact hl
  have hfull : H.ord i (A i) = s.rho i := by
    rw [hr]
    refine (List.take_of_length_le ?_).symm
    rw [hr, List.length_take] at hl2
    omega
  have hord : H.ord i (A i ++ [p]) = H.ins i (s.rho i) p := by rw [ord_snoc, hfull]; rfl
  have ov0 : ovr H A i = [] := by
    unfold ovr; rw [hfull]; exact List.drop_eq_nil_of_le (by omega)
  have ov1 : ovr H (addA A i p) i = [] := by
    unfold ovr; rw [add_self, hord]; exact List.drop_eq_nil_of_le hl
  have hov : ovr H (addA A i p) = ovr H A := by
    funext k
    by_cases e : k = i
    · subst e; rw [ov0, ov1]
    · exact ovr_other k e
  refine ⟨rho_add h.rho ?_, ?_, ?_, ?_, h.awS, ?_⟩
  · rw [hord]; exact (List.take_of_length_le hl).symm
  · intro k hk
    have := h.arr k hk
    rw [← arr_shift] at this
    simpa [pnd, chl, hov] using this
  · intro k hk hI
    have := h.leaf k hk hI
    rw [← arr_shift] at this
    simpa [pnd] using this
  · show s.aw.Perm _
    have := h.aw
    simpa [rts, hov] using this
  · have := h.st
    simpa [mvs, hov, RSt.put] using this
theorem drop_last_eq {l : List Int} {R : Nat} (h : l.length = R + 1) : l.dropLast = l.take R := by
  rw [List.dropLast_eq_take, h]; rfl
theorem last_split {l : List Int} (h : l ≠ []) : l = l.dropLast ++ [l.getLastD 0] := by
  have e : l.getLastD 0 = l.getLast h := by cases l with | nil => exact absurd rfl h | cons x l => rfl
  rw [e]
  exact (List.dropLast_concat_getLast h).symm
/-- it drives one out -/
theorem over_perm (h : Inv H s A d (some (i, p))) (h9 : i < 9) (hl : ¬ (H.ins i (s.rho i) p).length ≤ H.R i) :
    (H.ins i (s.rho i) p).dropLast = (H.ord i (A i ++ [p])).take (H.R i) ∧ (ovr H (addA A i p) i).Perm (ovr H A i ++ [(H.ins i (s.rho i) p).getLastD 0]) := by
  have hr := h.rho i h9
  have hlen := ins_length H i (s.rho i) p
  have h1 : (s.rho i).length ≤ H.R i := by rw [hr, List.length_take]; exact Nat.min_le_left _ _
  have h2 : (H.ins i (s.rho i) p).length = H.R i + 1 := by omega
  have hX : H.ord i (A i ++ [p]) = insBy (H.fore i p) (H.ord i (A i)) p := ord_snoc H i (A i) p
  have e1 : (H.ins i (s.rho i) p).dropLast = (H.ord i (A i ++ [p])).take (H.R i) := by
    rw [drop_last_eq h2, hX, ← ins_take, hr]; rfl
  refine ⟨e1, ?_⟩
  have hsp := last_split (l := H.ins i (s.rho i) p) ins_ne
  unfold ovr
  rw [add_self]
  have hp1 : (H.ord i (A i ++ [p])).Perm ((H.ord i (A i ++ [p])).take (H.R i) ++ ((H.ord i (A i)).drop (H.R i) ++ [(H.ins i (s.rho i) p).getLastD 0])) := by
    have a1 : (H.ord i (A i ++ [p])).Perm (p :: H.ord i (A i)) := by rw [hX]; exact insBy_perm _ _ _
    have a2 : (p :: H.ord i (A i)).Perm ((p :: s.rho i) ++ (H.ord i (A i)).drop (H.R i)) := by
      rw [hr, List.cons_append, List.take_append_drop]
    have a3 : (p :: s.rho i).Perm (H.ins i (s.rho i) p) := (insBy_perm _ _ _).symm
    rw [hsp, e1] at a3
    refine a1.trans (a2.trans ((a3.append_right _).trans ?_))
    rw [List.append_assoc]
    exact List.Perm.append_left _ List.perm_append_comm
  have hp2 : ((H.ord i (A i ++ [p])).take (H.R i) ++ (H.ord i (A i ++ [p])).drop (H.R i)).Perm ((H.ord i (A i ++ [p])).take (H.R i) ++ ((H.ord i (A i)).drop (H.R i) ++ [(H.ins i (s.rho i) p).getLastD 0])) := by
    rw [List.take_append_drop]; exact hp1
  exact (List.perm_append_left_iff _).mp hp2
theorem inv_next {j : Nat} (h : Inv H s A d (some (i, p))) (h9 : i < 9) (hl : ¬ (H.ins i (s.rho i) p).length ≤ H.R i) (hW : H.W i = some j) :
    Inv H { s.put i (H.ins i (s.rho i) p).dropLast with st := s.st + 1 } (addA A i p) d (some (j, (H.ins i (s.rho i) p).getLastD 0)) := by
  obtain ⟨e1, hov⟩ := over_perm h h9 hl
  refine ⟨rho_add h.rho e1, ?_, ?_, ?_, h.awS, ?_⟩
  · intro k hk
    have := h.arr k hk
    rw [← arr_shift] at this
    have hc := gat_upd (P := fun i => H.W i == some k) ovr_other hov h9 9 (Nat.le_refl _)
    have e9 : 8 - i < 9 := by omega
    simp only [e9, true_and, hW] at hc
    have e2 : (if (some j == some k) = true then [(H.ins i (s.rho i) p).getLastD 0] else []) = pnd (some (j, (H.ins i (s.rho i) p).getLastD 0)) k := by
      simp [pnd]
    rw [e2] at hc
    refine (this.append_right _).trans ?_
    rw [List.append_assoc]
    exact List.Perm.append_left _ hc.symm
  · intro k hk hI
    have := h.leaf k hk hI
    rw [← arr_shift] at this
    have hjk : ¬ j = k := by
      intro e
      subst e
      have : H.inner j = true := by
        unfold Hosts.inner
        exact List.any_eq_true.mpr ⟨i, List.mem_range.mpr h9, by simp [hW]⟩
      rw [this] at hI; cases hI
    simp only [pnd, if_neg hjk, List.append_nil]
    exact this
  · have hc := gat_upd (P := fun i => H.W i == none) ovr_other hov h9 9 (Nat.le_refl _)
    simp only [hW] at hc
    refine h.aw.trans ?_
    simpa [rts] using hc.symm
  · have hc := (gat_upd (P := fun i => (H.W i).isSome) ovr_other hov h9 9 (Nat.le_refl _)).length_eq
    have e9 : 8 - i < 9 := by omega
    simp only [e9, hW, Option.isSome_some, and_self, if_true, List.length_append, List.length_singleton] at hc
    show s.st + 1 = _
    rw [h.st]
    exact hc.symm
theorem inv_away (h : Inv H s A d (some (i, p))) (h9 : i < 9) (hl : ¬ (H.ins i (s.rho i) p).length ≤ H.R i) (hW : H.W i = none) :
    Inv H { s.put i (H.ins i (s.rho i) p).dropLast with aw := awIns s.aw ((H.ins i (s.rho i) p).getLastD 0) } (addA A i p) d none := by
  obtain ⟨e1, hov⟩ := over_perm h h9 hl
  refine ⟨rho_add h.rho e1, ?_, ?_, ?_, awIns_srt h.awS, ?_⟩
  · intro k hk
    have := h.arr k hk
    rw [← arr_shift] at this
    have hc := gat_upd (P := fun i => H.W i == some k) ovr_other hov h9 9 (Nat.le_refl _)
    simp only [hW] at hc
    simp only [pnd, List.append_nil]
    refine this.trans (List.Perm.append_left _ ?_)
    simpa [chl] using hc.symm
  · intro k hk hI
    have := h.leaf k hk hI
    rw [← arr_shift] at this
    simpa [pnd] using this
  · have hc := gat_upd (P := fun i => H.W i == none) ovr_other hov h9 9 (Nat.le_refl _)
    have e9 : 8 - i < 9 := by omega
    simp only [e9, hW, beq_self_eq_true, and_self, if_true] at hc
    refine (awIns_perm _ _).trans (((h.aw.cons _).trans ?_).trans hc.symm)
    exact List.perm_append_comm (l₁ := [_])
  · have hc := (gat_upd (P := fun i => (H.W i).isSome) ovr_other hov h9 9 (Nat.le_refl _)).length_eq
    simp only [hW] at hc
    show s.st = _
    rw [h.st]
    simpa [mvs] using hc.symm
end
theorem go_inv {H : Hosts} {d : Nat → List Int} (hW : ∀ i j, i < 9 → H.W i = some j → j < i) : ∀ (n : Nat) (s : RSt) (A : Nat → List Int) (i : Nat) (p : Int), i < n → i < 9 → Inv H s A d (some (i, p)) → ∃ A', Inv H (H.go n s (some i) p) A' d none
  | 0, _, _, _, _, h, _, _ => absurd h (Nat.not_lt_zero _)
  | n + 1, s, A, i, p, hn, h9, h => by
    simp only [Hosts.go]
    by_cases hl : (H.ins i (s.rho i) p).length ≤ H.R i
    · rw [if_pos hl]
      exact ⟨_, inv_room h h9 hl⟩
    · rw [if_neg hl]
      cases hw : H.W i with
      | none => exact ⟨_, inv_away h h9 hl hw⟩
      | some j =>
        have hj := hW i j h9 hw
        exact go_inv hW n _ _ j _ (by omega) (by omega) (inv_next h h9 hl hw)
theorem inv0 (H : Hosts) : Inv H RSt.init (fun _ => []) RSt.init.rho none := by
  have o0 : ∀ i, H.ord i [] = [] := by
    intro i
    have := ord_len H i []
    exact List.length_eq_zero_iff.mp (by simpa using this)
  have ov : ovr H (fun _ => []) = fun _ => [] := by funext i; simp [ovr, o0]
  have g0 : ∀ P n, gat P (fun _ => []) n = [] := by
    intro P n
    induction n with
    | zero => rfl
    | succ n ih => simp [gat, ih]
  refine ⟨fun i _ => by simp [RSt.init, o0], fun i _ => by simp [pnd, RSt.init, chl, ov, g0], fun i _ _ => by simp [pnd, RSt.init], ?_, List.Pairwise.nil, ?_⟩
  · simp [RSt.init, rts, ov, g0]
  · simp [RSt.init, mvs, ov, g0]
theorem come_step (cl : List (Option Nat × Int)) (c : Option Nat × Int) : come (cl ++ [c]) = (match c.1 with | none => come cl | some i => (come cl).put i ((come cl).rho i ++ [c.2])) := by
  unfold come; rw [List.foldl_append]; rfl
theorem run_snoc (H : Hosts) (cl : List (Option Nat × Int)) (c : Option Nat × Int) : H.run (cl ++ [c]) = H.go 10 (H.run cl) c.1 c.2 := by
  unfold Hosts.run; rw [List.foldl_append]; rfl
theorem run_inv {H : Hosts} (hW : ∀ i j, i < 9 → H.W i = some j → j < i) (cl : List (Option Nat × Int)) : (∀ c ∈ cl, ∀ i, c.1 = some i → i < 9) → ∃ A, Inv H (H.run cl) A (come cl).rho none := by
  rw [← List.reverse_reverse cl]
  induction cl.reverse with
  | nil => exact fun _ => ⟨_, inv0 H⟩
  | cons c l ih =>
    intro h9
    rw [List.reverse_cons] at h9 ⊢
    obtain ⟨A, hA⟩ := ih fun c hc => h9 c (List.mem_append_left _ hc)
    rw [run_snoc, come_step]
    obtain ⟨pl, p⟩ := c
    cases pl with
    | none =>
      rw [go_none]
      exact ⟨A, hA⟩
    | some i =>
      have hi : i < 9 := h9 (some i, p) (by simp) i rfl
      refine go_inv hW 10 _ A i p (by omega) hi ?_
      refine ⟨hA.rho, ?_, ?_, hA.aw, hA.awS, hA.st⟩
      · intro k hk
        have := hA.arr k hk
        simp only [pnd, List.append_nil] at this
        by_cases e : i = k
        · subst e
          simp only [pnd, if_true, RSt.put]
          refine (this.append_right _).trans ?_
          rw [List.append_assoc, List.append_assoc]
          exact List.Perm.append_left _ List.perm_append_comm
        · have e' : ¬ k = i := fun h => e h.symm
          simpa [pnd, RSt.put, e, e'] using this
      · intro k hk hI
        have := hA.leaf k hk hI
        simp only [pnd, List.append_nil] at this
        by_cases e : i = k
        · subst e
          simp [pnd, RSt.put, this]
        · have e' : ¬ k = i := fun h => e h.symm
          simpa [pnd, RSt.put, e, e'] using this
/-- the leaves-up pass, step by step -/
structure FInv (H : Hosts) (A d : Nat → List Int) (n : Nat) (s : RSt) : Prop where
  done : ∀ i, i < 9 → 8 - i < n → s.rho i = (H.ord i (A i)).take (H.R i)
  wait : ∀ i, i < 9 → ¬ 8 - i < n → s.rho i = d i ++ chl H A n i
  aw : s.aw = rts H A n
  st : s.st = (mvs H A n).length
theorem gat_stop {P : Nat → Bool} {f : Nat → List Int} {k : Nat} (h : ∀ m, k ≤ m → m < 9 → P (8 - m) = false) : ∀ n, k ≤ n → n ≤ 9 → gat P f n = gat P f k := by
  intro n
  induction n with
  | zero => intro h1 _; rw [Nat.le_zero.mp h1]
  | succ n ih =>
    intro h1 h2
    by_cases e : k = n + 1
    · rw [e]
    · have := ih (by omega) (by omega)
      have e2 : gat P f (n + 1) = gat P f n ++ (if P (8 - n) then f (8 - n) else []) := rfl
      rw [e2, this, h n (by omega) (by omega)]
      simp
theorem put_eq {s : RSt} {i : Nat} {row : List Int} : (s.put i row).rho i = row := if_pos rfl
theorem put_ne {s : RSt} {i j : Nat} {row : List Int} (h : j ≠ i) : (s.put i row).rho j = s.rho j := if_neg h
theorem fin_step {H : Hosts} {s₀ : RSt} {A d : Nat → List Int} {n : Nat} {s : RSt} (hW : ∀ i j, i < 9 → H.W i = some j → j < i) (hA : Inv H s₀ A d none) (hn : n < 9) (h : FInv H A d n s) : FInv H A d (n + 1) (H.eStep s (8 - n)) := by
  obtain ⟨i, hi⟩ : ∃ i, i = 8 - n := ⟨_, rfl⟩
  rw [← hi]
  have hi9 : i < 9 := Nat.lt_succ_of_le (hi ▸ Nat.sub_le _ _)
  have hni : 8 - i = n := by rw [hi]; exact Nat.sub_sub_self (Nat.le_of_lt_succ hn)
  have q0 : ¬ 8 - i < n := by rw [hni]; exact Nat.lt_irrefl _
  have q1 : ∀ k, k < 9 → 8 - k < n + 1 → k ≠ i → 8 - k < n := fun k hk h e => Nat.lt_of_le_of_ne (Nat.le_of_lt_succ h) fun h2 => e (by rw [hi, ← h2, Nat.sub_sub_self (Nat.le_of_lt_succ hk)])
  have q2 : ∀ k, ¬ 8 - k < n + 1 → ¬ 8 - k < n := fun k h h2 => h (Nat.lt_succ_of_lt h2)
  have q3 : ∀ k, ¬ 8 - k < n + 1 → k ≠ i := fun k h e => h (by rw [e, hni]; exact Nat.lt_succ_self n)
  have q4 : ∀ m, 8 - m < 9 := fun m => Nat.lt_succ_of_le (Nat.sub_le _ _)
  have n9 : n ≤ 9 := Nat.le_of_lt hn
  have hrow : H.ord i (s.rho i) = H.ord i (A i) := by
    have hw := h.wait i hi9 q0
    have hc : chl H A 9 i = chl H A n i := by
      refine gat_stop ?_ 9 n9 (Nat.le_refl _)
      intro m hm hm9
      by_cases e : H.W (8 - m) = some i
      · exact absurd (hW (8 - m) i (q4 m) e) (Nat.not_lt_of_le (hi ▸ Nat.sub_le_sub_left hm 8))
      · simpa using e
    by_cases hI : H.inner i = true
    · have ha := hA.arr i hi9
      simp only [pnd, List.append_nil] at ha
      rw [hc, ← hw] at ha
      unfold Hosts.ord
      rw [if_pos hI, if_pos hI]
      exact (srt_congr ha).symm
    · rw [Bool.not_eq_true] at hI
      have ha := hA.leaf i hi9 hI
      simp only [pnd, List.append_nil] at ha
      have h0 : chl H A n i = [] := by
        refine gat_stop (k := 0) ?_ n (Nat.zero_le _) n9
        intro m _ hm9
        by_cases e : H.W (8 - m) = some i
        · have : H.inner i = true := by
            unfold Hosts.inner
            exact List.any_eq_true.mpr ⟨8 - m, List.mem_range.mpr (q4 m), by simp [e]⟩
          rw [this] at hI; cases hI
        · simpa using e
      rw [hw, h0, List.append_nil, ha]
  have hov : (H.ord i (s.rho i)).drop (H.R i) = ovr H A i := by rw [hrow]; rfl
  have hch : ∀ j, chl H A (n + 1) j = chl H A n j ++ (if H.W i = some j then ovr H A i else []) := by
    intro j
    unfold chl
    rw [gat, ← hi]
    by_cases e : H.W i = some j <;> simp [e]
  have hrt : rts H A (n + 1) = rts H A n ++ (if H.W i = none then ovr H A i else []) := by
    unfold rts
    rw [gat, ← hi]
    by_cases e : H.W i = none <;> simp [e]
  have hmv : mvs H A (n + 1) = mvs H A n ++ (if (H.W i).isSome then ovr H A i else []) := by
    unfold mvs
    rw [gat, ← hi]
  unfold Hosts.eStep
  cases hw : H.W i with
  | none =>
    rw [hw] at hch hrt hmv
    refine ⟨?_, ?_, ?_, ?_⟩
    · intro k hk hk2
      show (s.put i _).rho k = _
      by_cases e : k = i
      · subst e; rw [put_eq, hrow]
      · rw [put_ne e]
        exact h.done k hk (q1 k hk hk2 e)
    · intro k hk hk2
      show (s.put i _).rho k = _
      rw [put_ne (q3 k hk2), hch, if_neg (fun e => by cases e), List.append_nil]
      exact h.wait k hk (q2 k hk2)
    · show s.aw ++ (H.ord i (s.rho i)).drop (H.R i) = _
      rw [hrt, if_pos rfl, h.aw, hov]
    · show s.st = _
      rw [hmv, h.st]
      exact (congrArg List.length (List.append_nil _)).symm
  | some j =>
    have hj := hW i j hi9 hw
    have hji : j ≠ i := Nat.ne_of_lt hj
    rw [hw] at hch hrt hmv
    refine ⟨?_, ?_, ?_, ?_⟩
    · intro k hk hk2
      have ekj : k ≠ j := fun e => Nat.lt_irrefl n (Nat.lt_of_lt_of_le (hni ▸ Nat.sub_lt_sub_left (Nat.lt_of_lt_of_le hj (Nat.le_of_lt_succ hi9)) hj) (e ▸ Nat.le_of_lt_succ hk2))
      show ((s.put i _).put j _).rho k = _
      rw [put_ne ekj]
      by_cases e : k = i
      · subst e; rw [put_eq, hrow]
      · rw [put_ne e]
        exact h.done k hk (q1 k hk hk2 e)
    · intro k hk hk2
      have e : k ≠ i := q3 k hk2
      show ((s.put i _).put j _).rho k = _
      rw [hch]
      by_cases ekj : k = j
      · subst ekj
        rw [put_eq, put_ne e, h.wait k hk (q2 k hk2), hov, if_pos rfl, List.append_assoc]
      · rw [put_ne ekj, put_ne e, if_neg (fun h => ekj (Option.some.inj h).symm), List.append_nil]
        exact h.wait k hk (q2 k hk2)
    · show s.aw = _
      rw [hrt, h.aw, if_neg (fun e => by cases e), List.append_nil]
    · show s.st + ((H.ord i (s.rho i)).drop (H.R i)).length = _
      rw [hmv, h.st, hov]
      exact List.length_append.symm
theorem fin_inv {H : Hosts} {s₀ s₁ : RSt} {A : Nat → List Int} (hW : ∀ i j, i < 9 → H.W i = some j → j < i) (hA : Inv H s₀ A s₁.rho none) (h1 : s₁.aw = []) (h2 : s₁.st = 0) : ∀ n, n ≤ 9 → FInv H A s₁.rho n (H.eRun s₁ n)
  | 0, _ => ⟨fun _ _ h => absurd h (Nat.not_lt_zero _), fun i _ _ => by simp [Hosts.eRun, chl, gat], by simpa [Hosts.eRun, rts, gat] using h1, by simpa [Hosts.eRun, mvs, gat] using h2⟩
  | n + 1, hn => by
    rw [eRun_succ]
    exact fin_step hW hA (by omega) (fin_inv hW hA h1 h2 n (by omega))
theorem come_rest (cl : List (Option Nat × Int)) : (come cl).aw = [] ∧ (come cl).st = 0 := by
  rw [← List.reverse_reverse cl]
  induction cl.reverse with
  | nil => exact ⟨rfl, rfl⟩
  | cons c l ih =>
    rw [List.reverse_cons, come_step]
    obtain ⟨pl, p⟩ := c
    cases pl <;> exact ih
theorem run_fin_eq {H : Hosts} (hW : ∀ i j, i < 9 → H.W i = some j → j < i) (cl : List (Option Nat × Int)) (h9 : ∀ c ∈ cl, ∀ i, c.1 = some i → i < 9) : runD (H.run cl) = runD (H.fin cl) := by
  obtain ⟨A, hA⟩ := run_inv hW cl h9
  obtain ⟨c1, c2⟩ := come_rest cl
  have hF := fin_inv hW hA c1 c2 9 (Nat.le_refl _)
  have e1 : (H.fin cl).st = (H.run cl).st := by
    show (H.eRun (come cl) 9).st = _
    rw [hF.st, hA.st]
  have e2 : (H.fin cl).aw = (H.run cl).aw := by
    show Srt false (H.eRun (come cl) 9).aw = _
    refine (srt_uniq (b := false) ?_ ?_).symm
    · rw [hF.aw]; exact hA.aw
    · refine List.Pairwise.imp ?_ hA.awS
      intro x y h
      simpa using h
  have e3 : ∀ i, i < 9 → (H.fin cl).rho i = (H.run cl).rho i := by
    intro i hi
    show (H.eRun (come cl) 9).rho i = _
    rw [hF.done i hi (by omega), hA.rho i hi]
  unfold runD
  rw [e1, e2]
  congr 2
  congr 1
  exact List.map_congr_left fun i hi => by rw [e3 i (List.mem_range.mp hi)]
end Mine
end
section
open PySem PySem.W PyProof.Rows
namespace Mine
open PySem.Spec PySem.Calls

section
variable {w : World} {mean : ExcName → Option Value} {mg mb : Str → Option Value} {dp un : Nat} {gd : Option (List Code)} {cn : Str} {mo : List (Str × Const)} {a : Addr} {ccd : Value} {A₀ : Around} {base h₀ : Heap} {L : Addr} {m : Str → Option Value} {s : Shared} {Q : Flow → Shared → Prop} {news : List (Addr × Obj)}

noncomputable def W3 (k : Int) : Int := if k = 0 then 1 else if k = 1 then 2 else 4
noncomputable def T3 (k : Int) (a b c : Tok) : Tok := if k = 0 then a else if k = 1 then b else c
theorem item3 {k : Int} {a b c : Tok} (h0 : 0 ≤ k) (h3 : k < 3) : ([.int 1 a, .int 2 b, .int 4 c] : List Value)[k.toNat]? = some (.int (W3 k) (T3 k a b c)) := by
  have : k = 0 ∨ k = 1 ∨ k = 2 := by omega
  rcases this with rfl | rfl | rfl <;> rfl
noncomputable def seVals (V : List (Str × Value)) (_ : List (Addr × Obj) × Obj) : List (Str × Value) := V
noncomputable def seLed (cW : Addr) (c : List (Addr × Obj) × Obj) : List (Addr × Obj) := c.1 ++ [(cW, c.2)]
noncomputable def seOk (_ : Nat) (c : List (Addr × Obj) × Obj) : Prop := KTab c.1 ∧ ∃ v, c.2.data = .cell v
theorem rc_iterk {kt : List (Addr × Obj)} (hT : KTab kt) : ∀ p ∈ kt, ¬ IterO "tuple_iterator" p.2 := fun p hp =>
  rc_iter0 (ra := fun _ => 0) (aw := 0) (t := 0) hT p (by first | k_mem | simp [rcLed, hp])
theorem se_it {cW : Addr} {c : List (Addr × Obj) × Obj} (h : seOk 0 c) : ∀ p ∈ seLed cW c, ¬ IterO "tuple_iterator" p.2 := by
  intro p hp
  obtain ⟨hT, v, hv⟩ := h
  rcases List.mem_append.mp hp with hp | hp
  · exact rc_iterk hT p hp
  · rw [List.mem_singleton] at hp
    subst hp
    rintro ⟨_, vs, x, t, hd, _⟩
    rw [hv] at hd
    cases hd
theorem cell_apart {h : Heap} {cW L : Addr} {oW : Obj} {v : Option Value} {g : Heap} {l : List (Addr × Obj)} (N : News g L h l) (hm : (cW, oW) ∈ l) (hd : oW.data = .cell v) {p : Addr × Obj} (hp : p ∈ l) (hn : ∀ v, p.2.data ≠ .cell v) : p.1 ≠ cW := by
  intro e
  have h1 := (N p hp).1
  rw [e, (N _ hm).1] at h1
  exact hn v (by rw [← Option.some.inj h1]; exact hd)
theorem kt_nocell {kt : List (Addr × Obj)} (h : KTab kt) : ∀ p ∈ kt, ∀ v, p.2.data ≠ .cell v := by
  intro p hp v e
  rcases h with rfl | ⟨c', oc, vs, t, rfl, h1, _, _⟩
  · rw [List.mem_singleton] at hp
    subst hp
    cases e
  · simp only [List.mem_cons, List.not_mem_nil, or_false] at hp
    rcases hp with rfl | rfl
    · cases e
    · rw [h1] at e
      cases e
theorem dat_list {news : List (Addr × Obj)} {v : Value} {ds : List Dat} (h : DatIn news v (.list ds)) : ∃ a xs k, v = .ref a ∧ (a, listOf xs.toArray k) ∈ news ∧ DatAll news xs ds := by
  cases h with
  | list hm hd => exact ⟨_, _, _, rfl, hm, hd⟩
noncomputable def runL (s : RSt) : List Dat := [.list ((List.range 9).map fun i => .list ((s.rho i).map .int)), .list (s.aw.map .int), .int (s.st : Int)]
theorem dat_run {news : List (Addr × Obj)} {v : Value} {s : RSt} (h : DatIn news v (runD s)) : ∃ a xs k, v = .ref a ∧ (a, listOf xs.toArray k) ∈ news ∧ DatAll news xs (runL s) := dat_list (ds := runL s) h
theorem ints_ok {l : List Int} {n : Nat} : ∀ d ∈ l.map Dat.int, kqdOk n d = true := by
  intro d hd
  obtain ⟨i, _, rfl⟩ := List.mem_map.mp hd
  cases n <;> rfl
theorem runL_ok (s : RSt) : ∀ d ∈ runL s, kqdOk 8 d = true := by
  intro d hd
  simp only [runL, List.mem_cons, List.not_mem_nil, or_false] at hd
  rcases hd with rfl | rfl | rfl
  · refine List.all_eq_true.mpr fun d hd => ?_
    obtain ⟨i, _, rfl⟩ := List.mem_map.mp hd
    exact List.all_eq_true.mpr ints_ok
  · exact List.all_eq_true.mpr ints_ok
  · rfl
theorem tb_ok {tb : Array UInt8} (h : tb.toList.all (fun b => decide (b.toNat < 8)) = true) : ∀ (i : Nat) b, tb[i]? = some b → b.toNat < 8 := by
  intro i b hb
  rw [List.all_eq_true] at h
  exact of_decide_eq_true (h b (by rw [← Array.getElem?_toList] at hb; exact List.mem_of_getElem? hb))
theorem cl_ok {pv : Nat → Option Nat} {po : Nat → Int} {tb : Array UInt8} (hpv : ∀ i, i < 8 → ∀ k, pv i = some k → k < 9) (h : tb.toList.all (fun b => decide (b.toNat < 8)) = true) : ∀ c ∈ clOf pv po tb.toList, ∀ i, c.1 = some i → i < 9 := by
  intro c hc i hi
  obtain ⟨b, hb, rfl⟩ := List.mem_map.mp hc
  rw [List.all_eq_true] at h
  exact hpv _ (of_decide_eq_true (h b hb)) i hi
open Classical in
theorem runs_eq {H : Hosts} {pv : Nat → Option Nat} {po : Nat → Int} {Y : LayD} {news : List (Addr × Obj)} {tb : Array UInt8} (hY : LayOk H pv po Y news) (h : tb.toList.all (fun b => decide (b.toNat < 8)) = true) : (!decide (runL (H.run (clOf pv po tb.toList)) = runL (H.fin (clOf pv po tb.toList)))) = false := by
  have e := run_fin_eq hY.hW (clOf pv po tb.toList) (cl_ok hY.hpv h)
  have e2 : runL (H.run (clOf pv po tb.toList)) = runL (H.fin (clOf pv po tb.toList)) := Dat.list.inj e
  rw [decide_eq_true e2]
  rfl
/-- the last for of the law -/
theorem tup_for {prog : Program} {A : Around} {Q : Flow → Shared → Prop} {env : Env} {target : Expr} {body : List Stmt} {D cW L : Addr} {oW : Obj} {vW : Option Value} {k : Int} {ta tb tc t8 : Tok} {n : Nat} {kt rest more : List (Addr × Obj)} (V : List (Str × Value))
    (hh : A.handled = none) (F : Fr h₀ L s.heap m) (N : News h₀ L s.heap ((D, { cls := .type "tuple", data := .seq #[.int (W3 k) (T3 k ta tb tc), .int 8 t8] n }) :: more)) (hsub : ∀ p ∈ kt ++ ((cW, oW) :: rest), p ∈ more)
    (hT : KTab kt) (hcW : oW.data = .cell vW) (hne : ∀ p ∈ (cW, oW) :: rest, p.1 ≠ 181) (hneW : ∀ p ∈ rest, p.1 ≠ cW) (hm : ∀ p ∈ V, m p.1 = some p.2)
    (turn : ∀ (i wd : Nat) t (o : Obj) v (kt : List (Addr × Obj)) h tk (u : Str → Option Value) (own : List (Addr × Obj)), (wd = 1 ∨ wd = 2 ∨ wd = 4 ∨ wd = 8) → KTab kt → o.data = .cell v → (∀ p ∈ kt ++ (own ++ rest), p.1 ≠ cW) → (∀ p ∈ own ++ rest, p.1 ≠ 181) → cW ≠ 181 → Fr h₀ L h (frV V u) → News h₀ L h ((cW, o) :: (kt ++ (own ++ rest))) →
      wpAny (model prog w) A (assign target env (.int (wd : Int) t)) (fun _ s₂ => wpN (model prog w) A (execs body env) (F2Post h₀ L { s with heap := h, toks := tk } (seVals V) (seLed cW) rest "tuple_iterator" seOk Q i own) s₂) (fun _ _ => False) { s with heap := h, toks := tk })
    (done : ∀ (o : Obj) (kt : List (Addr × Obj)) h tk (u : Str → Option Value), KTab kt → Fr h₀ L h (frV V u) → News h₀ L h (kt ++ ((cW, o) :: rest)) → Q .next { s with heap := h, toks := tk })
    (ht : ∀ it v, letOwnedTupleGo target it v = pure () := by intro _ _; rfl) :
    wpAny (model prog w) A (pyIter (.ref D)) (fun it s₂ => codeN (model prog w) A (.forLoop target it body [] env) Q s₂) (fun _ _ => False) s := by
  have hD := N _ (List.mem_cons_self)
  have mW : (cW, oW) ∈ more := hsub _ (by first | k_mem | simp)
  have m181 : ∃ o, ((181 : Addr), o) ∈ kt := ktab_181 hT
  refine wpAny_pyIter_tuple ⟨_, hD.1, rfl, n, rfl⟩ ?_
  have W := Walks.tuple (prog := prog) (w := w) hh s.heap.objs.size D (Nat.ne_of_lt (Heap.lt_size hD.1)) #[.int (W3 k) (T3 k ta tb tc), .int 8 t8]
  have hDW : D ≠ cW := cell_apart N (List.mem_cons_of_mem _ mW) hcW List.mem_cons_self (fun v e => by cases e)
  have hIW : s.heap.objs.size ≠ cW := fun e => Nat.lt_irrefl _ (e ▸ Heap.lt_size (N _ (List.mem_cons_of_mem _ mW)).1)
  have hD1 : D ≠ 181 := by
    obtain ⟨o, ho⟩ := m181
    intro e
    have h1 := (N _ (List.mem_cons_of_mem _ (hsub _ (List.mem_append_left _ ho)))).1
    rw [← e, hD.1] at h1
    rcases hT with rfl | ⟨c', oc, vs, t, rfl, _, _, h181⟩
    · rw [List.mem_singleton] at ho
      cases ho
      cases h1
    · simp only [List.mem_cons, List.not_mem_nil, or_false] at ho
      rcases ho with ho | ho
      · cases ho
        cases h1
      · cases ho
        exact h181 rfl
  have hI1 : s.heap.objs.size ≠ 181 := by
    obtain ⟨o, ho⟩ := m181
    exact fun e => Nat.lt_irrefl _ (e ▸ Heap.lt_size (N _ (List.mem_cons_of_mem _ (hsub _ (List.mem_append_left _ ho)))).1)
  refine N_for2 (σ := List (Addr × Obj) × Obj) (m := m) (news := more) (seVals V) (seLed cW) rest "tuple_iterator" seOk (kt, oW) W (fun i h st => by obtain ⟨⟨o, ho, hc, hd⟩, _⟩ := st; exact ⟨o, ho, hc, _, _, _, hd, rfl⟩) ?_ (next_is_new F) (fun p hp => Nat.ne_of_lt (Heap.lt_size (N p (List.mem_cons_of_mem _ (hsub p (by first | k_mem | simp [hp])))).1)) ⟨⟨_, Heap.get?_push_size _ rfl, rfl, rfl⟩, ⟨_, Heap.get?_push_of_some _ hD.1, rfl, n, rfl⟩⟩ (F.push _) (fun p hp => ⟨Heap.get?_push_of_some _ (N p (List.mem_cons_of_mem _ hp)).1, (N p (List.mem_cons_of_mem _ hp)).2⟩) hm (fun p hp => hsub p (by simpa [seLed, or_assoc] using hp)) (se_it ⟨hT, _, hcW⟩) ⟨hT, _, hcW⟩ ?_ ?_ (ht _)
  · intro hm
    rcases List.mem_cons.mp hm with e | e
    · exact absurd F.ns.lt (e ▸ Nat.lt_irrefl _)
    · rw [List.mem_singleton] at e
      exact hD.2.1 e.symm
  · intro i v c h tk u own hi hv hP _ hown F' N'
    obtain ⟨kt2, o2⟩ := c
    obtain ⟨hT2, v2, hv2⟩ := hP
    have hown2 : ∀ p ∈ own, p.1 ≠ cW ∧ p.1 ≠ 181 := fun p hp => by
      have := hown p hp
      rcases List.mem_cons.mp this with e | e
      · rw [e]; exact ⟨hIW, hI1⟩
      · rw [List.mem_singleton] at e
        rw [e]; exact ⟨hDW, hD1⟩
    have hval : ∃ (wd : Nat) (t : Tok), v = .int (wd : Int) t ∧ (wd = 1 ∨ wd = 2 ∨ wd = 4 ∨ wd = 8) := by
      have hi2 : i = 0 ∨ i = 1 := by
        have : i < 2 := hi
        omega
      rcases hi2 with rfl | rfl
      · have hv' : some (Value.int (W3 k) (T3 k ta tb tc)) = some v := hv
        cases hv'
        unfold W3
        split
        · exact ⟨1, _, rfl, by simp⟩
        · split
          · exact ⟨2, _, rfl, by simp⟩
          · exact ⟨4, _, rfl, by simp⟩
      · have hv' : some (Value.int 8 t8) = some v := hv
        cases hv'
        exact ⟨8, _, rfl, by simp⟩
    obtain ⟨wd, t, rfl, hwd⟩ := hval
    refine turn i wd t o2 v2 kt2 h tk u own hwd hT2 hv2 ?_ ?_ (hne _ List.mem_cons_self) F' (News.perm N' (by (dsimp only [seLed]; repeat' (first | with_reducible refine sub_app ?_ ?_ | with_reducible refine sub_cons ?_ ?_ | exact sub_nil | (intro _ hz9; k_mem) | k_mem))))
    · intro p hp
      rcases List.mem_append.mp hp with h1 | h1
      · exact cell_apart N' (by first | k_mem | simp [seLed]) hv2 (by first | k_mem | simp [seLed, h1]) (kt_nocell hT2 p h1)
      · rcases List.mem_append.mp h1 with h2 | h2
        · exact (hown2 p h2).1
        · exact hneW p h2
    · intro p hp
      rcases List.mem_append.mp hp with h2 | h2
      · exact (hown2 p h2).2
      · exact hne p (List.mem_cons_of_mem _ h2)
  · intro c h tk u hP F' N'
    exact done c.2 c.1 h tk u hP.1 F' (News.perm N' (by (dsimp only [seLed]; repeat' (first | with_reducible refine sub_app ?_ ?_ | with_reducible refine sub_cons ?_ ?_ | exact sub_nil | (intro _ hz9; k_mem) | k_mem))))
noncomputable def tbA (wd : Nat) : Array UInt8 := ((List.range 8).map fun k => (k + wd - 1 - k % wd * 2).toUInt8).toArray
theorem swap_facts {wd : Nat} (h : wd = 1 ∨ wd = 2 ∨ wd = 4 ∨ wd = 8) : ∃ nn : Nat, Builtin.Range.small 0 8 wd = true ∧ Builtin.Range.rangeSize 0 8 wd = (nn : Int) ∧ (∀ k < nn, k * wd + wd ≤ 8) ∧ 1 ≤ wd ∧ wd ≤ 8 ∧ outA wd nn = tbA wd := by
  rcases h with rfl | rfl | rfl | rfl
  · exact ⟨8, by decide, by decide, by decide, by decide, by decide, by decide⟩
  · exact ⟨4, by decide, by decide, by decide, by decide, by decide, by decide⟩
  · exact ⟨2, by decide, by decide, by decide, by decide, by decide, by decide⟩
  · exact ⟨1, by decide, by decide, by decide, by decide, by decide, by decide⟩
theorem tbA_all {wd : Nat} (h : wd = 1 ∨ wd = 2 ∨ wd = 4 ∨ wd = 8) : (tbA wd).toList.all (fun b => decide (b.toNat < 8)) = true := by
  rcases h with rfl | rfl | rfl | rfl <;> decide
theorem wd_in {wd : Nat} (h : wd = 1 ∨ wd = 2 ∨ wd = 4 ∨ wd = 8) : (∀ n ∈ List.map (fun k' => k' + (wd : Int) - 1 - k'.fmod (wd : Int) * 2) (rangeKs 0 (8 - 0 : Int).toNat), 0 ≤ n ∧ n < 256) ∧ byteArr (List.map (fun k' => k' + (wd : Int) - 1 - k'.fmod (wd : Int) * 2) (rangeKs 0 (8 - 0 : Int).toNat)) = tbA wd := by
  rcases h with rfl | rfl | rfl | rfl <;> exact ⟨by decide, by decide⟩
theorem bytes_wd {prog : Program} {A : Around} {E : Value → Shared → Prop} {wd : Nat} {D : Addr} {ys : List Value} {Q : Value → Shared → Prop} (hwd : wd = 1 ∨ wd = 2 ∨ wd = 4 ∨ wd = 8) (F : Fr h₀ L s.heap m) (N : News h₀ L s.heap news) (hh : A.handled = none) (hm : (D, LCg.lst ys) ∈ news)
    (hI : IntsAre ys (List.map (fun k' => k' + (wd : Int) - 1 - k'.fmod (wd : Int) * 2) (rangeKs 0 (8 - 0 : Int).toNat)))
    (h : ∀ h' t' k, Fr h₀ L h' m → News h₀ L h' news → Q (.bytes (tbA wd) t') { s with heap := h', toks := k }) : wpAny (model prog w) A (call (.type "bytes") [.ref D]) Q E s := by
  obtain ⟨h1, h2⟩ := wd_in hwd
  refine KBa.make_K F N hh (News.isList N hm) hI h1 (by rw [List.length_map, rangeKs_length]; decide) fun h' t' k F' N' _ => ?_
  rw [h2]
  exact h h' t' k F' N'
theorem ne_bytes_same {prog : Program} {A : Around} {E : Value → Shared → Prop} {b : Array UInt8} {t u : Tok} {Q : Value → Shared → Prop} (h : Q (.bool false) s) : wpAny (model prog w) A (compareOp .NotEq (.bytes b t) (.bytes b u)) Q E s := ne_bytes (by rw [bne_self_eq_false]; exact h)
noncomputable abbrev laC (cW cH cD : Addr) : List (Str × Addr) := [(Str.ofString "width", cW), (Str.ofString "hung", cH), (Str.ofString "draws", cD)]
theorem law_E {H : Hosts} {pv : Nat → Option Nat} {po : Nat → Int} {Y1 Y2 : LayD} {cW cH cD dA : Addr} {oW oD : Obj} {vW : Option Value} {ds : List Value} {nD : Nat} {d7 : Int} {t7 : Tok} {kt rest : List (Addr × Obj)}
    (B : Below A₀ base [] h₀) (F : Fr h₀ L s.heap m) (XX : (Mine.fr2 w.params).In h₀) (TT : Top topProg LL mean mg mb h₀) (hd : dp + 40 < recursionLimit) (hu : un + 300 < cLine)
    (N : News h₀ L s.heap (kt ++ ((cW, oW) :: rest))) (hT : KTab kt) (hne : ∀ p ∈ (cW, oW) :: rest, p.1 ≠ 181) (hneW : ∀ p ∈ kt ++ rest, p.1 ≠ cW)
    (hcW : oW.data = .cell vW) (hcD : oD.data = .cell (some (.ref dA))) (mD : (cD, oD) ∈ rest) (mds : (dA, listOf ds.toArray nD) ∈ rest) (h7 : ds[7]? = some (.int d7 t7)) (h70 : 0 ≤ d7) (h79 : d7 < 2 ^ 60)
    (hY1 : LayOk H pv po Y1 rest) (hpv9 : ∀ b i, pv b = some i → i < 9) (hY2 : LayOk H pv po { Y2 with roA := Y1.roA, coA := Y1.coA } rest)
    (hc : CodeHd base (185, 181).fst (185, 181).snd)
    (hm : ∀ p ∈ [(Str.ofString "clients", Value.ref Y1.clA), (Str.ofString "wishes", .ref Y2.clA), (Str.ofString "ways", .ref Y1.wyA), (Str.ofString "up", .ref Y2.wyA), (Str.ofString "rooms", .ref Y1.roA), (Str.ofString "contrary", .ref Y1.coA)], m p.1 = some p.2)
    (ret : ∀ h' tk' m' kt' news', Fr h₀ L h' m' → News h₀ L h' (kt' ++ news') → KTab kt' → Q (.ret (.bool true)) { s with heap := h', toks := tk' }) :
    wpN (model PP w) (ktrTop dp un gd cn (CS (lawN w.params) false false mo) L a ccd (laC cW cH cD) []) (execs ((lawB w.params).drop 18) (envX cn (CS (lawN w.params) false false mo) L a ccd (laC cW cH cD))) Q s := by
  unfold lawB lawN lawAt
  dsimp only [List.drop_succ_cons, List.drop_zero]
  rw [frV_eq hm] at F
  skip
  have h73 : 0 ≤ d7.fmod 3 := Int.fmod_nonneg_of_pos _ (by decide)
  have h74 : d7.fmod 3 < 3 := Int.fmod_lt_of_pos _ (by decide)
  k_with_none
  k_with "eval Name" => (k_here; (fail_if_success (with_reducible show wpAny _ _ (eval _ (compEnvC _ _ _ _)) _ _ _)); first | (refine' nameX_L ?zqF ?zqv ?_ ?zqa ?zqb; (case zqF => k_asm); (case zqa => rfl); (case zqb => rfl); (case zqv => rfl); k_whole) | (refine' nameX_K ?zqF ?zqX ?zqT ?zqe ?_ ?zqa ?zqb; (case zqF => k_asm); (case zqX => k_asm); (case zqT => k_asm); (case zqa => rfl); (case zqb => rfl); (case zqe => k_is); k_whole) | (refine' nameX_B ?zqF ?zqX ?zqT ?zqe ?zqv ?zqn ?_ ?zqa ?zqb; (case zqF => k_asm); (case zqX => k_asm); (case zqT => k_asm); (case zqa => rfl); (case zqb => rfl); (case zqe => k_is); (case zqv => boot_fast); (case zqn => decide); k_whole) | (refine' nameX_C ?zqN ?zqc ?zqm ?zqd ?_ ?zqa ?zqb; (case zqa => rfl); (case zqb => rfl); (case zqN => k_asm); (case zqc => rfl); (case zqm => k_mem); (case zqd => k_asm); k_whole))
  k_with "callWith ref" => (k_here; first | (refine' callWith_K ?zqk1 ?zqk2 ?_; (case zqk1 => k_asm); (case zqk2 => k_is); k_whole) | (refine' callWith_KW ?zqk1 ?zqk2 ?zqk3 ?_; (case zqk1 => k_asm); (case zqk2 => k_is); (case zqk3 => exact rfl); k_whole))
  k_with "storeName" => (k_here; refine' storeX_L ?zqF ?zqN ?_ ?zqa ?zqb; (case zqF => k_asm); (case zqN => k_asm); (case zqa => rfl); (case zqb => rfl); k_whole; intro _ _ _; (try k_sweep))
  k_with "subscriptTail Name Name ref int" => k_extra "subscriptTail"
  k_with "subscriptTail Name Call ref int" => k_extra "subscriptTail"
  k_with "subscriptTail Name Subscript ref int" => k_extra "subscriptTail"
  k_with "subscriptTail" => (k_here; (with_reducible show wpAny _ _ (subscriptTail _ _ (Value.ref _) (Value.int _ _)) _ _ _); (with_unfolding_all refine' sub_list ?k1 ?k2 ?k3 ?_ ?k6); (case k1 => k_asm); (case k2 => k_dflt k_mem); (case k6 => with_unfolding_all rfl); (case k3 => k_extra "item"); k_whole)
  k_with "call builtin:len" => (k_here; (with_reducible show wpAny _ _ (call (Value.builtin "len") [Value.ref _]) _ _ _); (with_unfolding_all refine' len_led ?k1 ?k2 ?k3 ?_); (case k1 => k_asm); (case k2 => k_dflt k_mem); (case k3 => k_extra "len"); k_whole)
  k_with "storeName" => (k_here; (with_reducible show wpAny _ _ (storeName _ (Str.ofString "width") _) _ _ _); k_dflt (k_extra "storew"))
  k_with "compareOp NotEq bytes bytes" => (refine ne_bytes_same ?_)
  k_with "call type:bytes" => ((rename IntsAre _ (List.map _ (rangeKs _ _)) => hI9); (rename Fr _ _ _ _ => lF'); (rename News _ _ _ _ => lN'); (refine' bytes_wd hwd lF' lN' rfl List.mem_cons_self hI9 ?_); (clear lF' lN' hI9); (intro hb tb kb F' N'))
  k_with "call type:bytes" => (k_here; k_dflt (k_extra "bytesr"))
  k_with "call ref" => (k_here; (with_reducible show wpAny _ _ (call (Value.ref _) _ _) _ _ _); k_dflt (k_extra "callref"))
  k_with "compareOp NotEq ref ref" => (k_here; k_dflt (k_extra "ne"))
  k_with "compareOp NotEq ref" => (k_here; k_dflt (k_extra "ne"))
  k_with "pyIter ref" => (k_here; k_dflt (k_extra "itertuple"))
  k_with "item" => first | (exact ⟨by decide, by decide, h7⟩) | (exact ⟨h73, by omega, item3 h73 h74⟩)
  k_with "itertuple" => ((rename Fr _ _ _ _ => lF'); (rename News _ _ _ _ => lN'); (refine' tup_for (kt := kt) (cW := cW) (oW := oW) (rest := rest) [(Str.ofString "clients", Value.ref Y1.clA), (Str.ofString "wishes", .ref Y2.clA), (Str.ofString "ways", .ref Y1.wyA), (Str.ofString "up", .ref Y2.wyA), (Str.ofString "rooms", .ref Y1.roA), (Str.ofString "contrary", .ref Y1.coA)] (by rfl) lF' lN' ?sub hT hcW hne ?hnw ?hm ?turn ?done); (case sub => (intro p hp; exact List.mem_cons_of_mem _ hp)); (case hnw => exact fun p hp => hneW p (List.mem_append_right _ hp)); (case hm => ((rename Fr _ _ _ _ => hvF); refine hv_of hvF ?_; repeat' (first | exact hv_nil | refine hv_cons ?_ ?_ | with_unfolding_all rfl))); (case' turn => (clear lF' lN'); (try clear F); (try clear N); (intro i wd t o v kt2 h tk u own hwd hT2 hv2 hnW hn181 hW181 F' N'; refine NA_gen fun G1 hG1 => ?_); skip); (case' done => (clear lF' lN'); (try clear F); (try clear N); (intro o kt2 h tk u hT2 F' N'); (skip)))
  k_with "storew" => ((refine' storeX_C ?sc1 ?sc2 (by rfl) (UpdF.head hnW) hv2 ?_); (case sc1 => k_asm); (case sc2 => k_asm); (intro h' o9 F' N' hd9))
  k_with "bytesr" => ((rename PySem.IsRange _ _ _ _ _ _ _ _ => lR'); (rename Fr _ _ _ _ => lF'); (rename News _ _ _ _ => lN'); (refine rng_bytes rfl lR' ?_); ((intro hb tb kb kpb; have F' := lF'.keptAll kpb; have N' := lN'.grown kpb; clear lF' lN' lR')))
  k_with "callref" => first
    | ((rename Fr _ _ _ _ => lF); (rename News _ _ _ _ => lN); (have lN2 : News _ _ _ (kt2 ++ ((cW, o9) :: (own ++ rest))) := News.perm lN (by (repeat' (first | with_reducible refine sub_app ?_ ?_ | with_reducible refine sub_cons ?_ ?_ | exact sub_nil | (intro _ hz9; k_mem) | k_mem)))); (refine' c_run (H := H) (pv := pv) (po := po) (Y := Y1) (kt := kt2) (news := (cW, o9) :: (own ++ rest)) ?r1 lF ?r3 lN2 ?r5 ?r6 ?r7 hc hT2 ?r8 (hY1.mono ?r9) ?r11 ?r12 ?_); (case r11 => rfl); (case r12 => exact tb_ok (tbA_all hwd)); (case r1 => k_asm); (case r3 => k_asm); (case r5 => k_asm); (case r6 => ktr_room); (case r7 => ktr_units); (case r8 => (intro p hp; rcases List.mem_cons.mp hp with rfl | h; exact hW181; exact hn181 p h)); (case r9 => (intro p hp; simp [hp])); ((clear lF lN lN2; intro v1 h1 tk1 kt3 n3 F' N' sub3 ne3 hT3 D1; obtain ⟨a1, xs1, k1, rfl, m1, d1⟩ := dat_run D1; replace d1 := Hid.mk d1; clear D1)))
    | ((rename Fr _ _ _ _ => lF); (rename News _ _ _ _ => lN); (refine' c_end (H := H) (pv := pv) (po := po) (Y := { Y2 with roA := Y1.roA, coA := Y1.coA }) ?e1 lF ?e3 lN ?e5 ?e6 ?e7 ?e9 ?e11 ?e12 hpv9 ?_); (case e11 => rfl); (case e12 => exact tb_ok (tbA_all hwd)); (case e1 => k_asm); (case e3 => k_asm); (case e5 => k_asm); (case e6 => ktr_room); (case e7 => ktr_units); (case e9 => exact hY2.mono (fun p hp => List.mem_append_right _ (sub3 p (List.mem_cons_of_mem _ (List.mem_append_right _ hp))))); ((clear lF lN; intro v2 h2 tk2 n4 F' N' dis4 D2)); (obtain ⟨a2, xs2, k2, rfl, m2, d2⟩ := dat_run D2); (replace d2 := Hid.mk d2); (clear D2))
  k_with "ne" => ((rename News _ _ _ _ => lN); (obtain ⟨d1⟩ := d1); (obtain ⟨d2⟩ := d2); (refine' kqd_ne (oa := PySem.W.listOf xs1.toArray k1) (ob := PySem.W.listOf xs2.toArray k2) (xs := xs1) (ys := xs2) lN ?q1 rfl rfl d1 ?q2 m2 rfl rfl d2 ?q3 (runL_ok _) (runL_ok _) ?q4 ?_); (case q1 => exact List.mem_append_right _ (List.mem_append_right _ m1)); (case q2 => exact fun p h => List.mem_append_right _ (List.mem_append_right _ h)); (case q3 => exact fun _ h => h); (case q4 => ktr_units); (rw [runs_eq hY1 (tbA_all hwd)]))
  refine N_execs_cons (N_For ?_)
  k_steps
  · show wpN _ _ (execs _ _) _ _
    refine N_any ?_
    k_steps
    exact ret _ _ _ _ _ F' N' hT2
  · refine N_execs_cons (N_Assign_Name (N_Call ?_))
    k_steps
    refine' X_callWith_K ?ka ?kb ?_
    (case ka => k_asm)
    (case kb => k_is)
    k_steps
    · (rename Fr _ _ _ _ => lF9); exact .mk _ _ lF9
    obtain ⟨nn, q1, q2, q3, q4, q5, q6⟩ := swap_facts hwd
    (refine' c_swap (wd := wd) (nn := nn) ?s1 ?s2 ?s3 ?s4 ?s5 ?s6 ?s7 q1 q2 q3 q4 q5 ?_; (case s1 => k_asm); (case s2 => k_asm); (case s3 => k_asm); (case s4 => k_asm); (case s5 => k_asm); (case s6 => ktr_room); (case s7 => ktr_units))
    intro t' h' tk' F' N'
    rw [q6]
    k_steps
    show wpN _ _ (execs _ _) _ _
    refine N_any ?_
    k_steps
    ((rename News _ _ _ _ => lN); (rename Fr _ _ _ _ => lF))
    refine hG1 _ _ (f2_end (kt3, o9) lF lN ?_ ?_ (se_it ⟨hT3, _, hd9⟩) ⟨hT3, _, hd9⟩)
    · ((rename Fr _ _ _ _ => hvF); refine hv_of hvF ?_; repeat' (first | exact hv_nil | refine hv_cons ?_ ?_ | with_unfolding_all rfl))
    · intro p hp
      simp only [seLed, List.mem_append, List.mem_cons, List.not_mem_nil, or_false] at hp
      refine List.mem_append_right _ ?_
      rcases hp with h | (h | h) | h
      · exact List.mem_append_right _ (sub3 p (List.mem_cons_of_mem _ (List.mem_append_left _ h)))
      · exact List.mem_append_left _ h
      · exact List.mem_append_right _ (sub3 p (h ▸ List.mem_cons_self))
      · exact List.mem_append_right _ (sub3 p (List.mem_cons_of_mem _ (List.mem_append_right _ h)))

end
end Mine
end
section
open PySem PySem.W PyProof.Rows
namespace Mine
open PySem.Spec PySem.Calls

section
variable {w : World} {mean : ExcName → Option Value} {mg mb : Str → Option Value} {dp un : Nat} {gd : Option (List Code)} {cn : Str} {nm : List (Str × NameKind)} {ig ic : Bool} {mo : List (Str × Const)} {a : Addr} {ccd : Value} {cl : List (Str × Addr)} {outer : List Env} {A₀ : Around} {base h₀ : Heap} {L : Addr} {m : Str → Option Value} {s : Shared} {Q E : Value → Shared → Prop} {news : List (Addr × Obj)}

noncomputable def TabOk (r : Nat → Nat) (i : Nat) (T : List Value) : Prop := T.length = 9 ∧ ∀ p < i, ∃ t, T[r p]? = some (.int (p : Int) t)
theorem tab_set {r : Nat → Nat} {i : Nat} {T : List Value} {t : Tok} (h : TabOk r i T) (hi : i < 9) (hr : ∀ p < 9, r p < 9) (inj : ∀ p < 9, ∀ q < 9, r p = r q → p = q) : TabOk r (i + 1) (T.set (r i) (.int (i : Int) t)) := by
  refine ⟨by rw [List.length_set]; exact h.1, fun p hp => ?_⟩
  by_cases e : p = i
  · subst e
    exact ⟨t, List.getElem?_set_self (by rw [h.1]; exact hr p hi)⟩
  · obtain ⟨u, hu⟩ := h.2 p (by omega)
    exact ⟨u, by rw [List.getElem?_set_ne (fun q => e (inj i hi p (by omega) q).symm)]; exact hu⟩
theorem tab_init {v0 v1 v2 v3 v4 v5 v6 v7 v8 : Value} {r : Nat → Nat} : TabOk r 0 [v0, v1, v2, v3, v4, v5, v6, v7, v8] := ⟨rfl, fun _ h => absurd h (Nat.not_lt_zero _)⟩
noncomputable def taVals (nA lA D : Addr) (_ : List Value × Nat) : List (Str × Value) := [(Str.ofString "names", .ref nA), (Str.ofString "line", .ref lA), (Str.ofString "table", .ref D)]
noncomputable def taOk (r : Nat → Nat) (i : Nat) (c : List Value × Nat) : Prop := TabOk r i c.1
theorem ne_two {a D : Addr} {o : Obj} {news : List (Addr × Obj)} (h : a < D ∧ PySem.W.AllLt D news) : ∀ p ∈ (a, o) :: news, p.1 ≠ D := by
  intro p hp
  rcases List.mem_cons.mp hp with rfl | h9
  · exact Nat.ne_of_lt h.1
  · exact Nat.ne_of_lt (allLt_mem h.2 p h9)
theorem tab_for {prog : Program} {w : World} {A : Around} {E : Value → Shared → Prop} {Q : Flow → Shared → Prop} {s : Shared} {env : Env} {h₀ : Heap} {m : Str → Option Value} {news : List (Addr × Obj)} {x : Str} {body : List Stmt} {D nA lA ra : Addr} {T : List Value} {n : Nat} {r : Nat → Nat} {t1 t2 t3 : Tok}
    (hh : A.handled = none) (F : Fr h₀ env.locals s.heap m) (N : News h₀ env.locals s.heap ((D, listOf T.toArray n) :: news)) (hr : IsRange s.heap ra 0 9 1 t1 t2 t3)
    (hm1 : m (Str.ofString "names") = some (.ref nA)) (hm2 : m (Str.ofString "line") = some (.ref lA)) (hm3 : m (Str.ofString "table") = some (.ref D)) (hne : ∀ p ∈ news, p.1 ≠ D) (hd : TabOk r 0 T)
    (turn : ∀ (i : Nat) t (c : List Value × Nat) h tk (u : Str → Option Value) (own : List (Addr × Obj)), i < 9 → TabOk r i c.1 → (∀ p ∈ own ++ news, p.1 ≠ D) → Fr h₀ env.locals h (fun y => if y = x then some (.int ((0 : Int) + i * 1) t) else if y = Str.ofString "names" then some (.ref nA) else if y = Str.ofString "line" then some (.ref lA) else if y = Str.ofString "table" then some (.ref D) else u y) → News h₀ env.locals h ((D, listOf c.1.toArray c.2) :: (own ++ news)) →
      wpAny (model prog w) A (execs body env) (F2Post h₀ env.locals { s with heap := h, toks := tk } (taVals nA lA D) (drLed D) news "range_iterator" (taOk r) Q i own) E { s with heap := h, toks := tk })
    (done : ∀ (c : List Value × Nat) h tk (u : Str → Option Value), TabOk r 9 c.1 → Fr h₀ env.locals h (fun y => if y = Str.ofString "names" then some (.ref nA) else if y = Str.ofString "line" then some (.ref lA) else if y = Str.ofString "table" then some (.ref D) else u y) → News h₀ env.locals h ((D, listOf c.1.toArray c.2) :: news) → Q .next { s with heap := h, toks := tk }) :
    wpAny (model prog w) A (pyIter (.ref ra)) (fun it s₂ => LoopAtV prog w A h₀ env x body Q E it s₂) E s := by
  have hD : D ≠ s.heap.objs.size := Nat.ne_of_lt (Heap.lt_size (N _ List.mem_cons_self).1)
  refine f2_range (σ := List Value × Nat) (nn := 9) (taVals nA lA D) (drLed D) news (taOk r) (T, n) hh F N hr (by decide) (by decide) ?_ (fun _ h => h) (fun p hp => ?_) hd ?_ ?_
  · intro p hp
    simp only [taVals, List.mem_cons, List.not_mem_nil, or_false] at hp
    rcases hp with rfl | rfl | rfl
    · exact hm1
    · exact hm2
    · exact hm3
  · simp only [drLed, List.mem_singleton] at hp
    subst hp
    rintro ⟨h, _⟩
    exact absurd (Value.type.inj h) (by decide)
  · intro i t c h tk u own hi hp _ hown _ F' N'
    skip
    refine turn i t c h tk u own hi hp (fun p hp => ?_) F' (News.perm N' ?_)
    · rcases List.mem_append.mp hp with h1 | h1
      · rw [hown p h1]; exact fun e => hD e.symm
      · exact hne p h1
    · (dsimp only [drLed]; repeat' (first | with_reducible refine sub_app ?_ ?_ | with_reducible refine sub_cons ?_ ?_ | exact sub_nil | (intro _ hz9; k_mem) | k_mem))
  · intro c h tk u hp F' N'
    skip
    exact done c h tk u hp F' N'
theorem c_table {nA lA : Addr} {iN iL : Array Value} {nN nL : Nat} {X Y : Int → Str} {TX TY : Int → Tok} {r : Nat → Nat}
    (B : Below A₀ base outer h₀) (F : Fr h₀ L s.heap m) (XX : (Mine.fr2 w.params).In h₀) (N : News h₀ L s.heap news) (TT : Top topProg LL mean mg mb h₀) (hd : dp + 20 < recursionLimit) (hu : un + 160 < cLine)
    (mN : (nA, listOf iN nN) ∈ news) (mL : (lA, listOf iL nL) ∈ news) (hN : ∀ i : Int, 0 ≤ i → i < 9 → iN.toList[i.toNat]? = some (.str (X i) (TX i))) (lL : iL.toList.length = 9) (hL : ∀ i : Int, 0 ≤ i → i < (9 : Nat) → iL.toList[i.toNat]? = some ((fun i => .str (Y i) (TY i)) i))
    (hr : ∀ p < 9, r p < 9) (inj : ∀ p < 9, ∀ q < 9, r p = r q → p = q) (hS : ∀ p < 9, ∀ i : Int, 0 ≤ i → i < (9 : Nat) → ((fun i => (Y i).cps.toList < (X (p : Nat)).cps.toList) i ↔ i < r p))
    (ret : ∀ h' tk' tA (T : List Value) n news', TabOk r 9 T → (tA, listOf T.toArray n) ∈ news' → Fr h₀ L h' m → News h₀ L h' news' → (∀ p ∈ news, p ∈ news') → Q (.ref tA) { s with heap := h', toks := tk' }) :
    wpAny (model PP w) (ktrTop dp un gd cn (CS nm ig ic mo) L a ccd cl outer) (call (.ref 179) [.ref nA, .ref lA]) Q E s := by
  k_with_none
  k_with "eval Name" => (k_here; (fail_if_success (with_reducible show wpAny _ _ (eval _ (compEnvC _ _ _ _)) _ _ _)); first | (refine' nameX_L ?zqF ?zqv ?_ ?zqa ?zqb; (case zqF => k_asm); (case zqa => rfl); (case zqb => rfl); (case zqv => rfl); k_whole) | (refine' nameX_K ?zqF ?zqX ?zqT ?zqe ?_ ?zqa ?zqb; (case zqF => k_asm); (case zqX => k_asm); (case zqT => k_asm); (case zqa => rfl); (case zqb => rfl); (case zqe => k_is); k_whole) | (refine' nameX_B ?zqF ?zqX ?zqT ?zqe ?zqv ?zqn ?_ ?zqa ?zqb; (case zqF => k_asm); (case zqX => k_asm); (case zqT => k_asm); (case zqa => rfl); (case zqb => rfl); (case zqe => k_is); (case zqv => boot_fast); (case zqn => decide); k_whole) | (refine' nameX_C ?zqN ?zqc ?zqm ?zqd ?_ ?zqa ?zqb; (case zqa => rfl); (case zqb => rfl); (case zqN => k_asm); (case zqc => rfl); (case zqm => k_mem); (case zqd => k_asm); k_whole))
  k_with "callWith ref" => (k_here; first | (refine' callWith_K ?zqk1 ?zqk2 ?_; (case zqk1 => k_asm); (case zqk2 => k_is); k_whole) | (refine' callWith_KW ?zqk1 ?zqk2 ?zqk3 ?_; (case zqk1 => k_asm); (case zqk2 => k_is); (case zqk3 => exact rfl); k_whole))
  k_with "storeName" => (k_here; refine' storeX_L ?zqF ?zqN ?_ ?zqa ?zqb; (case zqF => k_asm); (case zqN => k_asm); (case zqa => rfl); (case zqb => rfl); k_whole; intro _ _ _; (try k_sweep))
  k_with "subscriptTail Name Name ref int" => k_extra "subscriptTail"
  k_with "subscriptTail Name Call ref int" => k_extra "subscriptTail"
  k_with "subscriptTail Name Subscript ref int" => k_extra "subscriptTail"
  k_with "subscriptTail" => (k_here; (with_reducible show wpAny _ _ (subscriptTail _ _ (Value.ref _) (Value.int _ _)) _ _ _); (with_unfolding_all refine' sub_list ?k1 ?k2 ?k3 ?_ ?k6); (case k1 => k_asm); (case k2 => k_dflt k_mem); (case k6 => with_unfolding_all rfl); (case k3 => k_extra "item"); k_whole)
  k_with "call builtin:len" => (k_here; (with_reducible show wpAny _ _ (call (Value.builtin "len") [Value.ref _]) _ _ _); (with_unfolding_all refine' len_led ?k1 ?k2 ?k3 ?_); (case k1 => k_asm); (case k2 => k_dflt k_mem); (case k3 => k_extra "len"); k_whole)
  k_with "setItem ref int" => (k_here; k_dflt (k_extra "set"))
  k_with "call ref" => (k_here; (with_reducible show wpAny _ _ (call (Value.ref _) _ _) _ _ _); k_dflt (k_extra "callref"))
  k_with "pyIter ref" => (k_dflt (k_extra "iterrange"))
  k_with "iterrange" => ((rename Fr _ _ _ _ => lF'); (rename News _ _ _ _ => lN'); (rename PySem.IsRange _ _ _ _ _ _ _ _ => lR'); (refine' tab_for (r := r) (nA := nA) (lA := lA) (by rfl) lF' lN' lR' ?hm1 ?hm2 ?hm3 ?hne tab_init ?turn ?done); (case hm1 => with_unfolding_all rfl); (case hm2 => with_unfolding_all rfl); (case hm3 => with_unfolding_all rfl); (case hne => (rename _ < _ ∧ PySem.W.AllLt _ news => l1; exact ne_two l1)); (case' turn => (clear lF' lN' lR'; intro i t c h tk u own hi hp hne F' N'; rw [show (0 : Int) + (i : Int) * 1 = (i : Int) by omega] at F')); (case' done => (intro c h tk u hp F' N')))
  k_with "item" => exact ⟨by omega, by omega, hN _ (by omega) (by omega)⟩
  k_with "callref" => ((refine' c_bls (its := iL) (n := nL) (len := 9) (r := r i) (X := Y) (T := TY) ?h1 ?h2 ?h3 ?h4 ?h5 ?h6 ?h7 ?h8 lL (by decide) hL (Nat.le_of_lt (hr i hi)) (hS i hi) ?_); (case h1 => k_asm); (case h2 => k_asm); (case h3 => k_asm); (case h4 => k_asm); (case h5 => k_asm); (case h6 => ktr_room); (case h7 => ktr_units); (case h8 => k_dflt k_mem); (intro tt h' tk' F' N'))
  k_with "set" => ((rename News _ _ _ _ => lN9); (refine' r_set ?se1 lN9 hne (by rw [hp.1]; exact hr i hi) (by rw [hp.1]; decide) ?_); (case se1 => k_asm); (intro h' F9 N9))
  k_steps
  · ((rename News _ _ _ _ => lN); (rename Fr _ _ _ _ => lF))
    exact ret _ _ _ c.1 c.2 _ hp (.head _) lF lN (fun p h => List.mem_cons_of_mem _ (List.mem_cons_of_mem _ h))
  · refine dr_end F9 N9 ?_ ?_ ?_
    · ((rename Fr _ _ _ _ => hvF); refine hv_of hvF ?_; repeat' (first | exact hv_nil | refine hv_cons ?_ ?_ | with_unfolding_all rfl))
    · (repeat' (first | with_reducible refine sub_app ?_ ?_ | with_reducible refine sub_cons ?_ ?_ | exact sub_nil | (intro _ hz9; k_mem) | k_mem))
    · exact tab_set hp hi hr inj
end
end Mine
end
section
open PySem PySem.W PyProof.Rows
namespace Mine
theorem parse_ok {x : Str} (h : parseB x = true) : ParseOk x := by
  unfold parseB at h
  rw [Bool.and_eq_true, Bool.and_eq_true] at h
  refine ⟨of_decide_eq_true h.1.1, of_decide_eq_true h.1.2, ?_⟩
  intro y hl hy
  have h2 := h.2
  split at h2
  · rename_i a b c z d e
    have e' : Txt.split (Txt.slice x (some (lpos x)) (some (rpos x))) (Txt.item x (lpos x)) = [a, b, c, z, d] := e
    rw [e'] at hy
    cases hy
    exact of_decide_eq_true h2
  · rename_i hne
    exfalso
    match hq : Txt.split (Txt.slice x (some (lpos x)) (some (rpos x))) (Txt.item x (lpos x)), hl with
    | [a, b, c, z, d], _ => exact hne a b c z d hq
theorem reply_mod (q : Int) (x : Str) : replyP q x = replyP (q.fmod 80) x := by
  have e1 : (q.fmod 80).fmod 16 = q.fmod 16 := by rw [Int.fmod_eq_emod_of_nonneg _ (by decide), Int.fmod_eq_emod_of_nonneg _ (by decide), Int.fmod_eq_emod_of_nonneg _ (by decide)]; exact Int.emod_emod_of_dvd _ (by decide)
  have e2 : (q.fmod 80).fmod 40 = q.fmod 40 := by rw [Int.fmod_eq_emod_of_nonneg _ (by decide), Int.fmod_eq_emod_of_nonneg _ (by decide), Int.fmod_eq_emod_of_nonneg _ (by decide)]; exact Int.emod_emod_of_dvd _ (by decide)
  unfold replyP
  simp only [e1, e2]
theorem said_mod (q : Int) : saidT q = saidT (q.fmod 80) := by
  have e1 : (q.fmod 80).fmod 16 = q.fmod 16 := by rw [Int.fmod_eq_emod_of_nonneg _ (by decide), Int.fmod_eq_emod_of_nonneg _ (by decide), Int.fmod_eq_emod_of_nonneg _ (by decide)]; exact Int.emod_emod_of_dvd _ (by decide)
  have e2 : (q.fmod 80).fmod 40 = q.fmod 40 := by rw [Int.fmod_eq_emod_of_nonneg _ (by decide), Int.fmod_eq_emod_of_nonneg _ (by decide), Int.fmod_eq_emod_of_nonneg _ (by decide)]; exact Int.emod_emod_of_dvd _ (by decide)
  unfold saidT
  simp only [e1, e2]
theorem mod80 (q : Int) : ∃ n : Fin 80, q.fmod 80 = (n.val : Int) := by
  have h1 : 0 ≤ q.fmod 80 := Int.fmod_nonneg_of_pos _ (by decide)
  obtain ⟨n, hn⟩ := Int.eq_ofNat_of_zero_le h1
  have h2 : q.fmod 80 < 80 := Int.fmod_lt_of_pos _ (by decide)
  exact ⟨⟨n, Int.ofNat_lt.mp (hn ▸ h2)⟩, hn⟩
/-- what is read is what was said, whatever the draw and the mark -/
theorem read_reply (q : Int) (k : Nat) (hk : k < 4) : readT (replyP q (marks.getD k Str.empty)) = saidT q ∧ ParseOk (replyP q (marks.getD k Str.empty)) := by
  obtain ⟨n, hn⟩ := mod80 q
  rw [reply_mod, said_mod, hn]
  exact ⟨read_all n ⟨k, hk⟩, parse_ok (parse_all n ⟨k, hk⟩)⟩
theorem saidD_eq (q : Int) (x : Str) : saidD q x = readD (saidT q) x := by
  unfold saidD saidT readD
  split
  · rfl
  · split
    · rfl
    · split <;> rfl
end Mine
end
section
open PySem PySem.W PyProof.Rows
namespace Mine
open PySem.Spec PySem.Calls
/-- a pair's object -/
noncomputable def IsTup (o : Obj) : Prop := ∃ x y n, o = tup2 x y n
theorem IsTup.iter {o : Obj} {c : String} (h : IsTup o) : ¬ IterO c o := by
  obtain ⟨x, y, n, rfl⟩ := h
  rintro ⟨_, vs', x, t, hd, _⟩
  cases hd
theorem IsTup.ne_list {h₀ h : Heap} {L : Addr} {l : List (Addr × Obj)} (N : News h₀ L h l) {p : Addr × Obj} {a : Addr} {its : Array Value} {k : Nat} (hp : p ∈ l) (ht : IsTup p.2) (ha : (a, listOf its k) ∈ l) : p.1 ≠ a := by
  intro e
  have := news_one N hp ha e
  obtain ⟨x, y, n, e2⟩ := ht
  rw [e2] at this
  have h3 := congrArg Obj.cls this
  exact absurd (Value.type.inj h3) (by decide)
theorem IsTup.nocell {o : Obj} (h : IsTup o) : ∀ v, o.data ≠ .cell v := by
  obtain ⟨x, y, n, rfl⟩ := h
  intro v e
  cases e
/-- the first places of a list of pairs -/
noncomputable def PairsAt (pv : Nat → Option Nat) (po : Nat → Int) (i : Nat) (vs : List Value) (tl : List (Addr × Obj)) : Prop :=
  vs.length = i ∧ ∀ j < i, ∃ a n tv tp, vs[j]? = some (.ref a) ∧ (a, tup2 (optV (pv j) tv) (.int (po j) tp) n) ∈ tl
theorem PairsAt.nil {pv : Nat → Option Nat} {po : Nat → Int} {tl : List (Addr × Obj)} : PairsAt pv po 0 [] tl := ⟨rfl, fun _ h => absurd h (Nat.not_lt_zero _)⟩
theorem PairsAt.snoc {pv : Nat → Option Nat} {po : Nat → Int} {i : Nat} {vs : List Value} {tl tl' : List (Addr × Obj)} {a : Addr} {n : Nat} {tv tp : Tok} (h : PairsAt pv po i vs tl) (hs : ∀ p ∈ tl, p ∈ tl') (hm : (a, tup2 (optV (pv i) tv) (.int (po i) tp) n) ∈ tl') : PairsAt pv po (i + 1) (vs ++ [.ref a]) tl' := by
  refine ⟨by rw [List.length_append, h.1]; rfl, fun j hj => ?_⟩
  by_cases e : j = i
  · subst e
    exact ⟨a, n, tv, tp, by rw [List.getElem?_append_right (by rw [h.1]; exact Nat.le_refl _), h.1, Nat.sub_self]; rfl, hm⟩
  · obtain ⟨b, k, t1, t2, h1, h2⟩ := h.2 j (by omega)
    exact ⟨b, k, t1, t2, by rw [List.getElem?_append_left (by rw [h.1]; omega)]; exact h1, hs _ h2⟩
structure CL where
  cs : List Value
  nc : Nat
  ws : List Value
  nw : Nat
  tl : List (Addr × Obj)
noncomputable def clOk (pv : Nat → Option Nat) (po : Nat → Int) (i : Nat) (c : CL) : Prop := PairsAt pv po i c.cs c.tl ∧ PairsAt pv po i c.ws c.tl ∧ ∀ p ∈ c.tl, IsTup p.2
noncomputable def clVals (V : List (Str × Value)) (_ : CL) : List (Str × Value) := V
noncomputable def clLed (cA wA : Addr) (c : CL) : List (Addr × Obj) := (cA, listOf c.cs.toArray c.nc) :: (wA, listOf c.ws.toArray c.nw) :: c.tl
theorem list_noiter {vs : Array Value} {n : Nat} {c : String} : ¬ IterO c (listOf vs n) := by
  rintro ⟨_, vs', x, t, hd, _⟩
  cases hd
theorem cl_it {cA wA : Addr} {c : CL} (h : ∀ p ∈ c.tl, IsTup p.2) {k : String} : ∀ p ∈ clLed cA wA c, ¬ IterO k p.2 := by
  intro p hp
  simp only [clLed, List.mem_cons] at hp
  rcases hp with rfl | rfl | hp
  · exact list_noiter
  · exact list_noiter
  · exact (h p hp).iter
theorem clOk.snoc {pv : Nat → Option Nat} {po : Nat → Int} {i : Nat} {c : CL} {a b : Addr} {n1 n2 : Nat} {t1 t2 t3 t4 : Tok} (h : clOk pv po i c) :
    clOk pv po (i + 1) ⟨c.cs ++ [.ref a], c.nc + 1, c.ws ++ [.ref b], c.nw + 1, (a, tup2 (optV (pv i) t1) (.int (po i) t2) n1) :: (b, tup2 (optV (pv i) t3) (.int (po i) t4) n2) :: c.tl⟩ := by
  refine ⟨h.1.snoc (fun p hp => by simp [hp]) List.mem_cons_self, h.2.1.snoc (fun p hp => by simp [hp]) (List.mem_cons_of_mem _ List.mem_cons_self), ?_⟩
  intro p hp
  simp only [List.mem_cons] at hp
  rcases hp with rfl | rfl | hp
  · exact ⟨_, _, _, rfl⟩
  · exact ⟨_, _, _, rfl⟩
  · exact h.2.2 p hp
section
variable {prog : Program} {w : World} {A : Around} {s : Shared} {h₀ : Heap} {L : Addr} {m : Str → Option Value}
/-- two like pairs are not unlike -/
theorem ne_told {E : Value → Shared → Prop} {Q : Value → Shared → Prop} {news : List (Addr × Obj)} {a b : Addr} {z : Str} {x : Int} {t1 t2 t3 t4 : Tok} {n1 n2 : Nat} (N : News h₀ L s.heap news) (m1 : (a, tup2 (.str z t1) (.int x t2) n1) ∈ news) (m2 : (b, tup2 (.str z t3) (.int x t4) n2) ∈ news)
    (hz : PyData.strOk z = true) (hu : A.units + 64 < cLine) (h : Q (.bool false) s) : wpAny (model prog w) A (compareOp .NotEq (.ref a) (.ref b)) Q E s := by
  have hk : ∀ d ∈ ([.str z, .int x] : List Dat), kqdOk 8 d = true := by
    intro d hd
    simp only [List.mem_cons, List.not_mem_nil, or_false] at hd
    rcases hd with rfl | rfl
    · exact hz
    · rfl
  have D1 : DatAll news [.str z t1, .int x t2] [.str z, .int x] := .cons (.str _ _) (.cons (.int _ _) .nil)
  have D2 : DatAll news [.str z t3, .int x t4] [.str z, .int x] := .cons (.str _ _) (.cons (.int _ _) .nil)
  obtain ⟨as, ra⟩ := kqd_all N 8 D1 hk
  obtain ⟨bs, rb⟩ := kqd_all N 8 D2 hk
  have la := kqd_lay 9 (.tuple [.str z, .int x]) (by simpa [kqdOk] using hz)
  rw [kqdP] at la
  have e : PyData.eqv (.tuple (kqdPs [.str z, .int x])) (.tuple (kqdPs [.str z, .int x])) = true := by
    have q := kqd_eqv 9 (.tuple [.str z, .int x]) (.tuple [.str z, .int x]) 9 (by simpa [kqdOk] using hz) (by simpa [kqdOk] using hz)
    rw [kqdP] at q
    exact q.mpr rfl
  have g := la
  refine ne_dataH (reads_tuple_at (N.get m1) rfl rfl (by simpa using ra)) (reads_tuple_at (N.get m2) rfl rfl (by simpa using rb)) ?_ ?_ hu (by rw [e]; exact h)
  · unfold SeqAt.shaped; rw [la.1, Bool.true_and]; exact decide_eq_true (Nat.le_trans la.2 (by decide))
  · unfold SeqAt.shaped; rw [la.1, Bool.true_and]; exact decide_eq_true (Nat.le_trans la.2 (by decide))
theorem ne_same {E : Value → Shared → Prop} {Q : Value → Shared → Prop} {x : Str} {t u : Tok} (h : Q (.bool false) s) : wpAny (model prog w) A (compareOp .NotEq (.str x t) (.str x u)) Q E s :=
  ne_str (by rw [bne_self_eq_false]; exact h)
theorem dat_tup2 {news : List (Addr × Obj)} {v : Value} {z : Str} {x : Int} (h : DatIn news v (.tuple [.str z, .int x])) : ∃ a t t' n, v = .ref a ∧ (a, tup2 (.str z t) (.int x t') n) ∈ news := by
  cases h with
  | tuple hm hd =>
    cases hd with
    | cons h1 h2 =>
      cases h1
      cases h2 with
      | cons h3 h4 =>
        cases h3
        cases h4
        exact ⟨_, _, _, _, rfl, hm⟩
theorem dat_str {news : List (Addr × Obj)} {v : Value} {z : Str} (h : DatIn news v (.str z)) : ∃ t, v = .str z t := by
  cases h
  exact ⟨_, rfl⟩
theorem t_append {E : Value → Shared → Prop} {Q : Value → Shared → Prop} {l : Addr} {vs : List Value} {n : Nat} {rest : List (Addr × Obj)} {x : Value} (F : Fr h₀ L s.heap m) (N : News h₀ L s.heap ((l, listOf vs.toArray n) :: rest)) (hne : ∀ p ∈ rest, p.1 ≠ l) (h20 : vs.length < 20)
    (ret : ∀ h', Fr h₀ L h' m → News h₀ L h' ((l, listOf (vs ++ [x]).toArray (n + 1)) :: rest) → Q .none { s with heap := h' }) : wpAny (model prog w) A (call (.builtin "list.append") [.ref l, x]) Q E s := by
  refine append_K (its := vs.toArray) (n := n) F N (.head hne) (fun h' F' N' => ret _ F' (by simpa using N')) ?_
  rw [List.size_toArray]; exact Nat.le_trans (by omega) sz20
theorem t_app1 {E : Value → Shared → Prop} {Q : Value → Shared → Prop} {cA wA : Addr} {T : Addr × Obj} {c : CL} {own fix more : List (Addr × Obj)} {x : Value} (F : Fr h₀ L s.heap m) (N : News h₀ L s.heap (T :: more)) (hT : IsTup T.2)
    (hsub : ∀ p ∈ (cA, listOf c.cs.toArray c.nc) :: (wA, listOf c.ws.toArray c.nw) :: (own ++ (c.tl ++ fix)), p ∈ T :: more) (hown : ∀ p ∈ own ++ (c.tl ++ fix), p.1 ≠ cA ∧ p.1 ≠ wA) (hcw : cA ≠ wA) (h20 : c.cs.length < 20)
    (ret : ∀ h', Fr h₀ L h' m → News h₀ L h' ((cA, listOf (c.cs ++ [x]).toArray (c.nc + 1)) :: T :: (wA, listOf c.ws.toArray c.nw) :: (own ++ (c.tl ++ fix))) → Q .none { s with heap := h' }) : wpAny (model prog w) A (call (.builtin "list.append") [.ref cA, x]) Q E s := by
  refine t_append (n := c.nc) (rest := T :: (wA, listOf c.ws.toArray c.nw) :: (own ++ (c.tl ++ fix))) F (News.perm N ?_) ?_ h20 ret
  · intro p hp
    simp only [List.mem_cons] at hp
    rcases hp with h | h | h | h
    · exact hsub _ (h ▸ List.mem_cons_self)
    · exact h ▸ List.mem_cons_self
    · exact hsub _ (h ▸ List.mem_cons_of_mem _ List.mem_cons_self)
    · exact hsub _ (List.mem_cons_of_mem _ (List.mem_cons_of_mem _ h))
  · intro p hp
    simp only [List.mem_cons] at hp
    rcases hp with h | h | h
    · subst h
      exact hT.ne_list N List.mem_cons_self (hsub _ List.mem_cons_self)
    · rw [h]; exact fun e => hcw e.symm
    · exact (hown p h).1
theorem t_app2 {E : Value → Shared → Prop} {Q : Value → Shared → Prop} {cA wA : Addr} {T1 T2 : Addr × Obj} {c : CL} {own fix : List (Addr × Obj)} {x : Value} {vsC : List Value} {nC : Nat} (F : Fr h₀ L s.heap m) (N : News h₀ L s.heap (T2 :: (cA, listOf vsC.toArray nC) :: T1 :: (wA, listOf c.ws.toArray c.nw) :: (own ++ (c.tl ++ fix)))) (hT2 : IsTup T2.2) (hT1 : IsTup T1.2)
    (hown : ∀ p ∈ own ++ (c.tl ++ fix), p.1 ≠ cA ∧ p.1 ≠ wA) (hcw : cA ≠ wA) (h20 : c.ws.length < 20)
    (ret : ∀ h', Fr h₀ L h' m → News h₀ L h' ((wA, listOf (c.ws ++ [x]).toArray (c.nw + 1)) :: T2 :: (cA, listOf vsC.toArray nC) :: T1 :: (own ++ (c.tl ++ fix))) → Q .none { s with heap := h' }) : wpAny (model prog w) A (call (.builtin "list.append") [.ref wA, x]) Q E s := by
  refine t_append (n := c.nw) (rest := T2 :: (cA, listOf vsC.toArray nC) :: T1 :: (own ++ (c.tl ++ fix))) F (News.perm N ?_) ?_ h20 ret
  · (repeat' (first | with_reducible refine sub_app ?_ ?_ | with_reducible refine sub_cons ?_ ?_ | exact sub_nil | (intro _ hz9; k_mem) | k_mem))
  · intro p hp
    simp only [List.mem_cons] at hp
    rcases hp with h | h | h | h
    · subst h
      exact hT2.ne_list N (its := c.ws.toArray) (k := c.nw) List.mem_cons_self (by first | k_mem | simp)
    · rw [h]; exact hcw
    · subst h
      exact hT1.ne_list N (its := c.ws.toArray) (k := c.nw) (by first | k_mem | simp) (by first | k_mem | simp)
    · exact (hown p h).2
theorem mark_item {k : Int} (h0 : 0 ≤ k) (h4 : k < 4) : Txt.item (Str.ofString "|!; ") k = marks.getD k.toNat Str.empty := by
  have : k = 0 ∨ k = 1 ∨ k = 2 ∨ k = 3 := by omega
  rcases this with rfl | rfl | rfl | rfl <;> decide
theorem marks_one : ∀ k, k < 4 → (marks.getD k Str.empty).length ≤ 1 ∧ (Txt.mul (marks.getD k Str.empty) 3).length ≤ 3 := by decide
theorem N_execs_split {M : Model} {env : Env} (n : Nat) {l : List Stmt} {Q : Flow → Shared → Prop} (h : wpAny M A (execs (l.take n) env) (fun f s' => match f with | .next => wpN M A (execs (l.drop n) env) Q s' | f => Q f s') (fun _ _ => False) s) : wpN M A (execs l env) Q s := X_execs_split n h
/-- the for over the last draws -/
theorem cli_for {Q : Flow → Shared → Prop} {env : Env} {target : Expr} {body : List Stmt} {D cA wA : Addr} {ds : List Value} {nD n1 n2 : Nat} {pv : Nat → Option Nat} {po : Nat → Int} {fix more : List (Addr × Obj)} (V : List (Str × Value))
    (hh : A.handled = none) (F : Fr h₀ L s.heap m) (N : News h₀ L s.heap more) (mD : (D, listOf ds.toArray nD) ∈ more) (hD1 : D ≠ cA) (hD2 : D ≠ wA) (hcw : cA ≠ wA)
    (mC : (cA, listOf #[] n1) ∈ more) (mW : (wA, listOf #[] n2) ∈ more) (hfix : ∀ p ∈ fix, p ∈ more) (hf : ∀ p ∈ fix, p.1 ≠ cA ∧ p.1 ≠ wA) (hm : ∀ p ∈ V, m p.1 = some p.2)
    (turn : ∀ (i : Nat) v (c : CL) h tk (u : Str → Option Value) (own : List (Addr × Obj)), ds[i]? = some v → clOk pv po i c → (∀ p ∈ own ++ (c.tl ++ fix), p.1 ≠ cA ∧ p.1 ≠ wA) → Fr h₀ L h (frV V u) → News h₀ L h ((cA, listOf c.cs.toArray c.nc) :: (wA, listOf c.ws.toArray c.nw) :: (own ++ (c.tl ++ fix))) →
      wpAny (model prog w) A (assign target env v) (fun _ s₂ => wpN (model prog w) A (execs body env) (F2Post h₀ L { s with heap := h, toks := tk } (clVals V) (clLed cA wA) fix "list_iterator" (clOk pv po) Q i own) s₂) (fun _ _ => False) { s with heap := h, toks := tk })
    (done : ∀ (c : CL) h tk (u : Str → Option Value), clOk pv po ds.length c → Fr h₀ L h (frV V u) → News h₀ L h ((cA, listOf c.cs.toArray c.nc) :: (wA, listOf c.ws.toArray c.nw) :: (c.tl ++ fix)) → Q .next { s with heap := h, toks := tk })
    (ht : ∀ it v, letOwnedTupleGo target it v = pure () := by intro _ _; rfl) :
    wpAny (model prog w) A (pyIter (.ref D)) (fun it s₂ => codeN (model prog w) A (.forLoop target it body [] env) Q s₂) (fun _ _ => False) s := by
  have hD := N _ mD
  have hls : s.heap.IsList D ds.toArray := ⟨_, hD.1, rfl, nD, rfl⟩
  refine wpAny_pyIter_list hls ?_
  have W := Walks.list (prog := prog) (w := w) hh s.heap.objs.size D (Nat.ne_of_lt (Heap.lt_size hD.1)) ds.toArray
  have hIC : s.heap.objs.size ≠ cA := fun e => Nat.lt_irrefl _ (e ▸ Heap.lt_size (N _ mC).1)
  have hIW : s.heap.objs.size ≠ wA := fun e => Nat.lt_irrefl _ (e ▸ Heap.lt_size (N _ mW).1)
  refine N_for2 (σ := CL) (m := m) (news := more) (clVals V) (clLed cA wA) fix "list_iterator" (clOk pv po) ⟨[], n1, [], n2, []⟩ W (fun i h st => by obtain ⟨⟨o, ho, hc, hd⟩, _⟩ := st; exact ⟨o, ho, hc, _, _, _, hd, rfl⟩) ?_ (next_is_new F) (fun p hp => Nat.ne_of_lt (Heap.lt_size (N p (hfix p hp)).1)) ⟨⟨_, Heap.get?_push_size _ rfl, rfl, rfl⟩, hls.at fun o e => Heap.get?_push_of_some _ e⟩ (F.push _) (fun p hp => ⟨Heap.get?_push_of_some _ (N p hp).1, (N p hp).2⟩) hm ?_ (cl_it fun _ h => absurd h List.not_mem_nil) ⟨.nil, .nil, fun _ h => absurd h List.not_mem_nil⟩ ?_ ?_ (ht _)
  · intro hm
    rcases List.mem_cons.mp hm with e | e
    · exact absurd F.ns.lt (e ▸ Nat.lt_irrefl _)
    · rw [List.mem_singleton] at e
      exact hD.2.1 e.symm
  · intro p hp
    simp only [clLed, List.mem_append, List.mem_cons, List.not_mem_nil, or_false] at hp
    rcases hp with (h | h) | h
    · rw [h]; exact mC
    · rw [h]; exact mW
    · exact hfix p h
  · intro i v c h tk u own hi hv hP _ hown F' N'
    have N2 : News h₀ L h ((cA, listOf c.cs.toArray c.nc) :: (wA, listOf c.ws.toArray c.nw) :: (own ++ (c.tl ++ fix))) := News.perm N' (by
      (dsimp only [clLed]; repeat' (first | with_reducible refine sub_app ?_ ?_ | with_reducible refine sub_cons ?_ ?_ | exact sub_nil | (intro _ hz9; k_mem) | k_mem)))
    refine turn i v c h tk u own (by simpa using hv) hP ?_ F' N2
    intro p hp
    rcases List.mem_append.mp hp with h1 | h1
    · rcases List.mem_cons.mp (hown p h1) with e | e
      · rw [e]; exact ⟨hIC, hIW⟩
      · rw [List.mem_singleton] at e
        rw [e]; exact ⟨hD1, hD2⟩
    · rcases List.mem_append.mp h1 with h2 | h2
      · exact ⟨(hP.2.2 p h2).ne_list N2 (by first | k_mem | simp [h2]) (List.mem_cons_self), (hP.2.2 p h2).ne_list N2 (by first | k_mem | simp [h2]) (List.mem_cons_of_mem _ List.mem_cons_self)⟩
      · exact hf p h2
  · intro c h tk u hP F' N'
    refine done c h tk u (by simpa using hP) F' (News.perm N' ?_)
    (dsimp only [clLed]; repeat' (first | with_reducible refine sub_app ?_ ?_ | with_reducible refine sub_cons ?_ ?_ | exact sub_nil | (intro _ hz9; k_mem) | k_mem))
end
end Mine
end
section
open PySem PySem.W PyProof.Rows
namespace Mine
open PySem.Spec PySem.Calls

section
variable {w : World} {mean : ExcName → Option Value} {mg mb : Str → Option Value} {dp un : Nat} {gd : Option (List Code)} {cn : Str} {mo : List (Str × Const)} {a : Addr} {ccd : Value} {A₀ : Around} {base h₀ : Heap} {L : Addr} {m : Str → Option Value} {s : Shared} {Q : Flow → Shared → Prop} {news : List (Addr × Obj)}

/-- where the hosts lie -/
structure HostOk (H : Hosts) (Y : LayD) (news : List (Addr × Obj)) : Prop where
  mW : (Y.wyA, listOf Y.iW Y.nW) ∈ news
  mR : (Y.roA, listOf Y.iR Y.nR) ∈ news
  mCo : (Y.coA, listOf Y.iCo Y.nCo) ∈ news
  lW : Y.iW.toList.length = 9
  lR : Y.iR.size = 9
  gW : ∀ i : Nat, i < 9 → Y.iW.toList[i]? = some (optV (H.W i) (Y.tw i))
  gR : ∀ i : Nat, i < 9 → Y.iR.toList[i]? = some (.int (H.R i) (Y.tr i))
  gCo : ∀ i : Nat, i < 9 → Y.iCo.toList[i]? = some (.bool (H.C i))
  hW : ∀ i j, i < 9 → H.W i = some j → j < i
  hR : ∀ i, i < 9 → H.R i ≤ 2
noncomputable def pvD (dl : Nat → Int) (j : Nat) : Option Nat := if ((dl (8 + j)).fdiv 9).fmod 16 < 10 then some ((dl (8 + j)).fmod 9).toNat else none
noncomputable def poD (dl : Nat → Int) (j : Nat) : Int := if ((dl (8 + j)).fdiv 9).fmod 16 < 10 then ((dl (8 + j)).fdiv 9).fmod 40 else 0
theorem pvD_9 (dl : Nat → Int) : ∀ j i, pvD dl j = some i → i < 9 := by
  intro j i h
  unfold pvD at h
  split at h
  · cases h
    have h1 : 0 ≤ (dl (8 + j)).fmod 9 := Int.fmod_nonneg_of_pos _ (by decide)
    have h2 : (dl (8 + j)).fmod 9 < 9 := Int.fmod_lt_of_pos _ (by decide)
    omega
  · cases h
theorem poD_100 (dl : Nat → Int) (j : Nat) : 0 ≤ poD dl j ∧ poD dl j < 100 := by
  unfold poD
  split
  · have h1 : 0 ≤ ((dl (8 + j)).fdiv 9).fmod 40 := Int.fmod_nonneg_of_pos _ (by decide)
    have h2 : ((dl (8 + j)).fdiv 9).fmod 40 < 40 := Int.fmod_lt_of_pos _ (by decide)
    omega
  · omega
theorem pairs_fun {pv : Nat → Option Nat} {po : Nat → Int} {vs : List Value} {tl : List (Addr × Obj)} (h : PairsAt pv po 8 vs tl) : ∃ (ca : Nat → Addr) (nT : Nat → Nat) (tv tp : Nat → Tok), ∀ i : Nat, i < 8 → vs[i]? = some (.ref (ca i)) ∧ (ca i, tup2 (optV (pv i) (tv i)) (.int (po i) (tp i)) (nT i)) ∈ tl := by
  have : ∀ i : Nat, ∃ q : Addr × Nat × Tok × Tok, i < 8 → vs[i]? = some (.ref q.1) ∧ (q.1, tup2 (optV (pv i) q.2.2.1) (.int (po i) q.2.2.2) q.2.1) ∈ tl := by
    intro i
    by_cases hi : i < 8
    · obtain ⟨a, n, tv, tp, h1, h2⟩ := h.2 i hi
      exact ⟨(a, n, tv, tp), fun _ => ⟨h1, h2⟩⟩
    · exact ⟨(0, 0, 0, 0), fun h => absurd h hi⟩
  obtain ⟨f, hf⟩ := Classical.axiomOfChoice this
  exact ⟨fun i => (f i).1, fun i => (f i).2.1, fun i => (f i).2.2.1, fun i => (f i).2.2.2, hf⟩
theorem ints_get {vs : List Value} {ns : List Int} {i : Nat} {v : Value} (h : IntsAre vs ns) (hv : vs[i]? = some v) : i < ns.length ∧ ∃ t, v = .int (ns.getD i 0) t := by
  obtain ⟨T, hT⟩ := ints_fun h
  have hl := ints_len h
  have hi : i < ns.length := by rw [← hl]; exact (List.getElem?_eq_some_iff.mp hv).1
  have h2 := hT i hi
  rw [h2] at hv
  cases hv
  exact ⟨hi, _, rfl⟩
theorem fresh_ne {l : List (Addr × Obj)} {n : Addr} (h : ∀ p ∈ l, p.1 < n) : ∀ p ∈ l, p.1 ≠ n := fun p hp => Nat.ne_of_lt (h p hp)
theorem drop_get (dl : Nat → Int) {i : Nat} (hi : i < 8) : (List.drop 8 (List.map dl (List.range 16))).getD i 0 = dl (8 + i) := by
  rw [List.getD_eq_getElem?_getD, List.getElem?_drop, List.getElem?_map, List.getElem?_range (by omega)]
  rfl
theorem said_cases (q : Int) : (q.fmod 16 < 10 ∧ (∀ z, readD (saidT q) z = .tuple [.str z, .int (q.fmod 40)]) ∧ (saidT q).1 ≠ 3) ∨ (¬ q.fmod 16 < 10 ∧ ∃ y, (∀ z, readD (saidT q) z = .str y) ∧ (saidT q).1 ≠ 3) ∨ (¬ q.fmod 16 < 10 ∧ (∀ z, readD (saidT q) z = .str (Str.ofString "no number")) ∧ (saidT q).1 = 3) := by
  by_cases h : q.fmod 16 < 10
  · refine .inl ⟨h, ?_, ?_⟩ <;> unfold saidT <;> rw [if_pos h]
    · intro z; rfl
    · show (0 : Nat) ≠ 3
      decide
  · by_cases h2 : q.fmod 16 = 10
    · refine .inr (.inl ⟨h, Str.ofString "another reply", ?_, ?_⟩) <;> unfold saidT <;> rw [if_neg h, if_pos h2]
      · intro z; rfl
      · decide
    · by_cases h3 : q.fmod 16 = 15
      · refine .inr (.inr ⟨h, ?_, ?_⟩) <;> unfold saidT <;> rw [if_neg h, if_neg h2, if_pos h3]
        intro z; rfl
      · refine .inr (.inl ⟨h, Str.ofString "no form", ?_, ?_⟩) <;> unfold saidT <;> rw [if_neg h, if_neg h2, if_neg h3]
        · intro z; rfl
        · decide
theorem tab_get {r : Nat → Nat} {T : List Value} (h : TabOk r 9 T) {p : Nat} (hp : p < 9) : ∃ t, T[((r p : Nat) : Int).toNat]? = some (.int (p : Int) t) := h.2 p hp
theorem cl_end {pv : Nat → Option Nat} {po : Nat → Int} {cA wA a b : Addr} {n1 n2 i tk : Nat} (t1 t3 : Tok) {t2 t4 : Tok} {c : CL} {own fix : List (Addr × Obj)} {h' : Heap} {m' : Str → Option Value} {V : List (Str × Value)} {ov : Option Nat} {xo : Int} (hc : clOk pv po i c) (F : Fr h₀ L h' m') (ev : pv i = ov) (eo : po i = xo)
    (N : News h₀ L h' ((wA, listOf (c.ws ++ [Value.ref b]).toArray (c.nw + 1)) :: (b, tup2 (optV ov t3) (.int xo t4) n2) :: (cA, listOf (c.cs ++ [Value.ref a]).toArray (c.nc + 1)) :: (a, tup2 (optV ov t1) (.int xo t2) n1) :: (own ++ (c.tl ++ fix))))
    (hm : ∀ p ∈ V, m' p.1 = some p.2) : F2End h₀ L s (clVals V) (clLed cA wA) fix "list_iterator" (clOk pv po) i own { s with heap := h', toks := tk } := by
  subst ev eo
  have h2 := hc.snoc (a := a) (b := b) (n1 := n1) (n2 := n2) (t1 := t1) (t2 := t2) (t3 := t3) (t4 := t4)
  refine f2_end _ F N hm ?_ (cl_it h2.2.2) h2
  intro p hp
  dsimp only [clLed] at hp ⊢
  refine sub_of hp ?_
  (repeat' (first | with_reducible refine sub_app ?_ ?_ | with_reducible refine sub_cons ?_ ?_ | exact sub_nil | (intro _ hz9; k_mem) | k_mem))
theorem kt_notup {g h : Heap} {L : Addr} {l kt : List (Addr × Obj)} {p : Addr × Obj} (N : News g L h l) (hT : KTab kt) (hs : ∀ q ∈ kt, q ∈ l) (hp : p ∈ l) (ht : IsTup p.2) : p.1 ≠ 181 := by
  obtain ⟨o, ho⟩ : ∃ o, ((181 : Addr), o) ∈ kt := ktab_181 hT
  intro e
  have h1 := news_one N hp (hs _ ho) e
  obtain ⟨x, y, n, e2⟩ := ht
  rw [e2] at h1
  rcases hT with rfl | ⟨c', oc, vs, t, rfl, _, _, h181⟩
  · rw [List.mem_singleton] at ho
    cases ho
    cases h1
  · simp only [List.mem_cons, List.not_mem_nil, or_false] at ho
    rcases ho with ho | ho
    · cases ho
      cases h1
    · cases ho
      exact h181 rfl
theorem law_D17 {H : Hosts} {Y1 Y2 : LayD} {cW cH cD dA nA lA tA cA wA : Addr} {oW oD : Obj} {vW : Option Value} {ds : List Value} {dl : Nat → Int} {nD nN nL nT n1 n2 mk : Nat} {mkt : Tok} {iN iL : Array Value} {T : List Value} {X : Nat → Str} {TX : Nat → Tok} {Y : Int → Str} {TY : Int → Tok} {r : Nat → Nat} {kt rest : List (Addr × Obj)}
    (B : Below A₀ base [] h₀) (F : Fr h₀ L s.heap m) (XX : (Mine.fr2 w.params).In h₀) (TT : Top topProg LL mean mg mb h₀) (XB : (Mine.fr2 w.params).In base) (TB : Top topProg LL mean mg mb base) (hd : dp + 40 < recursionLimit) (hu : un + 300 < cLine)
    (N : News h₀ L s.heap ((wA, listOf #[] n2) :: (cA, listOf #[] n1) :: (kt ++ ((cW, oW) :: rest)))) (hT : KTab kt) (hne : ∀ p ∈ (cW, oW) :: rest, p.1 ≠ 181) (hneW : ∀ p ∈ kt ++ rest, p.1 ≠ cW)
    (hcA : ∀ p ∈ kt ++ ((cW, oW) :: rest), p.1 < cA) (hwA : ∀ p ∈ kt ++ ((cW, oW) :: rest), p.1 < wA) (hcw : cA < wA)
    (hcW : oW.data = .cell vW) (hcD : oD.data = .cell (some (.ref dA))) (mD : (cD, oD) ∈ rest) (mds : (dA, listOf ds.toArray nD) ∈ rest) (hds : IntsAre ds ((List.range 16).map dl)) (hdl : ∀ j, 0 ≤ dl j ∧ dl j < 2 ^ 50)
    (mN : (nA, listOf iN nN) ∈ rest) (mL : (lA, listOf iL nL) ∈ rest) (mT : (tA, listOf T.toArray nT) ∈ rest)
    (lN : iN.toList.length = 9) (hN : ∀ i : Nat, i < 9 → iN.toList[i]? = some (.str (X i) (TX i))) (hX : ∀ i, PyData.strOk (X i) = true) (lL : iL.toList.length = 9) (hL : ∀ i : Int, 0 ≤ i → i < (9 : Nat) → iL.toList[i.toNat]? = some ((fun i => .str (Y i) (TY i)) i))
    (hr : ∀ p < 9, r p < 9) (hS : ∀ p < 9, ∀ i : Int, 0 ≤ i → i < (9 : Nat) → ((fun i => (Y i).cps.toList < (X p).cps.toList) i ↔ i < r p)) (hTab : TabOk r 9 T)
    (hY1 : HostOk H Y1 rest) (hY2 : HostOk H { Y2 with roA := Y1.roA, coA := Y1.coA } rest)
    (hc : CodeHd base (185, 181).fst (185, 181).snd) (hmk : mk < 4)
    (hm : ∀ p ∈ [(Str.ofString "mark", Value.str (marks.getD mk Str.empty) mkt), (Str.ofString "clients", .ref cA), (Str.ofString "wishes", .ref wA), (Str.ofString "names", Value.ref nA), (Str.ofString "line", .ref lA), (Str.ofString "table", .ref tA), (Str.ofString "ways", .ref Y1.wyA), (Str.ofString "up", .ref Y2.wyA), (Str.ofString "rooms", .ref Y1.roA), (Str.ofString "contrary", .ref Y1.coA)], m p.1 = some p.2)
    (ret : ∀ h' tk' m' kt' news', Fr h₀ L h' m' → News h₀ L h' (kt' ++ news') → KTab kt' → Q (.ret (.bool true)) { s with heap := h', toks := tk' }) :
    wpN (model PP w) (ktrTop dp un gd cn (CS (lawN w.params) false false mo) L a ccd (laC cW cH cD) []) (execs ((lawB w.params).drop 17) (envX cn (CS (lawN w.params) false false mo) L a ccd (laC cW cH cD))) Q s := by
  have hdr : ∀ {mQ : Flow → Shared → Prop} {ss : Shared}, wpN (model PP w) (ktrTop dp un gd cn (CS (lawN w.params) false false mo) L a ccd (laC cW cH cD) []) (execs ((lawB w.params).drop 18) (envX cn (CS (lawN w.params) false false mo) L a ccd (laC cW cH cD))) mQ ss → wpN (model PP w) (ktrTop dp un gd cn (CS (lawN w.params) false false mo) L a ccd (laC cW cH cD) []) (execs ((lawB w.params).drop 18) (envX cn (CS (lawN w.params) false false mo) L a ccd (laC cW cH cD))) mQ ss := fun h => h
  unfold lawB lawN lawAt at hdr ⊢
  dsimp only [List.drop_succ_cons, List.drop_zero] at hdr ⊢
  rw [frV_eq hm] at F
  skip
  obtain ⟨t7, h7⟩ : ∃ t, ds[7]? = some (.int (dl 7) t) := by
    obtain ⟨T, hT⟩ := ints_fun hds
    exact ⟨T 7, by have := hT 7 (by first | k_mem | simp); simpa using this⟩
  have lds : ds.length = 16 := by have := ints_len hds; simpa using this
  obtain ⟨hmk1, hmk3⟩ := marks_one mk hmk
  k_with_none
  k_with "eval Name" => (k_here; (fail_if_success (with_reducible show wpAny _ _ (eval _ (compEnvC _ _ _ _)) _ _ _)); first | (refine' nameX_L ?zqF ?zqv ?_ ?zqa ?zqb; (case zqF => k_asm); (case zqa => rfl); (case zqb => rfl); (case zqv => rfl); k_whole) | (refine' nameX_K ?zqF ?zqX ?zqT ?zqe ?_ ?zqa ?zqb; (case zqF => k_asm); (case zqX => k_asm); (case zqT => k_asm); (case zqa => rfl); (case zqb => rfl); (case zqe => k_is); k_whole) | (refine' nameX_B ?zqF ?zqX ?zqT ?zqe ?zqv ?zqn ?_ ?zqa ?zqb; (case zqF => k_asm); (case zqX => k_asm); (case zqT => k_asm); (case zqa => rfl); (case zqb => rfl); (case zqe => k_is); (case zqv => boot_fast); (case zqn => decide); k_whole) | (refine' nameX_C ?zqN ?zqc ?zqm ?zqd ?_ ?zqa ?zqb; (case zqa => rfl); (case zqb => rfl); (case zqN => k_asm); (case zqc => rfl); (case zqm => k_mem); (case zqd => k_asm); k_whole))
  k_with "callWith ref" => (k_here; first | (refine' callWith_K ?zqk1 ?zqk2 ?_; (case zqk1 => k_asm); (case zqk2 => k_is); k_whole) | (refine' callWith_KW ?zqk1 ?zqk2 ?zqk3 ?_; (case zqk1 => k_asm); (case zqk2 => k_is); (case zqk3 => exact rfl); k_whole))
  k_with "storeName" => (k_here; refine' storeX_L ?zqF ?zqN ?_ ?zqa ?zqb; (case zqF => k_asm); (case zqN => k_asm); (case zqa => rfl); (case zqb => rfl); k_whole; intro _ _ _; (try k_sweep))
  k_with "subscriptTail Name Name ref int" => k_extra "subscriptTail"
  k_with "subscriptTail Name Call ref int" => k_extra "subscriptTail"
  k_with "subscriptTail Name Subscript ref int" => k_extra "subscriptTail"
  k_with "subscriptTail" => (k_here; (with_reducible show wpAny _ _ (subscriptTail _ _ (Value.ref _) (Value.int _ _)) _ _ _); (with_unfolding_all refine' sub_list ?k1 ?k2 ?k3 ?_ ?k6); (case k1 => k_asm); (case k2 => k_dflt k_mem); (case k6 => with_unfolding_all rfl); (case k3 => k_extra "item"); k_whole)
  k_with "call builtin:len" => (k_here; (with_reducible show wpAny _ _ (call (Value.builtin "len") [Value.ref _]) _ _ _); (with_unfolding_all refine' len_led ?k1 ?k2 ?k3 ?_); (case k1 => k_asm); (case k2 => k_dflt k_mem); (case k3 => k_extra "len"); k_whole)
  k_with "call ref" => (k_here; (with_reducible show wpAny _ _ (call (Value.ref _) _ _) _ _ _); k_dflt (k_extra "callref"))
  k_with "compareOp NotEq ref ref" => (k_here; k_dflt (k_extra "ne"))
  k_with "compareOp NotEq ref" => (k_here; k_dflt (k_extra "ne"))
  k_with "compareOp NotEq str" => (k_here; k_dflt (k_extra "ne"))
  k_with "compareOp NotEq str str" => (k_here; k_dflt (k_extra "ne"))
  k_with "pyIter ref" => (k_here; k_dflt (k_extra "iterlist"))
  k_with "call builtin:list.append" => (k_here; k_dflt (k_extra "append"))
  k_with "subscriptTail Subscript Slice ref ref" => (k_here; k_dflt (k_extra "slice"))
  k_with "subscriptTail Name Slice ref ref" => (k_here; k_dflt (k_extra "slice"))
  k_with "subscriptTail Constant BinOp str int" => (k_here; k_dflt (k_extra "stritem"))
  k_with "item" => first | (k_dflt (exact ⟨by omega, by omega, by rw [hpe]; exact hN p hp9⟩)) | (k_dflt (exact ⟨by omega, by omega, hTp⟩))
  k_with "slice" => ((refine' r_slice (ms := ((List.range 16).map dl).drop 8) ?sl1 ?sl2 ?sl3 ⟨ds, nD, rfl, hds⟩ (by first | k_mem | simp) ?sl4 ?sl5 (fun vs h => slc_from (R := 8) h) ?_ ?sl6 ?sl7); (case sl1 => k_asm); (case sl2 => k_asm); (case sl3 => k_dflt k_mem); (case sl4 => kmk_part); (case sl5 => kmk_part); (case sl6 => with_unfolding_all rfl); (case sl7 => kmk_pure); (intro D8 o8 h' hO8 F' N' l8))
  k_with "iterlist" => ((obtain ⟨vs8, n8, rfl, hI8⟩ := hO8); (rename Fr _ _ _ _ => lF'); (rename News _ _ _ _ => lN'); (refine' cli_for (cA := cA) (wA := wA) (pv := pvD dl) (po := poD dl) (fix := kt ++ ((cW, oW) :: rest)) [(Str.ofString "mark", Value.str (marks.getD mk Str.empty) mkt), (Str.ofString "clients", .ref cA), (Str.ofString "wishes", .ref wA), (Str.ofString "names", Value.ref nA), (Str.ofString "line", .ref lA), (Str.ofString "table", .ref tA), (Str.ofString "ways", .ref Y1.wyA), (Str.ofString "up", .ref Y2.wyA), (Str.ofString "rooms", .ref Y1.roA), (Str.ofString "contrary", .ref Y1.coA)] (by rfl) lF' lN' (.head _) ?c1 ?c2 ?c3 (.tail _ (.tail _ (.head _))) (.tail _ (.head _)) ?c6 ?c7 ?c8 ?turn ?done); (case c1 => exact fun e => Nat.lt_irrefl _ (e ▸ l8 _ (List.mem_cons_of_mem _ List.mem_cons_self))); (case c2 => exact fun e => Nat.lt_irrefl _ (e ▸ l8 _ List.mem_cons_self)); (case c3 => exact Nat.ne_of_lt hcw); (case c6 => exact fun p hp => List.mem_cons_of_mem _ (List.mem_cons_of_mem _ (List.mem_cons_of_mem _ hp))); (case c7 => exact fun p hp => ⟨Nat.ne_of_lt (hcA p hp), Nat.ne_of_lt (hwA p hp)⟩); (case c8 => ((rename Fr _ _ _ _ => hvF); refine hv_of hvF ?_; repeat' (first | exact hv_nil | refine hv_cons ?_ ?_ | with_unfolding_all rfl))); (case' turn => (clear lF' lN'); (try clear F); (try clear N); (intro i v c h tk u own hv hc hown F' N'; refine NA_gen fun G1 hG1 => ?_); (skip); (obtain ⟨hi8, t, rfl⟩ := ints_get hI8 hv)); (case' done => (clear lF' lN'); (try clear F); (try clear N); (intro c h tk u hc F' N'); (skip)))
  k_with "callref" => first
    | ((refine' c_reply (d := dl (8 + i)) (x := marks.getD mk Str.empty) ?p1 ?p2 ?p3 ?p4 ?p5 ?p6 ?p7 hx0 (by omega) hmk1 hmk3 ?_); (case p1 => k_asm); (case p2 => k_asm); (case p3 => k_asm); (case p4 => k_asm); (case p5 => k_asm); (case p6 => ktr_room); (case p7 => ktr_units); (intro tr h' tk' F' N'))
    | ((rename News _ _ _ _ => lN); (rename Fr _ _ _ _ => lF); (refine' c_readG (x := replyP ((dl (8 + i)).fdiv 9) (marks.getD mk Str.empty)) (z := X p) ?g1 lF ?g3 lN ?g5 ?g6 ?g7 XB TB (.head _) hrok (by rw [hrd]; exact hs3) ?_); (case g1 => k_asm); (case g3 => k_asm); (case g5 => k_asm); (case g6 => ktr_room); (case g7 => ktr_units); (intro v1 h' tk' nw1 D1 F' N' sub1); (rw [hrd, hsD] at D1); (first | obtain ⟨aT, tq1, tq2, nq1, rfl, mT1⟩ := dat_tup2 D1 | obtain ⟨tq1, rfl⟩ := dat_str D1); (clear D1 lN lF))
    | ((rename News _ _ _ _ => lN); (rename Fr _ _ _ _ => lF); (refine' c_said (d := dl (8 + i)) (x := X p) ?s1 lF ?s3 lN ?s5 ?s6 ?s7 hx0 (by omega) ?_); (case s1 => k_asm); (case s3 => k_asm); (case s5 => k_asm); (case s6 => ktr_room); (case s7 => ktr_units); (intro v2 h' tk' nw2 D2 F' N' sub2); (rw [saidD_eq, hsD] at D2); (first | (obtain ⟨aS, ts1, ts2, ns1, rfl, mS1⟩ := dat_tup2 D2; have N9 : News _ _ _ ((aS, tup2 (.str (X p) ts1) (.int (((dl (8 + i)).fdiv 9).fmod 40) ts2) ns1) :: (aT, tup2 (.str (X p) tq1) (.int (((dl (8 + i)).fdiv 9).fmod 40) tq2) nq1) :: ((cA, listOf c.cs.toArray c.nc) :: (wA, listOf c.ws.toArray c.nw) :: (own ++ (c.tl ++ (kt ++ ((cW, oW) :: rest)))))) := News.perm N' (by intro q hq; rcases List.mem_cons.mp hq with rfl | hq; exact mS1; rcases List.mem_cons.mp hq with rfl | hq; exact sub2 _ mT1; exact sub2 _ (sub1 _ (List.mem_cons_of_mem _ hq)))) | (obtain ⟨ts1, rfl⟩ := dat_str D2; have N9 : News _ _ _ ((cA, listOf c.cs.toArray c.nc) :: (wA, listOf c.ws.toArray c.nw) :: (own ++ (c.tl ++ (kt ++ ((cW, oW) :: rest))))) := News.perm N' (fun q hq => sub2 _ (sub1 _ (List.mem_cons_of_mem _ hq))))); (clear D2 lN lF N'))
    | ((rename News _ _ _ _ => lN); (rename Fr _ _ _ _ => lF); (refine' c_bls (its := iL) (n := nL) (len := 9) (r := r p) (X := Y) (T := TY) ?h1 lF ?h3 lN ?h5 ?h6 ?h7 ?h8 lL (by decide) hL (Nat.le_of_lt (hr p hp9)) (hS p hp9) ?_); (case h1 => k_asm); (case h3 => k_asm); (case h5 => k_asm); (case h6 => ktr_room); (case h7 => ktr_units); (case h8 => k_dflt k_mem); (clear lF lN); (intro tt h' tk' F' N'))
  k_with "ne" => first | (refine ne_same ?_) | ((rename News _ _ _ _ => lN); (refine' ne_told lN (.tail _ (.head _)) (.head _) (hX p) ?u ?_); (case u => ktr_units))
  k_with "append" => first
    | ((rename News _ _ _ _ => lN); (rename Fr _ _ _ _ => lF); (refine' t_app1 (c := c) (own := own) (fix := kt ++ ((cW, oW) :: rest)) lF lN ⟨_, _, _, rfl⟩ ?a1 hown (Nat.ne_of_lt hcw) (by rw [hc.1.1]; omega) ?_); (case a1 => (repeat' (first | with_reducible refine sub_app ?_ ?_ | with_reducible refine sub_cons ?_ ?_ | exact sub_nil | (intro _ hz9; k_mem) | k_mem))); (clear lF lN); (intro h' F' N'))
    | ((rename News _ _ _ _ => lN); (rename Fr _ _ _ _ => lF); (refine' t_app2 (c := c) (own := own) (fix := kt ++ ((cW, oW) :: rest)) lF lN ⟨_, _, _, rfl⟩ ⟨_, _, _, rfl⟩ hown (Nat.ne_of_lt hcw) (by rw [hc.2.1.1]; omega) ?_); (clear lF lN); (intro h' F' N'))
  refine N_execs_cons (N_For ?_)
  k_steps
  · show wpN _ _ (execs _ _) _ _
    rename Fr _ _ _ _ => F'
    rename News _ _ _ _ => N'
    have hc8 : clOk (pvD dl) (poD dl) 8 c := by rw [show vs8.length = 8 from by rw [ints_len hI8]; rfl] at hc; exact hc
    clear hc
    obtain ⟨ca1, nT1, tv1, tp1, hC1⟩ := pairs_fun hc8.1
    obtain ⟨ca2, nT2, tv2, tp2, hC2⟩ := pairs_fun hc8.2.1
    have m181 : ∃ o, ((181 : Addr), o) ∈ kt := ktab_181 hT
    have N2 : News h₀ L _ (kt ++ ((cW, oW) :: ((cA, listOf c.cs.toArray c.nc) :: (wA, listOf c.ws.toArray c.nw) :: (c.tl ++ rest)))) := News.perm N' (by (repeat' (first | with_reducible refine sub_app ?_ ?_ | with_reducible refine sub_cons ?_ ?_ | exact sub_nil | (intro _ hz9; k_mem) | k_mem)))
    have up : ∀ q ∈ rest, q ∈ (cA, listOf c.cs.toArray c.nc) :: (wA, listOf c.ws.toArray c.nw) :: (c.tl ++ rest) := fun q h => .tail _ (.tail _ (List.mem_append_right _ h))
    have cW1 : ∀ q ∈ c.tl, q.1 ≠ cW := fun q hq => cell_apart N2 (List.mem_append_right _ (.head _)) hcW (List.mem_append_right _ (.tail _ (.tail _ (.tail _ (List.mem_append_left _ hq))))) (hc8.2.2 q hq).nocell
    have c181 : ∀ q ∈ c.tl, q.1 ≠ 181 := fun q hq => kt_notup N2 hT (fun x hx => List.mem_append_left _ hx) (List.mem_append_right _ (.tail _ (.tail _ (.tail _ (List.mem_append_left _ hq))))) (hc8.2.2 q hq)
    have hWc : cW < cA := hcA (cW, oW) (by first | k_mem | simp)
    have hWw : cW < wA := hwA (cW, oW) (by first | k_mem | simp)
    have h1c : (181 : Nat) < cA := by obtain ⟨o, ho⟩ := m181; exact hcA (181, o) (by first | k_mem | simp [ho])
    have h1w : (181 : Nat) < wA := by obtain ⟨o, ho⟩ := m181; exact hwA (181, o) (by first | k_mem | simp [ho])
    refine law_E (H := H) (pv := pvD dl) (po := poD dl) (Y1 := { Y1 with clA := cA, iC := c.cs.toArray, nC := c.nc, ca := ca1, nT := nT1, tv := tv1, tp := tp1 }) (Y2 := { Y2 with clA := wA, iC := c.ws.toArray, nC := c.nw, ca := ca2, nT := nT2, tv := tv2, tp := tp2 }) (cW := cW) (oW := oW) (oD := oD) (dA := dA) (ds := ds) (nD := nD) (d7 := dl 7) (t7 := t7) (kt := kt) (rest := (cA, listOf c.cs.toArray c.nc) :: (wA, listOf c.ws.toArray c.nw) :: (c.tl ++ rest)) B F' XX TT hd hu N2 hT ?_ ?_ hcW hcD (up _ mD) (up _ mds) h7 (hdl 7).1 (by have := (hdl 7).2; omega) ?_ (pvD_9 dl) ?_ hc ?_ ?_
    · intro q hq
      simp only [List.mem_cons, List.mem_append] at hq
      rcases hq with h | h | h | h | h
      · exact hne q (by first | k_mem | simp [h])
      · rw [h]; exact Nat.ne_of_gt h1c
      · rw [h]; exact Nat.ne_of_gt h1w
      · exact c181 q h
      · exact hne q (by first | k_mem | simp [h])
    · intro q hq
      simp only [List.mem_cons, List.mem_append] at hq
      rcases hq with h | h | h | h | h
      · exact hneW q (by first | k_mem | simp [h])
      · rw [h]; exact Nat.ne_of_gt hWc
      · rw [h]; exact Nat.ne_of_gt hWw
      · exact cW1 q h
      · exact hneW q (by first | k_mem | simp [h])
    · exact ⟨.head _, up _ hY1.mW, up _ hY1.mR, up _ hY1.mCo, hY1.lW, hY1.lR, fun i hi => (hC1 i hi).1, fun i hi => .tail _ (.tail _ (List.mem_append_left _ (hC1 i hi).2)), hY1.gW, hY1.gR, hY1.gCo, hY1.hW, hY1.hR, fun i _ => pvD_9 dl i, fun i _ => poD_100 dl i⟩
    · exact ⟨.tail _ (.head _), up _ hY2.mW, up _ hY2.mR, up _ hY2.mCo, hY2.lW, hY2.lR, fun i hi => (hC2 i hi).1, fun i hi => .tail _ (.tail _ (List.mem_append_left _ (hC2 i hi).2)), hY2.gW, hY2.gR, hY2.gCo, hY2.hW, hY2.hR, fun i _ => pvD_9 dl i, fun i _ => poD_100 dl i⟩
    · ((rename Fr _ _ _ _ => hvF); refine hv_of hvF ?_; repeat' (first | exact hv_nil | refine hv_cons ?_ ?_ | with_unfolding_all rfl))
    · exact fun h2 tk2 m2 kt2 news2 a b c => ret h2 tk2 m2 kt2 news2 a b c
  · have hi : i < 8 := by simpa using hi8
    rename Fr _ _ _ _ => F'
    rename News _ _ _ _ => N'
    rw [drop_get dl hi] at F'
    obtain ⟨hx0, hx1⟩ := hdl (8 + i)
    have hp0 : 0 ≤ (dl (8 + i)).fmod 9 := Int.fmod_nonneg_of_pos _ (by decide)
    have hp1 : (dl (8 + i)).fmod 9 < 9 := Int.fmod_lt_of_pos _ (by decide)
    obtain ⟨p, hpe⟩ : ∃ p : Nat, ((dl (8 + i)).fmod 9).toNat = p := ⟨_, rfl⟩
    have hp9 : p < 9 := by omega
    obtain ⟨hrd, hrok⟩ := read_reply ((dl (8 + i)).fdiv 9) mk hmk
    obtain ⟨tT, hTp⟩ := tab_get hTab hp9
    have hr9 := hr p hp9
    have hlT := hTab.1
    rcases said_cases ((dl (8 + i)).fdiv 9) with ⟨hq, hsD, hs3⟩ | ⟨hq, yy, hsD, hs3⟩ | ⟨hq, hsD, hs3⟩
    · have hpv : pvD dl i = some p := by unfold pvD; rw [if_pos hq, hpe]
      have hpo : poD dl i = ((dl (8 + i)).fdiv 9).fmod 40 := by unfold poD; rw [if_pos hq]
      refine N_any ?_
      k_steps
      (rename News _ _ _ _ => lN)
      (rename Fr _ _ _ _ => lF)
      rw [show (dl (8 + i)).fmod 9 = (p : Int) from by omega] at lN
      refine' hG1 _ _ (cl_end _ _ hc lF hpv hpo lN ?m9)
      (case m9 => ((rename Fr _ _ _ _ => hvF); refine hv_of hvF ?_; repeat' (first | exact hv_nil | refine hv_cons ?_ ?_ | with_unfolding_all rfl)))
    · have hpv : pvD dl i = none := by unfold pvD; rw [if_neg hq]
      have hpo : poD dl i = 0 := by unfold poD; rw [if_neg hq]
      refine N_any ?_
      k_steps
      (rename News _ _ _ _ => lN)
      (rename Fr _ _ _ _ => lF)
      refine' hG1 _ _ (cl_end 0 0 hc lF hpv hpo lN ?m9)
      (case m9 => ((rename Fr _ _ _ _ => hvF); refine hv_of hvF ?_; repeat' (first | exact hv_nil | refine hv_cons ?_ ?_ | with_unfolding_all rfl)))
    · have hpv : pvD dl i = none := by unfold pvD; rw [if_neg hq]
      have hpo : poD dl i = 0 := by unfold poD; rw [if_neg hq]
      refine N_execs_cons (N_any ?_)
      k_steps
      show wpN _ _ (execs _ _) _ _
      refine N_execs_cons (N_Assign_Name (N_Call ?_))
      k_steps
      refine' X_callWith_K XX ?kb ?_
      (case kb => k_is)
      k_steps
      · (rename Fr _ _ _ _ => lF9); exact .mk _ _ lF9
      (rename News _ _ _ _ => lN)
      (rename Fr _ _ _ _ => lF)
      (refine' c_readX (x := replyP ((dl (8 + i)).fdiv 9) (marks.getD mk Str.empty)) (z := X p) ?g1 lF ?g3 lN ?g5 ?g6 ?g7 XB TB (.head _) hrok (by rw [hrd]; exact hs3) ?_; (case g1 => k_asm); (case g3 => k_asm); (case g5 => k_asm); (case g6 => ktr_room); (case g7 => ktr_units))
      intro tq1 h' tk' nw1 F' N' sub1
      clear lN lF
      k_steps
      show wpN _ _ (execs _ _) _ _
      refine N_any ?_
      k_steps
      (rename News _ _ _ _ => lN)
      (rename Fr _ _ _ _ => lF)
      refine' hG1 _ _ (cl_end 0 0 hc lF hpv hpo lN ?m9)
      (case m9 => ((rename Fr _ _ _ _ => hvF); refine hv_of hvF ?_; repeat' (first | exact hv_nil | refine hv_cons ?_ ?_ | with_unfolding_all rfl)))
end
end Mine
end
section
open PySem PySem.W PyProof.Rows
namespace Mine
open PySem.Spec PySem.Calls

section
variable {w : World} {mean : ExcName → Option Value} {mg mb : Str → Option Value} {dp un : Nat} {gd : Option (List Code)} {cn : Str} {mo : List (Str × Const)} {a : Addr} {ccd : Value} {A₀ : Around} {base h₀ : Heap} {L : Addr} {m : Str → Option Value} {s : Shared} {Q : Flow → Shared → Prop} {news : List (Addr × Obj)}

theorem ds_seven {ds : List Value} {dl : Nat → Int} (hds : IntsAre ds ((List.range 16).map dl)) (j : Nat) (hj : j < 16) : ∃ t, ds[j]? = some (.int (dl j) t) := by
  obtain ⟨T, hT⟩ := ints_fun hds
  exact ⟨T j, by have := hT j (by simpa using hj); simpa [List.getD_eq_getElem?_getD, hj] using this⟩
theorem law_D14 {H : Hosts} {Y1 Y2 : LayD} {cW cH cD dA nA lA tA : Addr} {oW oD : Obj} {vW : Option Value} {ds : List Value} {dl : Nat → Int} {nD nN nL nT : Nat} {iN iL : Array Value} {T : List Value} {X : Nat → Str} {TX : Nat → Tok} {Y : Int → Str} {TY : Int → Tok} {r : Nat → Nat} {kt rest : List (Addr × Obj)}
    (B : Below A₀ base [] h₀) (F : Fr h₀ L s.heap m) (XX : (Mine.fr2 w.params).In h₀) (TT : Top topProg LL mean mg mb h₀) (XB : (Mine.fr2 w.params).In base) (TB : Top topProg LL mean mg mb base) (hd : dp + 40 < recursionLimit) (hu : un + 300 < cLine)
    (N : News h₀ L s.heap (kt ++ ((cW, oW) :: rest))) (hT : KTab kt) (hne : ∀ p ∈ (cW, oW) :: rest, p.1 ≠ 181) (hneW : ∀ p ∈ kt ++ rest, p.1 ≠ cW)
    (hcW : oW.data = .cell vW) (hcD : oD.data = .cell (some (.ref dA))) (mD : (cD, oD) ∈ rest) (mds : (dA, listOf ds.toArray nD) ∈ rest) (hds : IntsAre ds ((List.range 16).map dl)) (hdl : ∀ j, 0 ≤ dl j ∧ dl j < 2 ^ 50)
    (mN : (nA, listOf iN nN) ∈ rest) (mL : (lA, listOf iL nL) ∈ rest) (mT : (tA, listOf T.toArray nT) ∈ rest)
    (lN9 : iN.toList.length = 9) (hN : ∀ i : Nat, i < 9 → iN.toList[i]? = some (.str (X i) (TX i))) (hX : ∀ i, PyData.strOk (X i) = true) (lL : iL.toList.length = 9) (hL : ∀ i : Int, 0 ≤ i → i < (9 : Nat) → iL.toList[i.toNat]? = some ((fun i => .str (Y i) (TY i)) i))
    (hr : ∀ p < 9, r p < 9) (hS : ∀ p < 9, ∀ i : Int, 0 ≤ i → i < (9 : Nat) → ((fun i => (Y i).cps.toList < (X p).cps.toList) i ↔ i < r p)) (hTab : TabOk r 9 T)
    (hY1 : HostOk H Y1 rest) (hY2 : HostOk H { Y2 with roA := Y1.roA, coA := Y1.coA } rest)
    (hc : CodeHd base (185, 181).fst (185, 181).snd)
    (hm : ∀ p ∈ [(Str.ofString "names", Value.ref nA), (Str.ofString "line", .ref lA), (Str.ofString "table", .ref tA), (Str.ofString "ways", .ref Y1.wyA), (Str.ofString "up", .ref Y2.wyA), (Str.ofString "rooms", .ref Y1.roA), (Str.ofString "contrary", .ref Y1.coA)], m p.1 = some p.2)
    (ret : ∀ h' tk' m' kt' news', Fr h₀ L h' m' → News h₀ L h' (kt' ++ news') → KTab kt' → Q (.ret (.bool true)) { s with heap := h', toks := tk' }) :
    wpN (model PP w) (ktrTop dp un gd cn (CS (lawN w.params) false false mo) L a ccd (laC cW cH cD) []) (execs ((lawB w.params).drop 14) (envX cn (CS (lawN w.params) false false mo) L a ccd (laC cW cH cD))) Q s := by
  have hdr : ∀ {mQ : Flow → Shared → Prop} {ss : Shared}, wpN (model PP w) (ktrTop dp un gd cn (CS (lawN w.params) false false mo) L a ccd (laC cW cH cD) []) (execs ((lawB w.params).drop 17) (envX cn (CS (lawN w.params) false false mo) L a ccd (laC cW cH cD))) mQ ss → wpN (model PP w) (ktrTop dp un gd cn (CS (lawN w.params) false false mo) L a ccd (laC cW cH cD) []) (execs ((lawB w.params).drop 17) (envX cn (CS (lawN w.params) false false mo) L a ccd (laC cW cH cD))) mQ ss := fun h => h
  unfold lawB lawN lawAt at hdr ⊢
  dsimp only [List.drop_succ_cons, List.drop_zero] at hdr ⊢
  rw [frV_eq hm] at F
  skip
  obtain ⟨t7, h7⟩ := ds_seven hds 7 (by decide)
  have h40 : 0 ≤ ((dl 7).fdiv 3).fmod 4 := Int.fmod_nonneg_of_pos _ (by decide)
  have h44 : ((dl 7).fdiv 3).fmod 4 < 4 := Int.fmod_lt_of_pos _ (by decide)
  have hdl7 := hdl 7
  refine N_execs_split 3 ?_
  simp only [List.take_succ_cons, List.take_zero, List.drop_succ_cons, List.drop_zero]
  k_with_none
  k_with "eval Name" => (k_here; (fail_if_success (with_reducible show wpAny _ _ (eval _ (compEnvC _ _ _ _)) _ _ _)); first | (refine' nameX_L ?zqF ?zqv ?_ ?zqa ?zqb; (case zqF => k_asm); (case zqa => rfl); (case zqb => rfl); (case zqv => rfl); k_whole) | (refine' nameX_K ?zqF ?zqX ?zqT ?zqe ?_ ?zqa ?zqb; (case zqF => k_asm); (case zqX => k_asm); (case zqT => k_asm); (case zqa => rfl); (case zqb => rfl); (case zqe => k_is); k_whole) | (refine' nameX_B ?zqF ?zqX ?zqT ?zqe ?zqv ?zqn ?_ ?zqa ?zqb; (case zqF => k_asm); (case zqX => k_asm); (case zqT => k_asm); (case zqa => rfl); (case zqb => rfl); (case zqe => k_is); (case zqv => boot_fast); (case zqn => decide); k_whole) | (refine' nameX_C ?zqN ?zqc ?zqm ?zqd ?_ ?zqa ?zqb; (case zqa => rfl); (case zqb => rfl); (case zqN => k_asm); (case zqc => rfl); (case zqm => k_mem); (case zqd => k_asm); k_whole))
  k_with "callWith ref" => (k_here; first | (refine' callWith_K ?zqk1 ?zqk2 ?_; (case zqk1 => k_asm); (case zqk2 => k_is); k_whole) | (refine' callWith_KW ?zqk1 ?zqk2 ?zqk3 ?_; (case zqk1 => k_asm); (case zqk2 => k_is); (case zqk3 => exact rfl); k_whole))
  k_with "storeName" => (k_here; refine' storeX_L ?zqF ?zqN ?_ ?zqa ?zqb; (case zqF => k_asm); (case zqN => k_asm); (case zqa => rfl); (case zqb => rfl); k_whole; intro _ _ _; (try k_sweep))
  k_with "subscriptTail Name Name ref int" => k_extra "subscriptTail"
  k_with "subscriptTail Name Call ref int" => k_extra "subscriptTail"
  k_with "subscriptTail Name Subscript ref int" => k_extra "subscriptTail"
  k_with "subscriptTail" => (k_here; (with_reducible show wpAny _ _ (subscriptTail _ _ (Value.ref _) (Value.int _ _)) _ _ _); (with_unfolding_all refine' sub_list ?k1 ?k2 ?k3 ?_ ?k6); (case k1 => k_asm); (case k2 => k_dflt k_mem); (case k6 => with_unfolding_all rfl); (case k3 => k_extra "item"); k_whole)
  k_with "call builtin:len" => (k_here; (with_reducible show wpAny _ _ (call (Value.builtin "len") [Value.ref _]) _ _ _); (with_unfolding_all refine' len_led ?k1 ?k2 ?k3 ?_); (case k1 => k_asm); (case k2 => k_dflt k_mem); (case k3 => k_extra "len"); k_whole)
  k_with "item" => (exact ⟨by decide, by decide, h7⟩)
  k_steps
  rename Fr _ _ _ _ => lF
  rename News _ _ _ _ => lN
  rename (∀ p, p ∈ kt ++ _ → p.1 < _) => l1
  rename (_ < _ ∧ AllLt _ _) => l2
  rw [mark_item h40 h44] at lF
  refine' hdr (law_D17 (mkt := ?mkt) (H := H) (Y1 := Y1) (Y2 := Y2) (mk := (((dl 7).fdiv 3).fmod 4).toNat) (oW := oW) (oD := oD) (dl := dl) (X := X) (Y := Y) (r := r) (T := T) (kt := kt) (rest := rest) B lF XX TT XB TB hd hu lN hT hne hneW l1 (fun p hp => allLt_mem l2.2 p hp) l2.1 hcW hcD mD mds hds hdl mN mL mT lN9 hN hX lL hL hr hS hTab hY1 hY2 hc (by omega) ?hm9 ret)
  case hm9 =>
    ((rename Fr _ _ _ _ => hvF); refine hv_of hvF ?_; repeat' (first | exact hv_nil | refine hv_cons ?_ ?_ | with_unfolding_all rfl))
end
end Mine
end
section
open PySem PySem.W PyProof.Rows
namespace Mine
open PySem.Spec PySem.Calls

section
variable {w : World} {mean : ExcName → Option Value} {mg mb : Str → Option Value} {dp un : Nat} {gd : Option (List Code)} {cn : Str} {nm : List (Str × NameKind)} {ig ic : Bool} {mo : List (Str × Const)} {a : Addr} {ccd : Value} {cl : List (Str × Addr)} {outer : List Env} {A₀ : Around} {base h₀ : Heap} {L : Addr} {m : Str → Option Value} {s : Shared} {Q E : Value → Shared → Prop} {news : List (Addr × Obj)}

theorem c_hdn {x : Str} {t : Tok} {b : Bool}
    (B : Below A₀ base outer h₀) (F : Fr h₀ L s.heap m) (XX : (Mine.fr2 w.params).In h₀) (N : News h₀ L s.heap news) (TT : Top topProg LL mean mg mb h₀) (hd : dp + 10 < recursionLimit) (hu : un + 60 < cLine)
    (hT : TxtOk x.cps) (h2 : 2 ≤ x.cps.size) (hb : ends x.cps = b) (e1 : (x == Str.ofString "") = false) (e2 : (Txt.item x 0 == Str.ofString ".") = false) (e3 : (Txt.item x (-1) == Str.ofString ".") = false)
    (ret : ∀ h' tk' news', Fr h₀ L h' m → News h₀ L h' news' → (∀ p ∈ news, p ∈ news') → Q (.bool (!b)) { s with heap := h', toks := tk' }) :
    wpAny (model PP w) (ktrTop dp un gd cn (CS nm ig ic mo) L a ccd cl outer) (call (.ref 123) [.str x t]) Q E s := by
  have hp : 1 ≤ x.length := Nat.le_trans (by decide) h2
  k_with_none
  k_with "eval Name" => (k_here; (fail_if_success (with_reducible show wpAny _ _ (eval _ (compEnvC _ _ _ _)) _ _ _)); first | (refine' nameX_L ?zqF ?zqv ?_ ?zqa ?zqb; (case zqF => k_asm); (case zqa => rfl); (case zqb => rfl); (case zqv => rfl); k_whole) | (refine' nameX_K ?zqF ?zqX ?zqT ?zqe ?_ ?zqa ?zqb; (case zqF => k_asm); (case zqX => k_asm); (case zqT => k_asm); (case zqa => rfl); (case zqb => rfl); (case zqe => k_is); k_whole) | (refine' nameX_B ?zqF ?zqX ?zqT ?zqe ?zqv ?zqn ?_ ?zqa ?zqb; (case zqF => k_asm); (case zqX => k_asm); (case zqT => k_asm); (case zqa => rfl); (case zqb => rfl); (case zqe => k_is); (case zqv => boot_fast); (case zqn => decide); k_whole) | (refine' nameX_C ?zqN ?zqc ?zqm ?zqd ?_ ?zqa ?zqb; (case zqa => rfl); (case zqb => rfl); (case zqN => k_asm); (case zqc => rfl); (case zqm => k_mem); (case zqd => k_asm); k_whole))
  k_with "callWith ref" => (k_here; first | (refine' callWith_K ?zqk1 ?zqk2 ?_; (case zqk1 => k_asm); (case zqk2 => k_is); k_whole) | (refine' callWith_KW ?zqk1 ?zqk2 ?zqk3 ?_; (case zqk1 => k_asm); (case zqk2 => k_is); (case zqk3 => exact rfl); k_whole))
  k_with "storeName" => (k_here; refine' storeX_L ?zqF ?zqN ?_ ?zqa ?zqb; (case zqF => k_asm); (case zqN => k_asm); (case zqa => rfl); (case zqb => rfl); k_whole; intro _ _ _; (try k_sweep))
  k_with "subscriptTail Name Name ref int" => k_extra "subscriptTail"
  k_with "subscriptTail Name Call ref int" => k_extra "subscriptTail"
  k_with "subscriptTail Name Subscript ref int" => k_extra "subscriptTail"
  k_with "subscriptTail" => (k_here; (with_reducible show wpAny _ _ (subscriptTail _ _ (Value.ref _) (Value.int _ _)) _ _ _); (with_unfolding_all refine' sub_list ?k1 ?k2 ?k3 ?_ ?k6); (case k1 => k_asm); (case k2 => k_dflt k_mem); (case k6 => with_unfolding_all rfl); (case k3 => k_extra "item"); k_whole)
  k_with "call builtin:len" => (k_here; (with_reducible show wpAny _ _ (call (Value.builtin "len") [Value.ref _]) _ _ _); (with_unfolding_all refine' len_led ?k1 ?k2 ?k3 ?_); (case k1 => k_asm); (case k2 => k_dflt k_mem); (case k3 => k_extra "len"); k_whole)
  k_with "getMethod ref" => (k_here; (with_reducible show wpAny _ _ (getMethod (Value.ref 116) _ _) _ _ _); k_dflt (refine' k_searchM ?F ?X ?_; (case F => k_asm); (case X => k_asm)))
  k_with "call builtin:re.Pattern.search" => (k_here; k_dflt (k_extra "search"))
  k_with "truthy ref" => (k_here; k_dflt (k_extra "truth"))
  k_with "search" => ((refine' k_search ?s1 ?s2 ?s3 hT h2 ?no ?yes); (case s1 => k_asm); (case s2 => k_asm); (case s3 => k_asm); (case' no => intro hE); (case' yes => intro hE am vm h' F' N'))
  k_with "truth" => ((refine' k_match ?m1 ?m2 ?_); (case m1 => k_asm); (case m2 => k_dflt k_mem))
  k_steps
  all_goals first
    | exact Bool.noConfusion (e1.symm.trans (by with_reducible assumption : (x == Str.ofString "") = true))
    | exact Bool.noConfusion (e2.symm.trans (by with_reducible assumption : (Txt.item x 0 == Str.ofString ".") = true))
    | exact Bool.noConfusion (e3.symm.trans (by with_reducible assumption : (Txt.item x (-1) == Str.ofString ".") = true))
    | ((rename News _ _ _ _ => lN); (rename Fr _ _ _ _ => lF); rw [← hb, hE] at ret; exact ret _ _ _ lF lN (fun p h => List.mem_cons_of_mem _ h))
    | ((rename News _ _ _ _ => lN); (rename Fr _ _ _ _ => lF); rw [← hb, hE] at ret; exact ret _ _ _ lF lN (fun p h => h))
    | ((rename News _ _ _ _ => lN); (rename Fr _ _ _ _ => lF); subst hb; rw [hE] at ret; exact ret _ _ _ lF lN (fun p h => h))
noncomputable def tlP (x : Str) : Str := Txt.slice x (some (Txt.find x (Str.ofString ".") + 1)) none
noncomputable def reachP (x : Str) : Str := if 0 ≤ Txt.find x (Str.ofString ".") then (if (!(ends x.cps) && (decide (0 ≤ Txt.find (tlP x) (Str.ofString ".")) || tlP x == Str.ofString "local")) = true then Str.ofString "." ++ tlP x else x) else x
structure ReachOk (x : Str) : Prop where
  ok : TxtOk x.cps
  two : 2 ≤ x.cps.size
  e1 : (x == Str.ofString "") = false
  e2 : (Txt.item x 0 == Str.ofString ".") = false
  e3 : (Txt.item x (-1) == Str.ofString ".") = false
theorem reach_a {x : Str} (h1 : 0 ≤ Txt.find x (Str.ofString ".")) (hE : ends x.cps = false) (h2 : 0 ≤ Txt.find (Txt.slice x (some (Txt.find x (Str.ofString ".") + 1)) none) (Str.ofString ".")) : Str.ofString "." ++ Txt.slice x (some (Txt.find x (Str.ofString ".") + 1)) none = reachP x := by
  unfold reachP tlP; rw [if_pos h1, hE, decide_eq_true h2]; rfl
theorem reach_b {x : Str} (h1 : 0 ≤ Txt.find x (Str.ofString ".")) (hE : ends x.cps = false) (h2 : ¬ 0 ≤ Txt.find (Txt.slice x (some (Txt.find x (Str.ofString ".") + 1)) none) (Str.ofString ".")) (h3 : (Txt.slice x (some (Txt.find x (Str.ofString ".") + 1)) none == Str.ofString "local") = true) : Str.ofString "." ++ Txt.slice x (some (Txt.find x (Str.ofString ".") + 1)) none = reachP x := by
  unfold reachP tlP; rw [if_pos h1, hE, decide_eq_false h2, h3]; rfl
theorem reach_c {x : Str} (h1 : 0 ≤ Txt.find x (Str.ofString ".")) (hE : ends x.cps = false) (h2 : ¬ 0 ≤ Txt.find (Txt.slice x (some (Txt.find x (Str.ofString ".") + 1)) none) (Str.ofString ".")) (h3 : (Txt.slice x (some (Txt.find x (Str.ofString ".") + 1)) none == Str.ofString "local") = false) : x = reachP x := by
  unfold reachP tlP; rw [if_pos h1, hE, decide_eq_false h2, h3]; rfl
theorem reach_d {x : Str} (h1 : 0 ≤ Txt.find x (Str.ofString ".")) (hE : ends x.cps = true) : x = reachP x := by
  unfold reachP tlP; rw [if_pos h1, hE]; rfl
theorem reach_e {x : Str} (h1 : ¬ 0 ≤ Txt.find x (Str.ofString ".")) : x = reachP x := by
  unfold reachP; rw [if_neg h1]
theorem c_reach {x : Str} {t : Tok}
    (B : Below A₀ base outer h₀) (F : Fr h₀ L s.heap m) (XX : (Mine.fr2 w.params).In h₀) (N : News h₀ L s.heap news) (TT : Top topProg LL mean mg mb h₀) (hd : dp + 20 < recursionLimit) (hu : un + 160 < cLine)
    (hz : x.length < 1000) (hH : 0 ≤ Txt.find x (Str.ofString ".") → ReachOk x)
    (ret : ∀ r t' h' tk' news', r = reachP x → Fr h₀ L h' m → News h₀ L h' news' → (∀ p ∈ news, p ∈ news') → Q (.str r t') { s with heap := h', toks := tk' }) :
    wpAny (model PP w) (ktrTop dp un gd cn (CS nm ig ic mo) L a ccd cl outer) (call (.ref 130) [.str x t]) Q E s := by
  k_with_none
  k_with "eval Name" => (k_here; (fail_if_success (with_reducible show wpAny _ _ (eval _ (compEnvC _ _ _ _)) _ _ _)); first | (refine' nameX_L ?zqF ?zqv ?_ ?zqa ?zqb; (case zqF => k_asm); (case zqa => rfl); (case zqb => rfl); (case zqv => rfl); k_whole) | (refine' nameX_K ?zqF ?zqX ?zqT ?zqe ?_ ?zqa ?zqb; (case zqF => k_asm); (case zqX => k_asm); (case zqT => k_asm); (case zqa => rfl); (case zqb => rfl); (case zqe => k_is); k_whole) | (refine' nameX_B ?zqF ?zqX ?zqT ?zqe ?zqv ?zqn ?_ ?zqa ?zqb; (case zqF => k_asm); (case zqX => k_asm); (case zqT => k_asm); (case zqa => rfl); (case zqb => rfl); (case zqe => k_is); (case zqv => boot_fast); (case zqn => decide); k_whole) | (refine' nameX_C ?zqN ?zqc ?zqm ?zqd ?_ ?zqa ?zqb; (case zqa => rfl); (case zqb => rfl); (case zqN => k_asm); (case zqc => rfl); (case zqm => k_mem); (case zqd => k_asm); k_whole))
  k_with "callWith ref" => (k_here; first | (refine' callWith_K ?zqk1 ?zqk2 ?_; (case zqk1 => k_asm); (case zqk2 => k_is); k_whole) | (refine' callWith_KW ?zqk1 ?zqk2 ?zqk3 ?_; (case zqk1 => k_asm); (case zqk2 => k_is); (case zqk3 => exact rfl); k_whole))
  k_with "storeName" => (k_here; refine' storeX_L ?zqF ?zqN ?_ ?zqa ?zqb; (case zqF => k_asm); (case zqN => k_asm); (case zqa => rfl); (case zqb => rfl); k_whole; intro _ _ _; (try k_sweep))
  k_with "subscriptTail Name Name ref int" => k_extra "subscriptTail"
  k_with "subscriptTail Name Call ref int" => k_extra "subscriptTail"
  k_with "subscriptTail Name Subscript ref int" => k_extra "subscriptTail"
  k_with "subscriptTail" => (k_here; (with_reducible show wpAny _ _ (subscriptTail _ _ (Value.ref _) (Value.int _ _)) _ _ _); (with_unfolding_all refine' sub_list ?k1 ?k2 ?k3 ?_ ?k6); (case k1 => k_asm); (case k2 => k_dflt k_mem); (case k6 => with_unfolding_all rfl); (case k3 => k_extra "item"); k_whole)
  k_with "call builtin:len" => (k_here; (with_reducible show wpAny _ _ (call (Value.builtin "len") [Value.ref _]) _ _ _); (with_unfolding_all refine' len_led ?k1 ?k2 ?k3 ?_); (case k1 => k_asm); (case k2 => k_dflt k_mem); (case k3 => k_extra "len"); k_whole)
  k_with "getMethod ref" => (k_here; (with_reducible show wpAny _ _ (getMethod (Value.ref 116) _ _) _ _ _); k_dflt (refine' k_searchM ?F ?X ?_; (case F => k_asm); (case X => k_asm)))
  k_with "call builtin:re.Pattern.search" => (k_here; k_dflt (k_extra "search"))
  k_with "truthy ref" => (k_here; k_dflt (k_extra "truth"))
  k_with "binaryOp Add str str" => (k_here; k_dflt (k_extra "add"))
  k_with "call ref" => (k_here; (with_reducible show wpAny _ _ (call (Value.ref 123) _ _) _ _ _); k_dflt (k_extra "callref"))
  k_with "callref" => ((have hR := hH (by assumption)); (refine' c_hdn ?h1 ?h2 ?h3 ?h4 ?h5 ?h6 ?h7 hR.ok hR.two rfl hR.e1 hR.e2 hR.e3 ?_); (case h1 => k_asm); (case h2 => k_asm); (case h3 => k_asm); (case h4 => k_asm); (case h5 => k_asm); (case h6 => ktr_room); (case h7 => ktr_units); (intro h' tk' news' F' N' hsub; cases hE : ends x.cps))
  k_with "add" => ((refine' KXadd.add (K := 1) (L := 1000) (by decide) ?ad2 (by decide) ?_); (case ad2 => exact Nat.le_of_lt (Nat.lt_of_le_of_lt (by assumption) hz)); (intro t9 k9 hl9))
  k_steps
  all_goals ((rename News _ _ _ _ => lN); (rename Fr _ _ _ _ => lF))
  all_goals first
    | (have hr := reach_e (x := x) (by with_reducible assumption); exact ret _ _ _ _ _ hr lF lN (fun p h => h))
    | (have hr := reach_d (x := x) (by with_reducible assumption) (by with_reducible assumption); exact ret _ _ _ _ _ hr lF lN hsub)
    | (have hr := reach_a (x := x) (by with_reducible assumption) (by with_reducible assumption) (by with_reducible assumption); exact ret _ _ _ _ _ hr lF lN hsub)
    | (have hr := reach_b (x := x) (by with_reducible assumption) (by with_reducible assumption) (by with_reducible assumption) (by with_reducible assumption); exact ret _ _ _ _ _ hr lF lN hsub)
    | (have hr := reach_c (x := x) (by with_reducible assumption) (by with_reducible assumption) (by with_reducible assumption) (by with_reducible assumption); exact ret _ _ _ _ _ hr lF lN hsub)
end
end Mine
end
section
open PySem PySem.W PyProof.Rows
namespace Mine
open PySem.Sre
noncomputable def base3 : List Str := [Str.ofString "local", Str.ofString "com", Str.ofString "7"]
/-- the label of a place, the labels begun at r -/
noncomputable def lab (r k : Nat) : Nat := ([99, 65, 102, 57, 98, 101] : List Nat).getD ((k + r) % 6) 0
/-- a name: the labels of these places (0 to 5), ahead of a base -/
noncomputable def nmk (r : Nat) : List Nat → Nat → Str
  | [], b => base3.getD b Str.empty
  | k :: S, b => ⟨#[lab r k, 46] ++ (nmk r S b).cps⟩
/-- the same, as a list of codes -/
noncomputable def nml (r : Nat) : List Nat → Nat → List Nat
  | [], b => [[108, 111, 99, 97, 108], [99, 111, 109], [55]].getD b []
  | k :: S, b => lab r k :: 46 :: nml r S b
theorem nmk_nml (r : Nat) : ∀ S b, nmk r S b = ⟨(nml r S b).toArray⟩
  | [], b => by
    show base3.getD b Str.empty = _
    match b with
    | 0 => rfl
    | 1 => rfl
    | 2 => rfl
    | b + 3 => rfl
  | k :: S, b => by
    show (⟨#[lab r k, 46] ++ (nmk r S b).cps⟩ : Str) = _
    rw [nmk_nml r S b]
    show (⟨#[lab r k, 46] ++ (nml r S b).toArray⟩ : Str) = ⟨(lab r k :: 46 :: nml r S b).toArray⟩
    simp
theorem lab_in (r k : Nat) : lab r k ≠ 46 ∧ lab r k < 1114112 := by
  unfold lab
  have h : ∀ j, j < 6 → ([99, 65, 102, 57, 98, 101] : List Nat).getD j 0 ≠ 46 ∧ ([99, 65, 102, 57, 98, 101] : List Nat).getD j 0 < 1114112 := by decide
  exact h _ (Nat.mod_lt _ (by decide))
/-- all falling chains of places below n -/
noncomputable def chains : Nat → List (List Nat)
  | 0 => [[]]
  | n + 1 => chains n ++ (chains n).map (n :: ·)
theorem chains_len : ∀ {n : Nat} {S : List Nat}, S ∈ chains n → S.length ≤ n
  | 0, S, h => by simp [chains] at h; subst h; exact Nat.le_refl _
  | n + 1, S, h => by
    rcases List.mem_append.mp h with h | h
    · exact Nat.le_succ_of_le (chains_len h)
    · obtain ⟨T, hT, rfl⟩ := List.mem_map.mp h
      exact Nat.succ_le_succ (chains_len hT)
theorem nml_len (r b : Nat) : ∀ S, (nml r S b).length ≤ 2 * S.length + 5
  | [] => by
    show ([[108, 111, 99, 97, 108], [99, 111, 109], [55]].getD b []).length ≤ _
    match b with
    | 0 => decide
    | 1 => decide
    | 2 => decide
    | b + 3 => exact Nat.zero_le _
  | k :: S => by
    have := nml_len r b S
    show (nml r S b).length + 1 + 1 ≤ 2 * (S.length + 1) + 5
    omega
theorem find_char (l : List Nat) (c : Nat) : (Txt.find ⟨l.toArray⟩ ⟨#[c]⟩ = -1 ∧ ∀ i : Nat, l[i]? ≠ some c) ∨ ∃ i : Nat, Txt.find ⟨l.toArray⟩ ⟨#[c]⟩ = (i : Int) ∧ l[i]? = some c ∧ ∀ k, k < i → l[k]? ≠ some c := by
  have h1 : ∀ i, StrLaws.At ⟨l.toArray⟩ ⟨#[c]⟩ (⟨l.toArray⟩ : Str).length i ↔ l[i]? = some c := fun i => StrLaws.subAt_one ⟨l.toArray⟩ c i
  rcases find_whole ⟨l.toArray⟩ ⟨#[c]⟩ with ⟨h, hn⟩ | ⟨i, h, hi, hn⟩
  · exact .inl ⟨h, fun i hi => hn i ((h1 i).mpr hi)⟩
  · exact .inr ⟨i, h, (h1 i).mp hi, fun k hk hk2 => hn k hk ((h1 k).mpr hk2)⟩
theorem dot_s : Str.ofString "." = ⟨#[46]⟩ := rfl
theorem find_lab {c : Nat} {l : List Nat} (hc : c ≠ 46) : Txt.find ⟨(c :: 46 :: l).toArray⟩ (Str.ofString ".") = 1 := by
  rw [dot_s]
  rcases find_char (c :: 46 :: l) 46 with ⟨_, hn⟩ | ⟨i, h, hi, hn⟩
  · exact absurd rfl (hn 1)
  · rw [h]
    match i, hi, hn with
    | 0, hi, _ => exact absurd (Option.some.inj hi) hc
    | 1, _, _ => rfl
    | i + 2, _, hn => exact absurd rfl (hn 1 (by omega))
theorem find_base : ∀ b, b < 3 → Txt.find (base3.getD b Str.empty) (Str.ofString ".") < 0 := by decide +kernel
theorem tl_lab {c : Nat} {l : List Nat} (hc : c ≠ 46) : tlP ⟨(c :: 46 :: l).toArray⟩ = ⟨l.toArray⟩ := by
  unfold tlP
  rw [find_lab hc]
  have hl : (⟨(c :: 46 :: l).toArray⟩ : Str).length = l.length + 2 := by
    show (c :: 46 :: l).toArray.size = _
    simp
  rw [slice_from_eq (b := ((l.length + 2 : Nat) : Int)) (by decide) (by rw [hl]; omega) (by rw [hl])]
  show (⟨(List.take ((((l.length + 2 : Nat) : Int)) - 2).toNat l).toArray⟩ : Str) = _
  rw [show ((((l.length + 2 : Nat) : Int)) - 2).toNat = l.length by omega, List.take_length]
theorem ends_two {a b : Nat} {l : List Nat} (h : 2 ≤ l.length) : ends (a :: b :: l).toArray = ends l.toArray := by
  obtain ⟨n, hn⟩ : ∃ n, l.length = n + 2 := ⟨l.length - 2, (Nat.sub_add_cancel h).symm⟩
  unfold ends
  simp only [List.size_toArray, List.length_cons, hn]
  rw [show n + 2 + 1 + 1 - 2 = n + 2 from rfl, show n + 2 + 1 + 1 - 1 = n + 3 from rfl, show n + 2 - 2 = n from rfl, show n + 2 - 1 = n + 1 from rfl]
  have e1 : ∀ j, (a :: b :: l).toArray.getD (j + 2) 0 = l.toArray.getD j 0 := by
    intro j
    simp [Array.getD_eq_getD_getElem?]
  rw [e1 n, show n + 3 = (n + 1) + 2 from rfl, e1 (n + 1)]
  simp
theorem ends_name (r : Nat) {b : Nat} (hb : b < 3) : ∀ (S : List Nat) (c : Nat), ends (c :: 46 :: nml r S b).toArray = decide (b = 2)
  | [], c => by
    match b, hb with
    | 0, _ => rfl
    | 1, _ => rfl
    | 2, _ => rfl
  | k :: S, c => by
    show ends (c :: 46 :: (lab r k :: 46 :: nml r S b)).toArray = _
    rw [ends_two (by simp)]
    exact ends_name r hb S (lab r k)
theorem last_name (r : Nat) {b : Nat} (hb : b < 3) : ∀ (S : List Nat), ∃ c, (nml r S b).getLast? = some c ∧ c ≠ 46
  | [] => by
    match b, hb with
    | 0, _ => exact ⟨108, rfl, by decide⟩
    | 1, _ => exact ⟨109, rfl, by decide⟩
    | 2, _ => exact ⟨55, rfl, by decide⟩
  | k :: S => by
    obtain ⟨c, h1, h2⟩ := last_name r hb S
    refine ⟨c, ?_, h2⟩
    show (lab r k :: 46 :: nml r S b).getLast? = some c
    cases hn : nml r S b with
    | nil => rw [hn] at h1; cases h1
    | cons x y => rw [hn] at h1; rw [List.getLast?_cons_cons, List.getLast?_cons_cons]; exact h1
theorem loc_s : Str.ofString "local" = ⟨#[108, 111, 99, 97, 108]⟩ := rfl
/-- what reach tells of a name that hangs -/
theorem reach_name {r : Nat} {b : Nat} (hb : b < 3) (k : Nat) (T : List Nat) : reachP (nmk r (k :: T) b) = if b = 2 ∨ (b = 1 ∧ T = []) then nmk r (k :: T) b else Str.ofString "." ++ nmk r T b := by
  rw [nmk_nml, nmk_nml]
  show reachP ⟨(lab r k :: 46 :: nml r T b).toArray⟩ = if b = 2 ∨ (b = 1 ∧ T = []) then (⟨(lab r k :: 46 :: nml r T b).toArray⟩ : Str) else _
  unfold reachP
  rw [find_lab (lab_in r k).1, if_pos (by decide), tl_lab (lab_in r k).1]
  show (if (!(ends (lab r k :: 46 :: nml r T b).toArray) && _) = true then _ else _) = _
  rw [ends_name r hb T]
  cases T with
  | cons k' T' =>
    have hf : Txt.find ⟨(nml r (k' :: T') b).toArray⟩ (Str.ofString ".") = 1 := find_lab (lab_in r k').1
    rw [hf]
    match b, hb with
    | 0, _ => rfl
    | 1, _ => simp
    | 2, _ => rfl
  | nil =>
    have hf : Txt.find ⟨(nml r [] b).toArray⟩ (Str.ofString ".") < 0 := by
      have := find_base b hb
      have e := nmk_nml r [] b
      rw [← e]
      exact this
    have hnf : decide (0 ≤ Txt.find ⟨(nml r [] b).toArray⟩ (Str.ofString ".")) = false := decide_eq_false (by omega)
    rw [hnf, loc_s]
    match b, hb with
    | 0, _ =>
      have e : ((⟨(nml r [] 0).toArray⟩ : Str) == ⟨#[108, 111, 99, 97, 108]⟩) = true := (beq_self_eq_true (⟨#[108, 111, 99, 97, 108]⟩ : Str) : _)
      rw [e]; rfl
    | 1, _ =>
      have e : ((⟨(nml r [] 1).toArray⟩ : Str) == ⟨#[108, 111, 99, 97, 108]⟩) = false := (by decide : ((⟨#[99, 111, 109]⟩ : Str) == ⟨#[108, 111, 99, 97, 108]⟩) = false)
      rw [e]; rfl
    | 2, _ => rfl
theorem txt_name (r : Nat) {b : Nat} (hb : b < 3) : ∀ (S : List Nat) (s : Nat), s + 2 < (nml r S b).length → (nml r S b).getD s 0 = 46 → isDigit ((nml r S b).getD (s + 1) 0) = true → isDigit ((nml r S b).getD (s + 2) 0) = false ∧ (nml r S b).getD (s + 2) 0 ≠ 10
  | [], s => by
    match b, hb with
    | 0, _ =>
      have h : ∀ s, s < 5 → ([108, 111, 99, 97, 108] : List Nat).getD s 0 ≠ 46 := by decide
      intro h1 h2
      exact absurd h2 (h s (by have : s + 2 < 5 := h1; omega))
    | 1, _ =>
      have h : ∀ s, s < 3 → ([99, 111, 109] : List Nat).getD s 0 ≠ 46 := by decide
      intro h1 h2
      exact absurd h2 (h s (by have : s + 2 < 3 := h1; omega))
    | 2, _ =>
      intro h1
      have : s + 2 < 1 := h1
      omega
  | k :: S, s => by
    match s with
    | 0 => intro _ h2; exact absurd h2 (lab_in r k).1
    | 1 =>
      intro h1 _ h3
      match S with
      | k' :: S' => exact ⟨by show isDigit 46 = false; decide, by show 46 ≠ 10; decide⟩
      | [] =>
        match b, hb with
        | 0, _ => exact absurd (show isDigit 108 = true from h3) (by decide)
        | 1, _ => exact absurd (show isDigit 99 = true from h3) (by decide)
        | 2, _ => exact absurd h1 (by show ¬ (1 + 2 < 3); decide)
    | s + 2 =>
      intro h1 h2 h3
      exact txt_name r hb S s (by have : s + 2 + 2 < (nml r S b).length + 1 + 1 := h1; omega) h2 h3
theorem reach_ok {r : Nat} {b : Nat} (hb : b < 3) (k : Nat) (T : List Nat) (hT : T.length ≤ 100) : ReachOk (nmk r (k :: T) b) := by
  have hl := nml_len r b (k :: T)
  simp only [List.length_cons] at hl
  rw [nmk_nml]
  refine ⟨⟨?_, ?_⟩, ?_, ?_, ?_, ?_⟩
  · show (nml r (k :: T) b).toArray.size < 1000
    rw [List.size_toArray]; omega
  · intro s h1 h2 h3
    have e : ∀ j, (nml r (k :: T) b).toArray.getD j 0 = (nml r (k :: T) b).getD j 0 := fun j => by simp [Array.getD_eq_getD_getElem?, List.getD_eq_getElem?_getD]
    rw [e] at h2 h3 ⊢
    exact txt_name r hb (k :: T) s (by simpa using h1) h2 h3
  · show 2 ≤ (lab r k :: 46 :: nml r T b).toArray.size
    simp
  · rfl
  · have e : Txt.item ⟨(nml r (k :: T) b).toArray⟩ 0 = ⟨#[lab r k]⟩ := item_meets (by decide) rfl
    rw [e, dot_s]
    refine beq_eq_false_iff_ne.mpr fun h => (lab_in r k).1 ?_
    simpa using h
  · obtain ⟨c, h1, h2⟩ := last_name r hb (k :: T)
    have hx : (⟨(nml r (k :: T) b).toArray⟩ : Str).length = (nml r (k :: T) b).length := by show (nml r (k :: T) b).toArray.size = _; simp
    have hp : 2 ≤ (nml r (k :: T) b).length := by show 2 ≤ (lab r k :: 46 :: nml r T b).length; simp
    have e := eq_of_beq (item_closes_neg (x := ⟨(nml r (k :: T) b).toArray⟩) (i := -1) (by decide) (by rw [hx]; omega) rfl)
    rw [e, dot_s]
    refine beq_eq_false_iff_ne.mpr fun h => h2 ?_
    rw [List.getLast?_eq_getElem?] at h1
    have e2 : ((nml r (k :: T) b).toArray).getD ((-1 : Int) + ((⟨(nml r (k :: T) b).toArray⟩ : Str).length : Int)).toNat 0 = c := by
      rw [hx, show ((-1 : Int) + ((nml r (k :: T) b).length : Int)).toNat = (nml r (k :: T) b).length - 1 by omega]
      simp [Array.getD_eq_getD_getElem?, h1]
    have h3 : (⟨#[((nml r (k :: T) b).toArray).getD ((-1 : Int) + ((⟨(nml r (k :: T) b).toArray⟩ : Str).length : Int)).toNat 0]⟩ : Str) = ⟨#[46]⟩ := h
    rw [e2] at h3
    simpa using h3
end Mine
end
section
open PySem PySem.W PyProof.Rows
namespace Mine
open PySem.Spec PySem.Calls
/-- the root of a place -/
noncomputable def topF (H : Int → Int) : Nat → Int → Int
  | 0, t => t
  | n + 1, t => if t > 2 then topF H n (H t) else t
noncomputable def upV (H : Int → Int) (p : Int) (t : Tok) : Value :=
  if p < 3 ∨ topF H 9 p = 2 ∨ (topF H 9 p = 1 ∧ H p = 1) then .none else .int (H p) t
theorem topF_more {H : Int → Int} (hH : ∀ i, 3 ≤ i → i < 9 → 0 ≤ H i ∧ H i < i) : ∀ (n : Nat) (t : Int), 0 ≤ t → t < 9 → t.toNat ≤ n → topF H (n + 1) t = topF H n t := by
  intro n
  induction n with
  | zero => intro t h0 h9 hn
            have : t = 0 := by omega
            subst this; rfl
  | succ n ih =>
    intro t h0 h9 hn
    by_cases ht : t > 2
    · have e := hH t (by omega) h9
      have a : topF H (n + 1 + 1) t = topF H (n + 1) (H t) := by simp [topF, ht]
      have b : topF H (n + 1) t = topF H n (H t) := by simp [topF, ht]
      rw [a, b, ih (H t) e.1 (by omega) (by omega)]
    · simp [topF, ht]
theorem topF_turn {H : Int → Int} (hH : ∀ i, 3 ≤ i → i < 9 → 0 ≤ H i ∧ H i < i) {t : Int} (h2 : 2 < t) (h9 : t < 9) : topF H 9 t = topF H 9 (H t) := by
  have e := hH t (by omega) h9
  have a : topF H (8 + 1) t = topF H 8 (H t) := by simp [topF, h2]
  rw [a, topF_more hH 8 (H t) e.1 (by omega) (by omega)]
theorem topF_end {H : Int → Int} {t : Int} (h2 : ¬ 2 < t) : topF H 9 t = t := by simp [topF, h2]
theorem c_up_step {H : Int → Int} {t p : Int} (hH : ∀ i, 3 ≤ i → i < 9 → 0 ≤ H i ∧ H i < i) (h2 : 2 < t) (h0 : 0 ≤ t) (h9 : t < 9) (h : topF H 9 p = topF H 9 t) : 0 ≤ H t ∧ H t < 9 ∧ topF H 9 p = topF H 9 (H t) := by
  have e := hH t (by omega) h9
  exact ⟨e.1, by omega, h.trans (topF_turn hH h2 h9)⟩
theorem c_up_meas {H : Int → Int} {t : Int} (hH : ∀ i, 3 ≤ i → i < 9 → 0 ≤ H i ∧ H i < i) (h2 : 2 < t) (h9 : t < 9) : (H t).toNat < t.toNat := by
  have e := hH t (by omega) h9
  omega
theorem up_ret {H : Int → Int} {p : Int} {h₀ h' : Heap} {L : Addr} {m : Str → Option Value} {news : List (Addr × Obj)} {s : Shared} {Q : Value → Shared → Prop} {v : Value} {tk' : Nat} {t : Tok}
    (ret : ∀ h' tk', Fr h₀ L h' m → News h₀ L h' news → Q (upV H p t) { s with heap := h', toks := tk' }) (F : Fr h₀ L h' m) (N : News h₀ L h' news) (e : upV H p t = v) : Q v { s with heap := h', toks := tk' } := e ▸ ret h' tk' F N
theorem c_up (w : World) {mean : ExcName → Option Value} {mg mb : Str → Option Value} {dp un : Nat} {gd : Option (List Code)} {cn : Str} {cs : Scope} {a : Addr} {ccd : Value} {cl : List (Str × Addr)} {outer : List Env} {A₀ : Around} {base h₀ : Heap} {L : Addr} {m : Str → Option Value} {s : Shared} {Q E : Value → Shared → Prop} {news : List (Addr × Obj)}
    {hg : Addr} {its : Array Value} {H : Int → Int} {T : Int → Tok} {n : Nat} {p : Int} {tp : Tok}
    (B : Below A₀ base outer h₀) (F : Fr h₀ L s.heap m) (X : (Mine.fr2 w.params).In h₀) (N : News h₀ L s.heap news) (TT : Top topProg LL mean mg mb h₀) (hk : cs.kind = .function)
    (hd : dp + 5 < recursionLimit) (hu : un + 40 < cLine)
    (hm : (hg, listOf its n) ∈ news) (hI : ∀ i, 3 ≤ i → i < 9 → its.toList[i.toNat]? = some (.int (H i) (T i)) ∧ 0 ≤ H i ∧ H i < i)
    (hp : 0 ≤ p) (hp9 : p < 9)
    (ret : ∀ h' tk', Fr h₀ L h' m → News h₀ L h' news → Q (upV H p (T p)) { s with heap := h', toks := tk' }) :
    wpAny (model PP w) (ktrTop dp un gd cn cs L a ccd cl outer) (call (.ref 151) [.ref hg, .int p tp]) Q E s := by
  refine wpAny_call ?_
  k_dflt cell_enter
  k_with_none
  k_with "eval Name" => (k_here; (fail_if_success (with_reducible show wpAny _ _ (eval _ (compEnvC _ _ _ _)) _ _ _)); first | (refine' nameX_L ?zqF ?zqv ?_ ?zqa ?zqb; (case zqF => k_asm); (case zqa => rfl); (case zqb => rfl); (case zqv => rfl); k_whole) | (refine' nameX_K ?zqF ?zqX ?zqT ?zqe ?_ ?zqa ?zqb; (case zqF => k_asm); (case zqX => k_asm); (case zqT => k_asm); (case zqa => rfl); (case zqb => rfl); (case zqe => k_is); k_whole) | (refine' nameX_B ?zqF ?zqX ?zqT ?zqe ?zqv ?zqn ?_ ?zqa ?zqb; (case zqF => k_asm); (case zqX => k_asm); (case zqT => k_asm); (case zqa => rfl); (case zqb => rfl); (case zqe => k_is); (case zqv => boot_fast); (case zqn => decide); k_whole) | (refine' nameX_C ?zqN ?zqc ?zqm ?zqd ?_ ?zqa ?zqb; (case zqa => rfl); (case zqb => rfl); (case zqN => k_asm); (case zqc => rfl); (case zqm => k_mem); (case zqd => k_asm); k_whole))
  k_with "callWith ref" => (k_here; first | (refine' callWith_K ?zqk1 ?zqk2 ?_; (case zqk1 => k_asm); (case zqk2 => k_is); k_whole) | (refine' callWith_KW ?zqk1 ?zqk2 ?zqk3 ?_; (case zqk1 => k_asm); (case zqk2 => k_is); (case zqk3 => exact rfl); k_whole))
  k_with "storeName" => (k_here; refine' storeX_L ?zqF ?zqN ?_ ?zqa ?zqb; (case zqF => k_asm); (case zqN => k_asm); (case zqa => rfl); (case zqb => rfl); k_whole; intro _ _ _; (try k_sweep))
  k_with "subscriptTail Name Name ref int" => k_extra "subscriptTail"
  k_with "subscriptTail Name Call ref int" => k_extra "subscriptTail"
  k_with "subscriptTail Name Subscript ref int" => k_extra "subscriptTail"
  k_with "subscriptTail" => (k_here; (with_reducible show wpAny _ _ (subscriptTail _ _ (Value.ref _) (Value.int _ _)) _ _ _); (with_unfolding_all refine' sub_list ?k1 ?k2 ?k3 ?_ ?k6); (case k1 => k_asm); (case k2 => k_mem); (case k6 => with_unfolding_all rfl); (case k3 => k_extra "item"); k_whole)
  k_with "WlPost" => dsimp only [WlPost]
  k_with "WlEnd" => k_extra "while end"
  have hH : ∀ i, 3 ≤ i → i < 9 → 0 ≤ H i ∧ H i < i := fun i a b => (hI i a b).2
  k_with "exec While Compare cons nil" => k_while (fun _ top => 0 ≤ top ∧ top < 9 ∧ topF H 9 p = topF H 9 top) (fun _ top => top.toNat) "top"
  k_with "state" => first | exact ⟨hp, hp9, rfl⟩ | exact c_up_step hH (by assumption) (by assumption) (by assumption) (by assumption)
  k_with "measure" => exact c_up_meas hH (by assumption) (by assumption)
  k_with "item" => exact ⟨by omega, by omega, (hI _ (by omega) (by omega)).1⟩
  k_steps
  all_goals (refine up_ret ret (by assumption) (by assumption) ?_; unfold upV; have hE := topF_end (H := H) (by assumption); simp_all; done)
end Mine
end
section
open PySem PySem.W PyProof.Rows
namespace Mine
open PySem.Sre
/-- the chain of places that a place hangs from, and its root -/
noncomputable def chainN (g : Nat → Nat) : Nat → Nat → List Nat × Nat
  | 0, p => ([], p)
  | n + 1, p => if p < 3 then ([], p) else ((p - 3) :: (chainN g n (g p)).1, (chainN g n (g p)).2)
noncomputable def NM (g : Nat → Nat) (r p : Nat) : Str := nmk r (chainN g 9 p).1 (chainN g 9 p).2
noncomputable def Wn (g : Nat → Nat) (p : Nat) : Option Nat := if p < 3 ∨ (chainN g 9 p).2 = 2 ∨ ((chainN g 9 p).2 = 1 ∧ g p = 1) then none else some (g p)
noncomputable def GOk (g : Nat → Nat) : Prop := ∀ p, 3 ≤ p → p < 9 → g p < p
theorem chain_low {g : Nat → Nat} {n p : Nat} (h : p < 3) : chainN g n p = ([], p) := by
  cases n with
  | zero => rfl
  | succ n => rw [chainN, if_pos h]
theorem chain_more {g : Nat → Nat} (hg : GOk g) : ∀ n p, p < 9 → p ≤ n + 2 → chainN g (n + 1) p = chainN g n p := by
  intro n
  induction n with
  | zero => intro p h9 h; rw [chain_low (by omega), chain_low (by omega)]
  | succ n ih =>
    intro p h9 h
    by_cases h3 : p < 3
    · rw [chain_low h3, chain_low h3]
    · have := hg p (by omega) h9
      have e := ih (g p) (by omega) (by omega)
      rw [chainN, if_neg h3, e]
      conv => rhs; rw [chainN, if_neg h3]
theorem chain_step {g : Nat → Nat} (hg : GOk g) {p : Nat} (h3 : 3 ≤ p) (h9 : p < 9) : chainN g 9 p = ((p - 3) :: (chainN g 9 (g p)).1, (chainN g 9 (g p)).2) := by
  have := hg p h3 h9
  have e := chain_more hg 8 (g p) (by omega) (by omega)
  rw [e]
  show chainN g (8 + 1) p = _
  rw [chainN, if_neg (by omega)]
theorem chains_mono {n k : Nat} {S : List Nat} (h : S ∈ chains n) (hk : n ≤ k) : S ∈ chains k := by
  induction hk with
  | refl => exact h
  | step _ ih => exact List.mem_append_left _ ih
theorem chain_mem {g : Nat → Nat} (hg : GOk g) : ∀ n p, p < 9 → (chainN g n p).1 ∈ chains (p - 2) := by
  intro n
  induction n with
  | zero => intro p _; exact chains_mono (n := 0) (by simp [chainN, chains]) (Nat.zero_le _)
  | succ n ih =>
    intro p h9
    by_cases h3 : p < 3
    · rw [chain_low h3]; exact chains_mono (n := 0) (by simp [chains]) (Nat.zero_le _)
    · have hgp := hg p (by omega) h9
      have e := chains_mono (k := p - 3) (ih (g p) (by omega)) (by omega)
      rw [chainN, if_neg h3, show p - 2 = (p - 3) + 1 by omega]
      exact List.mem_append_right _ (List.mem_map.mpr ⟨_, e, rfl⟩)
theorem chain_base {g : Nat → Nat} (hg : GOk g) : ∀ n p, p < 9 → p ≤ n + 2 → (chainN g n p).2 < 3 := by
  intro n
  induction n with
  | zero => intro p _ h; simp only [chainN]; omega
  | succ n ih =>
    intro p h9 h
    by_cases h3 : p < 3
    · rw [chain_low h3]; exact h3
    · have hgp := hg p (by omega) h9
      rw [chainN, if_neg h3]
      exact ih (g p) (by omega) (by omega)
theorem chain_nil {g : Nat → Nat} (hg : GOk g) {p : Nat} (h9 : p < 9) : (chainN g 9 p).1 = [] ↔ p < 3 := by
  constructor
  · intro h
    by_cases h3 : p < 3
    · exact h3
    · rw [chain_step hg (by omega) h9] at h
      cases h
  · intro h; rw [chain_low h]
theorem NM_low {g : Nat → Nat} {r p : Nat} (h : p < 3) : NM g r p = base3.getD p Str.empty := by
  unfold NM; rw [chain_low h]; rfl
theorem NM_step {g : Nat → Nat} (hg : GOk g) {r p : Nat} (h3 : 3 ≤ p) (h9 : p < 9) : NM g r p = ⟨#[lab r (p - 3), 46] ++ (NM g r (g p)).cps⟩ := by
  unfold NM; rw [chain_step hg h3 h9]; rfl
theorem reach_NM {g : Nat → Nat} (hg : GOk g) {r p : Nat} (h9 : p < 9) : reachP (NM g r p) = match Wn g p with | none => NM g r p | some q => Str.ofString "." ++ NM g r q := by
  by_cases h3 : p < 3
  · have hw : Wn g p = none := by unfold Wn; rw [if_pos (.inl h3)]
    rw [hw]
    show reachP (NM g r p) = NM g r p
    rw [NM_low h3]
    have := find_base p h3
    unfold reachP
    rw [if_neg (by omega)]
  · have e := chain_step hg (by omega) h9
    have hgp := hg p (by omega) h9
    have hb := chain_base hg 9 (g p) (by omega) (by omega)
    have hT : (chainN g 9 (g p)).1 = [] ↔ g p < 3 := chain_nil hg (by omega)
    have hN : NM g r p = nmk r ((p - 3) :: (chainN g 9 (g p)).1) (chainN g 9 (g p)).2 := by unfold NM; rw [e]
    rw [hN, reach_name hb]
    unfold Wn
    rw [e]
    by_cases hc : (chainN g 9 (g p)).2 = 2 ∨ ((chainN g 9 (g p)).2 = 1 ∧ (chainN g 9 (g p)).1 = [])
    · rw [if_pos hc, if_pos]
      rcases hc with h | ⟨h, h'⟩
      · exact .inr (.inl h)
      · have := hT.mp h'
        rw [chain_low this] at h
        exact .inr (.inr ⟨by rw [chain_low this]; exact h, h⟩)
    · rw [if_neg hc, if_neg]
      · rfl
      · rintro (h | h | ⟨h, h'⟩)
        · exact h3 h
        · exact hc (.inl h)
        · exact hc (.inr ⟨h, hT.mpr (by omega)⟩)
theorem chain_few {g : Nat → Nat} (hg : GOk g) {p : Nat} (h9 : p < 9) : (chainN g 9 p).1.length ≤ 6 := Nat.le_trans (chains_len (chain_mem hg 9 p h9)) (by omega)
theorem NM_reach {g : Nat → Nat} (hg : GOk g) {r p : Nat} (h9 : p < 9) (hf : 0 ≤ Txt.find (NM g r p) (Str.ofString ".")) : ReachOk (NM g r p) := by
  by_cases h3 : p < 3
  · exfalso
    rw [NM_low h3] at hf
    have := find_base p h3
    omega
  · have e := chain_step hg (by omega) h9
    have hgp := hg p (by omega) h9
    have hN : NM g r p = nmk r ((p - 3) :: (chainN g 9 (g p)).1) (chainN g 9 (g p)).2 := by unfold NM; rw [e]
    rw [hN]
    exact reach_ok (chain_base hg 9 (g p) (by omega) (by omega)) _ _ (Nat.le_trans (chain_few hg (by omega)) (by decide))
theorem NM_len {g : Nat → Nat} (hg : GOk g) {r p : Nat} (h9 : p < 9) : (NM g r p).length < 100 := by
  unfold NM
  rw [nmk_nml]
  show (nml r _ _).toArray.size < 100
  rw [List.size_toArray]
  have h1 := nml_len r (chainN g 9 p).2 (chainN g 9 p).1
  have h2 := chain_few hg h9
  omega
theorem nmk_str (r : Nat) : ∀ S b, PyData.strOk (nmk r S b) = true := by
  intro S
  induction S with
  | nil =>
    intro b
    show PyData.strOk (base3.getD b Str.empty) = true
    have h : ∀ b, b < 3 → PyData.strOk (base3.getD b Str.empty) = true := by decide +kernel
    by_cases hb : b < 3
    · exact h b hb
    · rw [List.getD_eq_getElem?_getD, List.getElem?_eq_none (by simp [base3]; omega)]
      decide +kernel
  | cons k S ih =>
    intro b
    have := ih b
    unfold PyData.strOk at this ⊢
    rw [nmk, Array.all_append, this]
    simp [(lab_in r k).2]
theorem NM_str (g : Nat → Nat) (r p : Nat) : PyData.strOk (NM g r p) = true := nmk_str _ _ _
theorem topF_chain {g : Nat → Nat} {H : Int → Int} (hg : GOk g) (hH : ∀ p : Nat, 3 ≤ p → p < 9 → H p = (g p : Int)) : ∀ (n p : Nat), p < 9 → topF H n (p : Int) = ((chainN g n p).2 : Int) := by
  intro n
  induction n with
  | zero => intro p _; rfl
  | succ n ih =>
    intro p h9
    by_cases h3 : p < 3
    · rw [chain_low h3, topF, if_neg (by omega)]
    · have hgp := hg p (by omega) h9
      rw [topF, if_pos (by omega), hH p (by omega) h9, ih (g p) (by omega), chainN, if_neg h3]
theorem upV_Wn {g : Nat → Nat} {H : Int → Int} (hg : GOk g) (hH : ∀ p : Nat, 3 ≤ p → p < 9 → H p = (g p : Int)) {p : Nat} (h9 : p < 9) (t : Tok) : upV H (p : Int) t = optV (Wn g p) t := by
  unfold upV Wn
  rw [topF_chain hg hH 9 p h9]
  by_cases h3 : p < 3
  · rw [if_pos (.inl (by omega)), if_pos (.inl h3)]; rfl
  · have e := hH p (by omega) h9
    by_cases hc : p < 3 ∨ (chainN g 9 p).2 = 2 ∨ ((chainN g 9 p).2 = 1 ∧ g p = 1)
    · rw [if_pos hc, if_pos (by rcases hc with h | h | ⟨h, h'⟩ <;> omega)]; rfl
    · rw [if_neg hc, if_neg (by intro h; apply hc; rcases h with h | h | ⟨h, h'⟩ <;> omega), e]; rfl
theorem Wn_lt {g : Nat → Nat} (hg : GOk g) {p q : Nat} (h9 : p < 9) (h : Wn g p = some q) : q < p := by
  unfold Wn at h
  split at h
  · cases h
  · rename_i hc
    cases h
    exact hg p (by omega) h9
theorem lab_inj : ∀ r < 6, ∀ k < 6, ∀ l < 6, lab r k = lab r l → k = l := by decide
theorem base_2 : ∀ p < 3, (base3.getD p Str.empty).cps[1]? ≠ some 46 := by decide
theorem base_inj : ∀ p < 3, ∀ q < 3, base3.getD p Str.empty = base3.getD q Str.empty → p = q := by decide
theorem NM_inj {g : Nat → Nat} (hg : GOk g) {r : Nat} (hr : r < 6) : ∀ p < 9, ∀ q < 9, NM g r p = NM g r q → p = q := by
  intro p hp q hq h
  have c1 : ∀ p, 3 ≤ p → p < 9 → (NM g r p).cps[1]? = some 46 ∧ (NM g r p).cps[0]? = some (lab r (p - 3)) := by
    intro p h3 h9
    rw [NM_step hg h3 h9]
    constructor
    · show (#[lab r (p - 3), 46] ++ (NM g r (g p)).cps)[1]? = _
      rw [Array.getElem?_append_left (by simp)]; rfl
    · show (#[lab r (p - 3), 46] ++ (NM g r (g p)).cps)[0]? = _
      rw [Array.getElem?_append_left (by simp)]; rfl
  by_cases p3 : p < 3 <;> by_cases q3 : q < 3
  · rw [NM_low p3, NM_low q3] at h
    exact base_inj p p3 q q3 h
  · exfalso
    have := (c1 q (by omega) hq).1
    rw [← h, NM_low p3] at this
    exact base_2 p p3 this
  · exfalso
    have := (c1 p (by omega) hp).1
    rw [h, NM_low q3] at this
    exact base_2 q q3 this
  · have h1 := (c1 p (by omega) hp).2
    have h2 := (c1 q (by omega) hq).2
    rw [h, h2] at h1
    have := lab_inj r hr (p - 3) (by omega) (q - 3) (by omega) (Option.some.inj h1).symm
    omega
theorem slice_dot {x : Str} : Txt.slice (Str.ofString "." ++ x) (some 1) none = x := by
  have hl : (Str.ofString "." ++ x).cps = #[46] ++ x.cps := rfl
  have hl2 : (Str.ofString "." ++ x).length = x.length + 1 := by
    show (Str.ofString "." ++ x).cps.size = x.cps.size + 1
    rw [hl, Array.size_append]
    simp only [List.size_toArray, List.length_cons, List.length_nil]
    omega
  rw [slice_from_eq (b := ((x.length + 1 : Nat) : Int)) (by decide) (by rw [hl2]; omega) (by rw [hl2]), hl]
  obtain ⟨⟨l⟩⟩ := x
  show (⟨_⟩ : Str) = _
  have e1 : (#[46] ++ (⟨l⟩ : Array Nat)).toList = 46 :: l := by simp
  have e2 : (((((⟨⟨l⟩⟩ : Str).length + 1 : Nat) : Int)) - 1).toNat = l.length := by
    show ((((l.length + 1 : Nat) : Int)) - 1).toNat = l.length
    omega
  rw [e2]
  show (⟨(List.take l.length (List.drop 1 (#[46] ++ (⟨l⟩ : Array Nat)).toList)).toArray⟩ : Str) = _
  rw [e1, List.drop_succ_cons, List.drop_zero, List.take_length]
end Mine
end
section
open PySem PySem.W PyProof.Rows
namespace Mine
open PySem.Spec PySem.Calls

section
variable {w : World} {mean : ExcName → Option Value} {mg mb : Str → Option Value} {dp un : Nat} {gd : Option (List Code)} {cn : Str} {mo : List (Str × Const)} {a : Addr} {ccd : Value} {A₀ : Around} {base h₀ : Heap} {L : Addr} {m : Str → Option Value} {s : Shared} {Q : Flow → Shared → Prop} {news : List (Addr × Obj)}

/-- the first places of the list of ways -/
noncomputable def WaysOk (W : Nat → Option Nat) (i : Nat) (ws : List Value) : Prop := ws.length = i ∧ ∀ j < i, ∃ t, ws[j]? = some (optV (W j) t)
theorem WaysOk.nil {W : Nat → Option Nat} : WaysOk W 0 [] := ⟨rfl, fun _ h => absurd h (Nat.not_lt_zero _)⟩
theorem WaysOk.snoc {W : Nat → Option Nat} {i : Nat} {ws : List Value} {v : Value} {t : Tok} (h : WaysOk W i ws) (e : v = optV (W i) t) : WaysOk W (i + 1) (ws ++ [v]) := by
  subst e
  refine ⟨by rw [List.length_append, h.1]; rfl, fun j hj => ?_⟩
  by_cases e : j = i
  · subst e
    exact ⟨t, by rw [List.getElem?_append_right (by rw [h.1]; exact Nat.le_refl _), h.1, Nat.sub_self]; rfl⟩
  · obtain ⟨t', h1⟩ := h.2 j (by omega)
    exact ⟨t', by rw [List.getElem?_append_left (by rw [h.1]; omega)]; exact h1⟩
theorem WaysOk.fun {W : Nat → Option Nat} {n : Nat} {ws : List Value} (h : WaysOk W n ws) : ∃ tw : Nat → Tok, ∀ i, i < n → ws[i]? = some (optV (W i) (tw i)) := by
  have : ∀ i : Nat, ∃ t : Tok, i < n → ws[i]? = some (optV (W i) t) := by
    intro i
    by_cases hi : i < n
    · obtain ⟨t, h1⟩ := h.2 i hi
      exact ⟨t, fun _ => h1⟩
    · exact ⟨0, fun h => absurd h hi⟩
  obtain ⟨f, hf⟩ := Classical.axiomOfChoice this
  exact ⟨f, hf⟩
noncomputable def wyVals (V : List (Str × Value)) (_ : List Value × Nat) : List (Str × Value) := V
noncomputable def wyOk (P : Nat → List Value → Prop) (i : Nat) (c : List Value × Nat) : Prop := P i c.1
theorem list_end {V : List (Str × Value)} {D : Addr} {h' : Heap} {tk : Nat} {m' : Str → Option Value} {c : List Value × Nat} {own fix news' : List (Addr × Obj)} {i : Nat} {P : Nat → List Value × Nat → Prop} (F : Fr h₀ L h' m') (N : News h₀ L h' news')
    (hn : ∀ p ∈ (D, listOf c.1.toArray c.2) :: (own ++ fix), p ∈ news') (hp : P (i + 1) c) (hm : ∀ p ∈ V, m' p.1 = some p.2) : F2End h₀ L s (wyVals V) (drLed D) fix "range_iterator" P i own { s with heap := h', toks := tk } := by
  refine f2_end c F N hm ?_ ?_ hp
  · intro p hp
    refine hn p ?_
    dsimp only [drLed] at hp ⊢
    refine sub_of hp ?_
    (repeat' (first | with_reducible refine sub_app ?_ ?_ | with_reducible refine sub_cons ?_ ?_ | exact sub_nil | (intro _ hz9; k_mem) | k_mem))
  · intro p hp
    simp only [drLed, List.mem_singleton] at hp
    subst hp
    exact list_noiter
theorem rl_for {prog : Program} {A : Around} {E : Value → Shared → Prop} {env : Env} {x : Str} {body : List Stmt} {D ra : Addr} {n : Nat} {P : Nat → List Value → Prop} {t1 t2 t3 : Tok} (V : List (Str × Value))
    (hh : A.handled = none) (F : Fr h₀ env.locals s.heap m) (N : News h₀ env.locals s.heap ((D, listOf #[] n) :: news)) (hr : IsRange s.heap ra 0 9 1 t1 t2 t3)
    (hm : ∀ p ∈ V, m p.1 = some p.2) (hne : ∀ p ∈ news, p.1 ≠ D) (h0 : P 0 [])
    (turn : ∀ (i : Nat) t (c : List Value × Nat) h tk (u : Str → Option Value) (own : List (Addr × Obj)), i < 9 → P i c.1 → (∀ p ∈ own ++ news, p.1 ≠ D) → Fr h₀ env.locals h (fun y => if y = x then some (.int (i : Int) t) else frV V u y) → News h₀ env.locals h ((D, listOf c.1.toArray c.2) :: (own ++ news)) →
      wpAny (model prog w) A (execs body env) (F2Post h₀ env.locals { s with heap := h, toks := tk } (wyVals V) (drLed D) news "range_iterator" (wyOk P) Q i own) E { s with heap := h, toks := tk })
    (done : ∀ (c : List Value × Nat) h tk (u : Str → Option Value), P 9 c.1 → Fr h₀ env.locals h (frV V u) → News h₀ env.locals h ((D, listOf c.1.toArray c.2) :: news) → Q .next { s with heap := h, toks := tk }) :
    wpAny (model prog w) A (pyIter (.ref ra)) (fun it s₂ => LoopAtV prog w A h₀ env x body Q E it s₂) E s := by
  have hD : D ≠ s.heap.objs.size := Nat.ne_of_lt (Heap.lt_size (N _ List.mem_cons_self).1)
  refine f2_range (σ := List Value × Nat) (nn := 9) (wyVals V) (drLed D) news (wyOk P) ([], n) hh F N hr (by decide) (by decide) hm (fun _ h => h) (fun p hp => ?_) h0 ?_ ?_
  · simp only [drLed, List.mem_singleton] at hp
    subst hp
    exact list_noiter
  · intro i t c h tk u own hi hp _ hown _ F' N'
    rw [show (0 : Int) + (i : Int) * 1 = (i : Int) by omega] at F'
    refine turn i t c h tk u own hi hp (fun p hp => ?_) F' (News.perm N' ?_)
    · rcases List.mem_append.mp hp with h1 | h1
      · rw [hown p h1]; exact fun e => hD e.symm
      · exact hne p h1
    · (dsimp only [drLed]; repeat' (first | with_reducible refine sub_app ?_ ?_ | with_reducible refine sub_cons ?_ ?_ | exact sub_nil | (intro _ hz9; k_mem) | k_mem))
  · intro c h tk u hp F' N'
    exact done c h tk u hp F' N'
theorem opt_ok (W : Nat → Option Nat) (n k : Nat) : ∀ d ∈ (List.range n).map (fun i => optD (W i)), kqdOk k d = true := by
  intro d hd
  obtain ⟨j, _, rfl⟩ := List.mem_map.mp hd
  cases W j <;> cases k <;> rfl
open Classical in
theorem ne_opts {prog : Program} {A : Around} {E Q : Value → Shared → Prop} {a b : Addr} {ws : List Value} {ib : Array Value} {na nb : Nat} {W : Nat → Option Nat} {t u : Nat → Tok} (N : News h₀ L s.heap news) (ma : (a, listOf ws.toArray na) ∈ news) (mb : (b, listOf ib nb) ∈ news)
    (la : ws.length = 9) (ga : ∀ i, i < 9 → ws[i]? = some (optV (W i) (t i))) (lb : ib.toList.length = 9) (gb : ∀ i, i < 9 → ib.toList[i]? = some (optV (W i) (u i))) (hu : A.units + 64 < cLine) (h : Q (.bool false) s) :
    wpAny (model prog w) A (compareOp .NotEq (.ref a) (.ref b)) Q E s := by
  refine kqd_ne (oa := PySem.W.listOf ws.toArray na) (ob := PySem.W.listOf ib nb) (xs := ws) (ys := ib.toList) (kb := nb) N ma rfl rfl (datAll_of 9 ws la ga) (fun _ h => h) mb rfl (by rw [Array.toArray_toList]) (datAll_of 9 ib.toList lb gb) (fun _ h => h) (opt_ok _ _ _) (opt_ok _ _ _) hu ?_
  rw [decide_eq_true (rfl : ((List.range 9).map fun i => optD (W i)) = _)]
  exact h
theorem dot_len {x : Str} (h : x.length < 100) : (Str.ofString "." ++ x).length ≤ sizeLine := by
  have hl : (Str.ofString "." ++ x).cps = #[46] ++ x.cps := rfl
  have hl2 : (Str.ofString "." ++ x).length = x.length + 1 := by
    show (Str.ofString "." ++ x).cps.size = x.cps.size + 1
    rw [hl, Array.size_append]
    simp only [List.size_toArray, List.length_cons, List.length_nil]
    omega
  have := sz20
  omega
theorem itemN {l : List Value} {i : Nat} {v : Value} (hi : i < 9) (h : l[i]? = some v) : 0 ≤ (i : Int) ∧ (i : Int) < 2 ^ 62 ∧ l[((i : Int)).toNat]? = some v := ⟨by omega, by omega, by simpa using h⟩
theorem all_app {α : Type} {P : α → Prop} {l r : List α} (h : ∀ p ∈ l, P p) (t : ∀ p ∈ r, P p) : ∀ p ∈ l ++ r, P p := fun _ hp => (List.mem_append.mp hp).elim (h _) (t _)
theorem law_C14 {H : Hosts} {Y2 : LayD} {cW cH cD dA nA lA tA : Addr} {oW oD : Obj} {vW : Option Value} {ds : List Value} {dl : Nat → Int} {nD nN nL nT : Nat} {iN iL : Array Value} {T : List Value} {X : Nat → Str} {TX : Nat → Tok} {Y : Int → Str} {TY : Int → Tok} {r : Nat → Nat} {kt rest : List (Addr × Obj)} {wyA : Addr} {c : List Value × Nat} {tw : Nat → Tok}
    (B : Below A₀ base [] h₀) (F : Fr h₀ L s.heap m) (XX : (Mine.fr2 w.params).In h₀) (TT : Top topProg LL mean mg mb h₀) (XB : (Mine.fr2 w.params).In base) (TB : Top topProg LL mean mg mb base) (hd : dp + 40 < recursionLimit) (hu : un + 300 < cLine)
    (N : News h₀ L s.heap ((wyA, listOf c.1.toArray c.2) :: (kt ++ ((cW, oW) :: rest)))) (l1 : ∀ p ∈ kt ++ ((cW, oW) :: rest), p.1 < wyA) (hp : WaysOk H.W 9 c.1) (htw : ∀ i, i < 9 → c.1[i]? = some (optV (H.W i) (tw i))) (hT : KTab kt) (hne : ∀ p ∈ (cW, oW) :: rest, p.1 ≠ 181) (hneW : ∀ p ∈ kt ++ rest, p.1 ≠ cW)
    (hcW : oW.data = .cell vW) (hcD : oD.data = .cell (some (.ref dA))) (mD : (cD, oD) ∈ rest) (mds : (dA, listOf ds.toArray nD) ∈ rest) (hds : IntsAre ds ((List.range 16).map dl)) (hdl : ∀ j, 0 ≤ dl j ∧ dl j < 2 ^ 50)
    (mN : (nA, listOf iN nN) ∈ rest) (mL : (lA, listOf iL nL) ∈ rest) (mT : (tA, listOf T.toArray nT) ∈ rest)
    (lN9 : iN.toList.length = 9) (hN : ∀ i : Nat, i < 9 → iN.toList[i]? = some (.str (X i) (TX i))) (hX : ∀ i, PyData.strOk (X i) = true) (lL : iL.toList.length = 9) (hL : ∀ i : Int, 0 ≤ i → i < (9 : Nat) → iL.toList[i.toNat]? = some ((fun i => .str (Y i) (TY i)) i))
    (hr : ∀ p < 9, r p < 9) (hS : ∀ p < 9, ∀ i : Int, 0 ≤ i → i < (9 : Nat) → ((fun i => (Y i).cps.toList < (X p).cps.toList) i ↔ i < r p)) (hTab : TabOk r 9 T)
    (hY2 : HostOk H Y2 rest)
    (hc : CodeHd base (185, 181).fst (185, 181).snd)
    (hm : ∀ p ∈ [(Str.ofString "ways", Value.ref wyA), (Str.ofString "names", Value.ref nA), (Str.ofString "line", .ref lA), (Str.ofString "table", .ref tA), (Str.ofString "up", .ref Y2.wyA), (Str.ofString "rooms", .ref Y2.roA), (Str.ofString "contrary", .ref Y2.coA)], m p.1 = some p.2)
    (ret : ∀ h' tk' m' kt' news', Fr h₀ L h' m' → News h₀ L h' (kt' ++ news') → KTab kt' → Q (.ret (.bool true)) { s with heap := h', toks := tk' }) :
    wpN (model PP w) (ktrTop dp un gd cn (CS (lawN w.params) false false mo) L a ccd (laC cW cH cD) []) (execs ((lawB w.params).drop 14) (envX cn (CS (lawN w.params) false false mo) L a ccd (laC cW cH cD))) Q s := by
  have m181 : ∃ o, ((181 : Addr), o) ∈ kt := ktab_181 hT
  have h181 : wyA ≠ 181 := by
    obtain ⟨o, ho⟩ := m181
    exact (Nat.ne_of_lt (l1 (181, o) (List.mem_append_left _ ho))).symm
  have hcw : wyA ≠ cW := (Nat.ne_of_lt (l1 (cW, oW) (List.mem_append_right _ (.head _)))).symm
  refine law_D14 (H := H) (Y1 := { Y2 with wyA := wyA, iW := c.1.toArray, nW := c.2, tw := tw }) (Y2 := Y2) (kt := kt) (oW := oW) (oD := oD) (rest := (wyA, listOf c.1.toArray c.2) :: rest) (X := X) (Y := Y) (r := r) (T := T) (dl := dl) B F XX TT XB TB hd hu (News.perm N ?_) hT ?_ ?_ hcW hcD (.tail _ mD) (.tail _ mds) hds hdl (.tail _ mN) (.tail _ mL) (.tail _ mT) lN9 hN hX lL hL hr hS hTab ?_ ?_ hc ?_ ret
  · (repeat' (first | with_reducible refine sub_app ?_ ?_ | with_reducible refine sub_cons ?_ ?_ | exact sub_nil | (intro _ hz9; k_mem) | k_mem))
  · exact List.forall_mem_cons.mpr ⟨hne _ (.head _), List.forall_mem_cons.mpr ⟨h181, fun p h => hne p (.tail _ h)⟩⟩
  · exact all_app (fun p h => hneW p (List.mem_append_left _ h)) (List.forall_mem_cons.mpr ⟨hcw, fun p h => hneW p (List.mem_append_right _ h)⟩)
  · exact ⟨.head _, .tail _ hY2.mR, .tail _ hY2.mCo, by simpa using hp.1, hY2.lR, fun i hi => by simpa using htw i hi, hY2.gR, hY2.gCo, hY2.hW, hY2.hR⟩
  · exact ⟨.tail _ hY2.mW, .tail _ hY2.mR, .tail _ hY2.mCo, hY2.lW, hY2.lR, hY2.gW, hY2.gR, hY2.gCo, hY2.hW, hY2.hR⟩
  · intro q hq
    refine hm q (sub_of hq ?_)
    (repeat' (first | with_reducible refine sub_cons ?_ ?_ | exact sub_nil | k_mem))
theorem law_C11 {H : Hosts} {Y2 : LayD} {cW cH cD dA nA lA tA : Addr} {oW oD : Obj} {vW : Option Value} {ds : List Value} {dl : Nat → Int} {nD nN nL nT : Nat} {iN iL : Array Value} {T : List Value} {X : Nat → Str} {TX : Nat → Tok} {Y : Int → Str} {TY : Int → Tok} {r : Nat → Nat} {kt rest : List (Addr × Obj)}
    (B : Below A₀ base [] h₀) (F : Fr h₀ L s.heap m) (XX : (Mine.fr2 w.params).In h₀) (TT : Top topProg LL mean mg mb h₀) (XB : (Mine.fr2 w.params).In base) (TB : Top topProg LL mean mg mb base) (hd : dp + 40 < recursionLimit) (hu : un + 300 < cLine)
    (N : News h₀ L s.heap (kt ++ ((cW, oW) :: rest))) (hT : KTab kt) (hne : ∀ p ∈ (cW, oW) :: rest, p.1 ≠ 181) (hneW : ∀ p ∈ kt ++ rest, p.1 ≠ cW)
    (hcW : oW.data = .cell vW) (hcD : oD.data = .cell (some (.ref dA))) (mD : (cD, oD) ∈ rest) (mds : (dA, listOf ds.toArray nD) ∈ rest) (hds : IntsAre ds ((List.range 16).map dl)) (hdl : ∀ j, 0 ≤ dl j ∧ dl j < 2 ^ 50)
    (mN : (nA, listOf iN nN) ∈ rest) (mL : (lA, listOf iL nL) ∈ rest) (mT : (tA, listOf T.toArray nT) ∈ rest)
    (lN9 : iN.toList.length = 9) (hN : ∀ i : Nat, i < 9 → iN.toList[i]? = some (.str (X i) (TX i))) (hX : ∀ i, PyData.strOk (X i) = true) (lL : iL.toList.length = 9) (hL : ∀ i : Int, 0 ≤ i → i < (9 : Nat) → iL.toList[i.toNat]? = some ((fun i => .str (Y i) (TY i)) i))
    (hr : ∀ p < 9, r p < 9) (hS : ∀ p < 9, ∀ i : Int, 0 ≤ i → i < (9 : Nat) → ((fun i => (Y i).cps.toList < (X p).cps.toList) i ↔ i < r p)) (hTab : TabOk r 9 T)
    (hY2 : HostOk H Y2 rest)
    (hXr : ∀ i < 9, reachP (X i) = match H.W i with | none => X i | some q => Str.ofString "." ++ X q) (hXo : ∀ i < 9, 0 ≤ Txt.find (X i) (Str.ofString ".") → ReachOk (X i)) (hXl : ∀ i < 9, (X i).length < 100)
    (hc : CodeHd base (185, 181).fst (185, 181).snd)
    (hm : ∀ p ∈ [(Str.ofString "names", Value.ref nA), (Str.ofString "line", .ref lA), (Str.ofString "table", .ref tA), (Str.ofString "up", .ref Y2.wyA), (Str.ofString "rooms", .ref Y2.roA), (Str.ofString "contrary", .ref Y2.coA)], m p.1 = some p.2)
    (ret : ∀ h' tk' m' kt' news', Fr h₀ L h' m' → News h₀ L h' (kt' ++ news') → KTab kt' → Q (.ret (.bool true)) { s with heap := h', toks := tk' }) :
    wpN (model PP w) (ktrTop dp un gd cn (CS (lawN w.params) false false mo) L a ccd (laC cW cH cD) []) (execs ((lawB w.params).drop 11) (envX cn (CS (lawN w.params) false false mo) L a ccd (laC cW cH cD))) Q s := by
  have hdr : ∀ {mQ : Flow → Shared → Prop} {ss : Shared}, wpN (model PP w) (ktrTop dp un gd cn (CS (lawN w.params) false false mo) L a ccd (laC cW cH cD) []) (execs ((lawB w.params).drop 14) (envX cn (CS (lawN w.params) false false mo) L a ccd (laC cW cH cD))) mQ ss → wpN (model PP w) (ktrTop dp un gd cn (CS (lawN w.params) false false mo) L a ccd (laC cW cH cD) []) (execs ((lawB w.params).drop 14) (envX cn (CS (lawN w.params) false false mo) L a ccd (laC cW cH cD))) mQ ss := fun h => h
  unfold lawB lawN lawAt at hdr ⊢
  dsimp only [List.drop_succ_cons, List.drop_zero] at hdr ⊢
  rw [frV_eq hm] at F
  skip
  have mU := hY2.mW
  have mNk : (nA, listOf iN nN) ∈ kt ++ ((cW, oW) :: rest) := by simp [mN]
  have mLk : (lA, listOf iL nL) ∈ kt ++ ((cW, oW) :: rest) := by simp [mL]
  have mTk : (tA, listOf T.toArray nT) ∈ kt ++ ((cW, oW) :: rest) := by simp [mT]
  have mUk : (Y2.wyA, listOf Y2.iW Y2.nW) ∈ kt ++ ((cW, oW) :: rest) := by simp [mU]
  refine N_execs_split 3 ?_
  simp only [List.take_succ_cons, List.take_zero, List.drop_succ_cons, List.drop_zero]
  k_with_none
  k_with "eval Name" => (k_here; (fail_if_success (with_reducible show wpAny _ _ (eval _ (compEnvC _ _ _ _)) _ _ _)); first | (refine' nameX_L ?zqF ?zqv ?_ ?zqa ?zqb; (case zqF => k_asm); (case zqa => rfl); (case zqb => rfl); (case zqv => rfl); k_whole) | (refine' nameX_K ?zqF ?zqX ?zqT ?zqe ?_ ?zqa ?zqb; (case zqF => k_asm); (case zqX => k_asm); (case zqT => k_asm); (case zqa => rfl); (case zqb => rfl); (case zqe => k_is); k_whole) | (refine' nameX_B ?zqF ?zqX ?zqT ?zqe ?zqv ?zqn ?_ ?zqa ?zqb; (case zqF => k_asm); (case zqX => k_asm); (case zqT => k_asm); (case zqa => rfl); (case zqb => rfl); (case zqe => k_is); (case zqv => boot_fast); (case zqn => decide); k_whole) | (refine' nameX_C ?zqN ?zqc ?zqm ?zqd ?_ ?zqa ?zqb; (case zqa => rfl); (case zqb => rfl); (case zqN => k_asm); (case zqc => rfl); (case zqm => k_mem); (case zqd => k_asm); k_whole))
  k_with "callWith ref" => (k_here; first | (refine' callWith_K ?zqk1 ?zqk2 ?_; (case zqk1 => k_asm); (case zqk2 => k_is); k_whole) | (refine' callWith_KW ?zqk1 ?zqk2 ?zqk3 ?_; (case zqk1 => k_asm); (case zqk2 => k_is); (case zqk3 => exact rfl); k_whole))
  k_with "storeName" => (k_here; refine' storeX_L ?zqF ?zqN ?_ ?zqa ?zqb; (case zqF => k_asm); (case zqN => k_asm); (case zqa => rfl); (case zqb => rfl); k_whole; intro _ _ _; (try k_sweep))
  k_with "subscriptTail Name Name ref int" => k_extra "subscriptTail"
  k_with "subscriptTail Name Call ref int" => k_extra "subscriptTail"
  k_with "subscriptTail Name Subscript ref int" => k_extra "subscriptTail"
  k_with "subscriptTail" => (k_here; (with_reducible show wpAny _ _ (subscriptTail _ _ (Value.ref _) (Value.int _ _)) _ _ _); (with_unfolding_all refine' sub_list ?k1 ?k2 ?k3 ?_ ?k6); (case k1 => k_asm); (case k2 => k_dflt k_mem); (case k6 => with_unfolding_all rfl); (case k3 => k_extra "item"); k_whole)
  k_with "call builtin:len" => (k_here; (with_reducible show wpAny _ _ (call (Value.builtin "len") [Value.ref _]) _ _ _); (with_unfolding_all refine' len_led ?k1 ?k2 ?k3 ?_); (case k1 => k_asm); (case k2 => k_dflt k_mem); (case k3 => k_extra "len"); k_whole)
  k_with "call ref" => (k_here; (with_reducible show wpAny _ _ (call (Value.ref _) _ _) _ _ _); k_dflt (k_extra "callref"))
  k_with "compareOp NotEq ref ref" => (k_here; k_dflt (k_extra "ne"))
  k_with "compareOp NotEq ref" => (k_here; k_dflt (k_extra "ne"))
  k_with "compareOp NotEq str" => (k_here; k_dflt (k_extra "ne"))
  k_with "compareOp NotEq str str" => (k_here; k_dflt (k_extra "ne"))
  k_with "binaryOp Add str str" => (k_here; k_dflt (k_extra "add"))
  k_with "subscriptTail Name Slice str ref" => (k_here; k_dflt (k_extra "slice"))
  k_with "pyIter ref" => (k_dflt (k_extra "iterrange"))
  k_with "call builtin:list.append" => (k_here; k_dflt (k_extra "append"))
  k_with "iterrange" => ((rename Fr _ _ _ _ => lF'); (rename News _ _ _ _ => lN'); (rename PySem.IsRange _ _ _ _ _ _ _ _ => lR'); (rename (∀ p, p ∈ kt ++ _ → p.1 < _) => l1); (refine' rl_for (D := ?wy) (P := WaysOk H.W) [(Str.ofString "ways", Value.ref ?wy), (Str.ofString "names", Value.ref nA), (Str.ofString "line", .ref lA), (Str.ofString "table", .ref tA), (Str.ofString "up", .ref Y2.wyA), (Str.ofString "rooms", .ref Y2.roA), (Str.ofString "contrary", .ref Y2.coA)] (by rfl) lF' lN' lR' ?hm1 ?hne WaysOk.nil ?turn ?done); (case hm1 => ((rename Fr _ _ _ _ => hvF); refine hv_of hvF ?_; repeat' (first | exact hv_nil | refine hv_cons ?_ ?_ | with_unfolding_all rfl))); (case hne => (exact fun p hp => Nat.ne_of_lt (l1 p hp))); (case' turn => (clear lF' lN' lR'; (try clear F); (try clear N); intro i t c h tk u own hi hp hne9 F' N'; (skip); (have hUi := hY2.gW i hi); (have hri := hXr i hi); (rcases hw : H.W i with _ | j) <;> rw [hw] at hUi hri <;> dsimp only [optV] at hUi hri)); (case' done => (clear lF' lN' lR'; (try clear F); (try clear N); intro c h tk u hp F' N'; (skip); (obtain ⟨tw, htw⟩ := hp.fun))))
  k_with "item" => first | (exact itemN hi hUi) | (exact itemN hi (hN i hi)) | (exact itemN (Nat.lt_trans (hY2.hW i j hi hw) hi) (hN j (Nat.lt_trans (hY2.hW i j hi hw) hi))) | ((have hr9 := hr j (Nat.lt_trans (hY2.hW i j hi hw) hi); exact ⟨by omega, by omega, hTp⟩))
  k_with "callref" => first
    | ((refine' c_reach (x := X i) ?p1 ?p2 ?p3 ?p4 ?p5 ?p6 ?p7 (Nat.lt_trans (hXl i hi) (by decide)) (hXo i hi) ?_); (case p1 => k_asm); (case p2 => k_asm); (case p3 => k_asm); (case p4 => k_asm); (case p5 => k_asm); (case p6 => ktr_room); (case p7 => ktr_units); ((rename News _ _ _ _ => lN; rename Fr _ _ _ _ => lF; intro rg t' h' tk' nw1 hrg F' N' sub1; rw [hri] at hrg; subst hrg; replace N' := News.perm N' sub1; clear lN lF)))
    | ((rename News _ _ _ _ => lN); (rename Fr _ _ _ _ => lF); (rw [slice_dot]); (have hj9 := Nat.lt_trans (hY2.hW i j hi hw) hi); (refine' c_bls (its := iL) (n := nL) (len := 9) (r := r j) (X := Y) (T := TY) ?h1 lF ?h3 lN ?h5 ?h6 ?h7 ?h8 lL (by decide) hL (Nat.le_of_lt (hr j hj9)) (hS j hj9) ?_); (case h1 => k_asm); (case h3 => k_asm); (case h5 => k_asm); (case h6 => ktr_room); (case h7 => ktr_units); (case h8 => simp [mL]); (clear lF lN); (intro tt h' tk' F' N'); (obtain ⟨tT, hTp⟩ := tab_get hTab hj9))
  k_with "slice" => ((rename News _ _ _ _ => lN); (rename Fr _ _ _ _ => lF); (refine' slice_strN_sn (hsz := ?hsz) (s := ⟨_, _, _, _, _⟩) lF lN ?_); (case hsz => exact dot_len (hXl j (Nat.lt_trans (hY2.hW i j hi hw) hi))); (clear lF lN); (intro h' t8 k8 F' N'))
  k_with "append" => ((rename News _ _ _ _ => lN); (rename Fr _ _ _ _ => lF); (refine' t_append (vs := c.1) (n := c.2) lF lN hne9 (by rw [hp.1]; omega) ?_); (clear lF lN); (intro h' F' N'))
  k_with "add" => ((refine' KXadd.add (K := 1) (L := 1000) (by decide) ?ad2 (by decide) ?_); (case ad2 => exact Nat.le_of_lt (Nat.lt_trans (hXl j (Nat.lt_trans (hY2.hW i j hi hw) hi)) (by decide))); (intro t9 k9 hl9))
  k_with "ne" => first
    | ((refine' ne_opts N' (.head _) (.tail _ mUk) hp.1 htw hY2.lW hY2.gW ?q4 ?_); (case q4 => ktr_units))
    | (refine ne_same ?_)
  k_steps
  · rename Fr _ _ _ _ => lF
    rename News _ _ _ _ => lN
    refine hdr (law_C14 (H := H) (Y2 := Y2) (oW := oW) (oD := oD) (X := X) (Y := Y) (r := r) (T := T) (dl := dl) B lF XX TT XB TB hd hu lN l1 hp htw hT hne hneW hcW hcD mD mds hds hdl mN mL mT lN9 hN hX lL hL hr hS hTab hY2 hc ?_ ret)
    ((rename Fr _ _ _ _ => hvF); refine hv_of hvF ?_; repeat' (first | exact hv_nil | refine hv_cons ?_ ?_ | with_unfolding_all rfl))
  · rename Fr _ _ _ _ => lF
    rename News _ _ _ _ => lN
    refine list_end (c := (c.1 ++ [.none], c.2 + 1)) lF lN (fun _ h => h) (WaysOk.snoc (t := 0) hp (by rw [hw]; rfl)) ?_
    ((rename Fr _ _ _ _ => hvF); refine hv_of hvF ?_; repeat' (first | exact hv_nil | refine hv_cons ?_ ?_ | with_unfolding_all rfl))
  · rename Fr _ _ _ _ => lF
    rename News _ _ _ _ => lN
    refine list_end (c := (c.1 ++ [.int (j : Int) tT], c.2 + 1)) lF lN (fun _ h => h) (WaysOk.snoc (t := tT) hp (by rw [hw]; rfl)) ?_
    ((rename Fr _ _ _ _ => hvF); refine hv_of hvF ?_; repeat' (first | exact hv_nil | refine hv_cons ?_ ?_ | with_unfolding_all rfl))
end
end Mine
end
section
open PySem PySem.W PyProof.Rows
namespace Mine
noncomputable def SrtS (l : List Str) : Prop := l.Pairwise fun a b => a.cps.toList ≤ b.cps.toList
noncomputable def rkS (l : List Str) (x : Str) : Nat := l.countP fun y => decide (y.cps.toList < x.cps.toList)
theorem rk_le (l : List Str) (x : Str) : rkS l x ≤ l.length := List.countP_le_length
theorem rk_iff {x : Str} : ∀ {l : List Str}, SrtS l → ∀ i : Nat, i < l.length → ((l.getD i Str.empty).cps.toList < x.cps.toList ↔ i < rkS l x)
  | [], _, i, h => absurd h (Nat.not_lt_zero _)
  | a :: r, hs, i, hi => by
    have hs' := List.pairwise_cons.mp hs
    by_cases ha : a.cps.toList < x.cps.toList
    · have e : rkS (a :: r) x = rkS r x + 1 := by
        unfold rkS
        rw [List.countP_cons, if_pos (decide_eq_true ha)]
      cases i with
      | zero =>
        rw [e]
        exact ⟨fun _ => Nat.succ_pos _, fun _ => ha⟩
      | succ i =>
        rw [e]
        have := rk_iff (x := x) hs'.2 i (Nat.lt_of_succ_lt_succ hi)
        show ((r.getD i Str.empty).cps.toList < x.cps.toList ↔ _)
        rw [this]
        omega
    · have hxa : x.cps.toList ≤ a.cps.toList := ha
      have hall : ∀ y ∈ a :: r, x.cps.toList ≤ y.cps.toList := by
        intro y hy
        rcases List.mem_cons.mp hy with rfl | hy
        · exact hxa
        · exact List.le_trans hxa (hs'.1 y hy)
      have e : rkS (a :: r) x = 0 := by
        unfold rkS
        rw [List.countP_eq_zero]
        intro y hy h
        exact hall y hy (of_decide_eq_true h)
      rw [e]
      constructor
      · intro h
        exfalso
        have hm : (a :: r).getD i Str.empty ∈ a :: r := by
          rw [List.getD_eq_getElem?_getD, List.getElem?_eq_getElem hi]
          exact List.getElem_mem hi
        exact hall _ hm h
      · intro h
        exact absurd h (Nat.not_lt_zero _)
noncomputable def insS (l : List Str) (x : Str) : List Str := l.take (rkS l x) ++ x :: l.drop (rkS l x)
theorem ins_perm (l : List Str) (x : Str) : (insS l x).Perm (x :: l) := by
  unfold insS
  refine List.perm_middle.trans ?_
  rw [List.take_append_drop]
theorem ins_srt {l : List Str} {x : Str} (hs : SrtS l) : SrtS (insS l x) := by
  unfold insS SrtS
  have g : ∀ i (h : i < l.length), (l[i].cps.toList < x.cps.toList ↔ i < rkS l x) := by
    intro i h
    have := rk_iff (x := x) hs i h
    rwa [List.getD_eq_getElem?_getD, List.getElem?_eq_getElem h] at this
  have hp := List.pairwise_iff_getElem.mp hs
  have h1 : ∀ a ∈ l.take (rkS l x), a.cps.toList < x.cps.toList := by
    intro a ha
    obtain ⟨i, hi, rfl⟩ := List.getElem_of_mem ha
    rw [List.length_take] at hi
    rw [List.getElem_take]
    exact (g i (by omega)).mpr (by omega)
  have h2 : ∀ b ∈ l.drop (rkS l x), x.cps.toList ≤ b.cps.toList := by
    intro b hb
    obtain ⟨i, hi, rfl⟩ := List.getElem_of_mem hb
    rw [List.length_drop] at hi
    rw [List.getElem_drop]
    intro hlt
    have := (g (rkS l x + i) (by omega)).mp hlt
    omega
  rw [List.pairwise_append]
  refine ⟨List.Pairwise.sublist (List.take_sublist _ _) hs, ?_, ?_⟩
  · rw [List.pairwise_cons]
    exact ⟨h2, List.Pairwise.sublist (List.drop_sublist _ _) hs⟩
  · intro a ha b hb
    rcases List.mem_cons.mp hb with rfl | hb
    · exact List.le_of_lt (h1 a ha)
    · exact List.le_trans (List.le_of_lt (h1 a ha)) (h2 b hb)
theorem str_anti {a b : Str} (h1 : a.cps.toList ≤ b.cps.toList) (h2 : b.cps.toList ≤ a.cps.toList) : a = b := by
  have h := List.le_antisymm h1 h2
  obtain ⟨⟨x⟩⟩ := a
  obtain ⟨⟨y⟩⟩ := b
  simpa using h
theorem srt_one : ∀ {a b : List Str}, a.Perm b → SrtS a → SrtS b → a = b
  | [], _, p, _, _ => p.nil_eq
  | x :: r, b, p, ha, hb => by
    cases b with
    | nil => exact absurd p.length_eq (by simp)
    | cons y t =>
      have hx : x ∈ y :: t := p.mem_iff.mp (.head _)
      have hy : y ∈ x :: r := p.mem_iff.mpr (.head _)
      have e : x = y := by
        rcases List.mem_cons.mp hx with h | h
        · exact h
        · rcases List.mem_cons.mp hy with h' | h'
          · exact h'.symm
          · exact str_anti ((List.pairwise_cons.mp ha).1 y h') ((List.pairwise_cons.mp hb).1 x h)
      subst e
      rw [srt_one (List.Perm.cons_inv p) (List.pairwise_cons.mp ha).2 (List.pairwise_cons.mp hb).2]
theorem rising_srt : ∀ (l : List Str) (p : Str), risingS p l = true → SrtS (p :: l)
  | [], p, _ => List.pairwise_singleton _ _
  | x :: r, p, h => by
    have h' : (!PySem.Spec.ltCps x.cps.toList p.cps.toList && risingS x r) = true := h
    rw [Bool.and_eq_true, ltCps_eq] at h'
    have h1 : p.cps.toList ≤ x.cps.toList := by
      have := h'.1
      simpa using this
    have h2 := rising_srt r x h'.2
    refine List.pairwise_cons.mpr ⟨?_, h2⟩
    intro y hy
    rcases List.mem_cons.mp hy with rfl | hy
    · exact h1
    · exact List.le_trans h1 ((List.pairwise_cons.mp h2).1 y hy)
theorem sorted_srt {l : List Str} (h : sortedS l = true) : SrtS l := by
  cases l with
  | nil => exact List.Pairwise.nil
  | cons x r => exact rising_srt r x h
theorem line_pos {l : List Str} {x : Str} (hs : SrtS l) (hx : x ∈ l) : rkS l x < l.length ∧ l.getD (rkS l x) Str.empty = x := by
  obtain ⟨i, hi, e⟩ := List.getElem_of_mem hx
  have g : ∀ i (h : i < l.length), (l[i].cps.toList < x.cps.toList ↔ i < rkS l x) := by
    intro i h
    have := rk_iff (x := x) hs i h
    rwa [List.getD_eq_getElem?_getD, List.getElem?_eq_getElem h] at this
  have hle : rkS l x ≤ i := by
    refine Nat.le_of_not_lt fun h => ?_
    have := (g i hi).mpr h
    rw [e] at this
    exact List.lt_irrefl _ this
  have hr : rkS l x < l.length := by omega
  refine ⟨hr, ?_⟩
  rw [List.getD_eq_getElem?_getD, List.getElem?_eq_getElem hr]
  show l[rkS l x] = x
  have h1 : x.cps.toList ≤ (l[rkS l x]).cps.toList := fun h => Nat.lt_irrefl _ ((g _ hr).mp h)
  rcases Nat.lt_or_eq_of_le hle with h | h
  · have := List.pairwise_iff_getElem.mp hs _ _ hr hi h
    rw [e] at this
    exact str_anti this h1
  · simp only [h]
    exact e
noncomputable def stps : List Nat := [1, 2, 4, 5, 7, 8]
theorem stps_perm : ∀ k < 6, ((List.range 9).map fun j => j * stps.getD k 0 % 9).Perm (List.range 9) := by decide
theorem names_perm {X : Nat → Str} {k : Nat} (hk : k < 6) : ((List.range 9).map fun j => X (j * stps.getD k 0 % 9)).Perm ((List.range 9).map X) := by
  have := (stps_perm k hk).map X
  rwa [List.map_map] at this
/-- what the table and the lookups want of the line -/
theorem line_facts {X : Nat → Str} {LS : List Str} (hs : SrtS LS) (hp : LS.Perm ((List.range 9).map X)) (inj : ∀ p < 9, ∀ q < 9, X p = X q → p = q) :
    LS.length = 9 ∧ (∀ p < 9, rkS LS (X p) < 9) ∧ (∀ p < 9, ∀ q < 9, rkS LS (X p) = rkS LS (X q) → p = q) ∧
    ∀ p < 9, ∀ i : Int, 0 ≤ i → i < (9 : Nat) → ((LS.getD i.toNat Str.empty).cps.toList < (X p).cps.toList ↔ i < rkS LS (X p)) := by
  have hl : LS.length = 9 := by have := hp.length_eq; simpa using this
  have hm : ∀ p < 9, X p ∈ LS := fun p h => hp.mem_iff.mpr (List.mem_map.mpr ⟨p, List.mem_range.mpr h, rfl⟩)
  refine ⟨hl, fun p h => hl ▸ (line_pos hs (hm p h)).1, fun p h q h' e => ?_, fun p h i h0 h9 => ?_⟩
  · have e1 := (line_pos hs (hm p h)).2
    have e2 := (line_pos hs (hm q h')).2
    rw [e] at e1
    exact inj p h q h' (e1.symm.trans e2)
  · have := rk_iff (x := X p) hs i.toNat (by omega)
    rw [this]
    omega
theorem strs_fun {vs : List Value} {ls : List Str} (h : StrsAre vs ls) : ∃ T : Nat → Tok, ∀ i : Nat, i < ls.length → vs[i]? = some (.str (ls.getD i Str.empty) (T i)) := by
  have : ∀ i : Nat, ∃ t : Tok, i < ls.length → vs[i]? = some (.str (ls.getD i Str.empty) t) := by
    intro i
    by_cases hi : i < ls.length
    · have hl := StrsAre.length h
      have hv : i < vs.length := by omega
      obtain ⟨x, t, e⟩ := h.all vs[i] (List.getElem_mem hv)
      refine ⟨t, fun _ => ?_⟩
      rw [List.getElem?_eq_getElem hv, e]
      have e2 : ls[i] = strOf vs[i] := by
        have := h.strs
        subst this
        simp
      rw [List.getD_eq_getElem?_getD, List.getElem?_eq_getElem hi, e2, e]
      rfl
    · exact ⟨0, fun h => absurd h hi⟩
  obtain ⟨f, hf⟩ := Classical.axiomOfChoice this
  exact ⟨f, hf⟩
theorem strs_of {vs : List Value} {n : Nat} {X : Nat → Str} {T : Nat → Tok} (hl : vs.length = n) (h : ∀ i, i < n → vs[i]? = some (.str (X i) (T i))) : StrsAre vs ((List.range n).map X) := by
  have hall : ∀ v ∈ vs, ∃ x t, v = .str x t := by
    intro v hv
    obtain ⟨i, hi, rfl⟩ := List.getElem_of_mem hv
    have := h i (by omega)
    rw [List.getElem?_eq_getElem hi] at this
    exact ⟨_, _, Option.some.inj this⟩
  have e : vs.map strOf = (List.range n).map X := by
    apply List.ext_getElem
    · simp [hl]
    · intro i h1 h2
      have hi : i < vs.length := by simpa using h1
      have := h i (by omega)
      rw [List.getElem?_eq_getElem hi] at this
      simp only [List.getElem_map, List.getElem_range, Option.some.inj this]
      rfl
  exact e ▸ strsAre_map vs hall
theorem strs_ins {vs : List Value} {ls : List Str} {x : Str} {t : Tok} (h : StrsAre vs ls) : StrsAre (kl_ins vs (rkS ls x) (.str x t)) (insS ls x) := by
  have hl := StrsAre.length h
  have hr := rk_le ls x
  have e0 : kl_ins vs (rkS ls x) (.str x t) = vs.take (rkS ls x) ++ .str x t :: vs.drop (rkS ls x) := by
    unfold kl_ins
    have : (if ((rkS ls x : Nat) : Int) < 0 then (((rkS ls x : Nat) : Int) + (vs.length : Int)).toNat else min (((rkS ls x : Nat) : Int)).toNat vs.length) = rkS ls x := by
      rw [if_neg (by omega)]
      omega
    rw [this]
  rw [e0]
  have hall : ∀ v ∈ vs.take (rkS ls x) ++ .str x t :: vs.drop (rkS ls x), ∃ x t, v = .str x t := by
    intro v hv
    rcases List.mem_append.mp hv with hv | hv
    · exact h.all v (List.mem_of_mem_take hv)
    · rcases List.mem_cons.mp hv with rfl | hv
      · exact ⟨_, _, rfl⟩
      · exact h.all v (List.mem_of_mem_drop hv)
  have e : (vs.take (rkS ls x) ++ .str x t :: vs.drop (rkS ls x)).map strOf = insS ls x := by
    unfold insS
    rw [List.map_append, List.map_cons, List.map_take, List.map_drop, h.strs]
    rfl
  exact e ▸ strsAre_map _ hall
end Mine
end
section
open PySem PySem.W PyProof.Rows
namespace Mine
open PySem.Spec PySem.Calls

section
variable {w : World} {mean : ExcName → Option Value} {mg mb : Str → Option Value} {dp un : Nat} {gd : Option (List Code)} {cn : Str} {mo : List (Str × Const)} {a : Addr} {ccd : Value} {A₀ : Around} {base h₀ : Heap} {L : Addr} {m : Str → Option Value} {s : Shared} {Q : Flow → Shared → Prop} {news : List (Addr × Obj)}

/-- a comprehension over a range whose items leave the ledger as it was -/
theorem comp_vals {prog : Program} {A : Around} {env : Env} {elt : Expr} {x : Str} {scope : Scope} {cl : List (Str × Addr)} {P : Nat → Value → Prop} {Fin : List Value → List (Addr × Obj) → Prop} {V : Nat → Value → Prop} {led : List (Addr × Obj)} {n₀ : Nat}
    (elem : ∀ i v I oI C oC D ys m₂ h tk (E' : Value → Shared → Prop), i < n₀ → P i v → LCg.NsObj oC m₂ → m₂ x = some v → Fr h₀ L h m → News h₀ L h ((I, oI) :: (C, oC) :: (D, LCg.lst ys) :: led) →
      wpAny (model prog w) A (eval elt (compEnvC scope cl C env)) (fun y s' => ∃ h' tk', s' = { s with heap := h', toks := tk' } ∧ Fr h₀ L h' m ∧ News h₀ L h' ((I, oI) :: (C, oC) :: (D, LCg.lst ys) :: led) ∧ V i y) E' { s with heap := h, toks := tk })
    (fin : ∀ ys, ys.length = n₀ → (∀ j < n₀, ∃ y, ys[j]? = some y ∧ V j y) → Fin ys led) :
    ∀ (n i : Nat) (ys : List Value), i + n = n₀ → ys.length = i → (∀ j < i, ∃ y, ys[j]? = some y ∧ V j y) → LCg.CompRest prog w A h₀ L m env elt x scope cl s (fun _ => True) P Fin n i ys led := by
  intro n
  induction n with
  | zero =>
    intro i ys hi hl hv
    have : i = n₀ := by omega
    subst this
    exact LCg.CompRest.zero (fin ys hl hv)
  | succ n ih =>
    intro i ys hi hl hv
    refine LCg.CompRest.succ ?_
    intro v I oI C oC D m₂ h tk E' hP hC hx F N off ne
    refine wpAny_mono (elem i v I oI C oC D ys m₂ h tk E' (by omega) hP hC hx F N) (fun y s' q => ?_) fun _ _ e => e
    obtain ⟨h', tk', rfl, F', N', hV⟩ := q
    refine LCg.CompEnd.intro F' N' led (fun p hp => hp) off trivial (ih (i + 1) (ys ++ [y]) (by omega) (by rw [List.length_append, hl]; rfl) ?_)
    intro j hj
    by_cases e : j = i
    · subst e
      exact ⟨y, by rw [List.getElem?_append_right (by omega), hl, Nat.sub_self]; rfl, hV⟩
    · obtain ⟨z, h1, h2⟩ := hv j (by omega)
      exact ⟨z, by rw [List.getElem?_append_left (by omega)]; exact h1, h2⟩
/-- where the hosts' rooms and kinds lie -/
structure HostR (H : Hosts) (Y : LayD) (news : List (Addr × Obj)) : Prop where
  mR : (Y.roA, listOf Y.iR Y.nR) ∈ news
  mCo : (Y.coA, listOf Y.iCo Y.nCo) ∈ news
  lR : Y.iR.size = 9
  gR : ∀ i : Nat, i < 9 → Y.iR.toList[i]? = some (.int (H.R i) (Y.tr i))
  gCo : ∀ i : Nat, i < 9 → Y.iCo.toList[i]? = some (.bool (H.C i))
  hW : ∀ i j, i < 9 → H.W i = some j → j < i
  hR : ∀ i, i < 9 → H.R i ≤ 2
noncomputable def T6 (k : Int) (a b c d e f : Tok) : Tok := if k = 0 then a else if k = 1 then b else if k = 2 then c else if k = 3 then d else if k = 4 then e else f
theorem item6 {k : Int} {a b c d e f : Tok} (h0 : 0 ≤ k) (h6 : k < 6) : ([.int 1 a, .int 2 b, .int 4 c, .int 5 d, .int 7 e, .int 8 f] : List Value)[k.toNat]? = some (.int ((stps.getD k.toNat 0 : Nat) : Int) (T6 k a b c d e f)) := by
  have : k = 0 ∨ k = 1 ∨ k = 2 ∨ k = 3 ∨ k = 4 ∨ k = 5 := by omega
  rcases this with rfl | rfl | rfl | rfl | rfl | rfl <;> rfl
theorem stps_8 : ∀ k, k < 6 → stps.getD k 0 ≤ 8 := by decide
theorem step_ix (i st : Nat) : ((i : Int) * (st : Int)).fmod 9 = ((i * st % 9 : Nat) : Int) := by
  rw [Int.fmod_eq_emod_of_nonneg _ (by decide)]
  push_cast
  rfl
/-- the line after i turns -/
noncomputable def LineOk (X : Nat → Str) (st : Nat) (i : Nat) (vs : List Value) : Prop := ∃ ls, StrsAre vs ls ∧ SrtS ls ∧ ls.Perm ((List.range i).map fun j => X (j * st % 9))
theorem LineOk.nil {X : Nat → Str} {st : Nat} : LineOk X st 0 [] := ⟨[], .nil, .nil, .refl _⟩
theorem LineOk.snoc {X : Nat → Str} {st i : Nat} {vs : List Value} {ls : List Str} {t : Tok} (h1 : StrsAre vs ls) (h2 : SrtS ls) (h3 : ls.Perm ((List.range i).map fun j => X (j * st % 9))) : LineOk X st (i + 1) (kl_ins vs (rkS ls (X (i * st % 9))) (.str (X (i * st % 9)) t)) := by
  refine ⟨insS ls (X (i * st % 9)), strs_ins h1, ins_srt h2, ?_⟩
  refine (ins_perm ls _).trans ?_
  rw [List.range_succ, List.map_append]
  refine (List.Perm.cons _ h3).trans ?_
  exact (List.perm_append_comm (l₁ := [X (i * st % 9)]))
theorem line_len {X : Nat → Str} {st i : Nat} {ls : List Str} (h : ls.Perm ((List.range i).map fun j => X (j * st % 9))) : ls.length = i := by
  have := h.length_eq
  simpa using this
theorem dat_strs {news : List (Addr × Obj)} : ∀ {vs : List Value} {ls : List Str}, StrsAre vs ls → DatAll news vs (ls.map .str)
  | _, _, .nil => .nil
  | _, _, .cons x t h => .cons (.str x t) (dat_strs h)
open Classical in
theorem ne_strs {prog : Program} {A : Around} {E Q : Value → Shared → Prop} {a b : Addr} {ws zs : List Value} {ls : List Str} {na nb : Nat} (N : News h₀ L s.heap news) (ma : (a, listOf ws.toArray na) ∈ news) (mb : (b, listOf zs.toArray nb) ∈ news)
    (ga : StrsAre ws ls) (gb : StrsAre zs ls) (hk : ∀ x ∈ ls, PyData.strOk x = true) (hu : A.units + 64 < cLine) (h : Q (.bool false) s) :
    wpAny (model prog w) A (compareOp .NotEq (.ref a) (.ref b)) Q E s := by
  have hk' : ∀ d ∈ ls.map Dat.str, kqdOk 8 d = true := by
    intro d hd
    obtain ⟨x, hx, rfl⟩ := List.mem_map.mp hd
    exact hk x hx
  refine kqd_ne (oa := PySem.W.listOf ws.toArray na) (ob := PySem.W.listOf zs.toArray nb) (xs := ws) (ys := zs) N ma rfl rfl (dat_strs ga) (fun _ h => h) mb rfl rfl (dat_strs gb) (fun _ h => h) hk' hk' hu ?_
  rw [decide_eq_true (rfl : (ls.map Dat.str) = _)]
  exact h
theorem kt_nolist {g h : Heap} {L : Addr} {l kt : List (Addr × Obj)} {q : Addr} {its : Array Value} {k : Nat} (N : News g L h l) (hT : KTab kt) (hs : ∀ q ∈ kt, q ∈ l) (hp : (q, listOf its k) ∈ l) : q ≠ 181 := by
  obtain ⟨o, ho⟩ : ∃ o, ((181 : Addr), o) ∈ kt := ktab_181 hT
  intro e
  have h1 := news_one N hp (hs _ ho) e
  rcases hT with rfl | ⟨c', oc, vs, t, rfl, _, _, h181⟩
  · rw [List.mem_singleton] at ho
    cases ho
    cases h1
  · simp only [List.mem_cons, List.not_mem_nil, or_false] at ho
    rcases ho with ho | ho
    · cases ho
      cases h1
    · cases ho
      exact h181 rfl
theorem nocell_list {its : Array Value} {k : Nat} : ∀ v, (listOf its k).data ≠ .cell v := by
  intro v e
  cases e
theorem law_B11 {H : Hosts} {Y : LayD} {cW cH cD dA nA : Addr} {oW oD : Obj} {vW : Option Value} {ds : List Value} {dl : Nat → Int} {nD nN : Nat} {iN : Array Value} {X : Nat → Str} {TX : Nat → Tok} {kt rest news9 : List (Addr × Obj)} {lA tA uA : Addr} {vs ys T : List Value} {ls : List Str} {nL nT : Nat}
    (B : Below A₀ base [] h₀) (F : Fr h₀ L s.heap m) (XX : (Mine.fr2 w.params).In h₀) (TT : Top topProg LL mean mg mb h₀) (XB : (Mine.fr2 w.params).In base) (TB : Top topProg LL mean mg mb base) (hd : dp + 40 < recursionLimit) (hu : un + 300 < cLine)
    (N : News h₀ L s.heap news9) (hsub : ∀ p ∈ kt ++ ((cW, oW) :: rest), p ∈ news9) (mT : (tA, listOf T.toArray nT) ∈ news9) (mL : (lA, listOf vs.toArray nL) ∈ news9) (mU : (uA, LCg.lst ys) ∈ news9) (hyl : ys.length = 9) (hyv : ∀ j < 9, ∃ y, ys[j]? = some y ∧ ∃ t, y = optV (H.W j) t) (hS : StrsAre vs ls) (hs : SrtS ls) (hp : ls.Perm ((List.range 9).map X)) (hTab : TabOk (fun p => rkS ls (X p)) 9 T) (hT : KTab kt) (hne : ∀ p ∈ (cW, oW) :: rest, p.1 ≠ 181) (hneW : ∀ p ∈ kt ++ rest, p.1 ≠ cW)
    (hcW : oW.data = .cell vW) (hcD : oD.data = .cell (some (.ref dA))) (mD : (cD, oD) ∈ rest) (mds : (dA, listOf ds.toArray nD) ∈ rest) (hds : IntsAre ds ((List.range 16).map dl)) (hdl : ∀ j, 0 ≤ dl j ∧ dl j < 2 ^ 50)
    (mN : (nA, listOf iN nN) ∈ rest) (lN9 : iN.toList.length = 9) (hN : ∀ i : Nat, i < 9 → iN.toList[i]? = some (.str (X i) (TX i))) (hX : ∀ i, PyData.strOk (X i) = true) (inj : ∀ p < 9, ∀ q < 9, X p = X q → p = q)
    (hY : HostR H Y rest)
    (hXr : ∀ i < 9, reachP (X i) = match H.W i with | none => X i | some q => Str.ofString "." ++ X q) (hXo : ∀ i < 9, 0 ≤ Txt.find (X i) (Str.ofString ".") → ReachOk (X i)) (hXl : ∀ i < 9, (X i).length < 100)
    (hc : CodeHd base (185, 181).fst (185, 181).snd)
    (hm : ∀ p ∈ [(Str.ofString "names", Value.ref nA), (Str.ofString "line", Value.ref lA), (Str.ofString "table", Value.ref tA), (Str.ofString "up", Value.ref uA), (Str.ofString "rooms", .ref Y.roA), (Str.ofString "contrary", .ref Y.coA)], m p.1 = some p.2)
    (ret : ∀ h' tk' m' kt' news', Fr h₀ L h' m' → News h₀ L h' (kt' ++ news') → KTab kt' → Q (.ret (.bool true)) { s with heap := h', toks := tk' }) :
    wpN (model PP w) (ktrTop dp un gd cn (CS (lawN w.params) false false mo) L a ccd (laC cW cH cD) []) (execs ((lawB w.params).drop 11) (envX cn (CS (lawN w.params) false false mo) L a ccd (laC cW cH cD))) Q s := by
  have hw : WaysOk H.W 9 ys := ⟨hyl, fun j hj => by obtain ⟨y, h1, t, h2⟩ := hyv j hj; exact ⟨t, by rw [h1, h2]⟩⟩
  obtain ⟨tw, htw⟩ := hw.fun
  obtain ⟨TL, hTL⟩ := strs_fun hS
  obtain ⟨hl9, hr9, _, hS9⟩ := line_facts hs hp inj
  have mW : (cW, oW) ∈ news9 := hsub _ (by first | k_mem | simp)
  have hk : ∀ q ∈ kt, q ∈ news9 := fun q hq => hsub q (by first | k_mem | simp [hq])
  have e1 := kt_nolist N hT hk mT
  have e2 := kt_nolist N hT hk mL
  have e3 := kt_nolist (its := ys.toArray) (k := ys.length) N hT hk mU
  have f1 := cell_apart N mW hcW mT nocell_list
  have f2 := cell_apart N mW hcW mL nocell_list
  have f3 := cell_apart N mW hcW mU (nocell_list (its := ys.toArray) (k := ys.length))
  refine law_C11 (H := H) (Y2 := { Y with wyA := uA, iW := ys.toArray, nW := ys.length, tw := tw }) (kt := kt) (oW := oW) (oD := oD) (rest := (tA, listOf T.toArray nT) :: (lA, listOf vs.toArray nL) :: (uA, LCg.lst ys) :: rest) (iL := vs.toArray) (T := T) (X := X) (Y := fun i => ls.getD i.toNat Str.empty) (TY := fun i => TL i.toNat) (r := fun p => rkS ls (X p)) (dl := dl) B F XX TT XB TB hd hu (News.perm N ?_) hT ?_ ?_ hcW hcD (.tail _ (.tail _ (.tail _ mD))) (.tail _ (.tail _ (.tail _ mds))) hds hdl (.tail _ (.tail _ (.tail _ mN))) (.tail _ (.head _)) (.head _) lN9 hN hX ?_ ?_ hr9 hS9 hTab ?_ hXr hXo hXl hc ?_ ret
  · intro p hq
    simp only [List.mem_append, List.mem_cons] at hq
    rcases hq with h | h | h | h | h | h
    · exact hk p h
    · exact h ▸ mW
    · exact h ▸ mT
    · exact h ▸ mL
    · exact h ▸ mU
    · exact hsub p (by first | k_mem | simp [h])
  · intro p hq
    simp only [List.mem_cons] at hq
    rcases hq with h | h | h | h | h
    · exact hne p (by first | k_mem | simp [h])
    · rw [h]; exact e1
    · rw [h]; exact e2
    · rw [h]; exact e3
    · exact hne p (by first | k_mem | simp [h])
  · intro p hq
    simp only [List.mem_append, List.mem_cons] at hq
    rcases hq with h | h | h | h | h
    · exact hneW p (by first | k_mem | simp [h])
    · rw [h]; exact f1
    · rw [h]; exact f2
    · rw [h]; exact f3
    · exact hneW p (by first | k_mem | simp [h])
  · show vs.length = 9
    rw [StrsAre.length hS] <;> exact hl9
  · intro i h0 h1
    have := hTL i.toNat (by omega)
    simpa using this
  · exact ⟨.tail _ (.tail _ (.head _)), .tail _ (.tail _ (.tail _ hY.mR)), .tail _ (.tail _ (.tail _ hY.mCo)), by simpa using hyl, hY.lR, fun i hi => by simpa using htw i hi, hY.gR, hY.gCo, hY.hW, hY.hR⟩
  · exact hm
theorem law_B6 {H : Hosts} {Y : LayD} {cW cH cD dA nA hgA : Addr} {oW oD oH : Obj} {vW : Option Value} {ds : List Value} {dl : Nat → Int} {nD nN nH : Nat} {iN iH : Array Value} {X : Nat → Str} {TX : Nat → Tok} {Hf : Int → Int} {Tf : Int → Tok} {kt rest : List (Addr × Obj)}
    (B : Below A₀ base [] h₀) (F : Fr h₀ L s.heap m) (XX : (Mine.fr2 w.params).In h₀) (TT : Top topProg LL mean mg mb h₀) (XB : (Mine.fr2 w.params).In base) (TB : Top topProg LL mean mg mb base) (hd : dp + 40 < recursionLimit) (hu : un + 300 < cLine)
    (N : News h₀ L s.heap (kt ++ ((cW, oW) :: rest))) (hT : KTab kt) (hne : ∀ p ∈ (cW, oW) :: rest, p.1 ≠ 181) (hneW : ∀ p ∈ kt ++ rest, p.1 ≠ cW)
    (hcW : oW.data = .cell vW) (hcD : oD.data = .cell (some (.ref dA))) (mD : (cD, oD) ∈ rest) (mds : (dA, listOf ds.toArray nD) ∈ rest) (hds : IntsAre ds ((List.range 16).map dl)) (hdl : ∀ j, 0 ≤ dl j ∧ dl j < 2 ^ 50)
    (hcH : oH.data = .cell (some (.ref hgA))) (mHc : (cH, oH) ∈ rest) (mH : (hgA, listOf iH nH) ∈ rest) (hI : ∀ i, 3 ≤ i → i < 9 → iH.toList[i.toNat]? = some (.int (Hf i) (Tf i)) ∧ 0 ≤ Hf i ∧ Hf i < i) (hUp : ∀ p : Nat, p < 9 → ∀ t, upV Hf (p : Int) t = optV (H.W p) t)
    (mN : (nA, listOf iN nN) ∈ rest) (lN9 : iN.toList.length = 9) (hN : ∀ i : Nat, i < 9 → iN.toList[i]? = some (.str (X i) (TX i))) (hX : ∀ i, PyData.strOk (X i) = true) (inj : ∀ p < 9, ∀ q < 9, X p = X q → p = q)
    (hY : HostR H Y rest)
    (hXr : ∀ i < 9, reachP (X i) = match H.W i with | none => X i | some q => Str.ofString "." ++ X q) (hXo : ∀ i < 9, 0 ≤ Txt.find (X i) (Str.ofString ".") → ReachOk (X i)) (hXl : ∀ i < 9, (X i).length < 100)
    (hc : CodeHd base (185, 181).fst (185, 181).snd)
    (hm : ∀ p ∈ [(Str.ofString "names", Value.ref nA), (Str.ofString "rooms", .ref Y.roA), (Str.ofString "contrary", .ref Y.coA)], m p.1 = some p.2)
    (ret : ∀ h' tk' m' kt' news', Fr h₀ L h' m' → News h₀ L h' (kt' ++ news') → KTab kt' → Q (.ret (.bool true)) { s with heap := h', toks := tk' }) :
    wpN (model PP w) (ktrTop dp un gd cn (CS (lawN w.params) false false mo) L a ccd (laC cW cH cD) []) (execs ((lawB w.params).drop 6) (envX cn (CS (lawN w.params) false false mo) L a ccd (laC cW cH cD))) Q s := by
  have hdr : ∀ {mQ : Flow → Shared → Prop} {ss : Shared}, wpN (model PP w) (ktrTop dp un gd cn (CS (lawN w.params) false false mo) L a ccd (laC cW cH cD) []) (execs ((lawB w.params).drop 11) (envX cn (CS (lawN w.params) false false mo) L a ccd (laC cW cH cD))) mQ ss → wpN (model PP w) (ktrTop dp un gd cn (CS (lawN w.params) false false mo) L a ccd (laC cW cH cD) []) (execs ((lawB w.params).drop 11) (envX cn (CS (lawN w.params) false false mo) L a ccd (laC cW cH cD))) mQ ss := fun h => h
  unfold lawB lawN lawAt at hdr ⊢
  dsimp only [List.drop_succ_cons, List.drop_zero] at hdr ⊢
  rw [frV_eq hm] at F
  skip
  obtain ⟨t7, h7⟩ := ds_seven hds 7 (by decide)
  have h60 : 0 ≤ ((dl 7).fdiv 72).fmod 6 := Int.fmod_nonneg_of_pos _ (by decide)
  have h66 : ((dl 7).fdiv 72).fmod 6 < 6 := Int.fmod_lt_of_pos _ (by decide)
  have hdl7 := hdl 7
  have mNk : (nA, listOf iN nN) ∈ kt ++ ((cW, oW) :: rest) := by simp [mN]
  have mHk : (hgA, listOf iH nH) ∈ kt ++ ((cW, oW) :: rest) := by simp [mH]
  have mHck : (cH, oH) ∈ kt ++ ((cW, oW) :: rest) := by simp [mHc]
  refine N_execs_split 5 ?_
  simp only [List.take_succ_cons, List.take_zero, List.drop_succ_cons, List.drop_zero]
  k_with_none
  k_with "eval Name" => (k_here; (fail_if_success (with_reducible show wpAny _ _ (eval _ (compEnvC _ _ _ _)) _ _ _)); first | (refine' nameX_L ?zqF ?zqv ?_ ?zqa ?zqb; (case zqF => k_asm); (case zqa => rfl); (case zqb => rfl); (case zqv => rfl); k_whole) | (refine' nameX_K ?zqF ?zqX ?zqT ?zqe ?_ ?zqa ?zqb; (case zqF => k_asm); (case zqX => k_asm); (case zqT => k_asm); (case zqa => rfl); (case zqb => rfl); (case zqe => k_is); k_whole) | (refine' nameX_B ?zqF ?zqX ?zqT ?zqe ?zqv ?zqn ?_ ?zqa ?zqb; (case zqF => k_asm); (case zqX => k_asm); (case zqT => k_asm); (case zqa => rfl); (case zqb => rfl); (case zqe => k_is); (case zqv => boot_fast); (case zqn => decide); k_whole) | (refine' nameX_C ?zqN ?zqc ?zqm ?zqd ?_ ?zqa ?zqb; (case zqa => rfl); (case zqb => rfl); (case zqN => k_asm); (case zqc => rfl); (case zqm => k_mem); (case zqd => k_asm); k_whole))
  k_with "callWith ref" => (k_here; first | (refine' callWith_K ?zqk1 ?zqk2 ?_; (case zqk1 => k_asm); (case zqk2 => k_is); k_whole) | (refine' callWith_KW ?zqk1 ?zqk2 ?zqk3 ?_; (case zqk1 => k_asm); (case zqk2 => k_is); (case zqk3 => exact rfl); k_whole))
  k_with "storeName" => (k_here; refine' storeX_L ?zqF ?zqN ?_ ?zqa ?zqb; (case zqF => k_asm); (case zqN => k_asm); (case zqa => rfl); (case zqb => rfl); k_whole; intro _ _ _; (try k_sweep))
  k_with "subscriptTail Name Name ref int" => k_extra "subscriptTail"
  k_with "subscriptTail Name Call ref int" => k_extra "subscriptTail"
  k_with "subscriptTail Name Subscript ref int" => k_extra "subscriptTail"
  k_with "subscriptTail" => (k_here; (with_reducible show wpAny _ _ (subscriptTail _ _ (Value.ref _) (Value.int _ _)) _ _ _); (with_unfolding_all refine' sub_list ?k1 ?k2 ?k3 ?_ ?k6); (case k1 => k_asm); (case k2 => k_dflt k_mem); (case k6 => with_unfolding_all rfl); (case k3 => k_extra "item"); k_whole)
  k_with "call builtin:len" => (k_here; (with_reducible show wpAny _ _ (call (Value.builtin "len") [Value.ref _]) _ _ _); (with_unfolding_all refine' len_led ?k1 ?k2 ?k3 ?_); (case k1 => k_asm); (case k2 => k_dflt k_mem); (case k3 => k_extra "len"); k_whole)
  k_with "call ref" => (k_here; (with_reducible show wpAny _ _ (call (Value.ref _) _ _) _ _ _); k_dflt (k_extra "callref"))
  k_with "compareOp NotEq ref ref" => (k_here; k_dflt (k_extra "ne"))
  k_with "compareOp NotEq ref" => (k_here; k_dflt (k_extra "ne"))
  k_with "call builtin:sorted" => (k_here; k_dflt (k_extra "sorted"))
  k_with "CompSrc" => (k_here; k_dflt (k_extra "compsrc"))
  k_with "CompRest" => (k_dflt (k_extra "comprest"))
  k_with "pyIter ref" => (k_dflt (k_extra "iterrange"))
  k_with "compsrc" => (refine LCg.CompSrc.range (n := 9) (by rfl) (by k_asm) (by k_asm) (by assumption) (by decide) (by decide) (by exact Nat.le_of_ble_eq_true rfl) ?_; intro g')
  k_with "comprest" => ((refine' comp_vals (n₀ := 9) (V := fun i y => ∃ t, y = optV (H.W i) t) ?elem ?fin 9 0 [] rfl rfl ?non); (case non => exact fun _ h => absurd h (Nat.not_lt_zero _)); (case' elem => (intro i v I oI C oC D ys m₂ h tk E' hi hP hC hx F' N'; obtain ⟨tv, rfl⟩ := hP; rw [show (0 : Int) + (i : Int) = (i : Int) by omega] at hx)); (case' fin => (intro ys hyl hyv; unfold LCg.FinA; intro D' h' tk' F' N' o1')))
  k_with "callref" => first
    | ((refine' c_up (H := Hf) (T := Tf) (p := (i : Int)) (its := iH) (n := nH) w ?u1 ?u2 ?u3 ?u4 ?u5 (by rfl) ?u6 ?u7 ?u8 hI (by omega) (by omega) ?_); (case u1 => k_asm); (case u2 => k_asm); (case u3 => k_asm); (case u4 => k_asm); (case u5 => k_asm); (case u6 => ktr_room); (case u7 => ktr_units); (case u8 => simp [mH]); (intro h' tk' F' N'); (exact ⟨h', tk', rfl, F', N', Tf i, hUp i hi _⟩))
    | ((rename News _ _ _ _ => lN); (rename Fr _ _ _ _ => lF); (have lN2 : News _ _ _ ((_, listOf c.1.toArray c.2) :: (own ++ _)) := News.perm lN (fun q hq => List.mem_cons_of_mem _ hq)); (refine' c_ils (its := c.1.toArray) (n := c.2) (len := i) (r := rkS ls (X (i * stps.getD (((dl 7).fdiv 72).fmod 6).toNat 0 % 9))) (X := fun i => ls.getD i.toNat Str.empty) (T := fun i => TL i.toNat) ?h1 lF ?h3 lN2 ?h5 ?h6 ?h7 hne9 hcl (by omega) ?hI (by have := rk_le ls (X (i * stps.getD (((dl 7).fdiv 72).fmod 6).toNat 0 % 9)); omega) ?hS ?_); (case h1 => k_asm); (case h3 => k_asm); (case h5 => k_asm); (case h6 => ktr_room); (case h7 => ktr_units); (case hI => (intro j h0 h1; have := hTL j.toNat (by omega); simpa using this)); (case hS => (intro j h0 h1; have := rk_iff (x := X (i * stps.getD (((dl 7).fdiv 72).fmod 6).toNat 0 % 9)) hs j.toNat (by omega); (show ((ls.getD j.toNat Str.empty).cps.toList < _ ↔ _)); rw [this]; omega)); (clear lF lN lN2); (intro h' tk' F' N'))
    | ((rename News _ _ _ _ => lN); (rename Fr _ _ _ _ => lF); (refine' c_table (iN := iN) (nN := nN) (iL := c.1.toArray) (nL := c.2) (X := fun i => X i.toNat) (TX := fun i => TX i.toNat) (Y := fun i => ls.getD i.toNat Str.empty) (TY := fun i => TL i.toNat) (r := fun p => rkS ls (X p)) ?h1 lF ?h3 lN ?h5 ?h6 ?h7 ?mn ?ml ?hn hcl ?hl hr9 rinj hS9 ?_); (case h1 => k_asm); (case h3 => k_asm); (case h5 => k_asm); (case h6 => ktr_room); (case h7 => ktr_units); (case mn => simp [mN]); (case ml => simp); (case hn => (intro j h0 h1; have := hN j.toNat (by omega); simpa using this)); (case hl => (intro j h0 h1; have := hTL j.toNat (by omega); simpa using this)); (clear lF lN); (intro h' tk' tA T nT nw9 hTb mTb F' N' sub9))
  k_with "item" => first | (exact ⟨by decide, by decide, h7⟩) | (exact ⟨h60, by omega, item6 h60 h66⟩) | ((rw [step_ix]; exact itemN (Nat.mod_lt _ (by decide)) (hN _ (Nat.mod_lt _ (by decide)))))
  k_with "iterrange" => ((rename Fr _ _ _ _ => lF'); (rename News _ _ _ _ => lN'); (rename PySem.IsRange _ _ _ _ _ _ _ _ => lR'); (rename (_ < _ ∧ AllLt _ (kt ++ _)) => l1); (refine' rl_for (D := ?ln) (P := LineOk X (stps.getD (((dl 7).fdiv 72).fmod 6).toNat 0)) [(Str.ofString "line", Value.ref ?ln), (Str.ofString "names", Value.ref nA), (Str.ofString "up", Value.ref ?upA), (Str.ofString "rooms", .ref Y.roA), (Str.ofString "contrary", .ref Y.coA)] (by rfl) lF' lN' lR' ?hm1 ?hne LineOk.nil ?turn ?done); (case hm1 => ((rename Fr _ _ _ _ => hvF); refine hv_of hvF ?_; repeat' (first | exact hv_nil | refine hv_cons ?_ ?_ | with_unfolding_all rfl))); (case hne => (exact ne_two l1)); (case' turn => (clear lF' lN' lR'; (try clear F); (try clear N); intro i t c h tk u own hi hp hne9 F' N'; (skip); (obtain ⟨ls, hS, hs, hperm⟩ := hp); (obtain ⟨TL, hTL⟩ := strs_fun hS); (have hll := line_len hperm); (have hcl : c.1.length = i := by rw [StrsAre.length hS] <;> exact hll))); (case' done => (clear lF' lN' lR'; (try clear F); (try clear N); intro c h tk u hp F' N'; (skip); (obtain ⟨ls, hS, hs, hperm0⟩ := hp); (have hperm := hperm0.trans (names_perm (X := X) (k := (((dl 7).fdiv 72).fmod 6).toNat) (by omega))); (obtain ⟨TL, hTL⟩ := strs_fun hS); (obtain ⟨hll, hr9, rinj, hS9⟩ := line_facts hs hperm inj); (have hcl : c.1.length = 9 := by rw [StrsAre.length hS] <;> exact hll))))
  k_with "sorted" => ((rename News _ _ _ _ => lN); (rename Fr _ _ _ _ => lF); (refine' sorted_N_str (vs := iN.toList) lF lN ?isl (strs_of lN9 hN) (by rw [lN9]; decide) ?_); (case isl => exact ⟨_, (lN (nA, listOf iN nN) (by first | k_mem | simp [mN])).1, rfl, nN, by rw [Array.toArray_toList]⟩); (clear lF lN); (intro h' vs' ss' e F' N' hS' hp' hs'); ((have e9 : ls = ss' := (srt_one (hp'.trans hperm.symm) (sorted_srt hs') hs).symm; subst e9)))
  k_with "ne" => ((rename News _ _ _ _ => lN); (refine' ne_strs lN ?n1 (.head _) hS hS' ?n3 ?n4 ?_); (case n1 => exact List.mem_cons_of_mem _ (List.mem_cons_self)); (case n3 => (intro x hx; obtain ⟨j, _, rfl⟩ := List.mem_map.mp (hperm.mem_iff.mp hx); exact hX j)); (case n4 => ktr_units))
  k_steps
  rotate_left
  · rename Fr _ _ _ _ => lF
    rename News _ _ _ _ => lN
    refine list_end (c := (kl_ins c.1 (rkS ls (X (i * stps.getD (((dl 7).fdiv 72).fmod 6).toNat 0 % 9))) (.str (X (i * stps.getD (((dl 7).fdiv 72).fmod 6).toNat 0 % 9)) _), c.2 + 1)) lF lN (fun _ h => h) (LineOk.snoc hS hs hperm) ?_
    ((rename Fr _ _ _ _ => hvF); refine hv_of hvF ?_; repeat' (first | exact hv_nil | refine hv_cons ?_ ?_ | with_unfolding_all rfl))
  · rename Fr _ _ _ _ => lF
    rename News _ _ _ _ => lN
    refine hdr (law_B11 (H := H) (Y := Y) (oW := oW) (oD := oD) (X := X) (dl := dl) (kt := kt) (rest := rest) (ls := ls) (vs := c.1) (ys := ys) (T := T) B lF XX TT XB TB hd hu lN (fun p hp => sub9 p (List.mem_cons_of_mem _ (List.mem_cons_of_mem _ (List.mem_cons_of_mem _ hp)))) mTb (sub9 _ (List.mem_cons_of_mem _ List.mem_cons_self)) (sub9 _ (List.mem_cons_of_mem _ (List.mem_cons_of_mem _ List.mem_cons_self))) hyl hyv hS hs hperm hTb hT hne hneW hcW hcD mD mds hds hdl mN lN9 hN hX inj hY hXr hXo hXl hc ?_ ret)
    ((rename Fr _ _ _ _ => hvF); refine hv_of hvF ?_; repeat' (first | exact hv_nil | refine hv_cons ?_ ?_ | with_unfolding_all rfl))
end
end Mine
end
section
open PySem PySem.W PyProof.Rows
namespace Mine
open PySem.Spec PySem.Calls

section
variable {w : World} {mean : ExcName → Option Value} {mg mb : Str → Option Value} {dp un : Nat} {gd : Option (List Code)} {cn : Str} {mo : List (Str × Const)} {a : Addr} {ccd : Value} {A₀ : Around} {base h₀ : Heap} {L : Addr} {m : Str → Option Value} {s : Shared} {Q : Flow → Shared → Prop} {news : List (Addr × Obj)}

/-- a list of so many values, each as its place wants it -/
noncomputable def LOk (P : Nat → Value → Prop) (n : Nat) (vs : List Value) : Prop := vs.length = n ∧ ∀ j < n, ∃ v, vs[j]? = some v ∧ P j v
theorem LOk.snoc {P : Nat → Value → Prop} {n : Nat} {vs : List Value} {v : Value} (h : LOk P n vs) (hv : P n v) : LOk P (n + 1) (vs ++ [v]) := by
  refine ⟨by rw [List.length_append, h.1]; rfl, fun j hj => ?_⟩
  by_cases e : j = n
  · subst e
    exact ⟨v, by rw [List.getElem?_append_right (by rw [h.1]; exact Nat.le_refl _), h.1, Nat.sub_self]; rfl, hv⟩
  · obtain ⟨u, h1, h2⟩ := h.2 j (by omega)
    exact ⟨u, by rw [List.getElem?_append_left (by rw [h.1]; omega)]; exact h1, h2⟩
theorem LOk.three {P : Nat → Value → Prop} {a b c : Value} (h0 : P 0 a) (h1 : P 1 b) (h2 : P 2 c) : LOk P 3 [a, b, c] := by
  refine ⟨rfl, fun j hj => ?_⟩
  have : j = 0 ∨ j = 1 ∨ j = 2 := by omega
  rcases this with rfl | rfl | rfl
  · exact ⟨a, rfl, h0⟩
  · exact ⟨b, rfl, h1⟩
  · exact ⟨c, rfl, h2⟩
noncomputable def PN (g : Nat → Nat) (r : Nat) (j : Nat) (v : Value) : Prop := ∃ t, v = .str (NM g r j) t
noncomputable def PH (g : Nat → Nat) (j : Nat) (v : Value) : Prop := 3 ≤ j → ∃ t, v = .int (g j : Int) t
noncomputable def PR (_ : Nat) (v : Value) : Prop := ∃ x t, v = .int x t ∧ 0 ≤ x ∧ x ≤ 2
noncomputable def PC (_ : Nat) (v : Value) : Prop := ∃ b, v = .bool b
/-- the four lists that the hosts' loop grows -/
structure AL where
  n : List Value
  h : List Value
  r : List Value
  c : List Value
  kn : Nat
  kh : Nat
  kr : Nat
  kc : Nat
noncomputable def alOk (g : Nat → Nat) (r : Nat) (i : Nat) (c : AL) : Prop := LOk (PN g r) (i + 3) c.n ∧ LOk (PH g) (i + 3) c.h ∧ LOk PR (i + 3) c.r ∧ LOk PC (i + 3) c.c
noncomputable def alVals (V : List (Str × Value)) (_ : AL) : List (Str × Value) := V
noncomputable def alLed (nA gA roA coA : Addr) (c : AL) : List (Addr × Obj) := [(nA, listOf c.n.toArray c.kn), (gA, listOf c.h.toArray c.kh), (roA, listOf c.r.toArray c.kr), (coA, listOf c.c.toArray c.kc)]
structure Apart4 (nA gA roA coA : Addr) (tl : List (Addr × Obj)) : Prop where
  a : nA ≠ gA
  b : nA ≠ roA
  c : nA ≠ coA
  d : gA ≠ roA
  e : gA ≠ coA
  f : roA ≠ coA
  tl : ∀ p ∈ tl, p.1 ≠ nA ∧ p.1 ≠ gA ∧ p.1 ≠ roA ∧ p.1 ≠ coA
section
variable {prog : Program} {A : Around} {E Q : Value → Shared → Prop} {nA gA roA coA : Addr} {o1 o2 o3 o4 : Obj} {tl : List (Addr × Obj)} {vs : List Value} {k : Nat} {x : Value}
theorem ap_n (D : Apart4 nA gA roA coA tl) (F : Fr h₀ L s.heap m) (N : News h₀ L s.heap ((nA, listOf vs.toArray k) :: (gA, o2) :: (roA, o3) :: (coA, o4) :: tl)) (h20 : vs.length < 20)
    (ret : ∀ h', Fr h₀ L h' m → News h₀ L h' ((nA, listOf (vs ++ [x]).toArray (k + 1)) :: (gA, o2) :: (roA, o3) :: (coA, o4) :: tl) → Q .none { s with heap := h' }) : wpAny (model prog w) A (call (.builtin "list.append") [.ref nA, x]) Q E s := by
  refine t_append F N ?_ h20 ret
  intro p hp
  simp only [List.mem_cons] at hp
  rcases hp with h | h | h | h
  · rw [h]; exact D.a.symm
  · rw [h]; exact D.b.symm
  · rw [h]; exact D.c.symm
  · exact (D.tl p h).1
theorem ap_h (D : Apart4 nA gA roA coA tl) (F : Fr h₀ L s.heap m) (N : News h₀ L s.heap ((nA, o1) :: (gA, listOf vs.toArray k) :: (roA, o3) :: (coA, o4) :: tl)) (h20 : vs.length < 20)
    (ret : ∀ h', Fr h₀ L h' m → News h₀ L h' ((nA, o1) :: (gA, listOf (vs ++ [x]).toArray (k + 1)) :: (roA, o3) :: (coA, o4) :: tl) → Q .none { s with heap := h' }) : wpAny (model prog w) A (call (.builtin "list.append") [.ref gA, x]) Q E s := by
  refine t_append (n := k) (rest := (nA, o1) :: (roA, o3) :: (coA, o4) :: tl) F (News.perm N ?_) ?_ h20 fun h' F' N' => ret h' F' (News.perm N' ?_)
  · (repeat' (first | with_reducible refine sub_app ?_ ?_ | with_reducible refine sub_cons ?_ ?_ | exact sub_nil | (intro _ hz9; k_mem) | k_mem))
  · intro p hp
    simp only [List.mem_cons] at hp
    rcases hp with h | h | h | h
    · rw [h]; exact D.a
    · rw [h]; exact D.d.symm
    · rw [h]; exact D.e.symm
    · exact (D.tl p h).2.1
  · (repeat' (first | with_reducible refine sub_app ?_ ?_ | with_reducible refine sub_cons ?_ ?_ | exact sub_nil | (intro _ hz9; k_mem) | k_mem))
theorem ap_r (D : Apart4 nA gA roA coA tl) (F : Fr h₀ L s.heap m) (N : News h₀ L s.heap ((nA, o1) :: (gA, o2) :: (roA, listOf vs.toArray k) :: (coA, o4) :: tl)) (h20 : vs.length < 20)
    (ret : ∀ h', Fr h₀ L h' m → News h₀ L h' ((nA, o1) :: (gA, o2) :: (roA, listOf (vs ++ [x]).toArray (k + 1)) :: (coA, o4) :: tl) → Q .none { s with heap := h' }) : wpAny (model prog w) A (call (.builtin "list.append") [.ref roA, x]) Q E s := by
  refine t_append (n := k) (rest := (nA, o1) :: (gA, o2) :: (coA, o4) :: tl) F (News.perm N ?_) ?_ h20 fun h' F' N' => ret h' F' (News.perm N' ?_)
  · (repeat' (first | with_reducible refine sub_app ?_ ?_ | with_reducible refine sub_cons ?_ ?_ | exact sub_nil | (intro _ hz9; k_mem) | k_mem))
  · intro p hp
    simp only [List.mem_cons] at hp
    rcases hp with h | h | h | h
    · rw [h]; exact D.b
    · rw [h]; exact D.d
    · rw [h]; exact D.f.symm
    · exact (D.tl p h).2.2.1
  · (repeat' (first | with_reducible refine sub_app ?_ ?_ | with_reducible refine sub_cons ?_ ?_ | exact sub_nil | (intro _ hz9; k_mem) | k_mem))
theorem ap_c (D : Apart4 nA gA roA coA tl) (F : Fr h₀ L s.heap m) (N : News h₀ L s.heap ((nA, o1) :: (gA, o2) :: (roA, o3) :: (coA, listOf vs.toArray k) :: tl)) (h20 : vs.length < 20)
    (ret : ∀ h', Fr h₀ L h' m → News h₀ L h' ((nA, o1) :: (gA, o2) :: (roA, o3) :: (coA, listOf (vs ++ [x]).toArray (k + 1)) :: tl) → Q .none { s with heap := h' }) : wpAny (model prog w) A (call (.builtin "list.append") [.ref coA, x]) Q E s := by
  refine t_append (n := k) (rest := (nA, o1) :: (gA, o2) :: (roA, o3) :: tl) F (News.perm N ?_) ?_ h20 fun h' F' N' => ret h' F' (News.perm N' ?_)
  · (repeat' (first | with_reducible refine sub_app ?_ ?_ | with_reducible refine sub_cons ?_ ?_ | exact sub_nil | (intro _ hz9; k_mem) | k_mem))
  · intro p hp
    simp only [List.mem_cons] at hp
    rcases hp with h | h | h | h
    · rw [h]; exact D.c
    · rw [h]; exact D.e
    · rw [h]; exact D.f
    · exact (D.tl p h).2.2.2
  · (repeat' (first | with_reducible refine sub_app ?_ ?_ | with_reducible refine sub_cons ?_ ?_ | exact sub_nil | (intro _ hz9; k_mem) | k_mem))
end
theorem al_end {V : List (Str × Value)} {nA gA roA coA : Addr} {h' : Heap} {tk : Nat} {m' : Str → Option Value} {c : AL} {own fix news' : List (Addr × Obj)} {i : Nat} {P : Nat → AL → Prop} (F : Fr h₀ L h' m') (N : News h₀ L h' news')
    (hn : ∀ p ∈ alLed nA gA roA coA c ++ (own ++ fix), p ∈ news') (hp : P (i + 1) c) (hm : ∀ p ∈ V, m' p.1 = some p.2) : F2End h₀ L s (alVals V) (alLed nA gA roA coA) fix "range_iterator" P i own { s with heap := h', toks := tk } := by
  refine f2_end c F N hm ?_ ?_ hp
  · intro p hp
    refine hn p ?_
    refine sub_of hp ?_
    (repeat' (first | with_reducible refine sub_app ?_ ?_ | with_reducible refine sub_cons ?_ ?_ | exact sub_nil | (intro _ hz9; k_mem) | k_mem))
  · intro p hp
    simp only [alLed, List.mem_cons, List.not_mem_nil, or_false] at hp
    rcases hp with rfl | rfl | rfl | rfl <;> exact list_noiter
theorem al_for {prog : Program} {A : Around} {E : Value → Shared → Prop} {env : Env} {x : Str} {body : List Stmt} {nA gA roA coA ra : Addr} {P : Nat → AL → Prop} {c₀ : AL} {t1 t2 t3 : Tok} (V : List (Str × Value))
    (hh : A.handled = none) (F : Fr h₀ env.locals s.heap m) (N : News h₀ env.locals s.heap (alLed nA gA roA coA c₀ ++ news)) (hr : IsRange s.heap ra 3 9 1 t1 t2 t3)
    (hm : ∀ p ∈ V, m p.1 = some p.2) (D : Apart4 nA gA roA coA news) (h0 : P 0 c₀)
    (turn : ∀ (i : Nat) t (c : AL) h tk (u : Str → Option Value) (own tl : List (Addr × Obj)), i < 6 → P i c → (∀ p ∈ own ++ news, p ∈ tl) → Apart4 nA gA roA coA tl → Fr h₀ env.locals h (fun y => if y = x then some (.int ((i + 3 : Nat) : Int) t) else frV V u y) → News h₀ env.locals h ((nA, listOf c.n.toArray c.kn) :: (gA, listOf c.h.toArray c.kh) :: (roA, listOf c.r.toArray c.kr) :: (coA, listOf c.c.toArray c.kc) :: tl) →
      wpAny (model prog w) A (execs body env) (F2Post h₀ env.locals { s with heap := h, toks := tk } (alVals V) (alLed nA gA roA coA) news "range_iterator" P Q i own) E { s with heap := h, toks := tk })
    (done : ∀ (c : AL) h tk (u : Str → Option Value), P 6 c → Fr h₀ env.locals h (frV V u) → News h₀ env.locals h (alLed nA gA roA coA c ++ news) → Q .next { s with heap := h, toks := tk }) :
    wpAny (model prog w) A (pyIter (.ref ra)) (fun it s₂ => LoopAtV prog w A h₀ env x body Q E it s₂) E s := by
  have lt : ∀ q ∈ alLed nA gA roA coA c₀, q.1 < s.heap.objs.size := fun q hq => Heap.lt_size (N _ (List.mem_append_left _ hq)).1
  have l1 : s.heap.objs.size ≠ nA := Nat.ne_of_gt (lt _ (List.mem_cons_self))
  have l2 : s.heap.objs.size ≠ gA := Nat.ne_of_gt (lt _ (List.mem_cons_of_mem _ List.mem_cons_self))
  have l3 : s.heap.objs.size ≠ roA := Nat.ne_of_gt (lt _ (List.mem_cons_of_mem _ (List.mem_cons_of_mem _ List.mem_cons_self)))
  have l4 : s.heap.objs.size ≠ coA := Nat.ne_of_gt (lt _ (List.mem_cons_of_mem _ (List.mem_cons_of_mem _ (List.mem_cons_of_mem _ List.mem_cons_self))))
  refine f2_range (σ := AL) (nn := 6) (alVals V) (alLed nA gA roA coA) news P c₀ hh F N hr (by decide) (by decide) hm (fun _ h => h) (fun p hp => ?_) h0 ?_ ?_
  · simp only [alLed, List.mem_cons, List.not_mem_nil, or_false] at hp
    rcases hp with rfl | rfl | rfl | rfl <;> exact list_noiter
  · intro i t c h tk u own hi hp _ hown _ F' N'
    rw [show (3 : Int) + (i : Int) * 1 = ((i + 3 : Nat) : Int) by omega] at F'
    refine turn i t c h tk u own (own ++ news) hi hp (fun _ h => h) ⟨D.a, D.b, D.c, D.d, D.e, D.f, fun p hp => ?_⟩ F' (News.perm N' ?_)
    · rcases List.mem_append.mp hp with h1 | h1
      · rw [hown p h1]; exact ⟨l1, l2, l3, l4⟩
      · exact D.tl p h1
    · (dsimp only [alLed]; repeat' (first | with_reducible refine sub_app ?_ ?_ | with_reducible refine sub_cons ?_ ?_ | exact sub_nil | (intro _ hz9; k_mem) | k_mem))
  · intro c h tk u hp F' N'
    exact done c h tk u hp F' N'
noncomputable def gD (dl : Nat → Int) (p : Nat) : Nat := ((dl (p - 3)).fmod (p : Int)).toNat
noncomputable def rotD (dl : Nat → Int) : Nat := (((dl 7).fdiv 12).fmod 6).toNat
theorem gD_ok (dl : Nat → Int) : GOk (gD dl) := by
  intro p h3 _
  have h1 : 0 ≤ (dl (p - 3)).fmod (p : Int) := Int.fmod_nonneg_of_pos _ (by omega)
  have h2 : (dl (p - 3)).fmod (p : Int) < (p : Int) := Int.fmod_lt_of_pos _ (by omega)
  unfold gD
  omega
theorem gD_eq (dl : Nat → Int) (i : Nat) : (dl i).fmod ((i + 3 : Nat) : Int) = (gD dl (i + 3) : Int) := by
  have h1 : 0 ≤ (dl i).fmod ((i + 3 : Nat) : Int) := Int.fmod_nonneg_of_pos _ (by omega)
  unfold gD
  rw [show i + 3 - 3 = i by omega]
  omega
theorem rotD_6 (dl : Nat → Int) : rotD dl < 6 := by
  have h1 : 0 ≤ ((dl 7).fdiv 12).fmod 6 := Int.fmod_nonneg_of_pos _ (by decide)
  have h2 : ((dl 7).fdiv 12).fmod 6 < 6 := Int.fmod_lt_of_pos _ (by decide)
  unfold rotD
  omega
theorem lab_item : ∀ j, j < 6 → Txt.item (Str.ofString "cAf9be") ((j : Nat) : Int) = ⟨#[([99, 65, 102, 57, 98, 101] : List Nat).getD j 0]⟩ := by decide
theorem lab_ix (dl : Nat → Int) (i : Nat) : ((((i + 3 : Nat) : Int) - 3) + (dl 7).fdiv 12).fmod 6 = (((i + rotD dl) % 6 : Nat) : Int) := by
  have e1 : (((i + 3 : Nat) : Int) - 3) = (i : Int) := by rw [Int.natCast_add]; exact Int.add_sub_cancel _ _
  have e2 : ((rotD dl : Nat) : Int) = ((dl 7).fdiv 12) % 6 := by
    unfold rotD
    rw [Int.fmod_eq_emod_of_nonneg _ (by decide)]
    exact Int.toNat_of_nonneg (Int.emod_nonneg _ (by decide))
  rw [e1, Int.natCast_emod, Int.natCast_add, e2, Int.fmod_eq_emod_of_nonneg _ (by decide)]
  exact (Int.add_emod_emod _ _ _).symm
theorem name_made (dl : Nat → Int) {i : Nat} (hi : i < 6) : Txt.item (Str.ofString "cAf9be") (((((i + 3 : Nat) : Int) - 3) + (dl 7).fdiv 12).fmod 6) ++ Str.ofString "." ++ NM (gD dl) (rotD dl) (gD dl (i + 3)) = NM (gD dl) (rotD dl) (i + 3) := by
  rw [lab_ix, lab_item _ (Nat.mod_lt _ (by decide)), NM_step (gD_ok dl) (by omega) (by omega : i + 3 < 9)]
  rw [show i + 3 - 3 = i by omega]
  rfl
theorem dot2 {x : Str} (h : x.length = 1) : x.length + (Str.ofString ".").length ≤ 2 := by
  have e : (Str.ofString ".").length = 1 := by decide
  omega
theorem LOk.pick {β : Type} (d : β) {P : Nat → Value → Prop} {f : Nat → β → Value} {n : Nat} {vs : List Value} (h : LOk P n vs) (hP : ∀ j v, j < n → P j v → ∃ b, v = f j b) : ∃ F : Nat → β, ∀ j < n, vs[j]? = some (f j (F j)) := by
  have : ∀ j : Nat, ∃ b : β, j < n → vs[j]? = some (f j b) := by
    intro j
    by_cases hj : j < n
    · obtain ⟨v, h1, h2⟩ := h.2 j hj
      obtain ⟨b, rfl⟩ := hP j v hj h2
      exact ⟨b, fun _ => h1⟩
    · exact ⟨d, fun h => absurd h hj⟩
  obtain ⟨F, hF⟩ := Classical.axiomOfChoice this
  exact ⟨F, hF⟩
theorem al_end2 {V : List (Str × Value)} {nA gA roA coA : Addr} {h' : Heap} {tk : Nat} {m' : Str → Option Value} {ns hs rs cs : List Value} {a1 a2 a3 a4 : Nat} {own fix tl : List (Addr × Obj)} {i : Nat} {P : Nat → AL → Prop} (F : Fr h₀ L h' m')
    (N : News h₀ L h' ((nA, listOf ns.toArray a1) :: (gA, listOf hs.toArray a2) :: (roA, listOf rs.toArray a3) :: (coA, listOf cs.toArray a4) :: tl))
    (hn : ∀ p ∈ own ++ fix, p ∈ tl) (hp : P (i + 1) ⟨ns, hs, rs, cs, a1, a2, a3, a4⟩) (hm : ∀ p ∈ V, m' p.1 = some p.2) : F2End h₀ L s (alVals V) (alLed nA gA roA coA) fix "range_iterator" P i own { s with heap := h', toks := tk } := by
  refine al_end (c := ⟨ns, hs, rs, cs, a1, a2, a3, a4⟩) F N ?_ hp hm
  intro p hq
  rcases List.mem_append.mp hq with h | h
  · simp only [alLed, List.mem_cons, List.not_mem_nil, or_false] at h
    rcases h with h | h | h | h <;> simp [h]
  · exact List.mem_cons_of_mem _ (List.mem_cons_of_mem _ (List.mem_cons_of_mem _ (List.mem_cons_of_mem _ (hn p h))))
theorem al_step {dl : Nat → Int} {i : Nat} {c : AL} {t1 t2 t3 : Tok} {x : Int} {b : Bool} {z : Str} {y : Int} {a1 a2 a3 a4 : Nat} (hi : i < 6) (pn : LOk (PN (gD dl) (rotD dl)) (i + 3) c.n) (ph : LOk (PH (gD dl)) (i + 3) c.h) (pr : LOk PR (i + 3) c.r) (pc : LOk PC (i + 3) c.c)
    (hz : z = NM (gD dl) (rotD dl) (i + 3)) (hy : y = (gD dl (i + 3) : Int)) (h0 : 0 ≤ x) (h2 : x < 3) : alOk (gD dl) (rotD dl) (i + 1) ⟨c.n ++ [.str z t1], c.h ++ [.int y t2], c.r ++ [.int x t3], c.c ++ [.bool b], a1, a2, a3, a4⟩ := by
  subst hz hy
  have e : i + 1 + 3 = i + 3 + 1 := by omega
  unfold alOk
  rw [e]
  exact ⟨pn.snoc ⟨_, rfl⟩, ph.snoc fun _ => ⟨_, rfl⟩, pr.snoc ⟨_, _, rfl, h0, by omega⟩, pc.snoc ⟨_, rfl⟩⟩
theorem law_A6 {cW cH cD dA nA gA roA coA : Addr} {oW oD oH : Obj} {vW : Option Value} {ds : List Value} {dl : Nat → Int} {nD : Nat} {kt rest : List (Addr × Obj)} {c : AL}
    (B : Below A₀ base [] h₀) (F : Fr h₀ L s.heap m) (XX : (Mine.fr2 w.params).In h₀) (TT : Top topProg LL mean mg mb h₀) (XB : (Mine.fr2 w.params).In base) (TB : Top topProg LL mean mg mb base) (hd : dp + 40 < recursionLimit) (hu : un + 300 < cLine)
    (N : News h₀ L s.heap (alLed nA gA roA coA c ++ (kt ++ ((cW, oW) :: rest)))) (hp : alOk (gD dl) (rotD dl) 6 c) (hT : KTab kt) (D4 : Apart4 nA gA roA coA (kt ++ ((cW, oW) :: rest)))
    (hne : ∀ p ∈ (cW, oW) :: rest, p.1 ≠ 181) (hneW : ∀ p ∈ kt ++ rest, p.1 ≠ cW) (mD : (cD, oD) ∈ rest) (mds : (dA, listOf ds.toArray nD) ∈ rest) (mHc : (cH, oH) ∈ rest)
    (hcW : oW.data = .cell vW) (hcD : oD.data = .cell (some (.ref dA))) (hcH : oH.data = .cell (some (.ref gA))) (hds : IntsAre ds ((List.range 16).map dl)) (hdl : ∀ j, 0 ≤ dl j ∧ dl j < 2 ^ 50)
    (hc : CodeHd base (185, 181).fst (185, 181).snd)
    (hm : ∀ p ∈ [(Str.ofString "names", Value.ref nA), (Str.ofString "rooms", .ref roA), (Str.ofString "contrary", .ref coA)], m p.1 = some p.2)
    (ret : ∀ h' tk' m' kt' news', Fr h₀ L h' m' → News h₀ L h' (kt' ++ news') → KTab kt' → Q (.ret (.bool true)) { s with heap := h', toks := tk' }) :
    wpN (model PP w) (ktrTop dp un gd cn (CS (lawN w.params) false false mo) L a ccd (laC cW cH cD) []) (execs ((lawB w.params).drop 6) (envX cn (CS (lawN w.params) false false mo) L a ccd (laC cW cH cD))) Q s := by
  obtain ⟨pn, ph, pr, pc⟩ := hp
  obtain ⟨TX, hTX⟩ := LOk.pick (β := Tok) 0 (f := fun j t => .str (NM (gD dl) (rotD dl) j) t) pn fun j v _ h => h
  obtain ⟨RT, hRT⟩ := LOk.pick (β := { x : Nat // x ≤ 2 } × Tok) (⟨0, by decide⟩, 0) (f := fun _ b => .int (b.1.1 : Int) b.2) pr fun j v _ h => by
    obtain ⟨x, t, rfl, h0, h2⟩ := h
    exact ⟨(⟨x.toNat, by omega⟩, t), by show _ = Value.int ((x.toNat : Nat) : Int) t; rw [show ((x.toNat : Nat) : Int) = x by omega]⟩
  obtain ⟨C, hC⟩ := LOk.pick (β := Bool) false (f := fun _ b => .bool b) pc fun j v _ h => h
  obtain ⟨Tf, hTf⟩ : ∃ Tf : Nat → Tok, ∀ j, 3 ≤ j → j < 9 → c.h[j]? = some (.int (gD dl j : Int) (Tf j)) := by
    have : ∀ j : Nat, ∃ t : Tok, 3 ≤ j → j < 9 → c.h[j]? = some (.int (gD dl j : Int) t) := by
      intro j
      by_cases h : 3 ≤ j ∧ j < 9
      · obtain ⟨v, h1, h2⟩ := ph.2 j h.2
        obtain ⟨t, rfl⟩ := h2 h.1
        exact ⟨t, fun _ _ => h1⟩
      · exact ⟨0, fun h1 h2 => absurd ⟨h1, h2⟩ h⟩
    obtain ⟨f, hf⟩ := Classical.axiomOfChoice this
    exact ⟨f, hf⟩
  obtain ⟨o, ho⟩ : ∃ o, ((181 : Addr), o) ∈ kt := ktab_181 hT
  have d181 := D4.tl (181, o) (by first | k_mem | simp [ho])
  have dW := D4.tl (cW, oW) (by first | k_mem | simp)
  have hGg := gD_ok dl
  refine law_B6 (H := { W := Wn (gD dl), R := fun j => (RT j).1.1, C := C }) (Y := { clA := 0, wyA := 0, roA := roA, coA := coA, iC := #[], iW := #[], iR := c.r.toArray, iCo := c.c.toArray, nC := 0, nW := 0, nR := c.kr, nCo := c.kc, ca := fun _ => 0, nT := fun _ => 0, tv := fun _ => 0, tp := fun _ => 0, tw := fun _ => 0, tr := fun j => (RT j).2 }) (kt := kt) (oW := oW) (oD := oD) (oH := oH) (dA := dA) (hgA := gA) (iN := c.n.toArray) (iH := c.h.toArray) (rest := alLed nA gA roA coA c ++ rest) (X := NM (gD dl) (rotD dl)) (TX := TX) (Hf := fun i => (gD dl i.toNat : Int)) (Tf := fun i => Tf i.toNat) (dl := dl) B F XX TT XB TB hd hu (News.perm N ?_) hT ?_ ?_ hcW hcD (List.mem_append_right _ mD) (List.mem_append_right _ mds) hds hdl hcH (List.mem_append_right _ mHc) (by simp [alLed]; exact .inr (.inl rfl)) ?_ ?_ (by simp [alLed]; exact .inl rfl) ?_ ?_ (NM_str _ _) (NM_inj hGg (rotD_6 dl)) ?_ (fun i hi => reach_NM hGg hi) (fun i hi => NM_reach hGg hi) (fun i hi => NM_len hGg hi) hc hm ret
  · intro p hq
    refine sub_of hq ?_
    (repeat' (first | with_reducible refine sub_app ?_ ?_ | with_reducible refine sub_cons ?_ ?_ | exact sub_nil | (intro _ hz9; k_mem) | k_mem))
  · exact List.forall_mem_cons.mpr ⟨hne _ (.head _), all_app (show ∀ p ∈ [_, _, _, _], _ from List.forall_mem_cons.mpr ⟨d181.1.symm, List.forall_mem_cons.mpr ⟨d181.2.1.symm, List.forall_mem_cons.mpr ⟨d181.2.2.1.symm, List.forall_mem_cons.mpr ⟨d181.2.2.2.symm, fun _ h => nomatch h⟩⟩⟩⟩) (fun p h => hne p (.tail _ h))⟩
  · exact all_app (fun p h => hneW p (List.mem_append_left _ h)) (all_app (show ∀ p ∈ [_, _, _, _], _ from List.forall_mem_cons.mpr ⟨dW.1.symm, List.forall_mem_cons.mpr ⟨dW.2.1.symm, List.forall_mem_cons.mpr ⟨dW.2.2.1.symm, List.forall_mem_cons.mpr ⟨dW.2.2.2.symm, fun _ h => nomatch h⟩⟩⟩⟩) (fun p h => hneW p (List.mem_append_right _ h)))
  · intro i h3 h9
    have := hTf i.toNat (by omega) (by omega)
    have hg := hGg i.toNat (by omega) (by omega)
    refine ⟨by simpa using this, by omega, by omega⟩
  · intro p h9 t
    exact upV_Wn hGg (fun q _ _ => rfl) h9 t
  · simpa using pn.1
  · intro i hi
    simpa using hTX i hi
  · exact ⟨by simp [alLed], by simp [alLed], by simpa using pr.1, fun i hi => by simpa using hRT i hi, fun i hi => by simpa using hC i hi, fun i j hi h => Wn_lt hGg hi h, fun i _ => (RT i).1.2⟩
theorem law_A5 {cW cH cD dA nA gA roA coA : Addr} {oW oD oH : Obj} {vW : Option Value} {ds nl hl rl cl : List Value} {dl : Nat → Int} {nD kn kh kr kc : Nat} {kt rest : List (Addr × Obj)}
    (B : Below A₀ base [] h₀) (F : Fr h₀ L s.heap m) (XX : (Mine.fr2 w.params).In h₀) (TT : Top topProg LL mean mg mb h₀) (XB : (Mine.fr2 w.params).In base) (TB : Top topProg LL mean mg mb base) (hd : dp + 40 < recursionLimit) (hu : un + 300 < cLine)
    (N : News h₀ L s.heap ((nA, listOf nl.toArray kn) :: (gA, listOf hl.toArray kh) :: (roA, listOf rl.toArray kr) :: (coA, listOf cl.toArray kc) :: (kt ++ ((cW, oW) :: rest)))) (hT : KTab kt) (D4 : Apart4 nA gA roA coA (kt ++ ((cW, oW) :: rest)))
    (hne : ∀ p ∈ (cW, oW) :: rest, p.1 ≠ 181) (hneW : ∀ p ∈ kt ++ rest, p.1 ≠ cW) (mD : (cD, oD) ∈ rest) (mds : (dA, listOf ds.toArray nD) ∈ rest) (mHc : (cH, oH) ∈ rest)
    (hcW : oW.data = .cell vW) (hcD : oD.data = .cell (some (.ref dA))) (hcH : oH.data = .cell (some (.ref gA))) (hds : IntsAre ds ((List.range 16).map dl)) (hdl : ∀ j, 0 ≤ dl j ∧ dl j < 2 ^ 50)
    (hn0 : LOk (PN (gD dl) (rotD dl)) 3 nl) (hh0 : LOk (PH (gD dl)) 3 hl) (hr0 : LOk PR 3 rl) (hc0 : LOk PC 3 cl)
    (hc : CodeHd base (185, 181).fst (185, 181).snd)
    (hm : ∀ p ∈ [(Str.ofString "names", Value.ref nA), (Str.ofString "rooms", .ref roA), (Str.ofString "contrary", .ref coA)], m p.1 = some p.2)
    (ret : ∀ h' tk' m' kt' news', Fr h₀ L h' m' → News h₀ L h' (kt' ++ news') → KTab kt' → Q (.ret (.bool true)) { s with heap := h', toks := tk' }) :
    wpN (model PP w) (ktrTop dp un gd cn (CS (lawN w.params) false false mo) L a ccd (laC cW cH cD) []) (execs ((lawB w.params).drop 5) (envX cn (CS (lawN w.params) false false mo) L a ccd (laC cW cH cD))) Q s := by
  have hdr : ∀ {mQ : Flow → Shared → Prop} {ss : Shared}, wpN (model PP w) (ktrTop dp un gd cn (CS (lawN w.params) false false mo) L a ccd (laC cW cH cD) []) (execs ((lawB w.params).drop 6) (envX cn (CS (lawN w.params) false false mo) L a ccd (laC cW cH cD))) mQ ss → wpN (model PP w) (ktrTop dp un gd cn (CS (lawN w.params) false false mo) L a ccd (laC cW cH cD) []) (execs ((lawB w.params).drop 6) (envX cn (CS (lawN w.params) false false mo) L a ccd (laC cW cH cD))) mQ ss := fun h => h
  unfold lawB lawN lawAt at hdr ⊢
  dsimp only [List.drop_succ_cons, List.drop_zero] at hdr ⊢
  rw [frV_eq hm] at F
  skip
  obtain ⟨t7, h7⟩ := ds_seven hds 7 (by decide)
  have hdl7 := hdl 7
  refine N_execs_split 1 ?_
  simp only [List.take_succ_cons, List.take_zero, List.drop_succ_cons, List.drop_zero]
  k_with_none
  k_with "eval Name" => (k_here; (fail_if_success (with_reducible show wpAny _ _ (eval _ (compEnvC _ _ _ _)) _ _ _)); first | (refine' nameX_L ?zqF ?zqv ?_ ?zqa ?zqb; (case zqF => k_asm); (case zqa => rfl); (case zqb => rfl); (case zqv => rfl); k_whole) | (refine' nameX_K ?zqF ?zqX ?zqT ?zqe ?_ ?zqa ?zqb; (case zqF => k_asm); (case zqX => k_asm); (case zqT => k_asm); (case zqa => rfl); (case zqb => rfl); (case zqe => k_is); k_whole) | (refine' nameX_B ?zqF ?zqX ?zqT ?zqe ?zqv ?zqn ?_ ?zqa ?zqb; (case zqF => k_asm); (case zqX => k_asm); (case zqT => k_asm); (case zqa => rfl); (case zqb => rfl); (case zqe => k_is); (case zqv => boot_fast); (case zqn => decide); k_whole) | (refine' nameX_C ?zqN ?zqc ?zqm ?zqd ?_ ?zqa ?zqb; (case zqa => rfl); (case zqb => rfl); (case zqN => k_asm); (case zqc => rfl); (case zqm => k_mem); (case zqd => k_asm); k_whole))
  k_with "callWith ref" => (k_here; first | (refine' callWith_K ?zqk1 ?zqk2 ?_; (case zqk1 => k_asm); (case zqk2 => k_is); k_whole) | (refine' callWith_KW ?zqk1 ?zqk2 ?zqk3 ?_; (case zqk1 => k_asm); (case zqk2 => k_is); (case zqk3 => exact rfl); k_whole))
  k_with "storeName" => (k_here; refine' storeX_L ?zqF ?zqN ?_ ?zqa ?zqb; (case zqF => k_asm); (case zqN => k_asm); (case zqa => rfl); (case zqb => rfl); k_whole; intro _ _ _; (try k_sweep))
  k_with "subscriptTail Name Name ref int" => k_extra "subscriptTail"
  k_with "subscriptTail Name Call ref int" => k_extra "subscriptTail"
  k_with "subscriptTail Name Subscript ref int" => k_extra "subscriptTail"
  k_with "subscriptTail" => (k_here; (with_reducible show wpAny _ _ (subscriptTail _ _ (Value.ref _) (Value.int _ _)) _ _ _); (with_unfolding_all refine' sub_list ?k1 ?k2 ?k3 ?_ ?k6); (case k1 => k_asm); (case k2 => k_dflt k_mem); (case k6 => with_unfolding_all rfl); (case k3 => k_extra "item"); k_whole)
  k_with "call builtin:len" => (k_here; (with_reducible show wpAny _ _ (call (Value.builtin "len") [Value.ref _]) _ _ _); (with_unfolding_all refine' len_led ?k1 ?k2 ?k3 ?_); (case k1 => k_asm); (case k2 => k_dflt k_mem); (case k3 => k_extra "len"); k_whole)
  k_with "binaryOp Add str str" => (k_here; k_dflt (k_extra "add"))
  k_with "pyIter ref" => (k_dflt (k_extra "iterrange"))
  k_with "call builtin:list.append" => (k_here; k_dflt (k_extra "append"))
  k_with "iterrange" => ((rename Fr _ _ _ _ => lF'); (rename News _ _ _ _ => lN'); (rename PySem.IsRange _ _ _ _ _ _ _ _ => lR'); (refine' al_for (c₀ := ⟨nl, hl, rl, cl, kn, kh, kr, kc⟩) (P := alOk (gD dl) (rotD dl)) (nA := nA) (gA := gA) (roA := roA) (coA := coA) [(Str.ofString "names", Value.ref nA), (Str.ofString "rooms", .ref roA), (Str.ofString "contrary", .ref coA)] (by rfl) lF' lN' lR' ?hm1 D4 ⟨hn0, hh0, hr0, hc0⟩ ?turn ?done); (case hm1 => ((rename Fr _ _ _ _ => hvF); refine hv_of hvF ?_; repeat' (first | exact hv_nil | refine hv_cons ?_ ?_ | with_unfolding_all rfl))); (case' turn => (clear lF' lN' lR'; (try clear F); (try clear N); intro i t c h tk u own tl hi hp htl D9 F' N'; (have mD9 : (cD, oD) ∈ tl := htl _ (by first | k_mem | simp [mD])); (have mH9 : (cH, oH) ∈ tl := htl _ (by first | k_mem | simp [mHc])); (have md9 : (dA, listOf ds.toArray nD) ∈ tl := htl _ (by first | k_mem | simp [mds])); (skip); (obtain ⟨pn, ph, pr, pc⟩ := hp); (obtain ⟨td, hdi⟩ := ds_seven hds i (by omega)); (obtain ⟨hx0, hx1⟩ := hdl i); (have hgi := gD_ok dl (i + 3) (by omega) (by omega)); (obtain ⟨vn, hvn, tn, rfl⟩ := pn.2 (gD dl (i + 3)) hgi))); (case' done => (clear lF' lN' lR'; (try clear F); (try clear N); intro c h tk u hp F' N'; (skip))))
  k_with "item" => first | (exact ⟨by decide, by decide, h7⟩) | (exact ⟨by omega, by omega, by rw [show ((((i + 3 : Nat) : Int) - 3)).toNat = i by omega]; exact hdi⟩) | ((rw [gD_eq]; exact itemN (by omega) hvn))
  k_with "add" => first
    | ((refine KXadd.add (K := 2) (L := 1000) hk2 hk3 (by decide) ?_); (intro t10 k10 hl10))
    | ((rename (Txt.item _ _).length = 1 => kx1); (have hk1 := Nat.le_of_eq kx1); (refine KXadd.add (K := 1) (L := 1) hk1 (by decide) (by decide) ?_); (intro t9 k9 hl9); (have hk2 := Nat.le_trans hl9.2 (dot2 kx1)); (have hk3 := Nat.le_of_lt (Nat.lt_trans (NM_len (r := rotD dl) (p := gD dl (i + 3)) (gD_ok dl) (by omega)) (by decide : 100 < 1000))))
  k_with "append" => ((rename News _ _ _ _ => lN); (rename Fr _ _ _ _ => lF); (first | refine ap_h D9 lF lN (by rw [ph.1]; omega) ?_ | refine ap_n D9 lF lN (by rw [pn.1]; omega) ?_ | refine ap_r D9 lF lN (by rw [pr.1]; omega) ?_ | refine ap_c D9 lF lN (by rw [pc.1]; omega) ?_); (clear lF lN); (intro h' F' N'))
  k_steps
  · rename Fr _ _ _ _ => lF
    rename News _ _ _ _ => lN
    refine hdr (law_A6 (c := c) (nA := nA) (gA := gA) (roA := roA) (coA := coA) (oW := oW) (oD := oD) (oH := oH) (dl := dl) (kt := kt) (rest := rest) B lF XX TT XB TB hd hu lN hp hT D4 hne hneW mD mds mHc hcW hcD hcH hds hdl hc ?_ ret)
    ((rename Fr _ _ _ _ => hvF); refine hv_of hvF ?_; repeat' (first | exact hv_nil | refine hv_cons ?_ ?_ | with_unfolding_all rfl))
  · rename Fr _ _ _ _ => lF
    rename News _ _ _ _ => lN
    refine al_end2 lF lN htl (al_step hi pn ph pr pc (name_made dl hi) (gD_eq dl i) (Int.fmod_nonneg_of_pos _ (by decide)) (Int.fmod_lt_of_pos _ (by decide))) ?_
    ((rename Fr _ _ _ _ => hvF); refine hv_of hvF ?_; repeat' (first | exact hv_nil | refine hv_cons ?_ ?_ | with_unfolding_all rfl))
end
end Mine
end
section
open PySem PySem.W PyProof.Rows
namespace Mine
open PySem.Spec PySem.Calls

section
variable {w : World} {mean : ExcName → Option Value} {mg mb : Str → Option Value} {dp un : Nat} {gd : Option (List Code)} {cn : Str} {mo : List (Str × Const)} {a : Addr} {ccd : Value} {A₀ : Around} {base h₀ : Heap} {L : Addr} {m : Str → Option Value} {s : Shared} {Q : Flow → Shared → Prop} {news : List (Addr × Obj)}

theorem off1_all {D : Addr} : ∀ {l : List (Addr × Obj)}, LCg.Off1 D l → ∀ p ∈ l, p.1 ≠ D
  | [], _, _, h => absurd h List.not_mem_nil
  | q :: l, ho, p, h => by
    rcases List.mem_cons.mp h with rfl | h
    · exact ho.1
    · exact off1_all ho.2 p h
/-- how an item of a comprehension ends -/
noncomputable def ElemEnd (h₀ : Heap) (L : Addr) (m : Str → Option Value) (s : Shared) (l : List (Addr × Obj)) (V : Nat → Value → Prop) (i : Nat) (y : Value) (s' : Shared) : Prop := ∃ h' tk', s' = { s with heap := h', toks := tk' } ∧ Fr h₀ L h' m ∧ News h₀ L h' l ∧ V i y
theorem elem_end {l : List (Addr × Obj)} {V : Nat → Value → Prop} {i : Nat} {y : Value} {h' : Heap} {tk' : Nat} (F : Fr h₀ L h' m) (N : News h₀ L h' l) (hV : V i y) : ElemEnd h₀ L m s l V i y { s with heap := h', toks := tk' } := ⟨h', tk', rfl, F, N, hV⟩
theorem comp_vals2 {prog : Program} {A : Around} {env : Env} {elt : Expr} {x : Str} {scope : Scope} {cl : List (Str × Addr)} {Fin : List Value → List (Addr × Obj) → Prop} (V : Nat → Value → Prop) {led : List (Addr × Obj)}
    (elem : ∀ (i : Nat) (k : Int) I oI C oC D ys m₂ h tk t (E' : Value → Shared → Prop), ((i = 0 ∧ k = 0) ∨ (i = 1 ∧ k = 1) ∨ (i = 2 ∧ k = 2)) → LCg.NsObj oC m₂ → m₂ x = some (.int k t) → Fr h₀ L h m → News h₀ L h ((I, oI) :: (C, oC) :: (D, LCg.lst ys) :: led) →
      wpAny (model prog w) A (eval elt (compEnvC scope cl C env)) (ElemEnd h₀ L m s ((I, oI) :: (C, oC) :: (D, LCg.lst ys) :: led) V i) E' { s with heap := h, toks := tk })
    (fin : ∀ ys, LOk V 3 ys → Fin ys led) : LCg.CompRest prog w A h₀ L m env elt x scope cl s (fun _ => True) (fun i v => ∃ t, v = .int ((0 : Int) + (i : Int)) t) Fin 3 0 [] led := by
  refine comp_vals (n₀ := 3) (V := V) (fun i v I oI C oC D ys m₂ h tk E' hi hP hC hx F' N' => ?_) (fun ys hl hv => fin ys ⟨hl, hv⟩) 3 0 [] rfl rfl (fun _ h => absurd h (Nat.not_lt_zero _))
  obtain ⟨t, rfl⟩ := hP
  exact elem i ((0 : Int) + (i : Int)) I oI C oC D ys m₂ h tk t E' (by omega) hC hx F' N'
theorem law_A3 {cW cH cD dA nA gA : Addr} {oW oD oH : Obj} {vW : Option Value} {ds nl hl : List Value} {dl : Nat → Int} {nD kn kh : Nat} {kt rest led : List (Addr × Obj)}
    (B : Below A₀ base [] h₀) (F : Fr h₀ L s.heap m) (XX : (Mine.fr2 w.params).In h₀) (TT : Top topProg LL mean mg mb h₀) (XB : (Mine.fr2 w.params).In base) (TB : Top topProg LL mean mg mb base) (hd : dp + 40 < recursionLimit) (hu : un + 300 < cLine)
    (N : News h₀ L s.heap led) (sub : ∀ p ∈ (nA, listOf nl.toArray kn) :: (gA, listOf hl.toArray kh) :: (kt ++ ((cW, oW) :: rest)), p ∈ led) (hT : KTab kt) (hng : nA ≠ gA) (hD2 : ∀ p ∈ kt ++ ((cW, oW) :: rest), p.1 ≠ nA ∧ p.1 ≠ gA)
    (hne : ∀ p ∈ (cW, oW) :: rest, p.1 ≠ 181) (hneW : ∀ p ∈ kt ++ rest, p.1 ≠ cW) (mD : (cD, oD) ∈ rest) (mds : (dA, listOf ds.toArray nD) ∈ rest) (mHc : (cH, oH) ∈ rest)
    (hcW : oW.data = .cell vW) (hcD : oD.data = .cell (some (.ref dA))) (hcH : oH.data = .cell (some (.ref gA))) (hds : IntsAre ds ((List.range 16).map dl)) (hdl : ∀ j, 0 ≤ dl j ∧ dl j < 2 ^ 50)
    (hn0 : LOk (PN (gD dl) (rotD dl)) 3 nl) (hh0 : LOk (PH (gD dl)) 3 hl)
    (hc : CodeHd base (185, 181).fst (185, 181).snd) (hm : m (Str.ofString "names") = some (.ref nA))
    (ret : ∀ h' tk' m' kt' news', Fr h₀ L h' m' → News h₀ L h' (kt' ++ news') → KTab kt' → Q (.ret (.bool true)) { s with heap := h', toks := tk' }) :
    wpN (model PP w) (ktrTop dp un gd cn (CS (lawN w.params) false false mo) L a ccd (laC cW cH cD) []) (execs ((lawB w.params).drop 3) (envX cn (CS (lawN w.params) false false mo) L a ccd (laC cW cH cD))) Q s := by
  have hdr : ∀ {mQ : Flow → Shared → Prop} {ss : Shared}, wpN (model PP w) (ktrTop dp un gd cn (CS (lawN w.params) false false mo) L a ccd (laC cW cH cD) []) (execs ((lawB w.params).drop 5) (envX cn (CS (lawN w.params) false false mo) L a ccd (laC cW cH cD))) mQ ss → wpN (model PP w) (ktrTop dp un gd cn (CS (lawN w.params) false false mo) L a ccd (laC cW cH cD) []) (execs ((lawB w.params).drop 5) (envX cn (CS (lawN w.params) false false mo) L a ccd (laC cW cH cD))) mQ ss := fun h => h
  unfold lawB lawN lawAt at hdr ⊢
  dsimp only [List.drop_succ_cons, List.drop_zero] at hdr ⊢
  rw [frV_eq (m := m) (vs := [(Str.ofString "names", Value.ref nA)]) (by intro p hp; rw [List.mem_singleton] at hp; subst hp; exact hm)] at F
  skip
  obtain ⟨t6, h6⟩ := ds_seven hds 6 (by decide)
  have hdl6 := hdl 6
  have mD' : (cD, oD) ∈ led := sub _ (by first | k_mem | simp [mD])
  have md' : (dA, listOf ds.toArray nD) ∈ led := sub _ (by first | k_mem | simp [mds])
  refine N_execs_split 2 ?_
  simp only [List.take_succ_cons, List.take_zero, List.drop_succ_cons, List.drop_zero]
  k_with_none
  k_with "eval Name" => (k_here; (fail_if_success (with_reducible show wpAny _ _ (eval _ (compEnvC _ _ _ _)) _ _ _)); first | (refine' nameX_L ?zqF ?zqv ?_ ?zqa ?zqb; (case zqF => k_asm); (case zqa => rfl); (case zqb => rfl); (case zqv => rfl); k_whole) | (refine' nameX_K ?zqF ?zqX ?zqT ?zqe ?_ ?zqa ?zqb; (case zqF => k_asm); (case zqX => k_asm); (case zqT => k_asm); (case zqa => rfl); (case zqb => rfl); (case zqe => k_is); k_whole) | (refine' nameX_B ?zqF ?zqX ?zqT ?zqe ?zqv ?zqn ?_ ?zqa ?zqb; (case zqF => k_asm); (case zqX => k_asm); (case zqT => k_asm); (case zqa => rfl); (case zqb => rfl); (case zqe => k_is); (case zqv => boot_fast); (case zqn => decide); k_whole) | (refine' nameX_C ?zqN ?zqc ?zqm ?zqd ?_ ?zqa ?zqb; (case zqa => rfl); (case zqb => rfl); (case zqN => k_asm); (case zqc => rfl); (case zqm => k_mem); (case zqd => k_asm); k_whole))
  k_with "callWith ref" => (k_here; first | (refine' callWith_K ?zqk1 ?zqk2 ?_; (case zqk1 => k_asm); (case zqk2 => k_is); k_whole) | (refine' callWith_KW ?zqk1 ?zqk2 ?zqk3 ?_; (case zqk1 => k_asm); (case zqk2 => k_is); (case zqk3 => exact rfl); k_whole))
  k_with "storeName" => (k_here; refine' storeX_L ?zqF ?zqN ?_ ?zqa ?zqb; (case zqF => k_asm); (case zqN => k_asm); (case zqa => rfl); (case zqb => rfl); k_whole; intro _ _ _; (try k_sweep))
  k_with "subscriptTail Name Name ref int" => k_extra "subscriptTail"
  k_with "subscriptTail Name Call ref int" => k_extra "subscriptTail"
  k_with "subscriptTail Name Subscript ref int" => k_extra "subscriptTail"
  k_with "subscriptTail" => (k_here; (with_reducible show wpAny _ _ (subscriptTail _ _ (Value.ref _) (Value.int _ _)) _ _ _); (with_unfolding_all refine' sub_list ?k1 ?k2 ?k3 ?_ ?k6); (case k1 => k_asm); (case k2 => k_dflt k_mem); (case k6 => with_unfolding_all rfl); (case k3 => k_extra "item"); k_whole)
  k_with "call builtin:len" => (k_here; (with_reducible show wpAny _ _ (call (Value.builtin "len") [Value.ref _]) _ _ _); (with_unfolding_all refine' len_led ?k1 ?k2 ?k3 ?_); (case k1 => k_asm); (case k2 => k_dflt k_mem); (case k3 => k_extra "len"); k_whole)
  k_with "CompSrc" => (k_here; k_dflt (k_extra "compsrc"))
  k_with "CompRest" => (k_dflt (k_extra "comprest"))
  k_with "call ref" => (k_here; (with_reducible show wpAny _ _ (call (Value.ref _) _ _) _ _ _); k_dflt (k_extra "callref"))
  k_with "storeName" => (k_here; (with_reducible show wpAny _ _ (storeName _ (Str.ofString "draws") _) _ _ _); k_dflt (k_extra "stored"))
  k_with "storeName" => (k_here; (with_reducible show wpAny _ _ (storeName _ (Str.ofString "hung") _) _ _ _); k_dflt (k_extra "storeh"))
  k_with "item" => (exact ⟨by decide, by decide, h6⟩)
  k_with "compsrc" => (refine LCg.CompSrc.range (n := 3) (by rfl) (by k_asm) (by k_asm) (by assumption) (by decide) (by decide) (by exact Nat.le_of_ble_eq_true rfl) ?_; intro g')
  k_with "comprest" => first
    | ((with_reducible show LCg.CompRest _ _ _ _ _ _ _ (Expr.BinOp _ _ _ _) _ _ _ _ _ _ _ _ _ _ _); (refine' comp_vals2 PR ?elemr ?finr); (case' elemr => (intro i k I oI C oC D ys m₂ h tk t E' hi3 hC hx F' N'; rcases hi3 with ⟨rfl, rfl⟩ | ⟨rfl, rfl⟩ | ⟨rfl, rfl⟩)); (case' finr => (intro rl hrl; unfold LCg.FinA; intro D' h' tk' F' N' o1')))
    | ((with_reducible show LCg.CompRest _ _ _ _ _ _ _ (Expr.Compare _ _ _ _) _ _ _ _ _ _ _ _ _ _ _); (refine' comp_vals2 PC ?elemc ?finc); (case' elemc => (intro i k I oI C oC D ys m₂ h tk t E' hi3 hC hx F' N'; rcases hi3 with ⟨rfl, rfl⟩ | ⟨rfl, rfl⟩ | ⟨rfl, rfl⟩)); (case' finc => (intro cl2 hcl2; unfold LCg.FinA; intro D2' h' tk' F' N' o2')))
  k_steps
  · rename Fr _ _ _ _ => lF
    rename News _ _ _ _ => lN
    have s1 : ∀ p ∈ kt ++ ((cW, oW) :: rest), p ∈ led := fun p hp => sub p (List.mem_cons_of_mem _ (List.mem_cons_of_mem _ hp))
    have s2 : (nA, listOf nl.toArray kn) ∈ led := sub _ List.mem_cons_self
    have s3 : (gA, listOf hl.toArray kh) ∈ led := sub _ (List.mem_cons_of_mem _ List.mem_cons_self)
    refine hdr (law_A5 (nA := nA) (gA := gA) (roA := D') (coA := D2') (oW := oW) (oD := oD) (oH := oH) (nl := nl) (hl := hl) (rl := rl) (cl := cl2) (kn := kn) (kh := kh) (kr := rl.length) (kc := cl2.length) (dl := dl) (kt := kt) (rest := rest) B lF XX TT XB TB hd hu (News.perm lN ?_) hT ⟨hng, off1_all o1' _ s2, off1_all o2'.2 _ s2, off1_all o1' _ s3, off1_all o2'.2 _ s3, o2'.1, fun p hp => ⟨(hD2 p hp).1, (hD2 p hp).2, off1_all o1' _ (s1 p hp), off1_all o2'.2 _ (s1 p hp)⟩⟩ hne hneW mD mds mHc hcW hcD hcH hds hdl hn0 hh0 hrl hcl2 hc ?_ ret)
    · intro p hp
      simp only [List.mem_cons] at hp
      rcases hp with h | h | h | h | h
      · exact List.mem_cons_of_mem _ (List.mem_cons_of_mem _ (h ▸ s2))
      · exact List.mem_cons_of_mem _ (List.mem_cons_of_mem _ (h ▸ s3))
      · exact List.mem_cons_of_mem _ (h ▸ List.mem_cons_self)
      · exact h ▸ List.mem_cons_self
      · exact List.mem_cons_of_mem _ (List.mem_cons_of_mem _ (s1 p h))
    · ((rename Fr _ _ _ _ => hvF); refine hv_of hvF ?_; repeat' (first | exact hv_nil | refine hv_cons ?_ ?_ | with_unfolding_all rfl))
  all_goals
    (rename Fr _ _ _ _ => lF
     rename News _ _ _ _ => lN
     first
       | exact elem_end lF lN (show PC _ _ from ⟨_, rfl⟩)
       | exact elem_end lF lN (show PR _ _ from ⟨_, _, rfl, Int.fmod_nonneg_of_pos _ (by decide), Int.le_of_lt_add_one (Int.fmod_lt_of_pos _ (by decide))⟩))
end
end Mine
end
section
open PySem PySem.W PyProof.Rows
namespace Mine
open PySem.Spec PySem.Calls

section
variable {w : World} {mean : ExcName → Option Value} {mg mb : Str → Option Value} {dp un : Nat} {gd : Option (List Code)} {cn : Str} {mo : List (Str × Const)} {a : Addr} {ccd : Value} {A₀ : Around} {base h₀ : Heap} {L : Addr} {m : Str → Option Value} {s : Shared} {Q : Flow → Shared → Prop} {news : List (Addr × Obj)}

theorem draws_fun {ds : List Value} (hl : ds.length = 16) (h : ∀ j < 16, ∃ (x : Int) (t : Tok), ds[j]? = some (.int x t) ∧ 0 ≤ x ∧ x < 1000000000) : ∃ dl : Nat → Int, IntsAre ds ((List.range 16).map dl) ∧ ∀ j, 0 ≤ dl j ∧ dl j < 2 ^ 50 := by
  obtain ⟨f, hf⟩ := LOk.pick (β := { x : Int // 0 ≤ x ∧ x < 1000000000 } × Tok) (⟨0, by decide⟩, 0) (f := fun _ b => .int b.1.1 b.2) (P := fun _ v => ∃ (x : Int) (t : Tok), v = .int x t ∧ 0 ≤ x ∧ x < 1000000000) (vs := ds) ⟨hl, fun j hj => by
    obtain ⟨x, t, h1, h2, h3⟩ := h j hj
    exact ⟨_, h1, x, t, rfl, h2, h3⟩⟩ fun j v _ hv => by
    obtain ⟨x, t, rfl, h2, h3⟩ := hv
    exact ⟨(⟨x, h2, h3⟩, t), rfl⟩
  refine ⟨fun j => (f j).1.1, ?_, fun j => ⟨(f j).1.2.1, Int.lt_trans (f j).1.2.2 (by decide)⟩⟩
  have go : ∀ (n : Nat) (vs : List Value) (x : Nat → Int) (t : Nat → Tok), vs.length = n → (∀ j, j < n → vs[j]? = some (.int (x j) (t j))) → IntsAre vs ((List.range n).map x) := by
    intro n
    induction n with
    | zero => intro vs x t hl _; rw [List.length_eq_zero_iff.mp hl]; exact .nil
    | succ n ih =>
      intro vs x t hl hv
      cases vs with
      | nil => simp at hl
      | cons v vs =>
        have h0 := hv 0 (Nat.zero_lt_succ _)
        simp only [List.getElem?_cons_zero, Option.some.injEq] at h0
        subst h0
        rw [List.range_succ_eq_map, List.map_cons, List.map_map]
        exact .cons _ _ (ih vs (fun j => x (j + 1)) (fun j => t (j + 1)) (by simpa using hl) fun j hj => by simpa using hv (j + 1) (Nat.succ_lt_succ hj))
  exact go 16 ds _ (fun j => (f j).2) hl hf
theorem law_A2 {cW cH cD dA nA gA : Addr} {oW oD oH : Obj} {vW : Option Value} {ds nl hl : List Value} {dl : Nat → Int} {nD kn kh : Nat} {kt : List (Addr × Obj)}
    (B : Below A₀ base [] h₀) (F : Fr h₀ L s.heap m) (XX : (Mine.fr2 w.params).In h₀) (TT : Top topProg LL mean mg mb h₀) (XB : (Mine.fr2 w.params).In base) (TB : Top topProg LL mean mg mb base) (hd : dp + 40 < recursionLimit) (hu : un + 300 < cLine)
    (N : News h₀ L s.heap ((gA, listOf hl.toArray kh) :: (nA, listOf nl.toArray kn) :: (cD, oD) :: (cH, oH) :: (cW, oW) :: (dA, listOf ds.toArray nD) :: kt)) (hT : KTab kt) (hWH : cW ≠ cH) (hWD : cW ≠ cD) (dW : dA ≠ cW) (h1W : cW ≠ 181) (h1H : cH ≠ 181) (h1D : cD ≠ 181) (h1d : dA ≠ 181) (kW : ∀ p ∈ kt, p.1 ≠ cW)
    (l1 : cD < nA ∧ cH < nA ∧ cW < nA ∧ dA < nA ∧ AllLt nA kt) (l2 : nA < gA ∧ cD < gA ∧ cH < gA ∧ cW < gA ∧ dA < gA ∧ AllLt gA kt)
    (hcW : oW.data = .cell vW) (hcD : oD.data = .cell (some (.ref dA))) (hcH : oH.data = .cell (some (.ref gA))) (hds : IntsAre ds ((List.range 16).map dl)) (hdl : ∀ j, 0 ≤ dl j ∧ dl j < 2 ^ 50)
    (hn0 : LOk (PN (gD dl) (rotD dl)) 3 nl) (hh0 : LOk (PH (gD dl)) 3 hl)
    (hc : CodeHd base (185, 181).fst (185, 181).snd) (hm : m (Str.ofString "names") = some (.ref nA))
    (ret : ∀ h' tk' m' kt' news', Fr h₀ L h' m' → News h₀ L h' (kt' ++ news') → KTab kt' → Q (.ret (.bool true)) { s with heap := h', toks := tk' }) :
    wpN (model PP w) (ktrTop dp un gd cn (CS (lawN w.params) false false mo) L a ccd (laC cW cH cD) []) (execs ((lawB w.params).drop 3) (envX cn (CS (lawN w.params) false false mo) L a ccd (laC cW cH cD))) Q s := by
  refine law_A3 (nA := nA) (gA := gA) (oW := oW) (oD := oD) (oH := oH) (nl := nl) (hl := hl) (kn := kn) (kh := kh) (ds := ds) (nD := nD) (dl := dl) (kt := kt) (rest := [(cD, oD), (cH, oH), (dA, listOf ds.toArray nD)]) B F XX TT XB TB hd hu N ?_ hT (Nat.ne_of_lt l2.1) ?_ ?_ ?_ (by first | k_mem | simp) (by first | k_mem | simp) (by first | k_mem | simp) hcW hcD hcH hds hdl hn0 hh0 hc hm ret
  · (repeat' (first | with_reducible refine sub_app ?_ ?_ | with_reducible refine sub_cons ?_ ?_ | exact sub_nil | (intro _ hz9; k_mem) | k_mem))
  · intro p hp
    simp only [List.mem_append, List.mem_cons, List.not_mem_nil, or_false] at hp
    rcases hp with h | h | h | h | h
    · exact ⟨Nat.ne_of_lt (allLt_mem l1.2.2.2.2 p h), Nat.ne_of_lt (allLt_mem l2.2.2.2.2.2 p h)⟩
    · rw [h]; exact ⟨Nat.ne_of_lt l1.2.2.1, Nat.ne_of_lt l2.2.2.2.1⟩
    · rw [h]; exact ⟨Nat.ne_of_lt l1.1, Nat.ne_of_lt l2.2.1⟩
    · rw [h]; exact ⟨Nat.ne_of_lt l1.2.1, Nat.ne_of_lt l2.2.2.1⟩
    · rw [h]; exact ⟨Nat.ne_of_lt l1.2.2.2.1, Nat.ne_of_lt l2.2.2.2.2.1⟩
  · intro p hp
    simp only [List.mem_cons, List.not_mem_nil, or_false] at hp
    rcases hp with h | h | h | h
    · rw [h]; exact h1W
    · rw [h]; exact h1D
    · rw [h]; exact h1H
    · rw [h]; exact h1d
  · intro p hp
    simp only [List.mem_append, List.mem_cons, List.not_mem_nil, or_false] at hp
    rcases hp with h | h | h | h
    · exact kW p h
    · rw [h]; exact hWD.symm
    · rw [h]; exact hWH.symm
    · rw [h]; exact dW
theorem law_A0 {cW cH cD sA : Addr} {oW oD oH : Obj} {vW vH vD : Option Value} {vs : List Value} {xs : List Int} {kt : List (Addr × Obj)}
    (B : Below A₀ base [] h₀) (F : Fr h₀ L s.heap m) (XX : (Mine.fr2 w.params).In h₀) (TT : Top topProg LL mean mg mb h₀) (XB : (Mine.fr2 w.params).In base) (TB : Top topProg LL mean mg mb base) (hd : dp + 40 < recursionLimit) (hu : un + 300 < cLine)
    (N : News h₀ L s.heap (kt ++ [(cW, oW), (cH, oH), (cD, oD)])) (hT : KTab kt) (hWH : cW ≠ cH) (hWD : cW ≠ cD) (hDH : cD ≠ cH) (h1W : cW ≠ 181) (h1H : cH ≠ 181) (h1D : cD ≠ 181)
    (hcW : oW.data = .cell vW) (hcH : oH.data = .cell vH) (hcD : oD.data = .cell vD)
    (hl : h₀.IsList sA vs.toArray) (hI : IntsAre vs xs) (h63 : ¬ (63 : Int) < xs.length)
    (hc : CodeHd base (185, 181).fst (185, 181).snd) (hm : m (Str.ofString "script") = some (.ref sA))
    (ret : ∀ h' tk' m' kt' news', Fr h₀ L h' m' → News h₀ L h' (kt' ++ news') → KTab kt' → Q (.ret (.bool true)) { s with heap := h', toks := tk' }) :
    wpN (model PP w) (ktrTop dp un gd cn (CS (lawN w.params) false false mo) L a ccd (laC cW cH cD) []) (execs ((lawB w.params).drop 0) (envX cn (CS (lawN w.params) false false mo) L a ccd (laC cW cH cD))) Q s := by
  have hdr : ∀ {mQ : Flow → Shared → Prop} {ss : Shared}, wpN (model PP w) (ktrTop dp un gd cn (CS (lawN w.params) false false mo) L a ccd (laC cW cH cD) []) (execs ((lawB w.params).drop 3) (envX cn (CS (lawN w.params) false false mo) L a ccd (laC cW cH cD))) mQ ss → wpN (model PP w) (ktrTop dp un gd cn (CS (lawN w.params) false false mo) L a ccd (laC cW cH cD) []) (execs ((lawB w.params).drop 3) (envX cn (CS (lawN w.params) false false mo) L a ccd (laC cW cH cD))) mQ ss := fun h => h
  unfold lawB lawN lawAt at hdr ⊢
  dsimp only [List.drop_succ_cons, List.drop_zero] at hdr ⊢
  rw [frV_eq (m := m) (vs := [(Str.ofString "script", Value.ref sA)]) (by intro p hp; rw [List.mem_singleton] at hp; subst hp; exact hm)] at F
  skip
  refine N_execs_split 3 ?_
  simp only [List.take_succ_cons, List.take_zero, List.drop_succ_cons, List.drop_zero]
  k_with_none
  k_with "eval Name" => (k_here; (fail_if_success (with_reducible show wpAny _ _ (eval _ (compEnvC _ _ _ _)) _ _ _)); first | (refine' nameX_L ?zqF ?zqv ?_ ?zqa ?zqb; (case zqF => k_asm); (case zqa => rfl); (case zqb => rfl); (case zqv => rfl); k_whole) | (refine' nameX_K ?zqF ?zqX ?zqT ?zqe ?_ ?zqa ?zqb; (case zqF => k_asm); (case zqX => k_asm); (case zqT => k_asm); (case zqa => rfl); (case zqb => rfl); (case zqe => k_is); k_whole) | (refine' nameX_B ?zqF ?zqX ?zqT ?zqe ?zqv ?zqn ?_ ?zqa ?zqb; (case zqF => k_asm); (case zqX => k_asm); (case zqT => k_asm); (case zqa => rfl); (case zqb => rfl); (case zqe => k_is); (case zqv => boot_fast); (case zqn => decide); k_whole) | (refine' nameX_C ?zqN ?zqc ?zqm ?zqd ?_ ?zqa ?zqb; (case zqa => rfl); (case zqb => rfl); (case zqN => k_asm); (case zqc => rfl); (case zqm => k_mem); (case zqd => k_asm); k_whole))
  k_with "callWith ref" => (k_here; first | (refine' callWith_K ?zqk1 ?zqk2 ?_; (case zqk1 => k_asm); (case zqk2 => k_is); k_whole) | (refine' callWith_KW ?zqk1 ?zqk2 ?zqk3 ?_; (case zqk1 => k_asm); (case zqk2 => k_is); (case zqk3 => exact rfl); k_whole))
  k_with "storeName" => (k_here; refine' storeX_L ?zqF ?zqN ?_ ?zqa ?zqb; (case zqF => k_asm); (case zqN => k_asm); (case zqa => rfl); (case zqb => rfl); k_whole; intro _ _ _; (try k_sweep))
  k_with "subscriptTail Name Name ref int" => k_extra "subscriptTail"
  k_with "subscriptTail Name Call ref int" => k_extra "subscriptTail"
  k_with "subscriptTail Name Subscript ref int" => k_extra "subscriptTail"
  k_with "subscriptTail" => (k_here; (with_reducible show wpAny _ _ (subscriptTail _ _ (Value.ref _) (Value.int _ _)) _ _ _); (with_unfolding_all refine' sub_list ?k1 ?k2 ?k3 ?_ ?k6); (case k1 => k_asm); (case k2 => k_dflt k_mem); (case k6 => with_unfolding_all rfl); (case k3 => k_extra "item"); k_whole)
  k_with "call builtin:len" => (k_here; (with_reducible show wpAny _ _ (call (Value.builtin "len") [Value.ref _]) _ _ _); (with_unfolding_all refine' len_led ?k1 ?k2 ?k3 ?_); (case k1 => k_asm); (case k2 => k_dflt k_mem); (case k3 => k_extra "len"); k_whole)
  k_with "call ref" => (k_here; (with_reducible show wpAny _ _ (call (Value.ref _) _ _) _ _ _); k_dflt (k_extra "callref"))
  k_with "storeName" => (k_here; (with_reducible show wpAny _ _ (storeName _ (Str.ofString "draws") _) _ _ _); k_dflt (k_extra "stored"))
  k_with "storeName" => (k_here; (with_reducible show wpAny _ _ (storeName _ (Str.ofString "hung") _) _ _ _); k_dflt (k_extra "storeh"))
  k_with "callref" => ((refine' c_draws (vs := vs) (xs := xs) ?d1 ?d2 ?d3 ?d4 ?d5 ?d6 ?d7 hl hI h63 ?_); (case d1 => k_asm); (case d2 => k_asm); (case d3 => k_asm); (case d4 => k_asm); (case d5 => k_asm); (case d6 => ktr_room); (case d7 => ktr_units); (intro h' tk' dA ds nD nw hl16 hds0 mds F' N' sub); (obtain ⟨dl, hds, hdl⟩ := draws_fun hl16 hds0); (replace N' : News _ _ _ ((cD, oD) :: (cH, oH) :: (cW, oW) :: (dA, listOf ds.toArray nD) :: kt) := News.perm N' (by intro p hp; simp only [List.mem_cons] at hp; rcases hp with h | h | h | h | h; exact sub p (by first | k_mem | simp [h]); exact sub p (by first | k_mem | simp [h]); exact sub p (by first | k_mem | simp [h]); exact h ▸ mds; exact sub p (by first | k_mem | simp [h]))); (have dD := cell_apart N' (.head _) hcD (.tail _ (.tail _ (.tail _ (.head _)))) nocell_list); (have dH := cell_apart N' (.tail _ (.head _)) hcH (.tail _ (.tail _ (.tail _ (.head _)))) nocell_list); (have dW := cell_apart N' (.tail _ (.tail _ (.head _))) hcW (.tail _ (.tail _ (.tail _ (.head _)))) nocell_list); (have kD : ∀ p ∈ kt, p.1 ≠ cD := fun p hp => cell_apart N' (.head _) hcD (.tail _ (.tail _ (.tail _ (.tail _ hp)))) (kt_nocell hT p hp)); (have kH : ∀ p ∈ kt, p.1 ≠ cH := fun p hp => cell_apart N' (.tail _ (.head _)) hcH (.tail _ (.tail _ (.tail _ (.tail _ hp)))) (kt_nocell hT p hp)); (have kW : ∀ p ∈ kt, p.1 ≠ cW := fun p hp => cell_apart N' (.tail _ (.tail _ (.head _))) hcW (.tail _ (.tail _ (.tail _ (.tail _ hp)))) (kt_nocell hT p hp)); (have d181 := kt_nolist N' hT (fun q hq => .tail _ (.tail _ (.tail _ (.tail _ hq)))) (.tail _ (.tail _ (.tail _ (.head _))))))
  k_with "stored" => ((rename News _ _ _ _ => lN); (rename Fr _ _ _ _ => lF); (refine' storeX_C lF lN (by rfl) (UpdF.head ?hne) hcD ?_); (case hne => (intro p hp; simp only [List.mem_cons] at hp; rcases hp with h | h | h | h; rw [h]; exact hDH.symm; rw [h]; exact hWD; rw [h]; exact dD; exact kD p h)); (clear lF lN); (intro h' oD2 F' N' hcD2))
  k_with "storeh" => ((rename News _ _ _ _ => lN); (rename Fr _ _ _ _ => lF); (refine' storeX_C lF lN (by rfl) (UpdF.tail (cell_apart lN (.tail _ (.tail _ (.tail _ (.head _)))) hcH (.head _) nocell_list) (UpdF.tail (cell_apart lN (.tail _ (.tail _ (.tail _ (.head _)))) hcH (.tail _ (.head _)) nocell_list) (UpdF.tail hDH (UpdF.head ?hne)))) hcH ?_); (case hne => (intro p hp; simp only [List.mem_cons] at hp; rcases hp with h | h | h; rw [h]; exact hWH; rw [h]; exact dH; exact kH p h)); (clear lF lN); (intro h' oH2 F' N' hcH2))
  k_steps
  rename Fr _ _ _ _ => lF
  rename News _ _ _ _ => lN
  rename (_ < _ ∧ _ < _ ∧ _ < _ ∧ _ < _ ∧ AllLt _ kt) => l1
  rename (_ < _ ∧ _ < _ ∧ _ < _ ∧ _ < _ ∧ _ < _ ∧ AllLt _ kt) => l2
  refine hdr (law_A2 (oW := oW) (oD := oD2) (oH := oH2) (dl := dl) (kt := kt) B lF XX TT XB TB hd hu lN hT hWH hWD dW h1W h1H h1D d181 kW l1 l2 hcW hcD2 hcH2 hds hdl ?_ ?_ hc ?_ ret)
  · exact LOk.three ⟨_, by rw [NM_low (by decide)]; rfl⟩ ⟨_, by rw [NM_low (by decide)]; rfl⟩ ⟨_, by rw [NM_low (by decide)]; rfl⟩
  · exact LOk.three (fun h => absurd h (by decide)) (fun h => absurd h (by decide)) (fun h => absurd h (by decide))
  · with_unfolding_all rfl
end
end Mine
end
section
open PySem PySem.W PyProof.Rows PySem.Calls
namespace Mine
theorem ktab_grown {h₀ h : Heap} {L : Addr} {kt news : List (Addr × Obj)} (N : News h₀ L h (kt ++ news)) (hT : KTab kt) : GrownAll [(185, 181)] h := by
  rcases hT with rfl | ⟨c', oc, vs, t, rfl, _, _, _⟩
  · exact ⟨GrownAt.of N (.head _), True.intro⟩
  · exact ⟨GrownAt.of N (.head _), True.intro⟩
theorem law_A1 {w : World} {mean : ExcName → Option Value} {mg mb : Str → Option Value} {dp un : Nat} {gd : Option (List Code)} {cn : Str} {mo : List (Str × Const)} {a : Addr} {ccd : Value} {A₀ : Around} {h₀ : Heap} {L : Addr} {m : Str → Option Value} {s : Shared} {Q : Flow → Shared → Prop}
    {n : Nat} {sA : Addr} {oW oD oH : Obj} {vW vH vD : Option Value} {vs : List Value} {xs : List Int}
    (B : Below A₀ h₀ [] h₀) (F : Fr h₀ L s.heap m) (XX : (Mine.fr2 w.params).In h₀) (TT : Top topProg LL mean mg mb h₀) (hd : dp + 40 < recursionLimit) (hu : un + 300 < cLine)
    (N : News h₀ L s.heap [(n + 1 + 1 + 1, oW), (n + 1 + 1, oH), (n + 1, oD), (181, tabObj #[])]) (h1 : 181 < n)
    (hcW : oW.data = .cell vW) (hcH : oH.data = .cell vH) (hcD : oD.data = .cell vD)
    (hl : h₀.IsList sA vs.toArray) (hI : IntsAre vs xs) (h63 : ¬ (63 : Int) < xs.length)
    (hc : CodeHd h₀ (185, 181).fst (185, 181).snd) (hm : m (Str.ofString "script") = some (.ref sA))
    (ret : ∀ h' tk' m' kt' news', Fr h₀ L h' m' → News h₀ L h' (kt' ++ news') → KTab kt' → Q (.ret (.bool true)) { s with heap := h', toks := tk' }) :
    wpN (model PP w) (ktrTop dp un gd cn (CS (lawN w.params) false false mo) L a ccd (laC (n + 1 + 1 + 1) (n + 1 + 1) (n + 1)) []) (execs ((lawB w.params).drop 0) (envX cn (CS (lawN w.params) false false mo) L a ccd (laC (n + 1 + 1 + 1) (n + 1 + 1) (n + 1)))) Q s := by
  refine law_A0 (kt := [(181, tabObj #[])]) (oW := oW) (oH := oH) (oD := oD) (vW := vW) (vH := vH) (vD := vD) B F XX TT XX TT hd hu (News.perm N ?_) (.inl rfl) (show (n + 1 + 1 + 1 : Nat) ≠ n + 1 + 1 by omega) (show (n + 1 + 1 + 1 : Nat) ≠ n + 1 by omega) (show (n + 1 : Nat) ≠ n + 1 + 1 by omega) (show (n + 1 + 1 + 1 : Nat) ≠ 181 by omega) (show (n + 1 + 1 : Nat) ≠ 181 by omega) (show (n + 1 : Nat) ≠ 181 by omega) hcW hcH hcD hl hI h63 hc hm ret
  (repeat' (first | with_reducible refine sub_app ?_ ?_ | with_reducible refine sub_cons ?_ ?_ | exact sub_nil | (intro _ hz9; k_mem) | k_mem))
end Mine
theorem PySem.Challenge.cw_zo0026_01_holds : PySem.Challenge.rw_zo0026_01.Holds :=
  Mine.hd (by
  k_fill
  intro w s₀ s₁ mg mb G Y fa o pm cd doc dV kV ho hd hcd hD hmg hg args vals as hpre hlay hrd hwl hlo
  have KX := km_in_of Y
  km_tabs Y
  have X := (Ground.X G).1
  have V := (Ground.X G).2
  refine Ground.open G ?_
  intro T B D TE TW
  try (refine guard_noD D (by decide +kernel) ?_; clear D)
  km_lay T hmg ho hd cd
  clear hmg
  wrow_args hpre hlay hrd hwl hlo
  refine Mine.X_call ?_
  have he := Dflts.none hD rfl; subst he; have he := Dflts.noKw hD; subst he
  refine Mine.call_cellsX (by decide) ho (fd_plain hd) (Top.nolimit T) hcd rfl (kinds_of (by kinds_ok)) (by decide) fun h₁ tk₁ cells F N0 X0 => ?_
  cells_open X0
  clear hd
  kn_ghosts F T
  k_drop
  rename Below _ _ _ _ => K9
  rename Fr _ _ _ _ => F9
  rename News _ _ _ _ => N9
  rename (Mine.hd.heap_39 _).In _ => X9
  rename TabsAt _ _ => T8
  rename Top topProg _ _ _ _ _ => T9
  rename CodeHd _ _ _ => C9
  rename IntsAre _ _ => I9
  rename ¬ (63 : Int) < _ => L9
  rename Heap.IsList (ghostOf _ _) _ _ => G9
  have XX9 := Mine.fr2_in X9
  refine Mine.law_A1 (vs := _) (xs := _) K9 F9 XX9 T9 (by decide) (by decide) N9 (by assumption) (by assumption) (by assumption) (by assumption) G9 I9 L9 C9 ?_ ?_
  · with_unfolding_all rfl
  · intro h' tk' m' kt' news' F' N' hK
    refine Mine.post_impl Mine.PP w T8 (fun _ _ => rfl) ⟨goodW_bool (b := true) F' ?_ (fun _ => rfl) ?_, ?_⟩
    · assumption
    · refine postW_of (X := true) ?_ ?_ rfl
      · rfl
      · first | rfl | with_unfolding_all rfl | tm_val | kernel_rfl
    · exact Mine.ktab_grown N' hK)
end
