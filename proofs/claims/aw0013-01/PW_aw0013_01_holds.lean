import PyProof.Rows.All
import Wide.All
import OpenK.AllK
import Wide.FinOn
import PySem.Challenge.RW_aw0013_01
set_option linter.all false
set_option compiler.extract_closed false
set_option genSizeOf false
set_option genInjectivity false
section
open PySem PySem.Calls PyProof.Rows PySem.W PySem.W.X
set_option maxRecDepth 100000
set_option autoImplicit false
set_option Elab.async false
namespace Dom
theorem ex2 {α β : Type} {P : α → β → Prop} {p : Prop} (h : ∃ x0 x1, P x0 x1) (k : ∀ x0 x1, P x0 x1 → p) : p := h.elim fun x h => h.elim (k x)
theorem ex3 {α β γ : Type} {P : α → β → γ → Prop} {p : Prop} (h : ∃ x0 x1 x2, P x0 x1 x2) (k : ∀ x0 x1 x2, P x0 x1 x2 → p) : p := h.elim fun x h => ex2 h (k x)
theorem ex4 {α β γ δ : Type} {P : α → β → γ → δ → Prop} {p : Prop} (h : ∃ x0 x1 x2 x3, P x0 x1 x2 x3) (k : ∀ x0 x1 x2 x3, P x0 x1 x2 x3 → p) : p := h.elim fun x h => ex3 h (k x)
theorem ex5 {α β γ δ ε : Type} {P : α → β → γ → δ → ε → Prop} {p : Prop} (h : ∃ x0 x1 x2 x3 x4, P x0 x1 x2 x3 x4) (k : ∀ x0 x1 x2 x3 x4, P x0 x1 x2 x3 x4 → p) : p := h.elim fun x h => ex4 h (k x)
theorem ex6 {α β γ δ ε ζ : Type} {P : α → β → γ → δ → ε → ζ → Prop} {p : Prop} (h : ∃ x0 x1 x2 x3 x4 x5, P x0 x1 x2 x3 x4 x5) (k : ∀ x0 x1 x2 x3 x4 x5, P x0 x1 x2 x3 x4 x5 → p) : p := h.elim fun x h => ex5 h (k x)
theorem ex7 {α β γ δ ε ζ η : Type} {P : α → β → γ → δ → ε → ζ → η → Prop} {p : Prop} (h : ∃ x0 x1 x2 x3 x4 x5 x6, P x0 x1 x2 x3 x4 x5 x6) (k : ∀ x0 x1 x2 x3 x4 x5 x6, P x0 x1 x2 x3 x4 x5 x6 → p) : p := h.elim fun x h => ex6 h (k x)
theorem ex8 {α β γ δ ε ζ η θ : Type} {P : α → β → γ → δ → ε → ζ → η → θ → Prop} {p : Prop} (h : ∃ x0 x1 x2 x3 x4 x5 x6 x7, P x0 x1 x2 x3 x4 x5 x6 x7) (k : ∀ x0 x1 x2 x3 x4 x5 x6 x7, P x0 x1 x2 x3 x4 x5 x6 x7 → p) : p := h.elim fun x h => ex7 h (k x)
theorem ex9 {α β γ δ ε ζ η θ ι : Type} {P : α → β → γ → δ → ε → ζ → η → θ → ι → Prop} {p : Prop} (h : ∃ x0 x1 x2 x3 x4 x5 x6 x7 x8, P x0 x1 x2 x3 x4 x5 x6 x7 x8) (k : ∀ x0 x1 x2 x3 x4 x5 x6 x7 x8, P x0 x1 x2 x3 x4 x5 x6 x7 x8 → p) : p := h.elim fun x h => ex8 h (k x)
theorem ex10 {α β γ δ ε ζ η θ ι κ : Type} {P : α → β → γ → δ → ε → ζ → η → θ → ι → κ → Prop} {p : Prop} (h : ∃ x0 x1 x2 x3 x4 x5 x6 x7 x8 x9, P x0 x1 x2 x3 x4 x5 x6 x7 x8 x9) (k : ∀ x0 x1 x2 x3 x4 x5 x6 x7 x8 x9, P x0 x1 x2 x3 x4 x5 x6 x7 x8 x9 → p) : p := h.elim fun x h => ex9 h (k x)
theorem ex11 {α β γ δ ε ζ η θ ι κ μ : Type} {P : α → β → γ → δ → ε → ζ → η → θ → ι → κ → μ → Prop} {p : Prop} (h : ∃ x0 x1 x2 x3 x4 x5 x6 x7 x8 x9 x10, P x0 x1 x2 x3 x4 x5 x6 x7 x8 x9 x10) (k : ∀ x0 x1 x2 x3 x4 x5 x6 x7 x8 x9 x10, P x0 x1 x2 x3 x4 x5 x6 x7 x8 x9 x10 → p) : p := h.elim fun x h => ex10 h (k x)
theorem an2 {a0 a1 p : Prop} (h : a0 ∧ a1) (k : a0 → a1 → p) : p := k h.1 h.2
theorem an3 {a0 a1 a2 p : Prop} (h : a0 ∧ a1 ∧ a2) (k : a0 → a1 → a2 → p) : p := k h.1 h.2.1 h.2.2
theorem an4 {a0 a1 a2 a3 p : Prop} (h : a0 ∧ a1 ∧ a2 ∧ a3) (k : a0 → a1 → a2 → a3 → p) : p := k h.1 h.2.1 h.2.2.1 h.2.2.2
theorem an5 {a0 a1 a2 a3 a4 p : Prop} (h : a0 ∧ a1 ∧ a2 ∧ a3 ∧ a4) (k : a0 → a1 → a2 → a3 → a4 → p) : p := k h.1 h.2.1 h.2.2.1 h.2.2.2.1 h.2.2.2.2
theorem an6 {a0 a1 a2 a3 a4 a5 p : Prop} (h : a0 ∧ a1 ∧ a2 ∧ a3 ∧ a4 ∧ a5) (k : a0 → a1 → a2 → a3 → a4 → a5 → p) : p := k h.1 h.2.1 h.2.2.1 h.2.2.2.1 h.2.2.2.2.1 h.2.2.2.2.2
theorem an7 {a0 a1 a2 a3 a4 a5 a6 p : Prop} (h : a0 ∧ a1 ∧ a2 ∧ a3 ∧ a4 ∧ a5 ∧ a6) (k : a0 → a1 → a2 → a3 → a4 → a5 → a6 → p) : p := k h.1 h.2.1 h.2.2.1 h.2.2.2.1 h.2.2.2.2.1 h.2.2.2.2.2.1 h.2.2.2.2.2.2
open Sem (wp)
noncomputable def isFin : Code → Bool
  | .builtin id _ => id == "lifetime.gc.finalise"
  | _ => false
noncomputable def Cln (l : List (Code × Pos)) : Prop := ∀ x ∈ l, isFin x.1 = false
noncomputable def wpG {α : Type} (M : Model) (A : Around) (t : Sem α) (Q : α → Shared → Prop) (E : Value → Shared → Prop) (s : Shared) : Prop :=
  ∀ Γ p, Γ.In A → isFin Γ.code = false → Cln Γ.below → wp M Γ t (fun a _ s' => Q a s') (fun e _ s' => E e s') p s
noncomputable def codeG (M : Model) (A : Around) (c : Code) (R : Result → Shared → Prop) (s : Shared) : Prop :=
  ∀ Γ p, Γ.code = c → Γ.Below A → Cln Γ.below → wpCode M Γ R p s
section
variable {α β : Type} {M : Model} {A : Around} {E : Value → Shared → Prop} {s : Shared} {env : Env}
theorem g_any {t : Sem α} {Q : α → Shared → Prop} (h : wpAny M A t Q E s) : wpG M A t Q E s := fun Γ p hΓ _ _ => h Γ p hΓ
theorem cg_any {c : Code} {R : Result → Shared → Prop} (h : codeAny M A c R s) : codeG M A c R s := fun Γ p hc hΓ _ => h Γ p hc hΓ
theorem g_pure {a : α} {Q : α → Shared → Prop} (h : Q a s) : wpG M A (pure a) Q E s := g_any (wpAny_pure h)
theorem g_mono {t : Sem α} {Q Q' : α → Shared → Prop} {E' : Value → Shared → Prop} (h : wpG M A t Q E s) (hQ : ∀ a s, Q a s → Q' a s) (hE : ∀ e s, E e s → E' e s) : wpG M A t Q' E' s :=
  fun Γ p hΓ h1 h2 => Sem.wp_mono M Γ t (fun a _ s => hQ a s) (fun e _ s => hE e s) p s (h Γ p hΓ h1 h2)
theorem g_bind {m : Sem α} {f : α → Sem β} {Q : β → Shared → Prop} (h : wpG M A m (fun a s' => wpG M A (f a) Q E s') E s) : wpG M A (m >>= f) Q E s := fun Γ p hΓ h1 h2 => by
  rw [Sem.wp_bind']
  exact Sem.wp_mono M Γ m (fun a p' s' h' => h' Γ p' hΓ h1 h2) (fun _ _ _ h' => h') p s (h Γ p hΓ h1 h2)
theorem g_onRaise {m : Sem α} {k : Value → Sem Unit} {Q : α → Shared → Prop} (h : wpG M A m Q (fun e s' => wpAny M A (k e) (fun _ s'' => E e s'') E s') s) : wpG M A (m.onRaise k) Q E s := fun Γ p hΓ h1 h2 => by
  rw [Sem.wp_onRaise]
  exact Sem.wp_mono M Γ m (fun _ _ _ h' => h') (fun e p' s' h' => h' Γ p' hΓ) p s (h Γ p hΓ h1 h2)
theorem g_attempt {m : Sem α} {Q : Except Value α → Shared → Prop} (h : wpG M A m (fun a => Q (.ok a)) (fun e => Q (.error e)) s) : wpG M A m.attempt Q E s := fun Γ p hΓ h1 h2 => by
  rw [Sem.wp_attempt]; exact h Γ p hΓ h1 h2
theorem g_holding {vs : List Value} {m : Sem α} {Q : α → Shared → Prop} (h : wpG M A m Q E s) : wpG M A (holding vs m) Q E s := fun Γ p hΓ h1 h2 => by
  rw [Sem.wp_holding]; exact h Γ p hΓ h1 h2
theorem g_keep {vs : List Value} {m : Sem α} {Q : α → Shared → Prop} (h : wpG M A m Q E s) : wpG M A (m.keep vs) Q E s := fun Γ p hΓ h1 h2 => by
  rw [Sem.wp_keep]; exact h Γ p hΓ h1 h2
theorem g_ite {c : Prop} [Decidable c] {a b : Sem α} {Q : α → Shared → Prop} (h : if c then wpG M A a Q E s else wpG M A b Q E s) : wpG M A (if c then a else b) Q E s := by split <;> simp_all
theorem g_standAt {pos : Pos} {Q : Unit → Shared → Prop} (h : Q () s) : wpG M A (standAt pos) Q E s := g_any (wpAny_standAt h)
theorem g_eq {t : Sem α} {a : α} {Q : α → Shared → Prop} (h : t = pure a) (hQ : Q a s) : wpG M A t Q E s := h ▸ g_pure hQ
theorem g_stack {Q : List (Code × Pos) → Shared → Prop} (h : ∀ st, Cln st → Q st s) : wpG M A stack Q E s := fun Γ p hΓ h1 h2 => by
  show Q ((Γ.code, p) :: Γ.below) s
  exact h _ fun x hx => by
    rcases List.mem_cons.mp hx with rfl | hx
    · exact h1
    · exact h2 x hx
theorem cg_mono {c : Code} {R R' : Result → Shared → Prop} (h : codeG M A c R s) (hR : ∀ r s, R r s → R' r s) : codeG M A c R' s := fun Γ p hc hΓ h2 => wpCode_mono hR (h Γ p hc hΓ h2)
theorem cln_cons {Γ : Ctx} {p : Pos} (h1 : isFin Γ.code = false) (h2 : Cln Γ.below) : Cln ((Γ.code, p) :: Γ.below) := fun x hx => by
  rcases List.mem_cons.mp hx with rfl | hx
  · exact h1
  · exact h2 x hx
theorem g_run {c : Code} {h : Option Value} {Q : Flow → Shared → Prop} (hc : codeG M (A.mark h) c (fun r s' => match r with | .ok f => Q f s' | .error e => E e s') s) (hnb : h ≠ some byPass) : wpG M A (run c h) Q E s :=
  fun Γ p hΓ h1 h2 => by rw [Sem.wp_run]; exact hc _ p rfl (hΓ.enter c h p hnb) (cln_cons h1 h2)
theorem g_runValue {c : Code} {Q : Value → Shared → Prop} (hc : codeG M A c (fun r s' => match r with | .ok (.ret v) => Q v s' | .ok _ => False | .error e => E e s') s) : wpG M A (runValue c) Q E s :=
  fun Γ p hΓ h1 h2 => by rw [Sem.wp_runValue]; exact hc _ p rfl (hΓ.enter c none p (by intro x; cases x)) (cln_cons h1 h2)
theorem g_call {f : Value} {pos : List Value} {kw : List (Str × Value)} {Q : Value → Shared → Prop}
    (hc : codeG M A (.call f ⟨pos, kw⟩) (fun r s' => match r with | .ok (.ret v) => Q v s' | .ok _ => False | .error e => E e s') s) : wpG M A (call f pos kw) Q E s := g_runValue hc
theorem cg_tree {c : Code} {R : Result → Shared → Prop} (hf : isFin c = false)
    (h : wpG M (A.under c) (M.den c) (fun fin s' => match fin with | .done f => R (.ok f) s' | .again c' => c'.quiet = true ∧ codeG M A c' R s') (fun e s' => R (.error e) s') s) : codeG M A c R s := fun Γ p hc hΓ h2 => by
  rw [wpCode_iff_wp, hc]
  refine Sem.wp_mono M Γ _ (fun fin p' s' h' => ?_) (fun _ _ _ h' => h') p s (h Γ p (hc ▸ hΓ.in) (hc ▸ hf) h2)
  cases fin with
  | done f => exact h'
  | again c' => exact ⟨h'.1, h'.2 (Γ.goto c') p' rfl (hΓ.goto c') h2⟩
theorem cg_loop {c : Code} {R : Result → Shared → Prop} (hf : isFin c = false) (hq : c.quiet = true) (I : Nat → Shared → Prop)
    (turn : ∀ n s, I n s → wpG M (A.under c) (M.den c)
      (fun fin s' => match fin with | .done f => R (.ok f) s' | .again c' => (c' = c ∧ ∃ m, m < n ∧ I m s') ∨ (c'.quiet = true ∧ codeG M A c' R s')) (fun e s' => R (.error e) s') s)
    (n : Nat) (h : I n s) : codeG M A c R s := by
  induction n using Nat.strongRecOn generalizing s with
  | ind n ih =>
    refine cg_tree hf (g_mono (turn n s h) (fun fin s' hf => ?_) fun _ _ h' => h')
    cases fin with
    | done f => exact hf
    | again c' =>
      rcases hf with ⟨rfl, m, hm, hI⟩ | hf
      · exact ⟨hq, ih m hm hI⟩
      · exact hf
-- statements
theorem letG {α : Type} {M : Model} {A : Around} {t : Sem α} {Q : α → Shared → Prop} {E : Value → Shared → Prop} {s : Shared} (h : let K := Q; let K' := E; wpG M A t K K' s) : wpG M A t Q E s := h
theorem letG1 {α : Type} {M : Model} {A : Around} {t : Sem α} {Q : α → Shared → Prop} {E : Value → Shared → Prop} {s : Shared} (h : let K := Q; wpG M A t K E s) : wpG M A t Q E s := h
theorem g_cons_ {st : Stmt} {rest : List Stmt} {Q : Flow → Shared → Prop} (h : wpG M A (exec st env) (fun f s' => match f with | .next => wpG M A (execs rest env) Q E s' | f => Q f s') E s) : wpG M A (execs (st :: rest) env) Q E s := by
  rw [execs_cons]
  refine g_bind (g_mono h (fun f s' h' => ?_) fun _ _ h' => h')
  cases f <;> first | exact h' | exact g_pure h'
theorem g_nil_ {Q : Flow → Shared → Prop} (h : Q .next s) : wpG M A (execs [] env) Q E s := g_any (wpAny_execs_nil h)
theorem g_If {test : Expr} {body orelse : List Stmt} {pos : Pos} {Q : Flow → Shared → Prop} (h : wpG M A (isTrue test env (eval test env)) (fun b s₂ => if b then wpG M A (execs body env) Q E s₂ else wpG M A (execs orelse env) Q E s₂) E s) :
    wpG M A (exec (.If test body orelse pos) env) Q E s := by
  rw [exec_If]
  refine g_bind (g_standAt (g_bind (g_mono h (fun b s₂ h₂ => ?_) fun _ _ h' => h')))
  cases b <;> exact h₂
theorem g_runOwn {c : Code} {h : Option Value} {Q : Flow → Shared → Prop} (hc : codeG M (A.mark h) c (fun r s' => match r with | .ok f => Q f s' | .error e => cameBackBy M A env E e s') s) (hnb : h ≠ some byPass) : wpG M A (runOwn c env h) Q E s := by
  unfold runOwn
  exact g_onRaise (g_run hc hnb)
theorem g_While {test : Expr} {body orelse : List Stmt} {pos : Pos} {Q : Flow → Shared → Prop} (h : codeG M A (.whileLoop test body orelse env) (fun r s' => match r with | .ok f => Q f s' | .error e => cameBackBy M A env E e s') s) :
    wpG M A (exec (.While test body orelse pos) env) Q E s := by
  rw [exec_While]; exact g_bind (g_standAt (g_runOwn h (by intro x; cases x)))
theorem g_For {target iter : Expr} {body orelse : List Stmt} {pos : Pos} {Q : Flow → Shared → Prop}
    (h : wpG M A (eval iter env) (fun x s₁ => wpAny M A (pyIter x) (fun it s₂ => codeG M A (.forLoop target it body orelse env) (fun r s' => match r with | .ok f => Q f s' | .error e => cameBackBy M A env E e s') s₂) E s₁) E s)
    (hs : ∀ x, foldedSetIterable iter env x = pure x) : wpG M A (exec (.For target iter body orelse pos) env) Q E s := by
  rw [exec_For]
  exact g_bind (g_standAt (g_bind (g_mono h (fun x s₁ h₁ => g_bind (g_eq (hs x) (g_bind (g_standAt (g_bind (g_holding (g_mono (g_any h₁) (fun it s₂ h₂ => g_runOwn h₂ (by intro x; cases x)) fun _ _ h' => h'))))))) fun _ _ h' => h')))
theorem g_AssignName {x : Str} {pos' pos : Pos} {value : Expr} {Q : Flow → Shared → Prop} (h : wpG M A (eval value env) (fun v s₁ => wpAny M A (storeName env x v) (fun _ => Q .next) E s₁) E s)
    (hs : swapsWith value (some (.Name x pos')) pos.line env = pure false) : wpG M A (exec (.Assign [.Name x pos'] value pos) env) Q E s := by
  rw [exec_Assign_Name env x pos' value pos hs]
  exact fun Γ p hΓ h1 h2 => by
    simp only [Sem.wp_bind', Sem.wp_cmd_standAt, Sem.wp_bindName, Sem.wp_pure']
    exact Sem.wp_mono M Γ _ (fun v _ s₁ h₁ => h₁ Γ _ hΓ) (fun _ _ _ h' => h') _ _ (h Γ _ hΓ h1 h2)
theorem g_try_ok {body : List Stmt} {h₀ : ExceptHandler} {hs : List ExceptHandler} {pos : Pos} {Q : Flow → Shared → Prop} (h : wpG M A (execs body env) Q (fun _ _ => False) s) : wpG M A (exec (.Try body (h₀ :: hs) [] [] pos) env) Q E s := by
  rw [arm_exec_Try]
  refine g_bind (g_standAt ?_)
  unfold tryStmt
  simp only [List.isEmpty_nil, if_true]
  refine g_bind (g_attempt (g_mono h (fun f s' h' => ?_) fun _ _ q => q.elim))
  cases f <;> first | exact g_nil_ h' | exact g_pure h'
-- expressions
theorem g_Subscript {value slice : Expr} {pos : Pos} {Q : Value → Shared → Prop} (h : wpG M A (eval value env) (fun o s₁ => wpAny M A (eval slice env) (fun i s₂ => wpAny M A (subscriptTail value slice o i) Q E s₂) E s₁) E s) :
    wpG M A (eval (.Subscript value slice pos) env) Q E s := by
  rw [eval_Subscript]
  exact g_bind (g_mono h (fun o s₁ h₁ => g_bind (g_holding (g_mono (g_any h₁) (fun i s₂ h₂ => g_bind (g_standAt (g_any h₂))) fun _ _ x => x))) fun _ _ x => x)
theorem g_CallName {id : Str} {p pos : Pos} {args : List Expr} {keywords : List Keyword} {Q : Value → Shared → Prop}
    (h : wpAny M A (eval (.Name id p) env) (fun f s₁ => wpG M A (callWith pos f [] (backTo pos (starEach args env)) (backToKw pos (keywordEach keywords env))) Q E s₁) E s) : wpG M A (eval (.Call (.Name id p) args keywords pos) env) Q E s := by
  rw [arm_eval_Call_Name']
  exact g_bind (g_any h)
theorem g_callWith_bi {pos : Pos} {id : String} {first : List Value} {args : List (Bool × Sem Value)} {Q : Value → Shared → Prop} (hplain : args.any (·.1) = false)
    (h : wpG M A (evalArgs (.builtin id) true args []) (fun a s₁ => wpG M A (call (.builtin id) (first ++ a.pos) a.kw) Q E s₁) E s) : wpG M A (callWith pos (.builtin id) first args []) Q E s := by
  unfold callWith
  refine g_bind (g_holding (g_mono h (fun a s₁ h₁ => g_bind (g_standAt ?_)) fun _ _ x => x))
  simp only [hplain, List.any_nil, Bool.or_false]
  refine g_bind (g_pure ?_)
  exact g_bind (g_mono h₁ (fun r s₂ hr => g_bind (g_holding (g_any (wpAny_point (g_pure hr))))) fun _ _ x => x)
theorem g_callWith_fn {pos : Pos} {a : Addr} {o : Obj} {fd : FuncData} {first : List Value} {args : List (Bool × Sem Value)} {keywords : List (Option Str × Sem Value)} {Q : Value → Shared → Prop}
    (h : wpAny M A (evalArgs (.ref a) true args keywords) (fun x s₁ => (s₁.heap.get? a = some o ∧ o.data = .func fd) ∧ wpG M A (call (.ref a) (first ++ x.pos) x.kw) Q E s₁) E s) :
    wpG M A (callWith pos (.ref a) first args keywords) Q E s := by
  unfold callWith
  refine g_bind (g_holding (g_mono (g_any h) (fun x s₁ h₁ => g_bind (g_standAt ?_)) fun _ _ x => x))
  have tail : ∀ {t : Sem Value}, wpG M A t Q E s₁ → wpG M A (t >>= fun r => holding [r] point >>= fun _ => pure r) Q E s₁ :=
    fun ht => g_bind (g_mono ht (fun r s₂ hr => g_bind (g_holding (g_any (wpAny_point (g_pure hr))))) fun _ _ x => x)
  cases hs : (args.any (·.1) || keywords.any (·.1.isNone)) <;>
    refine g_bind (m := keeperOf (.ref a)) ?_ <;> unfold keeperOf <;>
    refine g_bind (g_any (wpAny_load h₁.1.1 ?_)) <;> rw [h₁.1.2] <;> refine g_pure ?_
  · first
      | refine g_ite ?_
      | skip
    split <;> first
      | exact tail h₁.2
      | exact tail (by unfold callMarked; exact g_keep h₁.2)
  · refine tail ?_
    first
      | exact h₁.2
      | (unfold callMarked; exact g_keep h₁.2)
theorem g_isTrue_cmp {l r : Expr} {op : CmpOp} {pos : Pos} {whole : Sem Value} {Q : Bool → Shared → Prop}
    (h : wpG M A (eval l env) (fun a s₁ => wpAny M A (eval r env) (fun b s₂ => wpAny M A (compareOp op a b) (fun c s₃ => wpAny M A (truthy c) Q E s₃) E s₂) E s₁) E s)
    (hm : behindInMarks op r = false) : wpG M A (isTrue (.Compare l [op] [r] pos) env whole) Q E s := fun Γ p hΓ h1 h2 => by
  simp only [isTrue_Compare1, markedBehindIn_of_false hm, Sem.wp_bind', Sem.wp_holding, Sem.wp_cmd_standAt, Sem.wp_operate]
  exact Sem.wp_mono M Γ _ (fun a p₁ s₁ h₁ => Sem.wp_mono M Γ _ (fun b _ s₂ h₂ => Sem.wp_mono M Γ _ (fun c p₃ s₃ h₃ => h₃ Γ p₃ hΓ)
    (fun _ _ _ h' => h') _ _ (h₂ Γ _ hΓ)) (fun _ _ _ h' => h') _ _ (h₁ Γ p₁ hΓ)) (fun _ _ _ h' => h') _ _ (h Γ p hΓ h1 h2)
end
section
variable {prog : Program} {w : World} {A : Around} {E : Value → Shared → Prop} {s : Shared} {env : Env} {R : Result → Shared → Prop}
theorem g_attr {o : Expr} {name : Str} {pos : Pos} {Q : Value → Shared → Prop} (hbase : attributeBase o name env (eval o env) = eval o env) (h : wpAny (model prog w) A (eval o env) (fun ov s₁ => wpG (model prog w) A (getAttr ov name true) Q E s₁) E s) : wpG (model prog w) A (eval (.Attribute o name pos) env) Q E s := by
  rw [arm_eval_Attribute, hbase]
  refine g_bind (g_mono (g_any h) (fun ov s₁ h₁ => g_bind (g_standAt (g_bind (g_holding (g_mono h₁ (fun r s₂ h₂ => ?_) fun _ _ e => e))))) fun _ _ e => e)
  exact g_bind (g_any (wpAny_letTemporaryGo (g_pure h₂)))
theorem g_noted {α : Type} {m : Sem α} {Q : α → Shared → Prop} {M : Model} (h : wpG M A m Q (notedBy M A env E) s) : wpG M A (m.onRaise fun x => do noteFrame x env; theTreesLotGoes x) Q E s :=
  g_onRaise (g_mono h (fun _ _ q => q) fun _ _ hx => wpAny_bind (wpAny_mono hx (fun _ _ e => wpAny_theTreesLotGoes e) fun _ _ e => e))
theorem cg_block {stmts : List Stmt} (h : wpG (model prog w) A (execs stmts env) (fun f s' => R (.ok f) s') (notedBy (model prog w) A env fun e s' => R (.error e) s') s) : codeG (model prog w) A (.block stmts env) R s := by
  refine cg_tree rfl ?_
  show wpG _ _ (do return Fin.done (← (execs stmts env).onRaise (fun x => do noteFrame x env; theTreesLotGoes x))) _ _ s
  exact g_bind (g_noted (g_mono h (fun f s' h' => g_pure h') fun _ _ h' => h'))
theorem cg_while {test : Expr} {body orelse : List Stmt} (I : Nat → Shared → Prop)
    (turn : ∀ (E' : Value → Shared → Prop) n s, I n s → let K : Flow → Shared → Prop := (fun f s₃ => match f with
            | .next | .cont => ∃ m, m < n ∧ I m s₃
            | .brk => R (.ok .next) s₃
            | .ret v => R (.ok (.ret v)) s₃)
      wpG (model prog w) A (isTrue test env (eval test env)) (fun b s₂ =>
        if b then wpG (model prog w) A (execs body env) K E' s₂
        else wpG (model prog w) A (execs orelse env) (fun f s₃ => R (.ok f) s₃) E' s₂) E' s)
    (n : Nat) (h : I n s) : codeG (model prog w) A (.whileLoop test body orelse env) R s := by
  refine cg_loop rfl rfl I (fun n s hI => ?_) n h
  show wpG _ A ((whileTurn test body orelse env).onRaise (fun x => do noteFrame x env; theTreesLotGoes x)) _ _ s
  refine g_noted ?_
  simp only [whileTurn]
  refine g_bind (g_mono (turn _ n s hI) (fun b s₂ h₂ => ?_) fun _ _ h' => h')
  cases b with
  | false =>
    simp only [Bool.false_eq_true, if_false] at h₂ ⊢
    exact g_bind (g_mono h₂ (fun f s₃ h₃ => g_pure h₃) fun _ _ h' => h')
  | true =>
    simp only [if_true] at h₂ ⊢
    refine g_bind (g_mono h₂ (fun f s₃ h₃ => ?_) fun _ _ h' => h')
    cases f with
    | next => exact g_pure (.inl ⟨rfl, h₃⟩)
    | cont => exact g_pure (.inl ⟨rfl, h₃⟩)
    | brk => exact g_pure h₃
    | ret v => exact g_pure h₃
theorem cg_for {target : Expr} {it : Value} {body orelse : List Stmt} (len : Nat) (J : Nat → Shared → Prop)
    (item : ∀ (E' : Value → Shared → Prop) i s, i < len → J i s → let K : Flow → Shared → Prop := (fun f s₃ => match f with
            | .next | .cont => J (i + 1) s₃
            | .brk => R (.ok .next) s₃
            | .ret v => R (.ok (.ret v)) s₃)
      wpAny (model prog w) A (pyNext it) (fun r s₁ => ∃ v, r = some v ∧
      wpAny (model prog w) A (letOwnedTupleGo target it v) (fun _ s₁' => wpAny (model prog w) A (assign target env v) (fun _ s₂ => wpG (model prog w) A (execs body env) K E' s₂) E' s₁') E' s₁) E' s)
    (done : ∀ (E' : Value → Shared → Prop) s, J len s → wpAny (model prog w) A (pyNext it) (fun r s₁ => r = none ∧ wpG (model prog w) A (execs orelse env) (fun f s₃ => R (.ok f) s₃) E' s₁) E' s)
    (h : J 0 s) : codeG (model prog w) A (.forLoop target it body orelse env) R s := by
  refine cg_loop rfl rfl (fun n s => ∃ i, n = len - i ∧ i ≤ len ∧ J i s) (fun n s hI => ?_) len ⟨0, rfl, Nat.zero_le _, h⟩
  obtain ⟨i, hn, hi, hJ⟩ := hI
  show wpG _ A ((forTurn target it body orelse env).onRaise (fun x => do noteFrame x env; theTreesLotGoes x)) _ _ s
  refine g_noted ?_
  simp only [forTurn]
  refine g_bind (g_standAt (g_bind (g_onRaise ?_)))
  have fin : ∀ s', J (i + 1) s' → i < len → ∃ m, m < n ∧ ∃ i, m = len - i ∧ i ≤ len ∧ J i s' := fun s' hs' hlt => ⟨len - (i + 1), by omega, i + 1, rfl, hlt, hs'⟩
  rcases Nat.lt_or_ge i len with hlt | hge
  · refine g_mono (g_any (item _ i s hlt hJ)) (fun r s₁ h₁ => ?_) fun _ _ h' => wpAny_standAt h'
    obtain ⟨v, rfl, h₁⟩ := h₁
    refine g_bind (g_mono (g_any h₁) (fun _ s₂ h₂ => g_bind (g_mono (g_any h₂) (fun _ s₃ h₃ => g_bind (g_mono h₃ (fun f s₄ h₄ => ?_) fun _ _ h' => h')) fun _ _ h' => h')) fun _ _ h' => h')
    cases f with
    | next => exact g_pure (.inl ⟨rfl, fin _ h₄ hlt⟩)
    | cont => exact g_pure (.inl ⟨rfl, fin _ h₄ hlt⟩)
    | brk => exact g_pure h₄
    | ret v => exact g_pure h₄
  · have : i = len := by omega
    subst this
    refine g_mono (g_any (done _ s hJ)) (fun r s₁ h₁ => ?_) fun _ _ h' => wpAny_standAt h'
    obtain ⟨rfl, h₁⟩ := h₁
    exact g_pure (.inr ⟨rfl, cg_block h₁⟩)
theorem cg_func {body : List Stmt}
    (h : wpG (model prog w) (A.deeper env) (execs body env) (fun f s' => R (.ok (.ret (match f with | .ret v => v | _ => .none))) s')
      (fun e s' => wpAny (model prog w) (A.deeper env) (leaving env e) (fun _ s'' => R (.error e) s'') (fun e' s'' => R (.error e') s'') s') s) : codeG (model prog w) A (.func body env) R s := by
  refine cg_tree rfl ?_
  show wpG _ (A.deeper env) (do point; match ← (execs body env).onRaise (leaving env) with | .ret v => ret v | _ => ret .none) _ _ s
  refine g_bind (g_any (wpAny_point (g_bind (g_onRaise (g_mono h (fun f s' h' => ?_) fun _ _ h' => h')))))
  cases f <;> exact g_pure h'
theorem cg_call_fn {a : Addr} {args : Args} {o : Obj} {fd : FuncData} {body : List Stmt} (hroom : A.depth < recursionLimit) (ho : s.heap.get? a = some o)
    (hd' : o.data = .func fd) (hco : fd.scope.isCoroutine = false) (hgen : fd.scope.isGenerator = false) (hbody : fd.body = .stmts body) (hcd : s.heap.CodeRec fd.code fd.qualname)
    (h : wpAny (model prog w) A.in1 (bindArgs fd args) (fun binds s₁ =>
      wpAny (model prog w) A.in1 (newFunctionEnv fd.scope fd.globals fd.closure binds (fd.qualname ++ ".<locals>.") (some a) fd.code none fd.builtins)
        (fun env s₂ => s₂.heap.NoLimit ∧ codeG (model prog w) A (.func body env) R s₂) (fun e s' => R (.error e) s') s₁) (fun e s' => R (.error e) s') s) :
    codeG (model prog w) A (.call (.ref a) args) R s := by
  refine cg_tree rfl ?_
  show wpG _ A.in1 (callAny (.ref a) args) _ _ s
  simp only [callAny]
  refine g_bind (g_any (wpAny_load ho ?_))
  obtain ⟨c, oc, vs, tq, hc, hoc, hdc, hq⟩ := hcd
  simp only [hd', callFunction, hco, hgen, hbody, hc]
  rw [hc] at h
  refine g_bind (m := field (.ref c) 1) (g_any (wpAny_field hoc hdc hq (g_bind (g_pure ?_))))
  exact g_bind (g_mono (g_any h) (fun binds s₁ h₁ => g_bind (g_mono (g_any h₁) (fun env s₂ h₂ => g_bind (g_any (wpAny_enterFrame h₂.1 hroom
    (g_pure (And.intro rfl h₂.2))))) fun _ _ h' => h')) fun _ _ h' => h')
theorem cg_builtin {id : String} {args : Args} {b : Builtin} (hf : isFin (.builtin id args) = false) (hb : entryFor table id = some b)
    (h : wpG (model prog w) (A.under (.builtin id args)) (b args)
      (fun fin s' => match fin with | .done f => R (.ok f) s' | .again c' => c'.quiet = true ∧ codeG (model prog w) A c' R s') (fun e s' => R (.error e) s') s) :
    codeG (model prog w) A (.builtin id args) R s := by
  refine cg_tree hf ?_
  show wpG _ _ (match entryFor table id with | some b => b args | none => unsupported ((withoutEnding? id "#data").getD id)) _ _ s
  rw [hb]; exact h
theorem cg_call_bi {id : String} {args : Args} {b : Builtin} (hf : isFin (.builtin id args) = false) (hq : plainId id = true) (hb : entryFor table id = some b)
    (h : wpAny (model prog w) A.in1 (checkBuiltinCall id args) (fun _ s₁ => wpG (model prog w) A.in1 (b args)
      (fun fin s' => match fin with | .done f => R (.ok f) s' | .again c' => c'.quiet = true ∧ codeG (model prog w) A c' R s') (fun e s' => R (.error e) s') s₁)
      (fun e s' => R (.error e) s') s) : codeG (model prog w) A (.call (.builtin id) args) R s := by
  refine cg_tree rfl ?_
  show wpG _ A.in1 (do checkBuiltinCall id args; again (.builtin id args)) _ _ s
  refine g_bind (g_mono (g_any h) (fun _ s₁ h₁ => g_pure (And.intro (plainId_quiet hq args) (cg_builtin hf hb ?_))) fun _ _ h' => h')
  rw [Around.under_plainId hq args]; exact h₁
end
end Dom
end
section
open PySem PySem.Calls PyProof.Rows PySem.W
set_option maxRecDepth 100000
set_option autoImplicit false
set_option Elab.async false
namespace Dom
open Sem (wp)
theorem real_ends {prog : Program} {w : World} {t : Sem PySem.Fin} {s : Shared} {R : Result → Shared → Prop} (hreg : s.asleep)
    (h : wpG (model prog w) callerA t (fun fin s' => ∃ f, fin = .done f ∧ (R (.ok f) s' ∧ leftWithCleanup s'.gens = false)) (fun e s' => R (.error e) s' ∧ leftWithCleanup s'.gens = false) s) :
    ∃ n r s' s'', runN (denote table) prog w n s ⟨t, .builtin "claim.caller" {}, default, []⟩ = .halted (outcomeOf r) s' ∧
      schedN (denote table) prog w n (.single s ⟨t, .builtin "claim.caller" {}, default, []⟩) = .halted (outcomeOf r) s' ∧ s'.forget = s''.forget ∧ R r s'' := by
  have hw := h ⟨.builtin "claim.caller" {}, none, none, [], none⟩ default caller_in (by decide) (fun _ hx => nomatch hx)
  have hw' := Sem.wp_mono (model prog w) _ t (post' := Sem.finPost (model prog w) ⟨.builtin "claim.caller" {}, none, none, [], none⟩ fun r s' => R r s' ∧ leftWithCleanup s'.gens = false) (fun fin _ s' hf => by
    obtain ⟨f, rfl, hf⟩ := hf
    exact hf) (fun _ _ _ he => he) default s hw
  obtain ⟨n, r, s₁, s₂, hs, hn, hfo, hR⟩ := wp_halts_full (M := model prog w) (R := R) hreg hw'
  exact ⟨n, r, s₂, s₁, hn, hs, hfo, hR⟩
theorem real_callFrom {c : ClaimW} {tree : List Value → Sem PySem.Fin} {w : World} {s : Shared} {free : Addr → Prop} {gens : Prop} {kept : Heap → Prop} (hz : s.asleep) (hgens : s.gens = #[])
    (spec : ∀ args, c.pre args = true → WData.layableAll args = true → ∀ ord : List DictEntry → List DictEntry, (∀ l, (ord l).Perm l) →
      ∃ vs s₁, layAllW c.records (classAt s.heap) w.params ord args s = some (vs, s₁) ∧
        wpG (model c.prog w) callerA (tree vs) (fun fin s' => ∃ f, fin = .done f ∧ (c.Ends s args vs s₁ (.ok f) s' ∧ s'.os = s.os ∧ AllBare s'.gens ∧ kept s'.heap))
          (fun e s' => c.Ends s args vs s₁ (.error e) s' ∧ s'.os = s.os ∧ AllBare s'.gens ∧ kept s'.heap) s₁) :
    c.CallFrom (fun vs => ⟨tree vs, .builtin "claim.caller" {}, default, []⟩) w free gens kept s := by
  intro args hpre hlay ord hord
  obtain ⟨vs, s₁, hl, hc⟩ := spec args hpre hlay ord hord
  have hal := layAllW_rest _ _ _ hl
  have hzz := Shared.asleep_of_life hal.2.2.2 hz
  refine ex4 (real_ends (prog := c.prog) (w := w) (R := fun r s' => c.Ends s args vs s₁ r s' ∧ s'.os = s.os ∧ kept s'.heap) hzz
    (g_mono hc (fun fin s' ⟨f, e, a1, a2, a3, a4⟩ => ⟨f, e, ⟨a1, a2, a4⟩, leftWithCleanup_false_of_bare a3⟩) fun e s' ⟨a1, a2, a3, a4⟩ => ⟨⟨a1, a2, a4⟩, leftWithCleanup_false_of_bare a3⟩)) fun n r s' s'' hx => ?_
  refine an4 hx fun hrun hsch hfo hx => ?_
  refine an3 hx fun hE hos hk => ?_
  clear hx
  obtain ⟨eh, _, _, eo, _⟩ := Shared.forget_eq hfo
  have hE' := hE.congr eh
  have hk' : kept s'.heap := by rw [eh]; exact hk
  have hl' : s'.heap.life = s.heap.life := (runN_life _ _ _ hrun).trans hal.2.2.2
  have hos' : s'.os = s.os := eo.trans hos
  refine ⟨vs, s₁, hl, n, _, s', hsch, ?_, (fun _ i x hx => by rw [hgens] at hx; simp at hx), hk', by rw [hl'], Shared.rest_eq hos'⟩
  refine Or.imp (fun h => ?_) (fun h => ?_) hE'
  · refine h.elim fun v h => ?_
    refine an6 h fun e d1 d2 d3 d4 d5 => ?_
    subst e
    exact ⟨v, rfl, d1, d2, d3, fun b o y _ => d4 b o y, d5⟩
  · refine ex3 h fun e ob cls h => ?_
    refine an6 h fun q d1 d2 d3 d4 d5 => ?_
    subst q
    exact ⟨e, ob, cls, rfl, d1, d2, d3, d4, fun b o y _ => d5 b o y⟩
noncomputable abbrev WalkG (q : Program) (loose : List Str) (XP : (Str → Option Value) → Heap → Prop) (YP : World → Heap → Prop) (r : RowW) (d : DefRec) (kwd : List (Str × Expr)) : Prop :=
  ∀ (w : World) (s₀ s₁ : Shared) (mg mb : Str → Option Value), Ground q loose r.records XP w s₀ mg mb s₁.heap → YP w s₁.heap → ∀ (a : Addr) (o : Obj) (pm cd doc dV kV : Value), s₁.heap.get? a = some o →
    o.data = .func { docDef d.name d.params d.body d.scope pm cd doc with defaults := dV, kwdefaults := kV } → s₁.heap.CodeRec cd d.name → Dflts mg s₁.heap d.params kwd dV kV → mg d.name = some (.ref a) → s₁.gens = #[] →
    ∀ (args : List WData) (vals : List Value) (as : List Addr), r.claim.pre args = true → WData.layableAll args = true → ReadsAllW r.records (classAt s₀.heap) s₁.heap vals args as → WellAll w.params s₁.heap vals args → (∀ a ∈ as, (a == sysModules) = false) →
      wpG (model r.prog w) callerA (PySem.call (.ref a) vals) (fun v s' => GoodWG r.claim (classAt s₀.heap) (ExcName.means s₀.heap) args s₁ (.ok (.ret v)) s')
        (fun e s' => GoodWG r.claim (classAt s₀.heap) (ExcName.means s₀.heap) args s₁ (.error e) s') s₁
theorem PySem.W.holdsOpen {r : OpenRow} {q : Program} {loose : List Str} {Xt : Shared → Bool} {XP : (Str → Option Value) → Heap → Prop} {α : Type} {Yf : Shared → α} {Ya : World → α} {YP : World → Heap → Prop} {d : DefRec} {kwd : List (Str × Expr)} {N : Nat}
    (left : LeftO r.prog q loose Xt Yf Ya N) (hY : ∀ w s, Yf s = Ya w → YP w s.heap) (hYk : ∀ w h h', YP w h → (∀ b o, h.get? b = some o → h'.get? b = some o) → YP w h')
    (hX : ∀ s, Xt s = true → XP (s.heap.nsMap mainGlobals) s.heap) (hXk : ∀ mg h h', XP mg h → (∀ b o, h.get? b = some o → h'.get? b = some o) → XP mg h')
    (hdef : defOf q r.name = some (d, kwd)) (hp : r.prog.theDef r.name = some (d.params, d.body, d.scope)) (hk : kwWritten? d.params.kwonlyargs d.params.kw_defaults = some kwd) (hRf : ∀ s, Xt s = true → RecFacts r.records s.heap) (hwr : (!r.writes || r.records.isEmpty) = true)
    (k1 : r.wellSaid = true) (ok : (chainsOk q && opensWell r.prog && (frees r.toRowW && r.within.isEmpty)) = true) (hb : r.prog.bare) (hw : r.toRowW.promised)
    (call : WalkG q loose XP YP r.toRowW d kwd) : r.Holds := by
  refine ⟨k1, hw, ?_⟩
  obtain ⟨ok, k5⟩ := Bool.and_eq_true_iff.mp ok
  obtain ⟨hch, o1⟩ := Bool.and_eq_true_iff.mp ok
  obtain ⟨k5, k6⟩ := Bool.and_eq_true_iff.mp k5
  obtain ⟨hsame, hu, ha, hap, hm⟩ := frees_parts k5
  refine ⟨⟨hb, o1, by show r.toRowW.makers.map _ = []; rw [hm]; rfl⟩, hw.witness, fun w => ⟨(left.behind hX hch w).1, fun s' hs' => ?_⟩⟩
  refine Exists.elim ((left.behind (XP := fun mg h => XP mg h ∧ RecFacts r.records h) (fun s hs => ⟨hX s hs, hRf s hs⟩) hch w).2 s' hs') fun s₀ hx => ?_
  refine an3 hx fun hf hg0 hx => ?_
  refine hx.elim fun s hx => ?_
  refine an6 hx fun hT hz hgens hg G00 y => ?_
  clear hx
  have G0 : Ground q loose [] XP w s (s.heap.nsMap mainGlobals) (s.heap.nsMap builtinsNs) s.heap := ⟨G00.T, G00.B, G00.D, G00.TE, G00.TD, G00.W, G00.X.1, G00.cls, G00.has, G00.apart, G00.once, G00.K⟩
  have RF := G00.X.2
  refine ⟨s₀, hf, hg0, s, hT, fun n hn => ?_, RF.1, RF.2.1, ?_⟩
  · obtain rfl : n = r.name := by split at hn <;> simp_all
    exact pinned_of_view hg G0 hdef hp hk
  have hgens : s.gens = #[] := Array.eq_empty_of_size_eq_zero (beq_iff_eq.mp hgens)
  have G : Ground q loose r.records XP w s _ _ s.heap := RF.ground G0
  refine real_callFrom (c := r.toRowW.claim) hz hgens fun args hpre hlay ord hord => ?_
  obtain ⟨⟨vs, s₁⟩, hlaid⟩ := Option.isSome_iff_exists.mp (layAllW_isSome (P := w.params) (ord := ord) G.has args r.args s (pre_splitW hpre).1)
  have keeps := layAllW_keeps _ _ _ hlaid
  have hal := layAllW_rest _ _ _ hlaid
  obtain ⟨as, hrd, hin, hold⟩ := reads_layAllW hord _ _ _ hlaid hlay s₁.heap (fun _ _ e => e)
  have L : Laid r.toRowW.records w s s₁ args vs as := ⟨⟨ord, hord, hlaid⟩, hrd, hin, hold, keeps, hal.1.trans hgens, hal.2.2.1⟩
  have G₁ := G.keeps hXk keeps
  obtain ⟨a, o, pm, cd, doc, dV, kV, h1, h2, h3, h4, h5⟩ := G₁.fn hdef
  have hc := call w s s₁ _ _ G₁ (hYk _ _ _ (hY w s y) keeps) a o pm cd doc dV kV h2 h3 h4 h5 (defOf_name hdef ▸ h1) L.gens args vs as hpre hlay L.reads L.well (L.low G.low)
  have hi := ident_freeW hu ha hap
  have hwi : r.toRowW.claim.within = [] := List.isEmpty_iff.mp k6
  refine ⟨vs, s₁, hlaid, ?_⟩
  refine g_bind (g_any (wpAny_nsGet G₁.T.g ?_))
  rw [h1]
  refine g_bind (g_mono hc (fun v s' g => g_pure ⟨_, rfl, ?_⟩) fun e s' g => ?_)
  · have z := g.laid (c := r.toRowW.claim) hsame hwi hi L
    exact ⟨z.1, z.2.1, z.2.2, fun q => ⟨namesKept_of hT hg _ keeps g.2.1.old, noTable hwr q⟩⟩
  · have z := g.laid (c := r.toRowW.claim) hsame hwi hi L
    exact ⟨z.1, z.2.1, z.2.2, fun q => ⟨namesKept_of hT hg _ keeps g.2.1.old, noTable hwr q⟩⟩
end Dom
end
section
open PySem PySem.W PyProof.Rows
set_option Elab.async false
set_option maxRecDepth 100000
set_option autoImplicit false
namespace Dom
noncomputable def layT : List Obj → BT → Nat → Option (BT × Nat)
  | [], t, n => some (t, n)
  | o :: l, t, n => match ((t.ins n o).get n).isSome with
    | true => layT l (t.ins n o) (n + 1)
    | false => none
theorem layT_of {life : Life} : ∀ {l : List Obj} {t t' : BT} {n n' : Nat}, layT l t n = some (t', n') → (absHeap t' n' life).objs.toList = (absHeap t n life).objs.toList ++ l
  | [], _, _, _, _, e => by cases e; simp
  | o :: l, t, t', n, n', e => by
    unfold layT at e
    cases q : ((t.ins n o).get n).isSome with
    | false => rw [q] at e; cases e
    | true =>
      rw [q] at e
      rw [layT_of (life := life) e, absHeap_ins q]
      simp [Heap.push]
theorem through_end (t : Thread) : through t = (endAt 0 t).isSome := by
  obtain ⟨cur, code, pos, stack⟩ := t
  unfold through endAt
  cases stack with
  | cons _ _ => rfl
  | nil =>
    cases cur with
    | pure g => cases g <;> rfl
    | _ => rfl
theorem top_of_seg {tb : String → Option Builtin} {p : Program} {w : World} {n₀ : Nat} {ann : Option Value} : ∀ {n : Nat} {s s' : Shared} {t : Thread} {f : Flow} {c : Code} {q : Pos}, segRun tb p w n₀ ann 0 n s t = some (f, s', c, q) → topRun tb p w n₀ ann n s t = some s'
  | 0, _, _, _, _, _, _, h => by cases h
  | n + 1, s, s', t, f, c, q, h => by
    unfold segRun at h
    unfold topRun
    rw [through_end]
    cases he : endAt 0 t with
    | some x =>
      rw [he] at h
      cases h
      rfl
    | none =>
      rw [he] at h
      dsimp only [Option.isSome]
      cases hk : stepOk n₀ ann t with
      | false => rw [hk] at h; cases h
      | true =>
        rw [hk] at h
        cases hs : step (denote tb) p w s t with
        | halt o s₂ => rw [hs] at h; cases h
        | go s₂ t₂ => rw [hs] at h; exact top_of_seg h
noncomputable def bootG (tb : String → Option Builtin) (imp : (String → Option Builtin) → Program → World → Nat → SharedT → Thread → Option (SharedT × Thread))
    (seg : (String → Option Builtin) → Program → World → Nat → Option Value → Nat → Nat → SharedT → Thread → Option (Flow × SharedT × Code × Pos))
    (st : Program → Shared × Thread) (ax : Thread → Option (List Value)) (fen : Program → Shared → Option Shared) (p : Program) (k n : Nat) (w : World) : Option (Shared × SharedT) :=
  match imp tb (opening p) w k ⟨.nil, 0, {}, #[], {}, 1, (st (opening p)).1.os⟩ (st (opening p)).2 with
  | some (s, t) => match ax t with
    | some [] => match fen p s.abs with
      | some s₀ => match layT s₀.heap.objs.toList .nil 0 with
        | some (T, m) => match seg tb p w s₀.heap.objs.size (s₀.heap.nsMap mainGlobals "__annotations__") 0 n ⟨T, m, s₀.heap.life, s₀.gens, s₀.drawn, s₀.toks, s₀.os⟩ (topStub p) with
          | some (_, s₁, _, _) => some (s₀, s₁)
          | none => none
        | none => none
      | none => none
    | _ => none
  | none => none
theorem bootG_of {p : Program} {k n : Nat} {w : World} {s₀ : Shared} {s₁ : SharedT} (h : bootG treeTable impGoT segRunT start Thread.atExitBegin fenceModules? p k n w = some (s₀, s₁)) :
    fencedOpening treeTable p w (k + 1) = some s₀ ∧ topRun treeTable p w s₀.heap.objs.size (s₀.heap.nsMap mainGlobals "__annotations__") n s₀ (topStub p) = some s₁.abs := by
  unfold bootG at h
  split at h
  · rename_i s t hi
    split at h
    · rename_i ha
      split at h
      · rename_i s₂ hf
        split at h
        · rename_i T m hl
          split at h
          · rename_i f s₃ c q hs
            cases h
            have i1 := imp_go (N := 1) (impGo_of hi) (r := s.abs) (by unfold importEnds; rw [ha])
            refine ⟨?_, ?_⟩
            · unfold fencedOpening
              rw [show (start (opening p)).1 = SharedT.abs ⟨.nil, 0, {}, #[], {}, 1, (start (opening p)).1.os⟩ from by simp [start, SharedT.abs, absHeap, BT.list], i1]
              exact hf
            · have e := layT_of (life := s₀.heap.life) hl
              have z : SharedT.abs ⟨T, m, s₀.heap.life, s₀.gens, s₀.drawn, s₀.toks, s₀.os⟩ = s₀ := by
                obtain ⟨⟨⟨os⟩, life⟩, g, d, k', o⟩ := s₀
                simp only [SharedT.abs, Shared.mk.injEq, and_true]
                have e' : (absHeap T m life).objs.toList = os := by
                  rw [e]; rfl
                show absHeap T m life = ⟨⟨os⟩, life⟩
                unfold absHeap at e' ⊢
                rw [show (BT.list T m).toArray = ⟨os⟩ from congrArg Array.mk e']
              have := segRun_of hs
              rw [z] at this
              exact top_of_seg this
          · cases h
        · cases h
      · cases h
    · cases h
  · cases h
theorem leftO_of {p q : Program} {loose : List Str} {Xt : Shared → Bool} {α : Type} {Yf : Shared → α} {Ya : World → α} {k n N : Nat} (hk : Nat.ble (k + 1) N = true) (hn : Nat.ble n N = true)
    (h : ∀ w, (bootG treeTable impGoT segRunT start Thread.atExitBegin fenceModules? p k n w).map (fun r => (r.1.heap.isNs mainGlobals && r.1.gens.size == 0,
        staticsOk (importedModules p.main.body) r.1.heap r.2.abs.heap && namesBound p r.2.abs.heap && gensDone r.2.abs && laidKept r.1.heap r.2.abs.heap,
        openSeen q loose (importedModules p.main.body) Xt true r.2.abs, Yf r.2.abs)) = some (true, true, openGood q loose, Ya w)) : LeftO p q loose Xt Yf Ya N := fun w => by
  obtain ⟨⟨s₀, s₁⟩, e, e'⟩ := Option.map_eq_some_iff.mp (h w)
  obtain ⟨l1, l2, l3, l4⟩ : _ ∧ _ ∧ _ ∧ _ := by simpa only [Prod.mk.injEq] using e'
  obtain ⟨a, r⟩ := bootG_of e
  have r := topRun_mono (N - n) _ _ _ _ r
  rw [show n + (N - n) = N by have := Nat.le_of_ble_eq_true hn; omega] at r
  have a' : fencedOpening treeTable p w N = some s₀ := by
    unfold fencedOpening at a ⊢
    obtain ⟨s, b1, b2⟩ := Option.bind_eq_some_iff.mp a
    have b1 := importEnds_mono (N - (k + 1)) _ _ _ _ b1
    rw [show k + 1 + (N - (k + 1)) = N by have := Nat.le_of_ble_eq_true hk; omega] at b1
    rw [b1]
    exact b2
  have t : topFrom treeTable p w N s₀ = some s₁.abs := by
    unfold topFrom
    rw [l1, r]
    show (match staticsOk (importedModules p.main.body) s₀.heap s₁.abs.heap && namesBound p s₁.abs.heap && gensDone s₁.abs && laidKept s₀.heap s₁.abs.heap with | true => _ | false => _) = _
    rw [l2]
  unfold openEnds
  rw [a']
  show (topFrom treeTable p w N _).map _ = _
  rw [t]
  exact congrArg some (Prod.ext l3 l4)
noncomputable def needA : List Addr := mainGlobals :: [2, 40, 41, 47, 48, 49, 50, 56, 57, 66, 67, 79, 80, 86, 87, 91, 92, 249, 271, 277, 278, 287, 288, 306, 307, 313, 314, 320, 321, 327, 328, 334, 335, 341, 342, 373, 374, 380, 381, 578, 579, 580, 595, 601, 602, 628, 629, 630, 631, 638, 639, 666, 667, 708, 709, 786, 787, 802, 803, 809, 810, 816, 817, 821, 822]
noncomputable def nd (a : Addr) : Bool := needA.contains a
noncomputable def KS (K : Params → Frag) (P : Params) : Frag := needA.filterMap fun a => ((K P).lookup a).map (a, ·)
theorem lookup_pick {f : Addr → Option Obj} {a : Addr} {o : Obj} (h : f a = some o) : ∀ {as : List Addr}, as.contains a = true → (as.filterMap fun a => (f a).map (a, ·)).lookup a = some o
  | [], n => by simp at n
  | b :: r, n => by
    rw [List.filterMap_cons]
    by_cases e : a = b
    · subst e
      rw [h]
      simp
    · have n' : r.contains a = true := by
        rw [List.contains_cons] at n
        simpa [e] using n
      cases q : f b with
      | none => exact lookup_pick h n'
      | some x =>
        show ((b, x) :: _).lookup a = _
        rw [List.lookup_cons, show (a == b) = false by simp [e]]
        exact lookup_pick h n'
theorem ks_look {K : Params → Frag} {P : Params} {a : Addr} {o : Obj} (h : (K P).lookup a = some o) (n : nd a = true) : (KS K P).lookup a = some o := lookup_pick h n
noncomputable abbrev p0 : Program := PySem.Challenge.pw_aw0013_01
noncomputable abbrev qv : Program := view p0 [27]
noncomputable def looseN : List Str := ["reduce", "_wall", "dfs_postorder_nodes", "dfs_labeled_edges", "NetworkXException", "NetworkXError", "immediate_dominators", "dominance_frontiers", "NodeView", "OutEdgeView", "EdgeView", "_NOT_FOUND", "cached_property", "Graph", "DiGraph", "_law_seed", "_law_next", "_law_reached", "_law_strict"]
noncomputable def bootW (w : World) : Option (Shared × SharedT) := bootG PySem.W.Fast.tw14364793385576792824 PySem.W.Fast.tw14789777615569096658 PySem.W.Fast.tw10110043849684766642 PySem.W.Fast.tw1435165496053646825 PySem.W.Fast.tw3805553451399329143 fenceModules? p0 823 8000 w
theorem boot1 (w : World) : (bootW w).map (fun r =>
      (r.1.heap.isNs mainGlobals && r.1.gens.size == 0, staticsOk (importedModules p0.main.body) r.1.heap r.2.abs.heap && namesBound p0 r.2.abs.heap && gensDone r.2.abs && laidKept r.1.heap r.2.abs.heap,
        PySem.W.Fast.tw4187177175401517315 qv looseN (importedModules p0.main.body) (fun _ => true) true r.2.abs)) = some (true, true, openGood qv looseN) := by kernel_rfl
theorem map_two {α β γ δ ε : Type} {o : Option α} {f : α → β} {g : α → γ} {h : α → δ} {k : α → ε} {b : β} {c : γ} {d : δ} {e : ε} (h1 : o.map (fun r => (f r, g r, h r)) = some (b, c, d)) (h2 : o.map k = some e) : o.map (fun r => (f r, g r, h r, k r)) = some (b, c, d, e) := by
  cases o with
  | none => cases h1
  | some r =>
    have e1 := Option.some.inj h1
    have e2 := Option.some.inj h2
    exact congrArg some (Prod.ext (congrArg (·.1) e1) (Prod.ext (congrArg (·.2.1) e1) (Prod.ext (congrArg (·.2.2) e1) e2)))
theorem boot_of {α : Type} {Yf : Shared → α} {Ya : World → α} (h : ∀ w, (bootW w).map (fun r => Yf r.2.abs) = some (Ya w)) : LeftO p0 qv looseN (fun _ => true) Yf Ya 8000 := by
  refine leftO_of (k := 823) (n := 8000) (by rfl) (by rfl) fun w => ?_
  rw [PySem.W.Fast.te14364793385576792824, PySem.W.Fast.te14789777615569096658, PySem.W.Fast.te10110043849684766642, PySem.W.Fast.te1435165496053646825, PySem.W.Fast.te3805553451399329143, PySem.W.Fast.te4187177175401517315]
  exact map_two (boot1 w) (h w)
theorem said1 : sreFenced p0.main = true := by kernel_rfl
theorem said2 : ((moduleNames p0.main.body).isEmpty || lookedIntoSs (moduleNames p0.main.body) p0.main.body) = true := by kernel_rfl
theorem said3 : namesResolve p0 = true := by kernel_rfl
theorem said4 : p0.boundNames.all (fun n => !worldNames.contains n) = true := by kernel_rfl
theorem said5 : noRoadLSs { strict := !(importedModules p0.main.body).all cThrough.contains, foot := none, bare := (["vars", "dir", "locals"] : List Str).filter (readsOut p0 p0.main.body) } p0.main.body = true := by kernel_rfl
theorem said6 : (namesMeet p0 p0.main.body fun _ n => attrL n) = true := by kernel_rfl
theorem said7 : looksOpen p0 = true := by
  unfold looksOpen
  rw [said1, said2, said3, said4, said5, said6]
  rfl
theorem wsaid : PySem.Challenge.rw_aw0013_01.wellSaid = true := by
  unfold OpenLaw.wellSaid OpenRow.wellSaid OpenRow.partSaid
  rw [show looksOpen PySem.Challenge.rw_aw0013_01.row.prog = true from said7]
  kernel_rfl
theorem open_h {H : Hook} {d : DefRec} {kwd : List (Str × Expr)} (left : LeftO p0 qv looseN (fun _ => true) H.obs H.val 8000) (hdef : defOf qv PySem.Challenge.rw_aw0013_01.row.name = some (d, kwd))
    (hp : PySem.Challenge.rw_aw0013_01.row.prog.theDef PySem.Challenge.rw_aw0013_01.row.name = some (d.params, d.body, d.scope)) (hk : kwWritten? d.params.kwonlyargs d.params.kw_defaults = some kwd)
    (hw : PySem.Challenge.rw_aw0013_01.row.toRowW.promised) (hc : WalkG qv looseN (fun _ _ => True) H.says PySem.Challenge.rw_aw0013_01.row.toRowW d kwd) : PySem.Challenge.rw_aw0013_01.row.Holds :=
  PySem.W.holdsOpen (q := qv) (loose := looseN) (Xt := fun _ => true) (XP := fun _ _ => True) (Yf := H.obs) (Ya := H.val) (YP := H.says) (N := 8000) left (Hook.of H) (Hook.keeps H) (fun _ _ => trivial) (fun _ _ _ _ _ => trivial) hdef hp hk (fun _ _ => recFacts_of (by rfl)) (by rfl) (row_said wsaid)
    (by decide +kernel) ⟨rfl, rfl, rfl, rfl, rfl, by decide +kernel⟩ hw hc
end Dom
end
section
open PySem PySem.W PyProof.Rows
set_option Elab.async false
set_option maxRecDepth 100000
set_option maxHeartbeats 0
namespace Dom
local macro_rules
  | `(tactic| o_law) => `(tactic| refine holds_law wsaid fun _ => ?_)
local macro_rules
  | `(tactic| o_head ($h $k $_ $_ $_)) => `(tactic| refine open_h (H := $h (KS $k) needA (fun _ => by kernel_rfl) [43, 84]) (boot_of fun _ => by kernel_rfl) (by rfl) (by rfl) (by rfl) ?hw ?hc)
open_top hd for PySem.Challenge.rw_aw0013_01
end Dom
end
section
open PySem PySem.Calls PyProof.Rows PySem.W
set_option maxRecDepth 100000
set_option autoImplicit false
namespace Dom

noncomputable abbrev Ent := Addr × (Obj → Prop)

structure Cfg where
  Z : Addr → Option Obj
  gens : Array GenState
  drawn : Drawn
  os : OsState
  low : ∃ b, 1 < b ∧ (Z b).isSome = true

structure St (c : Cfg) (S : List Ent) (s : Shared) : Prop where
  keep : ∀ b o, c.Z b = some o → s.heap.get? b = some o
  own : ∀ p ∈ S, c.Z p.1 = none ∧ ∃ o, s.heap.get? p.1 = some o ∧ p.2 o
  nd : (S.map (·.1)).Nodup
  one : ∀ p ∈ S, p.1 ≠ sysModules
  gens : s.gens = c.gens
  drawn : s.drawn = c.drawn
  os : s.os = c.os

section
variable {c : Cfg} {S S' F : List Ent} {s : Shared} {a : Addr} {P P' : Obj → Prop}

theorem St.get (h : St c S s) (hm : (a, P) ∈ S) : ∃ o, s.heap.get? a = some o ∧ P o := (h.own _ hm).2

theorem St.tok (h : St c S s) (t : Nat) : St c S { s with toks := t } := ⟨h.keep, h.own, h.nd, h.one, h.gens, h.drawn, h.os⟩

inductive Upd : List Ent → Addr → (Obj → Prop) → List Ent → Prop
  | head {a : Addr} {P P' : Obj → Prop} {S : List Ent} : Upd ((a, P) :: S) a P' ((a, P') :: S)
  | tail {e : Ent} {a : Addr} {P' : Obj → Prop} {S S' : List Ent} : Upd S a P' S' → Upd (e :: S) a P' (e :: S')

theorem Upd.keys (u : Upd S a P' S') : S'.map (·.1) = S.map (·.1) := by
  induction u with
  | head => rfl
  | tail _ ih => simp only [List.map_cons, ih]
theorem Upd.key (u : Upd S a P' S') : a ∈ S.map (·.1) := by
  induction u with
  | head => exact .head _
  | tail _ ih => exact .tail _ ih
theorem Upd.cases (u : Upd S a P' S') : (S.map (·.1)).Nodup → ∀ p ∈ S', p = (a, P') ∨ (p ∈ S ∧ p.1 ≠ a) := by
  induction u with
  | head =>
    intro nd p hp
    rw [List.map_cons, List.nodup_cons] at nd
    rcases List.mem_cons.mp hp with rfl | hp
    · exact .inl rfl
    · exact .inr ⟨.tail _ hp, fun e => nd.1 (List.mem_map.mpr ⟨p, hp, e⟩)⟩
  | tail u ih =>
    intro nd p hp
    rw [List.map_cons, List.nodup_cons] at nd
    rcases List.mem_cons.mp hp with rfl | hp
    · exact .inr ⟨.head _, fun e => nd.1 (e ▸ u.key)⟩
    · exact (ih nd.2 p hp).imp id fun x => ⟨.tail _ x.1, x.2⟩

theorem St.set (h : St c S s) (u : Upd S a P' S') {h' : Heap} {t : Nat} (hs : Heap.SameBut a s.heap h') (ho : ∃ o, h'.get? a = some o ∧ P' o) :
    St c S' { s with heap := h', toks := t } where
  keep b o e := by
    obtain ⟨p, hp, rfl⟩ := List.mem_map.mp u.key
    have : b ≠ p.1 := fun q => by rw [q, (h.own p hp).1] at e; cases e
    exact (hs.2 b this).trans (h.keep b o e)
  own p hp := by
    rcases u.cases h.nd p hp with rfl | ⟨hp, hne⟩
    · obtain ⟨p, hp', rfl⟩ := List.mem_map.mp u.key
      exact ⟨(h.own p hp').1, ho⟩
    · obtain ⟨z, o, e, q⟩ := h.own p hp
      exact ⟨z, o, (hs.2 _ hne).trans e, q⟩
  nd := by rw [u.keys]; exact h.nd
  one p hp := by
    have : p.1 ∈ S'.map (·.1) := List.mem_map_of_mem hp
    rw [u.keys] at this
    obtain ⟨q, hq, e⟩ := List.mem_map.mp this
    exact e ▸ h.one q hq
  gens := h.gens
  drawn := h.drawn
  os := h.os

theorem get_size {h : Heap} : h.get? h.objs.size = none := by
  cases q : h.get? h.objs.size with
  | none => rfl
  | some o => exact absurd (Heap.lt_size q) (Nat.lt_irrefl _)
theorem get_ge {h : Heap} {a : Addr} (ha : h.objs.size ≤ a) : h.get? a = none := by
  cases q : h.get? a with
  | none => rfl
  | some o => exact absurd (Heap.lt_size q) (Nat.not_lt.mpr ha)

theorem St.size (h : St c S s) : 1 < s.heap.objs.size := by
  obtain ⟨b, h1, h2⟩ := c.low
  obtain ⟨o, e⟩ := Option.isSome_iff_exists.mp h2
  exact Nat.lt_trans h1 (Heap.lt_size (h.keep b o e))
theorem St.new (h : St c S s) {h' : Heap} {t : Nat} (hk : ∀ b o, s.heap.get? b = some o → h'.get? b = some o) (hle : s.heap.objs.size ≤ a) (ho : ∃ o, h'.get? a = some o ∧ P o) :
    St c ((a, P) :: S) { s with heap := h', toks := t } where
  keep b o e := hk b o (h.keep b o e)
  own p hp := by
    have ha := get_ge hle
    rcases List.mem_cons.mp hp with rfl | hp
    · refine ⟨?_, ho⟩
      cases q : c.Z a with
      | none => rfl
      | some o => rw [h.keep a o q] at ha; cases ha
    · obtain ⟨z, o, e, q⟩ := h.own p hp
      exact ⟨z, o, hk _ _ e, q⟩
  nd := by
    have ha := get_ge hle
    rw [List.map_cons, List.nodup_cons]
    refine ⟨fun hm => ?_, h.nd⟩
    obtain ⟨p, hp, e⟩ := List.mem_map.mp hm
    obtain ⟨_, o, q, _⟩ := h.own p hp
    rw [e] at q
    exact absurd (q.symm.trans ha) (by simp)
  one p hp := by
    rcases List.mem_cons.mp hp with rfl | hp
    · intro e
      have e : a = 1 := e
      rw [e] at hle
      exact absurd hle (Nat.not_le.mpr h.size)
    · exact h.one p hp
  gens := h.gens
  drawn := h.drawn
  os := h.os

theorem St.push (h : St c S s) {t : Nat} (o : Obj) (hf : o.isFreed = false) (hp : P o) : St c ((s.heap.objs.size, P) :: S) { s with heap := s.heap.push o, toks := t } :=
  h.new (fun _ _ e => Heap.get?_push_of_some _ e) (Nat.le_refl _) ⟨o, Heap.get?_push_size _ hf, hp⟩

theorem St.more (h : St c S s) {h' : Heap} {t : Nat} (hk : ∀ b o, s.heap.get? b = some o → h'.get? b = some o) : St c S { s with heap := h', toks := t } where
  keep b o e := hk b o (h.keep b o e)
  own p hp := let ⟨z, o, e, q⟩ := h.own p hp; ⟨z, o, hk _ _ e, q⟩
  nd := h.nd
  one := h.one
  gens := h.gens
  drawn := h.drawn
  os := h.os

inductive Take : List Ent → Ent → List Ent → Prop
  | head {e : Ent} {S : List Ent} : Take (e :: S) e S
  | tail {x e : Ent} {S F : List Ent} : Take S e F → Take (x :: S) e (x :: F)
theorem Take.mem {e : Ent} (t : Take S e F) : e ∈ S ∧ ∀ p ∈ F, p ∈ S := by
  induction t with
  | head => exact ⟨.head _, fun p hp => .tail _ hp⟩
  | tail _ ih => exact ⟨.tail _ ih.1, fun p hp => (List.mem_cons.mp hp).elim (fun e => e ▸ .head _) fun hp => .tail _ (ih.2 p hp)⟩
theorem Take.perm {e : Ent} (t : Take S e F) : S.Perm (e :: F) := by
  induction t with
  | head => exact .refl _
  | tail _ ih => exact (ih.cons _).trans (.swap ..)

inductive Sub : List Ent → List Ent → Prop
  | nil {S : List Ent} : Sub S []
  | refl {S : List Ent} : Sub S S
  | drop {e : Ent} {S S' : List Ent} : Sub S S' → Sub (e :: S) S'
  | cons {S F S' : List Ent} {a : Addr} {P P' : Obj → Prop} : Take S (a, P) F → (∀ o, P o → P' o) → Sub F S' → Sub S ((a, P') :: S')

theorem St.perm (h : St c S s) (p : S.Perm S') : St c S' s :=
  ⟨h.keep, fun q hq => h.own q (p.mem_iff.mpr hq), (p.map _).nodup_iff.mp h.nd, fun q hq => h.one q (p.mem_iff.mpr hq), h.gens, h.drawn, h.os⟩
theorem St.tailOf {e : Ent} (h : St c (e :: S) s) : St c S s :=
  ⟨h.keep, fun q hq => h.own q (.tail _ hq), (List.nodup_cons.mp h.nd).2, fun q hq => h.one q (.tail _ hq), h.gens, h.drawn, h.os⟩
theorem St.consW (h : St c ((a, P) :: S) s) (hp : ∀ o, P o → P' o) (k : St c S s → St c S' s) (hsub : ∀ q ∈ S'.map (·.1), q ∈ S.map (·.1)) : St c ((a, P') :: S') s := by
  have k' := k h.tailOf
  refine ⟨h.keep, fun q hq => ?_, ?_, fun q hq => ?_, h.gens, h.drawn, h.os⟩
  · rcases List.mem_cons.mp hq with rfl | hq
    · obtain ⟨z, o, e, q⟩ := h.own _ (.head _)
      exact ⟨z, o, e, hp o q⟩
    · exact k'.own q hq
  · rw [List.map_cons, List.nodup_cons]
    exact ⟨fun hm => (List.nodup_cons.mp h.nd).1 (hsub _ hm), k'.nd⟩
  · rcases List.mem_cons.mp hq with rfl | hq
    · exact h.one (a, P) (.head _)
    · exact k'.one q hq
theorem Sub.keys (u : Sub S S') : ∀ q ∈ S'.map (·.1), q ∈ S.map (·.1) := by
  induction u with
  | nil => intro q hq; cases hq
  | refl => exact fun _ h => h
  | drop _ ih => exact fun q hq => .tail _ (ih q hq)
  | cons t _ _ ih =>
    intro q hq
    rcases List.mem_cons.mp hq with rfl | hq
    · exact List.mem_map_of_mem t.mem.1
    · obtain ⟨p, hp, rfl⟩ := List.mem_map.mp (ih q hq)
      exact List.mem_map_of_mem (t.mem.2 p hp)
theorem St.sub (u : Sub S S') (h : St c S s) : St c S' s := by
  induction u with
  | nil => exact ⟨h.keep, fun q hq => (nomatch hq), List.nodup_nil, fun q hq => (nomatch hq), h.gens, h.drawn, h.os⟩
  | refl => exact h
  | drop _ ih => exact ih h.tailOf
  | cons t hp u ih => exact (h.perm t.perm).consW hp ih u.keys
end

noncomputable def FrP (env : Env) (l : List (Str × Option Value)) (o : Obj) : Prop :=
  (∃ es ep, o.data = .dict es ep ∧ StrKeys es ∧ ∀ p ∈ l, nsFind es p.1 = p.2) ∧ (l.map (·.1)).Nodup ∧ (∀ p ∈ l, env.kindOf p.1 = some .local ∧ (p.1 == ("__debug__" : Str)) = false) ∧ env.scope.kind = .function

inductive UpdL : List (Str × Option Value) → Str → Value → List (Str × Option Value) → Prop
  | head {x : Str} {w : Option Value} {v : Value} {l : List (Str × Option Value)} : UpdL ((x, w) :: l) x v ((x, some v) :: l)
  | tail {e : Str × Option Value} {x : Str} {v : Value} {l l' : List (Str × Option Value)} : UpdL l x v l' → UpdL (e :: l) x v (e :: l')
section
variable {l l' : List (Str × Option Value)} {x : Str} {v : Value}
theorem UpdL.keys (u : UpdL l x v l') : l'.map (·.1) = l.map (·.1) := by
  induction u with
  | head => rfl
  | tail _ ih => simp only [List.map_cons, ih]
theorem UpdL.key (u : UpdL l x v l') : x ∈ l.map (·.1) := by
  induction u with
  | head => exact .head _
  | tail _ ih => exact .tail _ ih
theorem UpdL.cases (u : UpdL l x v l') : (l.map (·.1)).Nodup → ∀ p ∈ l', p = (x, some v) ∨ (p ∈ l ∧ p.1 ≠ x) := by
  induction u with
  | head =>
    intro nd p hp
    rw [List.map_cons, List.nodup_cons] at nd
    rcases List.mem_cons.mp hp with rfl | hp
    · exact .inl rfl
    · exact .inr ⟨.tail _ hp, fun e => nd.1 (List.mem_map.mpr ⟨p, hp, e⟩)⟩
  | tail u ih =>
    intro nd p hp
    rw [List.map_cons, List.nodup_cons] at nd
    rcases List.mem_cons.mp hp with rfl | hp
    · exact .inr ⟨.head _, fun e => nd.1 (e ▸ u.key)⟩
    · exact (ih nd.2 p hp).imp id fun x => ⟨.tail _ x.1, x.2⟩
end

section
variable {M : Model} {A : Around} {E : Value → Shared → Prop} {c : Cfg} {S S' F : List Ent} {s : Shared} {env : Env} {l l' : List (Str × Option Value)} {x : Str} {v : Value}

theorem ns_of_fr (h : St c ((env.locals, FrP env l) :: S) s) : ∃ m, s.heap.Ns env.locals m ∧ ∀ p ∈ l, m p.1 = p.2 := by
  obtain ⟨o, ho, ⟨es, ep, hd, hk, hl⟩, _⟩ := h.get (.head _)
  exact ⟨nsFind es, ⟨o, es, ep, ho, hd, hk, fun _ => rfl⟩, hl⟩
theorem fr_facts (h : St c ((env.locals, FrP env l) :: S) s) : (l.map (·.1)).Nodup ∧ (∀ p ∈ l, env.kindOf p.1 = some .local ∧ (p.1 == ("__debug__" : Str)) = false) ∧ env.scope.kind = .function := by
  obtain ⟨o, _, _, r⟩ := h.get (.head _)
  exact r

theorem loadN {Q : Value → Shared → Prop} (h : St c ((env.locals, FrP env l) :: S) s) (hx : (x, some v) ∈ l) (hq : Q v s) : wpAny M A (loadName env x) Q E s := by
  obtain ⟨m, hn, hm⟩ := ns_of_fr h
  obtain ⟨_, hk, hf⟩ := fr_facts h
  exact wpAny_loadName_local hf (hk _ hx).1 hn (hm _ hx) hq
theorem ld {pos : Pos} {Q : Value → Shared → Prop} (h : St c ((env.locals, FrP env l) :: S) s) (hx : (x, some v) ∈ l) (hq : Q v s) : wpAny M A (eval (.Name x pos) env) Q E s :=
  wpAny_Name (loadN h hx hq) ((fr_facts h).2.1 _ hx).2

theorem sto {Q : Unit → Shared → Prop} (h : St c ((env.locals, FrP env l) :: S) s) (u : UpdL l x v l') (hq : ∀ s', St c ((env.locals, FrP env l') :: S) s' → Q () s') :
    wpAny M A (storeName env x v) Q E s := by
  obtain ⟨nd, hk, hf⟩ := fr_facts h
  obtain ⟨m, hn, hm⟩ := ns_of_fr h
  obtain ⟨p, hp, rfl⟩ := List.mem_map.mp u.key
  refine wpAny_storeName_local (hk _ hp).1 hn (fun h' hn' hs => hq _ (h.set .head hs ?_)) (by rw [hf]; rfl)
  refine ex3 hn' fun o es ep hE2 => ?_
  clear hn'
  refine an4 hE2 fun ho hd hks hfind => ?_
  clear hE2
  refine ⟨o, ho, ⟨es, ep, hd, hks, fun q hq => ?_⟩, by rw [u.keys]; exact nd, fun q hq => ?_, hf⟩
  · rw [hfind]
    rcases u.cases nd q hq with rfl | ⟨hq, hne⟩
    · exact if_pos rfl
    · show (if q.1 = p.1 then some v else m q.1) = q.2
      rw [if_neg hne]; exact hm q hq
  · have : q.1 ∈ l.map (·.1) := by rw [← u.keys]; exact List.mem_map_of_mem hq
    obtain ⟨q', hq', e⟩ := List.mem_map.mp this
    rw [← e]; exact hk q' hq'

noncomputable def CellP (v : Option Value) (o : Obj) : Prop := o.data = .cell v
structure Cel (env : Env) (x : Str) (cx : Addr) : Prop where
  kind : env.scope.kind = .function
  isCell : env.kindOf x = some .cell ∨ (env.kindOf x = some .free ∧ (x == ("__classdict__" : Str)) = false)
  look : env.cells.lookup x = some cx
  dbg : (x == ("__debug__" : Str)) = false
theorem ldc {pos : Pos} {cx : Addr} {Q : Value → Shared → Prop} (h : St c S s) (hc : Cel env x cx) (hm : (cx, CellP (some v)) ∈ S) (hq : Q v s) : wpAny M A (eval (.Name x pos) env) Q E s := by
  obtain ⟨o, ho, hd⟩ := h.get hm
  refine wpAny_Name ?_ hc.dbg
  rcases hc.isCell with k | k
  · exact wpAny_loadName_cell hc.kind k hc.look ⟨o, ho, hd⟩ hq
  · exact wpAny_loadName_free hc.kind k.1 hc.look ⟨o, ho, hd⟩ hq k.2
theorem stoc {cx : Addr} {w : Option Value} {Q : Unit → Shared → Prop} (h : St c S s) (hk : env.kindOf x = some .cell) (hc : Cel env x cx) (hm : (cx, CellP w) ∈ S) (u : Upd S cx (CellP (some v)) S') (hq : ∀ s', St c S' s' → Q () s') :
    wpAny M A (storeName env x v) Q E s := by
  obtain ⟨o, ho, hd⟩ := h.get hm
  refine wpAny_storeName_cell hc.kind hk hc.look ⟨o, ho, hd⟩ fun h' ⟨o', ho', hd'⟩ hs => ?_
  exact hq _ (h.set (t := s.toks) u hs ⟨o', ho', hd'⟩)
end

structure Room (A : Around) (n : Nat) : Prop where
  handled : A.handled = none
  depth : A.depth + 10 * n ≤ 690
  units : A.units + 100 * n ≤ 9000
theorem Room.less {A : Around} {n m : Nat} (r : Room A n) (h : m ≤ n := by lia) : Room A m := ⟨r.handled, by have := r.depth; lia, by have := r.units; lia⟩
theorem Room.deeper {A : Around} {n : Nat} (r : Room A (n + 1)) (env : Env) : Room (A.deeper env) n := ⟨r.handled, by have := r.depth; show A.depth + 1 + _ ≤ _; lia, by have := r.units; show A.units + 3 + _ ≤ _; lia⟩
theorem Room.in1 {A : Around} {n : Nat} (r : Room A (n + 1)) : Room A.in1 n := ⟨r.handled, by have := r.depth; show A.depth + _ ≤ _; lia, by have := r.units; show A.units + 1 + _ ≤ _; lia⟩
theorem Room.deep {A : Around} {n : Nat} (r : Room A n) : A.depth < recursionLimit := by have := r.depth; show _ < 1000; lia
theorem Room.cl {A : Around} {n : Nat} (r : Room A n) : A.units < cLine := by have := r.units; show _ < 9900; lia

structure Base (Z : Addr → Option Obj) : Prop where
  nolim : ∀ h : Heap, (∀ b o, Z b = some o → h.get? b = some o) → h.NoLimit
theorem St.nolim {c : Cfg} {S : List Ent} {s : Shared} (h : St c S s) (b : Base c.Z) : s.heap.NoLimit := b.nolim _ h.keep

noncomputable def ZCode (Z : Addr → Option Obj) (cd : Value) (q : Str) : Prop := ∃ c o vs t, cd = .ref c ∧ Z c = some o ∧ o.data = .fields vs ∧ vs[1]? = some (.str q t)
theorem ZCode.cod {c : Cfg} {S : List Ent} {s : Shared} {cd : Value} {q : Str} (x : ZCode c.Z cd q) (h : St c S s) : s.heap.CodeRec cd q :=
  let ⟨k, o, vs, t, e, hz, hd, hv⟩ := x; ⟨k, o, vs, t, e, h.keep _ _ hz, hd, hv⟩

noncomputable def namesOk (sc : Scope) (ns : List Str) : Bool :=
  decide (ns.Nodup) && ns.all (fun x => decide (sc.names.lookup x = some .local) && !(x == ("__debug__" : Str))) && decide (sc.kind = .function)

section
variable {prog : Program} {w : World} {A : Around} {c : Cfg} {S : List Ent} {s : Shared}
theorem frp_new {env : Env} {m : Str → Option Value} {h₀ : Heap} {l : List (Str × Option Value)} {ns : List Str} (hn : h₀.Ns env.locals m) (hns : l.map (·.1) = ns) (hok : namesOk env.scope ns = true) (hl : ∀ p ∈ l, m p.1 = p.2) :
    ∃ o, h₀.get? env.locals = some o ∧ FrP env l o := by
  refine ex3 hn fun o es ep hE2 => ?_
  clear hn
  refine an4 hE2 fun ho hd hk hf => ?_
  clear hE2
  simp only [namesOk, Bool.and_eq_true, decide_eq_true_eq, List.all_eq_true, Bool.not_eq_true'] at hok
  obtain ⟨⟨nd, hall⟩, hkind⟩ := hok
  refine ⟨o, ho, ⟨es, ep, hd, hk, fun p hp => (hf _).trans (hl p hp)⟩, by rw [hns]; exact nd, fun p hp => ?_, hkind⟩
  exact hall p.1 (hns ▸ List.mem_map_of_mem hp)

theorem enter {R : Result → Shared → Prop} {a : Addr} {o : Obj} {fd : FuncData} {body : List Stmt} {args : Args} {binds : List (Str × Value)} {l : List (Str × Option Value)} {ns : List Str} {n : Nat}
    (h : St c S s) (hB : Base c.Z) (hA : Room A (n + 1)) (ho : c.Z a = some o) (hdata : o.data = .func fd) (hcd : ZCode c.Z fd.code fd.qualname)
    (hbody : fd.body = .stmts body) (hbind : BindsTo s fd args binds) (hcell : (fd.scope.names.all fun x => x.2 != .cell) = true) (hloc : (binds.all fun x => fd.scope.names.lookup x.1 == some .local) = true)
    (hns : l.map (·.1) = ns) (hok : namesOk fd.scope ns = true) (hl : l.map (·.2) = ns.map (fun x => binds.reverse.lookup x))
    (k : ∀ env s', (∃ L, env = callEnv fd L a) → Room (A.deeper env) n → St c ((env.locals, FrP env l) :: S) s' →
      wpAny (model prog w) (A.deeper env) (execs body env) (fun f s' => R (.ok (.ret (match f with | .ret v => v | _ => .none))) s')
        (fun e s' => wpAny (model prog w) (A.deeper env) (leaving env e) (fun _ s'' => R (.error e) s'') (fun e' s'' => R (.error e') s'') s') s')
    (hco : fd.scope.isCoroutine = false) (hgen : fd.scope.isGenerator = false) (hk : fd.scope.kind = .function) :
    codeAny (model prog w) A (.call (.ref a) args) R s := by
  refine codeAny_call_def hA.deep (h.keep _ _ ho) hdata (h.nolim hB) (hcd.cod h) hbody hbind (fun x hx => ?_) (fun x hx => ?_) (fun h₀ hn hk₀ => ?_) hco hgen hk
  · simpa using List.all_eq_true.mp hcell x hx
  · simpa using List.all_eq_true.mp hloc x hx
  · refine k _ _ ⟨_, rfl⟩ (hA.deeper _) (h.new hk₀ (Nat.le_refl _) ?_)
    refine frp_new (env := callEnv fd s.heap.objs.size a) hn hns hok fun p hp => ?_
    have e : ∀ (l : List (Str × Option Value)) (f : Str → Option Value), l.map (·.2) = (l.map (·.1)).map f → ∀ p ∈ l, f p.1 = p.2 := by
      intro l f
      induction l with
      | nil => intro _ p hp; cases hp
      | cons q l ih =>
        intro e p hp
        simp only [List.map_cons, List.cons.injEq] at e
        rcases List.mem_cons.mp hp with rfl | hp
        · exact e.1.symm
        · exact ih e.2 p hp
    exact e l _ (by rw [hns]; exact hl) p hp
end

end Dom
end
open PySem PySem.Calls PyProof.Rows PySem.W
set_option maxRecDepth 100000
set_option autoImplicit false
set_option Elab.async false
namespace Dom

noncomputable def IntL (ns : List Int) (o : Obj) : Prop := o.cls = .type "list" ∧ ∃ vs n, o.data = .seq vs n ∧ IntsAre vs.toList ns

section
variable {prog : Program} {w : World} {A : Around} {E : Value → Shared → Prop} {c : Cfg} {S S' F : List Ent} {s : Shared} {env : Env} {a : Addr} {ns : List Int}

theorem intl_isList (h : St c S s) (hm : (a, IntL ns) ∈ S) : ∃ vs, s.heap.IsList a vs ∧ IntsAre vs.toList ns := by
  obtain ⟨o, ho, hc, vs, n, hd, hi⟩ := h.get hm
  exact ⟨vs, ⟨o, ho, hc, n, hd⟩, hi⟩

theorem sub_ints {value slice : Expr} {k : Int} {t : Tok} {Q : Value → Shared → Prop} (h : St c S s) (hm : (a, IntL ns) ∈ S) {x : Int} (h0 : 0 ≤ k) (hk : k < 2 ^ 63) (hx : ns[k.toNat]? = some x)
    (hs : subscripted slice false (.ref a) (.int k t) = operate [.ref a, .int k t] (getItem (.ref a) (.int k t))) (ht : ∀ r, letTemporaryGo value (.ref a) r = pure ())
    (hq : ∀ t', Q (.int x t') s) : wpAny (model prog w) A (subscriptTail value slice (.ref a) (.int k t)) Q E s := by
  obtain ⟨vs, hl, hi⟩ := intl_isList h hm
  obtain ⟨t', e⟩ := hi.get _ _ hx
  refine subscriptTail_builtin hl.typeIs slot_list_getitem.lookup (wpAny_getItem_list hl h0 hk (x := .int x t') (by simpa using e) (hq t')) hs ht

theorem ints_set {vs : List Value} {ns : List Int} (h : IntsAre vs ns) (i : Nat) (x : Int) (t : Tok) : IntsAre (vs.set i (.int x t)) (ns.set i x) := by
  induction h generalizing i with
  | nil => exact .nil
  | cons n t' h ih =>
    cases i with
    | zero => exact .cons _ _ h
    | succ i => exact .cons _ _ (ih i)

theorem set_ints {k x : Int} {t u : Tok} {Q : Unit → Shared → Prop} {ns' : List Int} (h : St c S s) (hm : (a, IntL ns) ∈ S) (h0 : 0 ≤ k) (hk : k < 2 ^ 63) (hn : k < ns.length) (hns : ns.set k.toNat x = ns') (u' : Upd S a (IntL ns') S')
    (hq : ∀ s', St c S' s' → Q () s') : wpAny (model prog w) A (setItem (.ref a) (.int k t) (.int x u)) Q E s := by
  obtain ⟨vs, hl, hi⟩ := intl_isList h hm
  refine wpAny_setItem_list hl h0 hk ?_ fun h' ⟨o', ho', hc', n', hd'⟩ hs => hq _ (h.set (t := s.toks) u' hs ⟨o', ho', hc', _, n', hd', ?_⟩)
  · have := hi.length
    simp only [Array.length_toList] at this
    lia
  · rw [Array.toList_setIfInBounds, ← hns]
    exact ints_set hi _ _ _
end

theorem letQ {α : Type} {M : Model} {A : Around} {t : Sem α} {Q : α → Shared → Prop} {E : Value → Shared → Prop} {s : Shared} (h : let K := Q; let K' := E; wpAny M A t K K' s) : wpAny M A t Q E s := h
theorem letQ1 {α : Type} {M : Model} {A : Around} {t : Sem α} {Q : α → Shared → Prop} {E : Value → Shared → Prop} {s : Shared} (h : let K := Q; wpAny M A t K E s) : wpAny M A t Q E s := h
local macro_rules | `(tactic| kd_p) => `(tactic| first
  | (with_reducible refine letQ ?_; intro K K'; refine wpAny_execs_cons ?_; refine letQ1 ?_; intro K)
  | with_reducible (first | refine wpAny_BinOp ?_ | refine wpAny_Constant_int ?_ | refine wpAny_Constant_none ?_ | refine wpAny_Constant_bool ?_ | refine Subscript_ ?_ | refine wpAny_truthy_bool ?_ | refine wpAny_isTrue_BoolOp ?_ | refine wpAny_allTrue_And_cons ?_ | refine wpAny_allTrue_And_nil ?_ | refine wpAny_allTrue_Or_cons ?_ | refine wpAny_allTrue_Or_nil ?_ | refine wpAny_isTrue_Not ?_ | refine wpAny_IfExp ?_ | refine wpAny_assign_Name ?_ | refine wpAny_While ?_ | refine wpAny_Return_some ?_ | refine wpAny_If ?_ | refine add_int ?_ | refine wpAny_execs_nil ?_)
  | ((with_reducible first | refine wpAny_Compare1 ?_ ?hs | refine wpAny_isTrue_Compare1 ?_ ?hs | refine wpAny_Assign_Name ?_ ?hs | refine wpAny_Assign_Subscript ?_ ?hs); (case hs => exact rfl))
  | ((with_reducible refine wpAny_Expr_any ?_ ?hi ?hs); (case hi => assumption); (case hs => exact rfl))
  | ((with_reducible refine wpAny_For ?_ ?hs); (case hs => exact fun _ => rfl)))
local macro_rules | `(tactic| k_in) => `(tactic| with_reducible (first | refine P.lt_int ?_ | refine P.le_int ?_ | refine P.gt_int ?_ | refine P.ge_int ?_ | refine P.eq_int ?_ | refine P.ne_int ?_ | refine add_int ?_))
theorem mh {α : Type} {a : α} {l : List α} : a ∈ a :: l := .head _
theorem mt {α : Type} {a b : α} {l : List α} (h : a ∈ l) : a ∈ b :: l := .tail _ h
section
variable {α : Type} {x0 x1 x2 x3 e : α} {l : List α}
theorem mk0 : e ∈ e :: l := .head _
theorem mk1 : e ∈ x0 :: e :: l := .tail _ mk0
theorem mk2 : e ∈ x0 :: x1 :: e :: l := .tail _ mk1
theorem mk3 : e ∈ x0 :: x1 :: x2 :: e :: l := .tail _ mk2
theorem mk (h : e ∈ l) : e ∈ x0 :: x1 :: x2 :: x3 :: l := .tail _ (.tail _ (.tail _ (.tail _ h)))
end
section
variable {x0 x1 x2 x3 x4 x5 x6 x7 e : Ent} {F S S' : List Ent} {a : Addr} {P P' : Obj → Prop}
theorem uk0 : Upd ((a, P) :: F) a P' ((a, P') :: F) := .head
theorem uk1 : Upd (x0 :: (a, P) :: F) a P' (x0 :: (a, P') :: F) := .tail uk0
theorem uk2 : Upd (x0 :: x1 :: (a, P) :: F) a P' (x0 :: x1 :: (a, P') :: F) := .tail uk1
theorem uk3 : Upd (x0 :: x1 :: x2 :: (a, P) :: F) a P' (x0 :: x1 :: x2 :: (a, P') :: F) := .tail uk2
theorem uk (h : Upd S a P S') : Upd (x0 :: x1 :: x2 :: x3 :: S) a P (x0 :: x1 :: x2 :: x3 :: S') := .tail (.tail (.tail (.tail h)))
theorem tk0 : Take (e :: F) e (F) := .head
theorem tk1 : Take (x0 :: e :: F) e (x0 :: F) := .tail tk0
theorem tk2 : Take (x0 :: x1 :: e :: F) e (x0 :: x1 :: F) := .tail tk1
theorem tk3 : Take (x0 :: x1 :: x2 :: e :: F) e (x0 :: x1 :: x2 :: F) := .tail tk2
theorem tk4 : Take (x0 :: x1 :: x2 :: x3 :: e :: F) e (x0 :: x1 :: x2 :: x3 :: F) := .tail tk3
theorem tk5 : Take (x0 :: x1 :: x2 :: x3 :: x4 :: e :: F) e (x0 :: x1 :: x2 :: x3 :: x4 :: F) := .tail tk4
theorem tk6 : Take (x0 :: x1 :: x2 :: x3 :: x4 :: x5 :: e :: F) e (x0 :: x1 :: x2 :: x3 :: x4 :: x5 :: F) := .tail tk5
theorem tk7 : Take (x0 :: x1 :: x2 :: x3 :: x4 :: x5 :: x6 :: e :: F) e (x0 :: x1 :: x2 :: x3 :: x4 :: x5 :: x6 :: F) := .tail tk6
theorem tk (h : Take S e F) : Take (x0 :: x1 :: x2 :: x3 :: S) e (x0 :: x1 :: x2 :: x3 :: F) := .tail (.tail (.tail (.tail h)))
theorem sk (t : Take S e F) (h : Sub F S') : Sub S (e :: S') := .cons t (fun _ q => q) h
theorem sk0 (h : Sub (F) S) : Sub (e :: F) (e :: S) := sk tk0 h
theorem sk1 (h : Sub (x0 :: F) S) : Sub (x0 :: e :: F) (e :: S) := sk tk1 h
theorem sk2 (h : Sub (x0 :: x1 :: F) S) : Sub (x0 :: x1 :: e :: F) (e :: S) := sk tk2 h
theorem sk3 (h : Sub (x0 :: x1 :: x2 :: F) S) : Sub (x0 :: x1 :: x2 :: e :: F) (e :: S) := sk tk3 h
theorem sk4 (h : Sub (x0 :: x1 :: x2 :: x3 :: F) S) : Sub (x0 :: x1 :: x2 :: x3 :: e :: F) (e :: S) := sk tk4 h
theorem sk5 (h : Sub (x0 :: x1 :: x2 :: x3 :: x4 :: F) S) : Sub (x0 :: x1 :: x2 :: x3 :: x4 :: e :: F) (e :: S) := sk tk5 h
theorem sk6 (h : Sub (x0 :: x1 :: x2 :: x3 :: x4 :: x5 :: F) S) : Sub (x0 :: x1 :: x2 :: x3 :: x4 :: x5 :: e :: F) (e :: S) := sk tk6 h
theorem sk7 (h : Sub (x0 :: x1 :: x2 :: x3 :: x4 :: x5 :: x6 :: F) S) : Sub (x0 :: x1 :: x2 :: x3 :: x4 :: x5 :: x6 :: e :: F) (e :: S) := sk tk7 h
end
section
variable {x0 x1 x2 x3 : Str × Option Value} {x : Str} {o : Option Value} {v : Value} {l l' : List (Str × Option Value)}
theorem ul0 : UpdL ((x, o) :: l) x v ((x, some v) :: l) := .head
theorem ul1 : UpdL (x0 :: (x, o) :: l) x v (x0 :: (x, some v) :: l) := .tail ul0
theorem ul2 : UpdL (x0 :: x1 :: (x, o) :: l) x v (x0 :: x1 :: (x, some v) :: l) := .tail ul1
theorem ul3 : UpdL (x0 :: x1 :: x2 :: (x, o) :: l) x v (x0 :: x1 :: x2 :: (x, some v) :: l) := .tail ul2
theorem ul (h : UpdL l x v l') : UpdL (x0 :: x1 :: x2 :: x3 :: l) x v (x0 :: x1 :: x2 :: x3 :: l') := .tail (.tail (.tail (.tail h)))
end
local macro_rules | `(tactic| lk) => `(tactic| with_reducible first | exact mk0 | exact mk1 | exact mk2 | exact mk3 | (refine mk ?_; lk))
local macro_rules | `(tactic| kt_k) => `(tactic| with_reducible first | exact uk0 | exact uk1 | exact uk2 | exact uk3 | (refine' uk ?ux; (case ux => kt_k)))
local macro_rules | `(tactic| room) => `(tactic| with_reducible first | exact ul0 | exact ul1 | exact ul2 | exact ul3 | (refine' ul ?ux; (case ux => room)))
local macro_rules | `(tactic| w_up) => `(tactic| with_reducible first | exact tk0 | exact tk1 | exact tk2 | exact tk3 | (refine' tk ?ux; (case ux => w_up)))
theorem ite_dec {p X Y : Prop} [Decidable p] (h1 : p → X) (h2 : ¬ p → Y) : if decide p = true then X else Y := by
  by_cases h : p
  · rw [if_pos (decide_eq_true h)]; exact h1 h
  · rw [if_neg (by simp [h])]; exact h2 h
theorem ite_beq {a b : Int} {X Y : Prop} (h1 : a = b → X) (h2 : a ≠ b → Y) : if (a == b) = true then X else Y := by
  by_cases h : a = b
  · rw [if_pos (by simp [h])]; exact h1 h
  · rw [if_neg (by simp [h])]; exact h2 h
theorem ite_bne {a b : Int} {X Y : Prop} (h1 : a ≠ b → X) (h2 : a = b → Y) : if (a != b) = true then X else Y := by
  by_cases h : a = b
  · rw [if_neg (by simp [h])]; exact h2 h
  · rw [if_pos (by simp [h])]; exact h1 h
local macro_rules | `(tactic| k_is) => `(tactic| with_reducible first
  | exact Sub.refl
  | (refine' sk0 ?sr; (case sr => k_is))
  | (refine' sk1 ?sr; (case sr => k_is))
  | (refine' sk2 ?sr; (case sr => k_is))
  | (refine' sk3 ?sr; (case sr => k_is))
  | (refine' sk4 ?sr; (case sr => k_is))
  | (refine' sk5 ?sr; (case sr => k_is))
  | (refine' sk6 ?sr; (case sr => k_is))
  | (refine' sk7 ?sr; (case sr => k_is))
  | (refine' sk ?st ?sr; (case st => w_up); (case sr => k_is))
  | (refine' Sub.drop ?sr; (case sr => k_is)))
section

noncomputable def LstP (vs : List Value) (o : Obj) : Prop := o.cls = .type "list" ∧ o.dict = none ∧ ∃ n, o.data = .seq vs.toArray n
noncomputable def IntLP (ns : List Int) (o : Obj) : Prop := ∃ vs, LstP vs o ∧ IntsAre vs ns

section
variable {prog : Program} {w : World} {A : Around} {E : Value → Shared → Prop} {c : Cfg} {S S' F : List Ent} {s : Shared} {env : Env} {a : Addr} {vs vs' : List Value} {ns : List Int}

theorem lst_is (h : St c S s) (hm : (a, LstP vs) ∈ S) : s.heap.IsList a vs.toArray := by
  obtain ⟨o, ho, hc, _, n, hd⟩ := h.get hm
  exact ⟨o, ho, hc, n, hd⟩

theorem seq_upd {f : Array Value → Array Value} {Q : Unit → Shared → Prop} (h : St c S s) (hm : (a, LstP vs) ∈ S) (hf : f vs.toArray = vs'.toArray) (hz : vs.length ≤ 1000) (hz' : vs'.length ≤ 1000) (u : Upd S a (LstP vs') S')
    (hq : ∀ s', St c S' s' → Q () s') : wpAny (model prog w) A (updateSeq a f) Q E s := by
  obtain ⟨o, ho, hc, hdi, n, hd⟩ := h.get hm
  obtain ⟨n', hd'⟩ := Obj.data_mapSeq hd f
  have hl : (1000 : Nat) ≤ sizeLine := by decide
  refine wpAny_updateSeq ho hd (hq _ (h.set (t := s.toks) u (Heap.SameBut.update ..) ⟨_, Heap.get?_update_self _ ho (Obj.isFreed_of_seq hd'), ?_⟩)) (by rw [List.size_toArray]; lia) (by rw [hf, List.size_toArray]; lia)
  refine ⟨(Obj.cls_mapSeq ..).trans hc, ?_, n', by rw [hd', hf]⟩
  obtain ⟨cc, dd, dt, sl⟩ := o
  simp only at hd; subst hd
  exact hdi

theorem l_append {x : Value} {Q : Value → Shared → Prop} (h : St c S s) (hm : (a, LstP vs) ∈ S) (hz : vs.length ≤ 900) (u : Upd S a (LstP (vs ++ [x])) S') (hq : ∀ s', St c S' s' → Q .none s') :
    wpAny (model prog w) A (call (.builtin "list.append") [.ref a, x]) Q E s := by
  refine wpAny_call_entry slot_list_append (lst_is h hm).typeIs entry_list_append ?_ (args_list_append _ _)
  show wpAny _ _ (updateSeq a (·.push x) >>= fun _ => ret .none) _ _ s
  exact wpAny_bind (seq_upd h hm (by simp) (by lia) (by simp; lia) u fun s' h' => wpAny_pure ⟨_, rfl, hq s' h'⟩)

theorem l_reverse {Q : Value → Shared → Prop} (h : St c S s) (hm : (a, LstP vs) ∈ S) (hz : vs.length ≤ 900) (u : Upd S a (LstP vs.reverse) S') (hq : ∀ s', St c S' s' → Q .none s') :
    wpAny (model prog w) A (call (.builtin "list.reverse") [.ref a]) Q E s := by
  refine wpAny_call_entry F.slot_list_reverse (lst_is h hm).typeIs F.entry_list_reverse ?_ (F.args_list_reverse_1 _)
  show wpAny _ _ (updateSeq a (·.reverse) >>= fun _ => ret .none) _ _ s
  exact wpAny_bind (seq_upd h hm (by simp) (by lia) (by simp; lia) u fun s' h' => wpAny_pure ⟨_, rfl, hq s' h'⟩)

theorem l_pop_at {k : Int} {t : Tok} {x : Value} {Q : Value → Shared → Prop} (h : St c S s) (hm : (a, LstP vs) ∈ S) (hz : vs.length ≤ 900) (h0 : 0 ≤ k) (hk : k < vs.length) (hx : vs[k.toNat]? = some x)
    (u : Upd S a (LstP (vs.eraseIdx k.toNat)) S') (hq : ∀ s', St c S' s' → Q x s') :
    wpAny (model prog w) A (call (.builtin "list.pop") [.ref a, .int k t]) Q E s := by
  refine wpAny_call_entry F.slot_list_pop (lst_is h hm).typeIs F.entry_list_pop ?_ (F.args_list_pop_2 _ _)
  obtain ⟨o, ho, hc, hdi, n, hd⟩ := h.get hm
  unfold Builtin.«list.pop»
  refine wpAny_bind (m := selfAndSome _ _ _ _ _) (wpAny_pure ?_)
  refine wpAny_bind (m := asIndex _) (wpAny_pure ?_)
  have e1 : Builtin.List.listFitsIndex k = true := by
    unfold Builtin.List.listFitsIndex
    have : -(2:Int)^63 ≤ k ∧ k < 2^63 := ⟨by lia, by lia⟩
    simp only [Bool.and_eq_true, decide_eq_true_eq]
    first | exact this | (constructor <;> lia)
  simp only [e1, Bool.not_true, Bool.false_eq_true, if_false]
  refine wpAny_bind (wpAny_listItems ho hd ?_)
  have e2 : vs.toArray.isEmpty = false := by
    cases vs with
    | nil => simp at hk; lia
    | cons => rfl
  simp only [e2, Bool.false_eq_true, if_false]
  have e3 : (seqIndex? k vs.toArray.size).bind (fun k => vs.toArray[k]?.map (k, ·)) = some (k.toNat, x) := by
    have : seqIndex? k vs.toArray.size = some k.toNat := by
      unfold seqIndex?
      have hn : ¬ k < 0 := by lia
      simp [hn, h0, hk]
    rw [this]
    show (vs.toArray[k.toNat]?).map _ = _
    rw [List.getElem?_toArray, hx]; rfl
  simp only [e3]
  refine wpAny_bind (m := updateSeq a _) (seq_upd h hm (vs' := vs.eraseIdx k.toNat) ?_ (by lia) ?_ u fun s' h' => wpAny_pure ⟨_, rfl, hq s' h'⟩)
  · exact List.eraseIdxIfInBounds_toArray _ _
  · rw [List.length_eraseIdx]; split <;> lia

noncomputable def spl (es : List Expr) (env : Env) (pos : Pos) : Sem (List Value) := spliced (backTo pos (starEach es env))
theorem back_cons {e : Expr} {rest : List Expr} {pos : Pos} (he : starEach (e :: rest) env = (false, eval e env) :: starEach rest env) :
    backTo pos (starEach (e :: rest) env) = (false, eval e env) :: backTo pos (starEach rest env) := by rw [he]; rfl
theorem spl_nil {pos : Pos} {Q : List Value → Shared → Prop} (h : Q [] s) : wpAny (model prog w) A (spl [] env pos) Q E s := spliced_nil h
theorem spl_cons {e : Expr} {rest : List Expr} {pos : Pos} {Q : List Value → Shared → Prop}
    (h : wpAny (model prog w) A (eval e env) (fun v s₁ => wpAny (model prog w) A (spl rest env pos) (fun vs s₂ => Q (v :: vs) s₂) E s₁) E s)
    (he : starEach (e :: rest) env = (false, eval e env) :: starEach rest env) : wpAny (model prog w) A (spl (e :: rest) env pos) Q E s := by
  unfold spl
  rw [back_cons he]
  exact spliced_cons h
theorem back_all {pos : Pos} : ∀ {es : List Expr}, (es.all fun e => match e with | .Starred .. => false | _ => true) = true → (backTo pos (starEach es env)).any (·.1) = false
  | [], _ => rfl
  | e :: es, h => by
    rw [List.all_cons, Bool.and_eq_true] at h
    have he : starEach (e :: es) env = (false, eval e env) :: starEach es env := by cases e <;> first | rfl | cases h.1
    rw [back_cons he, List.any_cons, back_all h.2]; rfl
theorem evalArgs_spl {f : Value} {es : List Expr} {pos : Pos} {Q : Args → Shared → Prop} (hs : (es.all fun e => match e with | .Starred .. => false | _ => true) = true)
    (h : wpAny (model prog w) A (spl es env pos) (fun vs s' => Q ⟨vs, []⟩ s') E s) : wpAny (model prog w) A (evalArgs f true (backTo pos (starEach es env)) []) Q E s := by
  cases es with
  | nil =>
    unfold evalArgs
    show wpAny (model prog w) A (spliced [] >>= _) Q E s
    refine wpAny_bind (wpAny_mono h (fun vs s₁ h₁ => ?_) fun _ _ e => e)
    refine wpAny_bind (wpAny_pure ?_)
    refine wpAny_holding ?_
    exact wpAny_bind (wpAny_pure (wpAny_bind (wpAny_pure (wpAny_pure h₁))))
  | cons e es =>
    rw [List.all_cons, Bool.and_eq_true] at hs
    have he : starEach (e :: es) env = (false, eval e env) :: starEach es env := by cases e <;> first | rfl | cases hs.1
    unfold spl at h
    rw [back_cons he] at h ⊢
    exact evalArgs_plain h
end
end
section

noncomputable abbrev gtab : List (Str × Value) := [("_law_seed", .ref 803), ("_law_next", .ref 810), ("_law_reached", .ref 817), ("_law_strict", .ref 822), ("DiGraph", .ref 787), ("immediate_dominators", .ref 87),
  ("dominance_frontiers", .ref 92), ("NetworkXError", .ref 80), ("dfs_postorder_nodes", .ref 48), ("dfs_labeled_edges", .ref 57), ("reduce", .builtin "_functools.reduce"), ("_NOT_FOUND", .ref 249)]
noncomputable abbrev btab : List (Str × Value) := [("len", .builtin "len"), ("abs", .builtin "abs"), ("sorted", .builtin "sorted"), ("iter", .builtin "iter"), ("range", .type "range"), ("list", .type "list"), ("set", .type "set"),
  ("enumerate", .type "enumerate"), ("KeyError", .type "KeyError"), ("TypeError", .type "TypeError")]
structure GB (Z : Addr → Option Obj) : Prop extends Base Z where
  glob : ∀ h : Heap, (∀ b o, Z b = some o → h.get? b = some o) → ∃ mg mb, h.Ns mainGlobals mg ∧ h.Ns builtinsNs mb ∧ (∀ p ∈ gtab, mg p.1 = some p.2) ∧ (∀ p ∈ btab, mg p.1 = none ∧ mb p.1 = some p.2)
  bmod : ∀ h : Heap, (∀ b o, Z b = some o → h.get? b = some o) → ∃ mg bm ob, h.Ns mainGlobals mg ∧ mg "__builtins__" = some (.ref bm) ∧ bm ≠ builtinsNs ∧ h.get? bm = some ob ∧ ob.cls = .type "module" ∧ ob.dict = some builtinsNs ∧ ob.data = .plain
structure GE (env : Env) (gs : List Str) : Prop where
  kind : env.scope.kind = .function
  g : env.globals = mainGlobals
  b : env.builtins = builtinsNs
  n : ∀ x ∈ gs, env.kindOf x = some .globalImplicit ∧ (x == ("__debug__" : Str)) = false
noncomputable def globOk (sc : Scope) (gs : List Str) : Bool := decide (sc.kind = .function) && gs.all fun x => decide (sc.names.lookup x = some .globalImplicit) && !(x == ("__debug__" : Str))
theorem GE.of {env : Env} {gs : List Str} (hg : env.globals = mainGlobals) (hb : env.builtins = builtinsNs) (h : globOk env.scope gs = true) : GE env gs := by
  simp only [globOk, Bool.and_eq_true, decide_eq_true_eq, List.all_eq_true, Bool.not_eq_true'] at h
  exact ⟨h.1, hg, hb, h.2⟩

section
variable {prog : Program} {w : World} {A : Around} {E : Value → Shared → Prop} {c : Cfg} {S S' F : List Ent} {s : Shared} {env : Env} {a : Addr} {vs vs' : List Value} {ns : List Int} {gs : List Str} {x : Str} {v : Value}

theorem ldg {pos : Pos} {Q : Value → Shared → Prop} (h : St c S s) (hB : GB c.Z) (ge : GE env gs) (hx : x ∈ gs) (hp : (x, v) ∈ gtab) (hq : Q v s) : wpAny (model prog w) A (eval (.Name x pos) env) Q E s := by
  obtain ⟨mg, mb, hg, hb, h1, h2⟩ := hB.glob _ h.keep
  exact Name_function_global ge.kind (ge.n x hx).1 (loadGlobal_global (ge.g ▸ hg) (h1 _ hp) hq) (ge.n x hx).2
theorem ldb {pos : Pos} {Q : Value → Shared → Prop} (h : St c S s) (hB : GB c.Z) (ge : GE env gs) (hx : x ∈ gs) (hp : (x, v) ∈ btab) (hq : Q v s) : wpAny (model prog w) A (eval (.Name x pos) env) Q E s := by
  obtain ⟨mg, mb, hg, hb, h1, h2⟩ := hB.glob _ h.keep
  exact Name_function_global ge.kind (ge.n x hx).1 (loadGlobal_builtin (ge.g ▸ hg) (h2 _ hp).1 (ge.b ▸ hb) (h2 _ hp).2 hq) (ge.n x hx).2

theorem call_fn {f : Str} {p pos : Pos} {args : List Expr} {fa : Addr} {o : Obj} {fd : FuncData} {Q : Value → Shared → Prop} (h : St c S s) (hB : GB c.Z) (ge : GE env gs) (hx : f ∈ gs) (hp : (f, .ref fa) ∈ gtab) (ho : c.Z fa = some o) (hd : o.data = .func fd)
    (hs : (args.all fun e => match e with | .Starred .. => false | _ => true) = true)
    (k : wpAny (model prog w) A (spl args env pos) (fun vs s₁ => (∃ S₁, St c S₁ s₁) ∧ wpAny (model prog w) A (call (.ref fa) vs) Q E s₁) E s) :
    wpAny (model prog w) A (eval (.Call (.Name f p) args [] pos) env) Q E s := by
  refine wpAny_Call_Name_kw (ldg h hB ge hx hp ?_)
  refine callWith_function (o := o) (fd := fd) (evalArgs_spl hs (wpAny_mono k (fun vs s₁ h₁ => ?_) fun _ _ e => e))
  obtain ⟨⟨S₁, h₁⟩, h₂⟩ := h₁
  exact ⟨⟨h₁.keep _ _ ho, hd⟩, h₂⟩
theorem call_bi {f : Str} {id : String} {p pos : Pos} {args : List Expr} {Q : Value → Shared → Prop} (h : St c S s) (hB : GB c.Z) (ge : GE env gs) (hx : f ∈ gs) (hp : (f, .builtin id) ∈ btab)
    (hs : (args.all fun e => match e with | .Starred .. => false | _ => true) = true)
    (k : wpAny (model prog w) A (spl args env pos) (fun vs s₁ => wpAny (model prog w) A (call (.builtin id) vs) Q E s₁) E s) :
    wpAny (model prog w) A (eval (.Call (.Name f p) args [] pos) env) Q E s := by
  refine wpAny_Call_Name_kw (ldb h hB ge hx hp ?_)
  exact callWith_builtin (back_all hs) (evalArgs_spl hs k)

theorem call_meth {o : Expr} {name : Str} {apos pos : Pos} {args : List Expr} {T id : String} {Q : Value → Shared → Prop} (hbase : attributeBase o name env (eval o env) = eval o env)
    (hfew : args.length < 9) (hline : (apos.endLine == pos.line) = true) (pa : PlainAttrs T) (slot : Slot T name id) (hty : typeOf (.builtin id) = pure (.type "method_descriptor"))
    (hs : (args.all fun e => match e with | .Starred .. => false | _ => true) = true)
    (k : wpAny (model prog w) A (eval o env) (fun ov s₁ => (∃ a ob, ov = .ref a ∧ s₁.heap.get? a = some ob ∧ ob.cls = .type T ∧ ob.dict = none) ∧
      wpAny (model prog w) A (spl args env pos) (fun vs s₂ => wpAny (model prog w) A (call (.builtin id) (ov :: vs)) Q E s₂) E s₁) E s) :
    wpAny (model prog w) A (eval (.Call (.Attribute o name apos) args [] pos) env) Q E s := by
  have hall := back_all (env := env) (pos := pos) hs
  refine wpAny_Call_method hbase ?_ hline pa slot hty (wpAny_mono k (fun ov s₁ h₁ => ?_) fun _ _ e => e)
  · simp only [Bool.and_eq_true, decide_eq_true_eq]
    refine ⟨⟨?_, rfl⟩, by simp; lia⟩
    rw [List.all_eq_true]
    intro x hx
    have := List.any_eq_false.mp hall x hx
    simpa using this
  · obtain ⟨⟨a, ob, rfl, hob, hc, hd⟩, h₂⟩ := h₁
    exact ⟨⟨ob, hob, hc⟩, fun b e => by cases e; exact ⟨ob, hob, hd⟩, callWith_builtin hall (evalArgs_spl hs h₂)⟩
theorem lst_meth (h : St c S s) (hm : (a, LstP vs) ∈ S) : ∃ b ob, Value.ref a = .ref b ∧ s.heap.get? b = some ob ∧ ob.cls = .type "list" ∧ ob.dict = none := by
  obtain ⟨o, ho, hc, hd, _⟩ := h.get hm
  exact ⟨a, o, rfl, ho, hc, hd⟩

theorem sc_const {k : Const} {i : Nat} {p : Pos} {o v : Value} : subscripted (.Constant k i p) false o v = operate [o, v] (getItem o v) := rfl
theorem sc_name {x : Str} {p : Pos} {o v : Value} : subscripted (.Name x p) false o v = operate [o, v] (getItem o v) := rfl
theorem sub_tail {value slice : Expr} {o i : Value} {T id : String} {Q : Value → Shared → Prop} (hT : s.TypeIs o T) (hl : typeLookup (.type T) "__getitem__" = pure (some (.builtin id)))
    (hs : subscripted slice false o i = operate [o, i] (getItem o i)) (h : wpAny (model prog w) A (getItem o i) Q E s) : wpAny (model prog w) A (subscriptTail value slice o i) Q E s := by
  unfold subscriptTail
  refine wpAny_bind ?_
  rw [getitemInPython_of_ne hT.not_modules]
  refine wpAny_bind (wpAny_specialOf hT hl ?_)
  have fin : wpAny (model prog w) A (subscripted slice false o i) (fun r s₃ => wpAny (model prog w) A (letTemporaryGo value o r >>= fun _ => pure r) Q E s₃) E s := by
    rw [hs]
    exact wpAny_operating (wpAny_mono h (fun r s₃ h₃ => wpAny_bind (wpAny_letTemporaryGo (wpAny_pure h₃))) fun _ _ x => x)
  first
    | exact wpAny_pure (wpAny_bind fin)
    | exact wpAny_bind (wpAny_pure (wpAny_bind fin))
    | exact wpAny_bind fin
theorem sub_intlp {value slice : Expr} {k : Int} {t : Tok} {Q : Value → Shared → Prop} (h : St c S s) (hm : (a, IntLP ns) ∈ S) {y : Int} (h0 : 0 ≤ k) (hk : k < 2 ^ 63) (hx : ns[k.toNat]? = some y)
    (hs : subscripted slice false (.ref a) (.int k t) = operate [.ref a, .int k t] (getItem (.ref a) (.int k t))) (hq : ∀ t', Q (.int y t') s) : wpAny (model prog w) A (subscriptTail value slice (.ref a) (.int k t)) Q E s := by
  obtain ⟨o, ho, vs, ⟨hc, hdi, n, hd⟩, hi⟩ := h.get hm
  obtain ⟨t', e⟩ := hi.get _ _ hx
  have hl : s.heap.IsList a vs.toArray := ⟨o, ho, hc, n, hd⟩
  exact sub_tail hl.typeIs slot_list_getitem.lookup hs (wpAny_getItem_list hl h0 hk (x := .int y t') (by simpa using e) (hq t'))

theorem notin_ints {k : Int} {t : Tok} {Q : Value → Shared → Prop} (h : St c S s) (hm : (a, IntLP ns) ∈ S) (hq : Q (.bool (decide (k ∉ ns))) s) : wpAny (model prog w) A (compareOp .NotIn (.int k t) (.ref a)) Q E s := by
  obtain ⟨o, ho, vs, ⟨hc, hdi, n, hd⟩, hi⟩ := h.get hm
  have hl : s.heap.IsList a vs.toArray := ⟨o, ho, hc, n, hd⟩
  refine SeqInW.notIn_listW (fun y => match y with | .int j _ => j == k | _ => false) (fun y hy => ?_) hl ?_
  · obtain ⟨i, hi'⟩ := List.getElem?_of_mem (List.mem_toArray.mp hy)
    obtain ⟨n', t', rfl, _⟩ := hi.at i _ hi'
    exact MeetsSeq.EqGives.int _ _ _ _
  · have e : (!(vs.toArray.any fun y => match y with | .int j _ => j == k | _ => false)) = decide (k ∉ ns) := by
      clear hl hd hm hq
      rw [List.any_toArray]
      induction hi with
      | nil => simp
      | cons m u hi ih =>
        simp only [List.any_cons, Bool.not_or, List.mem_cons, not_or]
        rw [ih]
        by_cases q : m = k
        · subst q; simp
        · have q' : ¬ k = m := fun e => q e.symm
          simp [q, q']
    rw [e]; exact hq
theorem len_intlp {Q : Value → Shared → Prop} (h : St c S s) (hm : (a, IntLP ns) ∈ S) (hz : ns.length ≤ 900) (hq : ∀ t s', St c S s' → Q (.int ns.length t) s') : wpAny (model prog w) A (call (.builtin "len") [.ref a]) Q E s := by
  obtain ⟨o, ho, vs, ⟨hc, hdi, n, hd⟩, hi⟩ := h.get hm
  have e : ((vs.toArray.size : Nat) : Int) = ns.length := hi.sizeZ
  refine len_list ⟨o, ho, hc, n, hd⟩ (by rw [e]; lia) ?_
  rw [e]; exact hq _ _ (h.tok _)
theorem append_intlp {k : Int} {t : Tok} {Q : Value → Shared → Prop} (h : St c S s) (hm : (a, IntLP ns) ∈ S) (hz : ns.length ≤ 800) (u : Upd S a (IntLP (ns ++ [k])) S') (hq : ∀ s', St c S' s' → Q .none s') :
    wpAny (model prog w) A (call (.builtin "list.append") [.ref a, .int k t]) Q E s := by
  obtain ⟨o, ho, vs, ⟨hc, hdi, n, hd⟩, hi⟩ := h.get hm
  have hl : s.heap.IsList a vs.toArray := ⟨o, ho, hc, n, hd⟩
  have hlen := hi.length
  have hbig : (1000 : Nat) ≤ sizeLine := by decide
  refine wpAny_call_entry slot_list_append hl.typeIs entry_list_append ?_ (args_list_append _ _)
  show wpAny _ _ (updateSeq a (·.push (.int k t)) >>= fun _ => ret .none) _ _ s
  obtain ⟨n', hd'⟩ := Obj.data_mapSeq hd (·.push (.int k t))
  refine wpAny_bind (wpAny_updateSeq ho hd (wpAny_pure ⟨_, rfl, hq _ (h.set (t := s.toks) u (Heap.SameBut.update ..) ⟨_, Heap.get?_update_self _ ho (Obj.isFreed_of_seq hd'), vs ++ [.int k t], ⟨(Obj.cls_mapSeq ..).trans hc, ?_, n', by rw [hd']; simp⟩, hi.append (.cons _ _ .nil)⟩)⟩) (by rw [List.size_toArray]; lia) (by simp; lia))
  obtain ⟨cc, dd, dt, sl⟩ := o
  simp only at hd; subst hd
  exact hdi
theorem intlp_meth (h : St c S s) (hm : (a, IntLP ns) ∈ S) : ∃ b ob, Value.ref a = .ref b ∧ s.heap.get? b = some ob ∧ ob.cls = .type "list" ∧ ob.dict = none := by
  obtain ⟨o, ho, vs, ⟨hc, hd, _⟩, _⟩ := h.get hm
  exact ⟨a, o, rfl, ho, hc, hd⟩
theorem ite_tt {α : Type} {b : Bool} {P Q : Prop} (hb : b = true) (h : P) : (if b = true then P else Q) := by rw [if_pos hb]; exact h
theorem for_loop {R : Result → Shared → Prop} {target : Expr} {it : Value} {body orelse : List Stmt} (len : Nat) (J : Nat → Shared → Prop)
    (item : ∀ (E' : Value → Shared → Prop) i s, i < len → J i s → let K : Flow → Shared → Prop := (fun f s₃ => match f with
            | .next | .cont => J (i + 1) s₃
            | .brk => R (.ok .next) s₃
            | .ret v => R (.ok (.ret v)) s₃)
      wpAny (model prog w) A (pyNext it) (fun r s₁ => ∃ v, r = some v ∧
      wpAny (model prog w) A (letOwnedTupleGo target it v) (fun _ s₁' => wpAny (model prog w) A (assign target env v) (fun _ s₂ => wpAny (model prog w) A (execs body env) K E' s₂) E' s₁') E' s₁) E' s)
    (done : ∀ (E' : Value → Shared → Prop) s, J len s → wpAny (model prog w) A (pyNext it) (fun r s₁ => r = none ∧ wpAny (model prog w) A (execs orelse env) (fun f s₃ => R (.ok f) s₃) E' s₁) E' s)
    (h : J 0 s) : codeAny (model prog w) A (.forLoop target it body orelse env) R s := by
  refine codeAny_forLoop_any (fun n s => ∃ i, n = len - i ∧ i ≤ len ∧ J i s) (fun n s hI => ?_) len ⟨0, rfl, Nat.zero_le _, h⟩
  obtain ⟨i, hn, hi, hJ⟩ := hI
  rcases Nat.lt_or_ge i len with hlt | hge
  · refine wpAny_mono (item _ i s hlt hJ) (fun r s₁ h₁ => ?_) fun _ _ e => e
    obtain ⟨v, rfl, h₂⟩ := h₁
    refine wpAny_mono h₂ (fun _ s₂ h₃ => wpAny_mono h₃ (fun _ s₃ h₄ => wpAny_mono h₄ (fun f s₄ h₅ => ?_) fun _ _ e => e) fun _ _ e => e) fun _ _ e => e
    cases f with
    | next => exact ⟨len - (i + 1), by lia, i + 1, rfl, hlt, h₅⟩
    | cont => exact ⟨len - (i + 1), by lia, i + 1, rfl, hlt, h₅⟩
    | brk => exact h₅
    | ret v => exact h₅
  · have : i = len := by lia
    subst this
    refine wpAny_mono (done _ s hJ) (fun r s₁ h₁ => ?_) fun _ _ e => e
    obtain ⟨rfl, h₂⟩ := h₁
    exact h₂
theorem while_loop {R : Result → Shared → Prop} {test : Expr} {body orelse : List Stmt} (J : Nat → Shared → Prop)
    (turn : ∀ (E' : Value → Shared → Prop) n s, J n s → let K : Flow → Shared → Prop := (fun f s₃ => match f with
            | .next | .cont => ∃ m, m < n ∧ J m s₃
            | .brk => R (.ok .next) s₃
            | .ret v => R (.ok (.ret v)) s₃)
      wpAny (model prog w) A (isTrue test env (eval test env)) (fun b s₂ =>
        if b then wpAny (model prog w) A (execs body env) K E' s₂
        else wpAny (model prog w) A (execs orelse env) (fun f s₃ => R (.ok f) s₃) E' s₂) E' s)
    (n : Nat) (h : J n s) : codeAny (model prog w) A (.whileLoop test body orelse env) R s :=
  codeAny_whileLoop J (fun n s hJ => turn _ n s hJ) n h
theorem St.ext {P : Obj → Prop} (h : St c S s) (t : Take S (a, P) S') {h' : Heap} {tk : Nat} (hx : Heap.ExtBut a s.heap h') : St c S' { s with heap := h', toks := tk } := by
  have h₁ := h.perm t.perm
  have hz := (h₁.own _ (.head _)).1
  refine ⟨fun b o e => hx b o (fun q => ?_) (h.keep b o e), fun p hp => ?_, (List.nodup_cons.mp h₁.nd).2, fun q hq => h₁.one q (.tail _ hq), h.gens, h.drawn, h.os⟩
  · subst q; rw [hz] at e; cases e
  · obtain ⟨z, o, e, q⟩ := h₁.own p (.tail _ hp)
    exact ⟨z, o, hx _ _ (fun q' => (List.nodup_cons.mp h₁.nd).1 (List.mem_map.mpr ⟨p, hp, q'⟩)) e, q⟩
noncomputable def LItP (l : Addr) (i : Nat) (o : Obj) : Prop := o.cls = .type "list_iterator" ∧ o.data = .fields #[.ref l, .int i 0]
theorem iter_list {l : Addr} {items : Array Value} {Q : Value → Shared → Prop} (h : St c S s) (hl : s.heap.IsList l items) (hq : ∀ it s', St c ((it, LItP l 0) :: S) s' → Q (.ref it) s') : wpAny (model prog w) A (pyIter (.ref l)) Q E s :=
  wpAny_pyIter_list hl (hq _ _ (h.push (t := s.toks) _ rfl ⟨rfl, rfl⟩))
theorem next_item {it l : Addr} {i : Nat} {items : Array Value} {x : Value} {Q : Option Value → Shared → Prop} (h : St c S s) (hit : (it, LItP l i) ∈ S) (hl : s.heap.IsList l items) (hx : items[i]? = some x) (u : Upd S it (LItP l (i + 1)) S')
    (hq : ∀ s', St c S' s' → Q (some x) s') : wpAny (model prog w) A (pyNext (.ref it)) Q E s := by
  obtain ⟨o, ho, hc, hd⟩ := h.get hit
  exact wpAny_pyNext_list_item ⟨o, ho, hc, hd⟩ hl hx fun h' ⟨o', ho', hc', hd'⟩ hs => hq _ (h.set (t := s.toks) u hs ⟨o', ho', hc', hd'⟩)
theorem next_end {it l : Addr} {i : Nat} {items : Array Value} {Q : Option Value → Shared → Prop} (hh : A.handled = none) (h : St c S s) (t : Take S (it, LItP l i) S') (hl : s.heap.IsList l items) (hx : items[i]? = none)
    (hq : ∀ s', St c S' s' → Q none s') : wpAny (model prog w) A (pyNext (.ref it)) Q E s := by
  obtain ⟨o, ho, hc, hd⟩ := h.get t.mem.1
  exact wpAny_pyNext_list_end hh ⟨o, ho, hc, hd⟩ hl hx fun h' hs => hq _ (h.ext (tk := s.toks) t hs)

theorem intl_of {vs : List Value} {ns : List Int} (hi : IntsAre vs ns) : ∀ o, LstP vs o → IntL ns o := fun _ ho => let ⟨n, hd⟩ := ho.2.2; ⟨ho.1, _, n, hd, hi⟩
theorem intlp_of {vs : List Value} {ns : List Int} (hi : IntsAre vs ns) : ∀ o, LstP vs o → IntLP ns o := fun _ ho => ⟨vs, ho, hi⟩
theorem list_disp {elts : List Expr} {pos : Pos} {Q : Value → Shared → Prop}
    (h : wpAny (model prog w) A (spl elts env pos) (fun vs s₁ => ∃ S₁, St c S₁ s₁ ∧ vs.length ≤ 1000 ∧ ∀ b s', St c ((b, LstP vs) :: S₁) s' → Q (.ref b) s') E s) : wpAny (model prog w) A (eval (.List elts pos) env) Q E s := by
  refine wpAny_List (wpAny_mono h (fun vs s₁ h₁ => ?_) fun _ _ e => e)
  obtain ⟨S₁, h₂, hz, k⟩ := h₁
  have hb : (1000 : Nat) ≤ sizeLine := by decide
  exact ⟨by lia, k _ _ (h₂.push (t := s₁.toks) _ rfl ⟨rfl, rfl, _, rfl⟩)⟩
theorem tup_disp {elts : List Expr} {k' : Nat} {pos : Pos} {Q : Value → Shared → Prop}
    (h : wpAny (model prog w) A (spl elts env pos) (fun vs s₁ => ∃ S₁, St c S₁ s₁ ∧ vs.length ≤ 1000 ∧ ∀ b s', St c ((b, fun o => o = { cls := .type "tuple", data := .seq vs.toArray }) :: S₁) s' → Q (.ref b) s') E s) : wpAny (model prog w) A (eval (.Tuple elts k' pos) env) Q E s := by
  refine Tuple_ (wpAny_mono h (fun vs s₁ h₁ => ?_) fun _ _ e => e)
  obtain ⟨S₁, h₂, hz, k⟩ := h₁
  have hb : (1000 : Nat) ≤ sizeLine := by decide
  exact wpAny_newTuple (k _ _ (h₂.push (t := s₁.toks) _ rfl rfl)) (by lia)

noncomputable def TupP (vs : List Value) (o : Obj) : Prop := o.cls = .type "tuple" ∧ ∃ n, o.data = .seq vs.toArray n
theorem each_one {e : Expr} {r : List Expr} (h : (match e with | .Starred .. => false | _ => true) = true) : assignEach (e :: r) env = (false, assign e env) :: assignEach r env := by
  cases e <;> first | rfl | (cases h; done)
theorem assign_tup2 {e1 e2 : Expr} {k : Nat} {pos : Pos} {t : Addr} {v1 v2 : Value} {Q : Unit → Shared → Prop} (hh : A.handled = none) (h : St c S s) (ht : ∃ o, s.heap.get? t = some o ∧ TupP [v1, v2] o)
    (hst : (([e1, e2] : List Expr).all fun e => match e with | .Starred .. => false | _ => true) = true)
    (k' : ∀ s', St c S s' → wpAny (model prog w) A (assign e1 env v1) (fun _ s₁ => wpAny (model prog w) A (assign e2 env v2) Q E s₁) E s') :
    wpAny (model prog w) A (assign (.Tuple [e1, e2] k pos) env (.ref t)) Q E s := by
  obtain ⟨o, ho, hc, n, hd⟩ := ht
  have he : assignEach [e1, e2] env = [(false, assign e1 env), (false, assign e2 env)] := by
    simp only [List.all_cons, List.all_nil, Bool.and_true, Bool.and_eq_true] at hst
    rw [each_one hst.1, each_one hst.2]; rfl
  refine wpAny_assign_Tuple hh (items := #[v1, v2]) ⟨o, ho, hc, n, hd⟩ (by rw [he]; rfl) (by rw [he]; rfl) fun h' hx => ?_
  rw [he]
  refine wpAny_assignInOrder_more (wpAny_mono (k' _ (h.more (t := s.toks) fun b o e => hx b o (Nat.ne_of_lt (Heap.lt_size e)) e)) (fun _ s₁ h₁ => wpAny_assignInOrder_more (wpAny_mono h₁ (fun _ _ h₂ => wpAny_assignInOrder_none h₂) fun _ _ e => e)) fun _ _ e => e)
end
end
section
structure KZ (w : World) (Z : Addr → Option Obj) : Prop extends GB Z where
  k : ∀ a o, (hd.heap_1 w.params).lookup a = some o → nd a = true → a ≠ 84 → Z a = some o
end
section
section
variable {prog : Program} {w : World} {A : Around} {c : Cfg} {F : List Ent} {s : Shared} {a : Addr}

theorem next_spec {R : Result → Shared → Prop} {x m : Int} {tm : Tok} (h : St c ((a, IntL [x]) :: F) s) (hB : KZ w c.Z) (hA : Room A 3) (hx : 0 ≤ x ∧ x < 2147483647) (hm : 0 < m)
    (hR : ∀ x' r t s', 0 ≤ x' → x' < 2147483647 → 0 ≤ r → r < m → St c ((a, IntL [x']) :: F) s' → R (.ok (.ret (.int r t))) s') :
    codeAny (model prog w) A (.call (.ref 810) ⟨[.ref a, .int m tm], []⟩) R s := by
  refine enter (l := [("s", some (.ref a)), ("many", some (.int m tm))]) (ns := ["s", "many"]) (binds := [("s", .ref a), ("many", .int m tm)]) (n := 2) h hB.toBase hA (hB.k 810 _ rfl (by decide) (by decide)) rfl
    ⟨809, _, _, _, rfl, hB.k 809 _ rfl (by decide) (by decide), rfl, rfl⟩ rfl (BindsTo.of_eq rfl) (by rfl) (by rfl) rfl (by rfl) (by rfl) ?_ rfl rfl rfl
  rintro env s₁ ⟨L, hE⟩ hA₁ h₁
  clear h hE
  kd_p; kd_p; kd_p; kd_p; kd_p; kd_p
  refine ld h₁ (by lk) ?_
  kd_p
  refine sub_ints (h₁.tok _) (by lk) (k := 0) (by decide) (by decide) rfl sc_const (fun _ => rfl) fun t₁ => ?_
  kd_p
  (first | k_in | ((with_reducible refine mul_int ?_ ?hm); (case hm => exact IntMulOk.of_right (by decide +kernel))) | ((with_reducible refine mod_int' ?hb ?_); (case hb => first | decide | lia)) | ((with_reducible refine floordiv_int ?hb ?_ ?hp); (case hb => decide); (case hp => exact Or.inl (PyProof.noPylong_of_log2 (by decide +kernel)))))
  kd_p
  kd_p
  kd_p
  (first | k_in | ((with_reducible refine mul_int ?_ ?hm); (case hm => exact IntMulOk.of_right (by decide +kernel))) | ((with_reducible refine mod_int' ?hb ?_); (case hb => first | decide | lia)) | ((with_reducible refine floordiv_int ?hb ?_ ?hp); (case hb => decide); (case hp => exact Or.inl (PyProof.noPylong_of_log2 (by decide +kernel)))))
  refine ld ((h₁.tok _)) (by lk) ?_
  kd_p
  refine set_ints (h₁.tok _) (by lk) (by decide) (by decide) (by simp) rfl (by kt_k) fun s₂ h₂ => ?_
  kd_p
  kd_p; kd_p; kd_p; kd_p
  refine ld h₂ (by lk) ?_
  kd_p
  refine sub_ints (h₂.tok _) (by lk) (k := 0) (by decide) (by decide) rfl sc_const (fun _ => rfl) fun t₁ => ?_
  kd_p
  (first | k_in | ((with_reducible refine mul_int ?_ ?hm); (case hm => exact IntMulOk.of_right (by decide +kernel))) | ((with_reducible refine mod_int' ?hb ?_); (case hb => first | decide | lia)) | ((with_reducible refine floordiv_int ?hb ?_ ?hp); (case hb => decide); (case hp => exact Or.inl (PyProof.noPylong_of_log2 (by decide +kernel)))))
  refine ld ((h₂.tok _)) (by lk) ?_
  (first | k_in | ((with_reducible refine mul_int ?_ ?hm); (case hm => exact IntMulOk.of_right (by decide +kernel))) | ((with_reducible refine mod_int' ?hb ?_); (case hb => first | decide | lia)) | ((with_reducible refine floordiv_int ?hb ?_ ?hp); (case hb => decide); (case hp => exact Or.inl (PyProof.noPylong_of_log2 (by decide +kernel)))))
  have e1 : ((x * 48271 + 11).fmod 2147483647) = (x * 48271 + 11) % 2147483647 := Int.fmod_eq_emod_of_nonneg _ (by decide)
  refine hR _ _ _ _ (by rw [e1]; lia) (by rw [e1]; lia) ?_ ?_ (h₂.tok _).tailOf
  · rw [Int.fmod_eq_emod_of_nonneg _ (by lia)]; exact Int.emod_nonneg _ (by lia)
  · rw [Int.fmod_eq_emod_of_nonneg _ (by lia)]; exact Int.emod_lt_of_pos _ hm

noncomputable def FInts (Z : Addr → Option Obj) (l : Addr) (ns : List Int) : Prop := ∃ o vs n, Z l = some o ∧ o.cls = .type "list" ∧ o.data = .seq vs n ∧ IntsAre vs.toList ns
theorem seed_spec {R : Result → Shared → Prop} {l : Addr} {ns : List Int} (h : St c F s) (hB : KZ w c.Z) (hA : Room A 3) (hl : FInts c.Z l ns) (hn : ns.length ≤ 63)
    (hR : ∀ x b s', 0 ≤ x → x < 2147483647 → St c ((b, IntL [x]) :: F) s' → R (.ok (.ret (.ref b))) s') :
    codeAny (model prog w) A (.call (.ref 803) ⟨[.ref l], []⟩) R s := by
  refine enter (l := [("script", some (.ref l)), ("seed", none), ("cell", none)]) (ns := ["script", "seed", "cell"]) (binds := [("script", .ref l)]) (n := 2) h hB.toBase hA (hB.k 803 _ rfl (by decide) (by decide)) rfl
    ⟨802, _, _, _, rfl, hB.k 802 _ rfl (by decide) (by decide), rfl, rfl⟩ rfl (BindsTo.of_eq rfl) (by rfl) (by rfl) rfl (by rfl) (by rfl) ?_ rfl rfl rfl
  rintro env s₁ ⟨L, hE⟩ hA₁ h₁
  have ge : GE env ["abs"] := .of (by rw [hE]; rfl) (by rw [hE]; rfl) (by rw [hE]; rfl)
  clear h hE
  refine ex3 hl fun ol vs n hE2 => ?_
  clear hl
  refine an4 hE2 fun hz hc hd hi => ?_
  clear hE2
  kd_p; kd_p; kd_p
  refine sto (h₁.tok _) (by room) fun s₂ h₂ => ?_
  kd_p
  kd_p
  refine wpAny_Subscript_list_slice ?_ (fun _ _ => rfl)
  refine ld h₂ (by lk) ?_
  refine wpAny_evalPart_none ?_
  refine wpAny_evalPart_some ?_
  kd_p
  have hi' := hi.pick none (some 24) none
  have hl : s₂.heap.IsList l vs := ⟨ol, h₂.keep _ _ hz, hc, n, hd⟩
  have hsz : vs.size ≤ sizeLine := by
    have e1 := hi.length
    have e2 : (1000 : Nat) ≤ sizeLine := by decide
    rw [Array.length_toList] at e1
    lia
  refine ⟨l, vs, none, some 24, rfl, hl, hsz, .none, .int _ _, ?_⟩
  generalize hgp : slicePick vs none (some 24) none = vs' at *
  generalize hgq : pickNums ns none (some 24) none = ns' at *
  have h₃ := (h₂.more (h' := s₂.heap.push { cls := .type "slice", data := .fields #[.none, .int 24 s₂.toks, .none] }) (t := s₂.toks + 1) (fun _ _ e => Heap.get?_push_of_some _ e)).push (P := LstP vs'.toList) (t := s₂.toks + 1) { cls := .type "list", data := .seq vs' } rfl ⟨rfl, rfl, _, rfl⟩
  simp only [Heap.size_push] at h₃
  refine iter_list h₃ (lst_is h₃ (by lk)) fun it s₄ h₄ => ?_
  refine for_loop ns'.length (fun i s => ∃ x t v, 0 ≤ x ∧ x < 2147483647 ∧ St c ((it, LItP (s₂.heap.objs.size + 1) i) :: (env.locals, FrP env [("script", some (.ref l)), ("seed", some (.int x t)), ("cell", v)]) :: (s₂.heap.objs.size + 1, LstP vs'.toList) :: F) s) ?_ ?_ ⟨17, _, _, by decide, by decide, h₄.sub (.cons (by w_up) (fun _ h => h) (.cons (by w_up) (fun _ h => h) (.cons (by w_up) (fun _ h => h) .refl)))⟩
  · rintro E' i s hlt hE1
    refine ex3 hE1 fun x t v hE2 => ?_
    clear hE1
    refine an3 hE2 fun hx0 hx1 h₅ => ?_
    clear hE2
    intro Kq
    obtain ⟨t', hv⟩ := hi'.get i ns'[i] (by simp [hlt])
    refine next_item h₅ (by lk) (lst_is h₅ (by lk)) (x := .int ns'[i] t') (by simpa using hv) (by kt_k) fun s₆ h₆ => ⟨_, rfl, ?_⟩
    refine wpAny_pure ?_
    have h₆ := h₆.sub (.cons (a := env.locals) (by w_up) (fun _ h => h) .refl)
    kd_p
    refine sto h₆ (by room) fun s₇ h₇ => ?_
    kd_p; kd_p; kd_p; kd_p; kd_p; kd_p
    refine ld h₇ (by lk) ?_
    kd_p
    (first | k_in | ((with_reducible refine mul_int ?_ ?hm); (case hm => exact IntMulOk.of_right (by decide +kernel))) | ((with_reducible refine mod_int' ?hb ?_); (case hb => first | decide | lia)) | ((with_reducible refine floordiv_int ?hb ?_ ?hp); (case hb => decide); (case hp => exact Or.inl (PyProof.noPylong_of_log2 (by decide +kernel)))))
    kd_p
    refine call_bi (h₇.tok _) hB.toGB ge (by lk) (by lk) rfl ?_
    refine spl_cons ?_ rfl
    refine ld (h₇.tok _) (by lk) ?_
    refine spl_nil ?_
    refine call_abs_int fun u tk => ?_
    kd_p
    (first | k_in | ((with_reducible refine mul_int ?_ ?hm); (case hm => exact IntMulOk.of_right (by decide +kernel))) | ((with_reducible refine mod_int' ?hb ?_); (case hb => first | decide | lia)) | ((with_reducible refine floordiv_int ?hb ?_ ?hp); (case hb => decide); (case hp => exact Or.inl (PyProof.noPylong_of_log2 (by decide +kernel))))); (first | k_in | ((with_reducible refine mul_int ?_ ?hm); (case hm => exact IntMulOk.of_right (by decide +kernel))) | ((with_reducible refine mod_int' ?hb ?_); (case hb => first | decide | lia)) | ((with_reducible refine floordiv_int ?hb ?_ ?hp); (case hb => decide); (case hp => exact Or.inl (PyProof.noPylong_of_log2 (by decide +kernel))))); kd_p; (first | k_in | ((with_reducible refine mul_int ?_ ?hm); (case hm => exact IntMulOk.of_right (by decide +kernel))) | ((with_reducible refine mod_int' ?hb ?_); (case hb => first | decide | lia)) | ((with_reducible refine floordiv_int ?hb ?_ ?hp); (case hb => decide); (case hp => exact Or.inl (PyProof.noPylong_of_log2 (by decide +kernel))))); kd_p; (first | k_in | ((with_reducible refine mul_int ?_ ?hm); (case hm => exact IntMulOk.of_right (by decide +kernel))) | ((with_reducible refine mod_int' ?hb ?_); (case hb => first | decide | lia)) | ((with_reducible refine floordiv_int ?hb ?_ ?hp); (case hb => decide); (case hp => exact Or.inl (PyProof.noPylong_of_log2 (by decide +kernel)))))
    refine sto (h₇.tok _) (by room) fun s₈ h₈ => ?_
    kd_p
    refine ⟨_, _, _, ?_, ?_, h₈.sub (.cons (a := it) (by w_up) (fun _ h => h) (.cons (by w_up) (fun _ h => h) .refl))⟩
    · rw [Int.fmod_eq_emod_of_nonneg _ (by decide)]; exact Int.emod_nonneg _ (by decide)
    · rw [Int.fmod_eq_emod_of_nonneg _ (by decide)]; exact Int.emod_lt_of_pos _ (by decide)
  · rintro E' s hE1
    refine ex3 hE1 fun x t v hE2 => ?_
    clear hE1
    refine an3 hE2 fun hx0 hx1 h₅ => ?_
    clear hE2
    refine next_end hA₁.handled h₅ (by w_up) (lst_is h₅ (by lk)) (by have := hi'.length; simp at this ⊢; lia) fun s₆ h₆ => ⟨rfl, ?_⟩
    kd_p
    kd_p; kd_p
    refine list_disp (c := c) ?_
    refine spl_cons ?_ rfl
    refine ld h₆ (by lk) ?_
    refine spl_nil ⟨_, h₆, by simp, fun b s' h' => ?_⟩
    refine hR x b _ hx0 hx1 (h'.sub (.cons (by w_up) (intl_of (.cons _ _ .nil)) (.drop (.drop .refl))))
end
end
section

inductive Tups (Z : Addr → Option Obj) : List Value → List (Int × Int) → Prop
  | nil : Tups Z [] []
  | cons {a : Addr} {o : Obj} {u v : Int} {tu tv : Tok} {vs : List Value} {as : List (Int × Int)} : Z a = some o → TupP [.int u tu, .int v tv] o → Tups Z vs as → Tups Z (.ref a :: vs) ((u, v) :: as)
theorem Tups.length {Z : Addr → Option Obj} {vs : List Value} {as : List (Int × Int)} (h : Tups Z vs as) : vs.length = as.length := by
  induction h with
  | nil => rfl
  | cons _ _ _ ih => simp only [List.length_cons, ih]
theorem Tups.get {Z : Addr → Option Obj} {vs : List Value} {as : List (Int × Int)} (h : Tups Z vs as) : ∀ (i : Nat) (p : Int × Int), as[i]? = some p → ∃ a o tu tv, vs[i]? = some (.ref a) ∧ Z a = some o ∧ TupP [.int p.1 tu, .int p.2 tv] o := by
  induction h with
  | nil => intro i p hp; simp at hp
  | cons hz hp _ ih =>
    intro i p e
    cases i with
    | zero => cases e; exact ⟨_, _, _, _, rfl, hz, hp⟩
    | succ i => exact ih i p (by simpa using e)
noncomputable def FArr (Z : Addr → Option Obj) (l : Addr) (as : List (Int × Int)) : Prop := ∃ o vs n, Z l = some o ∧ o.cls = .type "list" ∧ o.data = .seq vs n ∧ Tups Z vs.toList as

inductive ReachA (as : List (Int × Int)) (wo : Option Int) (s : Int) : Int → Prop
  | base : some s ≠ wo → ReachA as wo s s
  | step {u v : Int} : ReachA as wo s u → (u, v) ∈ as → some v ≠ wo → ReachA as wo s v
noncomputable def WoV (wo : Option Int) (v : Value) : Prop := match wo with
  | none => v = .none
  | some k => ∃ t, v = .int k t

theorem not_inter {env : Env} (h : env.scope.kind = .function) : interactive env = false := by
  unfold interactive; rw [h]; rfl
theorem fr_kind {c : Cfg} {S : List Ent} {s : Shared} {env : Env} {l : List (Str × Option Value)} (h : St c ((env.locals, FrP env l) :: S) s) : interactive env = false := not_inter (fr_facts h).2.2

section
variable {prog : Program} {w : World} {A : Around} {E : Value → Shared → Prop} {c : Cfg} {F : List Ent} {s : Shared} {a : Addr}
theorem ite_join {α : Type} {M : Model} {b : Bool} {t1 t2 : Sem α} {Q : α → Shared → Prop} (J : α → Shared → Prop) (h1 : b = true → wpAny M A t1 J E s) (h2 : b = false → wpAny M A t2 J E s) (k : ∀ v s', J v s' → Q v s') :
    if b = true then wpAny M A t1 Q E s else wpAny M A t2 Q E s := by
  cases b with
  | true => rw [if_pos rfl]; exact wpAny_mono (h1 rfl) k fun _ _ e => e
  | false => rw [if_neg Bool.false_ne_true]; exact wpAny_mono (h2 rfl) k fun _ _ e => e
theorem eq_wo {k : Int} {t : Tok} {wo : Option Int} {wv : Value} {Q : Value → Shared → Prop} (hw : WoV wo wv) (hq : Q (.bool (decide (some k = wo))) s) : wpAny (model prog w) A (compareOp .Eq (.int k t) wv) Q E s := by
  cases wo with
  | none =>
    cases hw
    exact EqNone.eq_int_none (by simpa using hq)
  | some j =>
    obtain ⟨u, rfl⟩ := hw
    refine P.eq_int ?_
    have e : decide (some k = some j) = (k == j) := by by_cases q : k = j <;> simp [q]
    rw [← e]; exact hq
theorem ne_wo {k : Int} {t : Tok} {wo : Option Int} {wv : Value} {Q : Value → Shared → Prop} (hw : WoV wo wv) (hq : Q (.bool (decide (some k ≠ wo))) s) : wpAny (model prog w) A (compareOp .NotEq (.int k t) wv) Q E s := by
  cases wo with
  | none =>
    cases hw
    exact EqNone.ne_int_none (by simpa using hq)
  | some j =>
    obtain ⟨u, rfl⟩ := hw
    refine P.ne_int ?_
    have e : decide (some k ≠ some j) = (k != j) := by by_cases q : k = j <;> simp [q]
    rw [← e]; exact hq

theorem nodup_len {α : Type} [BEq α] [LawfulBEq α] : ∀ {f l : List α}, f.Nodup → f ⊆ l → f.length ≤ l.length
  | [], _, _, _ => Nat.zero_le _
  | x :: f, l, hn, hs => by
    rw [List.nodup_cons] at hn
    have hx : x ∈ l := hs (.head _)
    have h := nodup_len (l := l.erase x) hn.2 fun y hy => by
      have hne : y ≠ x := fun e => hn.1 (e ▸ hy)
      exact (List.mem_erase_of_ne hne).mpr (hs (.tail _ hy))
    have e := List.length_erase_of_mem hx
    have pos : 0 < l.length := List.length_pos_of_mem hx
    simp only [List.length_cons]
    lia
theorem reach_len {as : List (Int × Int)} {wo : Option Int} {st : Int} {f : List Int} (hnd : f.Nodup) (hre : ∀ x ∈ f, ReachA as wo st x) (has : ∀ p ∈ as, 0 ≤ p.2 ∧ p.2 < 5) (hst : 0 ≤ st ∧ st < 5) : f.length ≤ 5 := by
  have hr : ∀ x, ReachA as wo st x → 0 ≤ x ∧ x < 5 := by
    intro x hx
    induction hx with
    | base => exact hst
    | step _ hm _ _ => exact has _ hm
  have hsub : f ⊆ [0, 1, 2, 3, 4] := by
    intro x hx
    obtain ⟨h0, h5⟩ := hr x (hre x hx)
    have : x = 0 ∨ x = 1 ∨ x = 2 ∨ x = 3 ∨ x = 4 := by lia
    rcases this with rfl | rfl | rfl | rfl | rfl <;> decide
  exact nodup_len hnd hsub
theorem reached_spec {R : Result → Shared → Prop} {n st : Int} {tn ts : Tok} {l : Addr} {as : List (Int × Int)} {wo : Option Int} {wv : Value} (h : St c F s) (hB : KZ w c.Z) (hA : Room A 3) (hl : FArr c.Z l as) (hw : WoV wo wv)
    (has : ∀ p ∈ as, 0 ≤ p.2 ∧ p.2 < 5) (hst : 0 ≤ st ∧ st < 5)
    (hR : ∀ f b s', f.Nodup → (∀ x, x ∈ f ↔ ReachA as wo st x) → St c ((b, IntLP f) :: F) s' → R (.ok (.ret (.ref b))) s') :
    codeAny (model prog w) A (.call (.ref 817) ⟨[.int n tn, .ref l, .int st ts, wv], []⟩) R s := by
  refine enter (l := [("many", some (.int n tn)), ("arrows", some (.ref l)), ("start", some (.int st ts)), ("without", some (wv)), ("found", none), ("at", none), ("u", none), ("v", none)]) (ns := ["many", "arrows", "start", "without", "found", "at", "u", "v"])
    (binds := [("many", .int n tn), ("arrows", .ref l), ("start", .int st ts), ("without", wv)]) (n := 2) h hB.toBase hA (hB.k 817 _ rfl (by decide) (by decide)) rfl
    ⟨816, _, _, _, rfl, hB.k 816 _ rfl (by decide) (by decide), rfl, rfl⟩ rfl (BindsTo.of_eq rfl) (by rfl) (by rfl) rfl (by rfl) (by rfl) ?_ rfl rfl rfl
  rintro env s₁ ⟨L, hE⟩ hA₁ h₁
  have ge : GE env ["len"] := .of (by rw [hE]; rfl) (by rw [hE]; rfl) (by rw [hE]; rfl)
  have hint := fr_kind h₁
  clear h hE
  refine ex3 hl fun ol vs nl hE2 => ?_
  clear hl
  refine an4 hE2 fun hz hc hd hi => ?_
  clear hE2
  kd_p; kd_p; kd_p; kd_p
  refine ld h₁ (by lk) ?_
  refine ld h₁ (by lk) ?_
  refine eq_wo hw ?_
  kd_p
  refine ite_join (fun v s' => ∃ b f, v = .ref b ∧ St c ((env.locals, FrP env [("many", some (.int n tn)), ("arrows", some (.ref l)), ("start", some (.int st ts)), ("without", some (wv)), ("found", none), ("at", none), ("u", none), ("v", none)]) :: (b, IntLP f) :: F) s' ∧ f.Nodup ∧ (∀ x ∈ f, ReachA as wo st x) ∧ (some st ≠ wo → st ∈ f)) (fun hb => ?_) (fun hb => ?_) ?_
  · refine list_disp (c := c) (spl_nil ⟨_, h₁, by simp, fun b s' h' => ⟨b, [], rfl, (h'.sub (.cons (by w_up) (intlp_of .nil) .refl)).perm (.swap ..), .nil, by simp, fun hn => ?_⟩⟩)
    simp only [decide_eq_true_eq] at hb
    exact absurd hb hn
  · refine list_disp (c := c) (spl_cons ?_ rfl)
    refine ld h₁ (by lk) ?_
    refine spl_nil ⟨_, h₁, by simp, fun b s' h' => ⟨b, [st], rfl, (h'.sub (.cons (by w_up) (intlp_of (.cons _ _ .nil)) .refl)).perm (.swap ..), by simp, fun x hx => ?_, fun _ => by simp⟩⟩
    simp only [decide_eq_false_iff_not] at hb
    rw [List.mem_singleton.mp hx]
    exact .base hb
  rintro v s₂ hE1
  refine ex2 hE1 fun b f₀ hE2 => ?_
  clear hE1
  refine an5 hE2 fun hR1 h₂ hnd₀ hre₀ hst₀ => ?_
  clear hE2
  subst hR1
  refine sto h₂ (by room) fun s₃ h₃ => ?_
  kd_p; kd_p; kd_p
  refine sto (h₃.tok _) (by room) fun s₄ h₄ => ?_
  kd_p; kd_p
  refine while_loop (fun fu s => ∃ (k : Nat) (t : Tok) (f : List Int) (vu vv : Option Value), fu = 6 - k ∧ St c ((env.locals, FrP env [("many", some (.int n tn)), ("arrows", some (.ref l)), ("start", some (.int st ts)), ("without", some (wv)), ("found", some (.ref b)), ("at", some (.int k t)), ("u", vu), ("v", vv)]) :: (b, IntLP f) :: F) s ∧ f.Nodup ∧ (∀ x ∈ f, ReachA as wo st x) ∧ (some st ≠ wo → st ∈ f) ∧ k ≤ f.length ∧ (∀ i, i < k → ∀ p ∈ as, f[i]? = some p.1 → some p.2 ≠ wo → p.2 ∈ f)) ?_ 6 ⟨0, _, f₀, none, none, rfl, h₄, hnd₀, hre₀, hst₀, Nat.zero_le _, fun i hi => absurd hi (Nat.not_lt_zero _)⟩
  rintro E' m s hE1
  refine ex5 hE1 fun k t f vu vv hE2 => ?_
  clear hE1
  refine an7 hE2 fun hR1 h₅ hnd hre hst' hk hcl => ?_
  clear hE2
  subst hR1
  intro Kq
  have hf5 : f.length ≤ 5 := reach_len hnd hre has hst
  kd_p
  refine ld h₅ (by lk) ?_
  refine call_bi h₅ hB.toGB ge (by lk) (by lk) rfl ?_
  refine spl_cons ?_ rfl
  refine ld h₅ (by lk) ?_
  refine spl_nil ?_
  refine len_intlp h₅ (by lk) (by lia) fun t₂ s₆ h₆ => ?_
  k_in
  kd_p
  (with_reducible first | refine ite_dec (fun hif => ?_) (fun hif => ?_) | refine ite_beq (fun hif => ?_) (fun hif => ?_) | refine ite_bne (fun hif => ?_) (fun hif => ?_))
  · kd_p; kd_p
    refine ld h₆ (by lk) ?_
    refine iter_list h₆ ⟨ol, h₆.keep _ _ hz, hc, nl, hd⟩ fun it s₇ h₇ => ?_
    have h₇ := h₇.perm (.swap ..)
    refine for_loop as.length (fun j s => ∃ (f' : List Int) (vu vv : Option Value), f'[k]? = f[k]? ∧ f <+: f' ∧ St c ((env.locals, FrP env [("many", some (.int n tn)), ("arrows", some (.ref l)), ("start", some (.int st ts)), ("without", some (wv)), ("found", some (.ref b)), ("at", some (.int k t)), ("u", vu), ("v", vv)]) :: (it, LItP l j) :: (b, IntLP f') :: F) s ∧ f'.Nodup ∧ (∀ x ∈ f', ReachA as wo st x) ∧
      (∀ i, i < j → ∀ p, as[i]? = some p → f[k]? = some p.1 → some p.2 ≠ wo → p.2 ∈ f')) ?_ ?_ ⟨f, vu, vv, rfl, List.prefix_refl _, h₇, hnd, hre, fun i hi => absurd hi (Nat.not_lt_zero _)⟩
    · rintro E'' j s hj hE1
      refine ex3 hE1 fun f' vu vv hE2 => ?_
      clear hE1
      refine an6 hE2 fun hfk hpre h₈ hnd' hre' hcl' => ?_
      clear hE2
      intro Kq
      have hf5' : f'.length ≤ 5 := reach_len hnd' hre' has hst
      obtain ⟨a, o, tu, tv, hv, ho, hp⟩ := hi.get j as[j] (by simp [hj])
      refine next_item h₈ (by lk) ⟨ol, h₈.keep _ _ hz, hc, nl, hd⟩ (x := .ref a) (by simpa using hv) (by kt_k) fun s₉ h₉ => ⟨_, rfl, ?_⟩
      obtain ⟨oi, hoi, hoc, hod⟩ := h₉.get (a := it) (by lk)
      refine wpAny_letOwnedTupleGo_listiter ⟨oi, hoi, hoc, hod⟩ ?_
      refine assign_tup2 hA₁.handled h₉ ⟨o, h₉.keep _ _ ho, hp⟩ rfl fun sa ha => ?_
      kd_p
      refine sto ha (by room) fun sb hb => ?_
      kd_p
      refine sto hb (by room) fun sc hc' => ?_
      kd_p; kd_p; kd_p; kd_p; kd_p
      refine ld hc' (by lk) ?_
      kd_p
      refine ld hc' (by lk) ?_
      refine ld hc' (by lk) ?_
      refine sub_intlp hc' (by lk) (by lia) (by lia) (y := f'[k]'(by have := hpre.length_le; lia)) (by simp) sc_name fun t₃ => ?_
      k_in
      kd_p
      have fin : ∀ s', St c ((env.locals, FrP env [("many", some (.int n tn)), ("arrows", some (.ref l)), ("start", some (.int st ts)), ("without", some (wv)), ("found", some (.ref b)), ("at", some (.int k t)), ("u", some (.int as[j].1 tu)), ("v", some (.int as[j].2 tv))]) :: (it, LItP l (j + 1)) :: (b, IntLP f') :: F) s' → (f[k]? = some as[j].1 → some as[j].2 ≠ wo → as[j].2 ∈ f') →
          ∃ (f' : List Int) (vu vv : Option Value), f'[k]? = f[k]? ∧ f <+: f' ∧ St c ((env.locals, FrP env [("many", some (.int n tn)), ("arrows", some (.ref l)), ("start", some (.int st ts)), ("without", some (wv)), ("found", some (.ref b)), ("at", some (.int k t)), ("u", vu), ("v", vv)]) :: (it, LItP l (j + 1)) :: (b, IntLP f') :: F) s' ∧ f'.Nodup ∧ (∀ x ∈ f', ReachA as wo st x) ∧
            (∀ i, i < j + 1 → ∀ p, as[i]? = some p → f[k]? = some p.1 → some p.2 ≠ wo → p.2 ∈ f') := fun s' h' hx => by
        refine ⟨f', _, _, hfk, hpre, h', hnd', hre', fun i hi' p hpi hp1 hp2 => ?_⟩
        rcases Nat.lt_succ_iff_lt_or_eq.mp hi' with q | q
        · exact hcl' i q p hpi hp1 hp2
        · subst q
          have e : as[i] = p := by simpa [hj] using hpi
          rw [← e] at hp1 hp2 ⊢
          exact hx hp1 hp2
      have hkf : f[k]? = some (f'[k]'(by have := hpre.length_le; lia)) := by rw [← hfk]; simp
      (with_reducible first | refine ite_dec (fun hif => ?_) (fun hif => ?_) | refine ite_beq (fun hif => ?_) (fun hif => ?_) | refine ite_bne (fun hif => ?_) (fun hif => ?_))
      · have hif_0 := hif
        kd_p; kd_p
        refine ld hc' (by lk) ?_
        refine ld hc' (by lk) ?_
        refine ne_wo hw ?_
        kd_p
        (with_reducible first | refine ite_dec (fun hif => ?_) (fun hif => ?_) | refine ite_beq (fun hif => ?_) (fun hif => ?_) | refine ite_bne (fun hif => ?_) (fun hif => ?_))
        · have hif_1 := hif
          kd_p; kd_p
          refine ld hc' (by lk) ?_
          refine ld hc' (by lk) ?_
          refine notin_ints hc' (by lk) ?_
          kd_p
          (with_reducible first | refine ite_dec (fun hif => ?_) (fun hif => ?_) | refine ite_beq (fun hif => ?_) (fun hif => ?_) | refine ite_bne (fun hif => ?_) (fun hif => ?_))
          · have hif_2 := hif
            kd_p; rw [if_pos rfl]; kd_p; kd_p
            refine call_meth rfl (by decide) rfl PySem.F.plainAttrs_list slot_list_append type_list_append rfl ?_
            refine ld hc' (by lk) ?_
            refine ⟨intlp_meth hc' (by lk), ?_⟩
            refine spl_cons ?_ rfl
            refine ld hc' (by lk) ?_
            refine spl_nil ?_
            refine append_intlp hc' (by lk) (by lia) (by kt_k) fun sd hd' => ?_
            kd_p; kd_p
            refine ⟨f' ++ [as[j].2], _, _, ?_, hpre.trans (List.prefix_append ..), hd', ?_, ?_, fun i hi' p hpi hp1 hp2 => ?_⟩
            · rw [List.getElem?_append_left (by have := hpre.length_le; lia)]; exact hfk
            · rw [List.nodup_append]
              refine ⟨hnd', by simp, fun x hx y hy => ?_⟩
              rw [List.mem_singleton.mp hy]
              exact fun q => hif_2 (q ▸ hx)
            · intro x hx
              rcases List.mem_append.mp hx with q | q
              · exact hre' x q
              · rw [List.mem_singleton.mp q]
                refine .step (u := as[j].1) ?_ (show (as[j].1, as[j].2) ∈ as from List.getElem_mem hj) hif_1
                rw [hif_0]
                exact hre' _ (by simp)
            · rcases Nat.lt_succ_iff_lt_or_eq.mp hi' with q | q
              · exact List.mem_append_left _ (hcl' i q p hpi hp1 hp2)
              · subst q
                have e : as[i] = p := by simpa [hj] using hpi
                rw [e]; simp
          · rw [if_neg Bool.false_ne_true]
            kd_p; kd_p
            refine fin _ hc' fun _ _ => ?_
            simpa using hif
        · rw [if_neg Bool.false_ne_true]
          kd_p; kd_p
          refine fin _ hc' fun _ hh => ?_
          simp at hif
          exact absurd hif hh
      · rw [if_neg Bool.false_ne_true]
        kd_p; kd_p
        refine fin _ hc' fun hh _ => ?_
        rw [hkf] at hh
        exact absurd (Option.some.inj hh).symm hif
    · rintro E'' s hE1
      refine ex3 hE1 fun f' vu vv hE2 => ?_
      clear hE1
      refine an6 hE2 fun hfk hpre h₈ hnd' hre' hcl' => ?_
      clear hE2
      refine next_end hA₁.handled h₈ (by w_up) ⟨ol, h₈.keep _ _ hz, hc, nl, hd⟩ (by have := hi.length; rw [Array.length_toList] at this; exact Array.getElem?_eq_none (by lia)) fun s₉ h₉ => ⟨rfl, ?_⟩
      kd_p
      kd_p; kd_p; kd_p
      refine ld h₉ (by lk) ?_
      kd_p
      k_in
      refine sto (h₉.tok _) (by room) fun sa ha => ?_
      kd_p
      rw [show (k : Int) + 1 = ((k + 1 : Nat) : Int) from by lia] at ha
      refine ⟨6 - (k + 1), by lia, k + 1, _, f', vu, vv, rfl, ha, hnd', hre', fun hh => hpre.subset (hst' hh), ?_, fun i hi p hp hp1 hp2 => ?_⟩
      · have := hpre.length_le; lia
      · rcases Nat.lt_succ_iff_lt_or_eq.mp hi with q | q
        · have e : f[i]? = some p.1 := by
            rw [← hp1, List.prefix_iff_getElem?.mp hpre i (by lia)]
            simp
          exact hpre.subset (hcl i q p hp e hp2)
        · subst q
          obtain ⟨j, hj⟩ := List.getElem?_of_mem hp
          exact hcl' j (List.getElem?_eq_some_iff.mp hj).1 p hj (by rw [← hfk]; exact hp1) hp2
  · kd_p
    kd_p; kd_p
    refine ld h₆ (by lk) ?_
    refine hR f b _ hnd (fun x => ⟨hre x, fun hx => ?_⟩) h₆.tailOf
    induction hx with
    | base hh => exact hst' hh
    | step hu hm hv ih =>
      obtain ⟨i, hi'⟩ := List.getElem?_of_mem ih
      exact hcl i (by have := (List.getElem?_eq_some_iff.mp hi').1; lia) _ hm hi' hv
end
end
section

noncomputable def cellEnts (cm : Str → Option Value) (cs : List (Str × Addr)) : List Ent := cs.map fun p => (p.2, CellP (cm p.1))
theorem Cel.of {env : Env} {cs : List (Str × Addr)} {x : Str} {cx : Addr} (hc : env.cells = cs) (hk : env.scope.kind = .function) (hn : env.kindOf x = some .cell ∨ env.kindOf x = some .free) (hl : cs.lookup x = some cx)
    (hd : ((x == ("__classdict__" : Str)) || (x == ("__debug__" : Str))) = false) : Cel env x cx := by
  rw [Bool.or_eq_false_iff] at hd
  exact ⟨hk, hn.imp id fun e => ⟨e, hd.1⟩, hc ▸ hl, hd.2⟩

section
variable {prog : Program} {w : World} {A : Around} {c : Cfg} {S S' : List Ent} {s : Shared}
theorem St.append {T : List Ent} (h : St c S s) {h' : Heap} {t : Nat} (hk : ∀ b o, s.heap.get? b = some o → h'.get? b = some o) (hT : ∀ p ∈ T, s.heap.objs.size ≤ p.1 ∧ ∃ o, h'.get? p.1 = some o ∧ p.2 o) (hn : (T.map (·.1)).Nodup) :
    St c (T ++ S) { s with heap := h', toks := t } where
  keep b o e := hk b o (h.keep b o e)
  own p hp := by
    rcases List.mem_append.mp hp with hp | hp
    · refine ⟨?_, (hT p hp).2⟩
      cases q : c.Z p.1 with
      | none => rfl
      | some o => have := h.keep _ o q; rw [get_ge (hT p hp).1] at this; cases this
    · obtain ⟨z, o, e, q⟩ := h.own p hp
      exact ⟨z, o, hk _ _ e, q⟩
  nd := by
    rw [List.map_append, List.nodup_append]
    refine ⟨hn, h.nd, fun a ha b hb e => ?_⟩
    obtain ⟨p, hp, rfl⟩ := List.mem_map.mp ha
    obtain ⟨q, hq, rfl⟩ := List.mem_map.mp hb
    obtain ⟨_, o, e', _⟩ := h.own q hq
    rw [← e, get_ge (hT p hp).1] at e'; cases e'
  one p hp := by
    rcases List.mem_append.mp hp with hp | hp
    · intro e
      have e : p.1 = 1 := e
      have h2 := (hT p hp).1
      rw [e] at h2
      exact absurd h2 (Nat.not_le.mpr h.size)
    · exact h.one p hp
  gens := h.gens
  drawn := h.drawn
  os := h.os

noncomputable def cellsOk (sc : Scope) (binds : List (Str × Value)) : Bool := binds.all fun x => sc.names.lookup x.1 == some .local || (sc.names.lookup x.1 == some .cell && ((cellsFrom 0 sc.names []).lookup x.1).isSome)
theorem cellsFrom_isSome {x : Str} : ∀ (names : List (Str × NameKind)) (n m : Nat) (acc acc' : List (Str × Addr)), ((acc.lookup x).isSome → (acc'.lookup x).isSome) → ((cellsFrom n names acc).lookup x).isSome → ((cellsFrom m names acc').lookup x).isSome
  | [], _, _, _, _, h, h' => h h'
  | (y, k) :: r, n, m, acc, acc', h, h' => by
    unfold cellsFrom at h' ⊢
    split at h' <;> rename_i q
    · rw [if_pos q]
      refine cellsFrom_isSome r _ _ _ _ (fun hh => ?_) h'
      rw [List.lookup_cons] at hh ⊢
      cases hxy : x == y with
      | true => rfl
      | false => rw [hxy] at hh; exact h hh
    · rw [if_neg q]
      exact cellsFrom_isSome r _ _ _ _ h h'

theorem zip_keys : ∀ {cs : List (Str × Addr)} {lc : List (Str × Option Value)}, cs.length = lc.length → ((List.zipWith (fun (p : Str × Option Value) (q : Str × Addr) => ((q.2, CellP p.2) : Ent)) lc cs).map (·.1)) = cs.map (·.2)
  | [], [], _ => rfl
  | p :: r, q :: t, h => by simp only [List.zipWith_cons_cons, List.map_cons]; rw [zip_keys (cs := r) (lc := t) (by simpa using h)]
theorem lookup_get : ∀ {cs : List (Str × Addr)}, (cs.map (·.1)).Nodup → ∀ {i : Nat} {p : Str × Addr}, cs[i]? = some p → cs.lookup p.1 = some p.2
  | [], _, i, p, h => by simp at h
  | (y, cy) :: r, hn, i, p, h => by
    rw [List.map_cons, List.nodup_cons] at hn
    cases i with
    | zero => cases h; simp [List.lookup_cons]
    | succ i =>
      have h : r[i]? = some p := by simpa using h
      have hne : p.1 ≠ y := fun e => by
        refine hn.1 ?_
        rw [← e]
        exact List.mem_map_of_mem (f := fun x => x.1) (List.mem_of_getElem? h)
      rw [List.lookup_cons, beq_false_of_ne hne]
      exact lookup_get hn.2 h

theorem inC_st {a : Addr} {fd : FuncData} {binds : List (Str × Value)} {l lc : List (Str × Option Value)} {ns : List Str} {s₁ : Shared} (h : St c S s)
    (hns : l.map (·.1) = ns) (hok : namesOk fd.scope ns = true) (hl : l.map (·.2) = ns.map (bindL (callEnvC fd 0 a).kindOf binds fun _ => none))
    (hlc : lc.map (·.1) = (cellsFrom 0 fd.scope.names []).map (·.1)) (hlc' : lc.map (·.2) = (lc.map (·.1)).map (bindC (callEnvC fd 0 a).kindOf binds fun _ => none)) (hnd : (lc.map (·.1)).Nodup)
    (x : InCallC s (callEnvC fd s.heap.objs.size a).locals (bindL (callEnvC fd s.heap.objs.size a).kindOf binds fun _ => none) (callEnvC fd s.heap.objs.size a).cells (bindC (callEnvC fd s.heap.objs.size a).kindOf binds fun _ => none) s₁) :
    St c (((callEnvC fd s.heap.objs.size a).locals, FrP (callEnvC fd s.heap.objs.size a) l) :: (List.zipWith (fun p q => (q.2, CellP p.2)) lc (cellsFrom (s.heap.objs.size + 1) fd.scope.names []) ++ S)) s₁ := by
  have names : ∀ (nm : List (Str × NameKind)) (n : Nat) (acc acc' : List (Str × Addr)), acc.map (·.1) = acc'.map (·.1) → (cellsFrom n nm acc).map (·.1) = (cellsFrom 0 nm acc').map (·.1) := by
    have gen : ∀ (nm : List (Str × NameKind)) (n m : Nat) (acc acc' : List (Str × Addr)), acc.map (·.1) = acc'.map (·.1) → (cellsFrom n nm acc).map (·.1) = (cellsFrom m nm acc').map (·.1) := by
      intro nm
      induction nm with
      | nil => intro n m acc acc' e; exact e
      | cons p r ih =>
        intro n m acc acc' e
        obtain ⟨y, kd⟩ := p
        unfold cellsFrom
        split
        · exact ih _ _ _ _ (by simp [e])
        · exact ih _ _ _ _ e
    intro nm n acc acc' e
    exact gen nm n 0 acc acc' e
  have hnm := names fd.scope.names (s.heap.objs.size + 1) [] [] rfl
  rw [← hlc] at hnm
  obtain ⟨h', tk, rfl⟩ := x.toInCall.same
  show St c (((callEnvC fd s.heap.objs.size a).locals, FrP (callEnvC fd s.heap.objs.size a) l) :: List.zipWith (fun p q => (q.2, CellP p.2)) lc (callEnvC fd s.heap.objs.size a).cells ++ S) _
  generalize hcs : (callEnvC fd s.heap.objs.size a).cells = cs at x
  have hnm' : cs.map (·.1) = lc.map (·.1) := by rw [← hcs]; exact hnm
  have hlen : cs.length = lc.length := by simpa using congrArg List.length hnm'
  have keys := zip_keys hlen
  refine h.append (T := (_ :: _)) (fun b o e => x.toInCall.keep b o e) (fun p hp => ?_) ?_
  · rcases List.mem_cons.mp hp with rfl | hp
    · exact ⟨Nat.le_refl _, frp_new (env := callEnvC fd s.heap.objs.size a) x.toInCall.ns hns hok (by
        have e : ∀ (l : List (Str × Option Value)) (f : Str → Option Value), l.map (·.2) = (l.map (·.1)).map f → ∀ p ∈ l, f p.1 = p.2 := by
          intro l f
          induction l with
          | nil => intro _ p hp; cases hp
          | cons q l ih =>
            intro e p hp
            simp only [List.map_cons, List.cons.injEq] at e
            rcases List.mem_cons.mp hp with rfl | hp
            · exact e.1.symm
            · exact ih e.2 p hp
        exact e l _ (by rw [hns]; exact hl))⟩
    · obtain ⟨i, hi, rfl⟩ := List.getElem_of_mem hp
      simp only [List.length_zipWith] at hi
      simp only [List.getElem_zipWith]
      have hic : i < cs.length := by lia
      have hil : i < lc.length := by lia
      have e1 : cs[i].1 = lc[i].1 := by
        have := congrArg (fun l => l[i]?) hnm'
        simp only [List.getElem?_map, List.getElem?_eq_getElem hic, List.getElem?_eq_getElem hil, Option.map_some, Option.some.injEq] at this
        exact this
      have e2 : lc[i].2 = bindC (callEnvC fd 0 a).kindOf binds (fun _ => none) lc[i].1 := by
        have := congrArg (fun l => l[i]?) hlc'
        simp only [List.getElem?_map, List.getElem?_eq_getElem hil, Option.map_some, Option.some.injEq] at this
        exact this
      have hlk : cs.lookup cs[i].1 = some cs[i].2 := by
        exact lookup_get (hnm' ▸ hnd) (List.getElem?_eq_getElem hic)
      have hcell' := x.cell _ _ hlk
      obtain ⟨oc, hoc, hdc⟩ := hcell'
      refine ⟨?_, oc, hoc, ?_⟩
      · have := x.above _ _ (mem_of_lookup hlk)
        exact Nat.le_of_lt this
      · show oc.data = .cell lc[i].2
        rw [hdc, e2, e1]; rfl
  · rw [List.map_cons, List.nodup_cons, keys]
    refine ⟨fun hm => ?_, ?_⟩
    · obtain ⟨p, hp, e⟩ := List.mem_map.mp hm
      have := x.above p.1 p.2 hp
      rw [e] at this
      exact Nat.lt_irrefl _ this
    · have := x.apart
      rw [List.nodup_iff_pairwise_ne]
      exact List.pairwise_map.mpr this
theorem enterC {R : Result → Shared → Prop} {a : Addr} {o : Obj} {fd : FuncData} {body : List Stmt} {vals : List Value} {binds : List (Str × Value)} {l lc : List (Str × Option Value)} {ns : List Str} {n : Nat}
    (h : St c S s) (hB : Base c.Z) (hA : Room A (n + 1)) (ho : c.Z a = some o) (hdata : o.data = .func fd) (hcd : ZCode c.Z fd.code fd.qualname)
    (hbody : fd.body = .stmts body) (hbind : bindArgs fd ⟨vals, []⟩ = pure binds) (hclo : fd.closure = []) (hcell : cellsOk fd.scope binds = true)
    (hns : l.map (·.1) = ns) (hok : namesOk fd.scope ns = true)
    (hl : l.map (·.2) = ns.map (bindL (callEnvC fd 0 a).kindOf binds fun _ => none))
    (hlc : lc.map (·.1) = (cellsFrom 0 fd.scope.names []).map (·.1)) (hlc' : lc.map (·.2) = (lc.map (·.1)).map (bindC (callEnvC fd 0 a).kindOf binds fun _ => none)) (hnd : decide ((lc.map (·.1)).Nodup) = true)
    (k : ∀ L env s', env = callEnvC fd L a → Room (A.deeper env) n → St c ((env.locals, FrP env l) :: (List.zipWith (fun p q => (q.2, CellP p.2)) lc (cellsFrom (L + 1) fd.scope.names []) ++ S)) s' →
      wpAny (model prog w) (A.deeper env) (execs body env) (fun f s' => R (.ok (.ret (match f with | .ret v => v | _ => .none))) s')
        (fun e s' => wpAny (model prog w) (A.deeper env) (leaving env e) (fun _ s'' => R (.error e) s'') (fun e' s'' => R (.error e') s'') s') s')
    (hco : fd.scope.isCoroutine = false) (hgen : fd.scope.isGenerator = false) (hk : fd.scope.kind = .function) :
    codeAny (model prog w) A (.call (.ref a) ⟨vals, []⟩) R s := by
  have hnd := of_decide_eq_true hnd
  refine codeAny_call_cells hA.deep (h.keep _ _ ho) hdata (h.nolim hB) (hcd.cod h) hbody hbind hclo (fun x hx => ?_) (fun s₁ x => ?_) hco hgen hk
  · have := List.all_eq_true.mp hcell x hx
    simp only [Bool.or_eq_true, Bool.and_eq_true, beq_iff_eq] at this
    refine this.imp id fun e => ⟨e.1, cellsFrom_isSome _ _ _ _ _ id e.2⟩
  · exact k s.heap.objs.size _ _ rfl (hA.deeper _) (inC_st h hns hok hl hlc hlc' hnd x)
end

noncomputable def clos (look : Str → Option Addr) : List (Str × NameKind) → List (Str × Addr) → Option (List (Str × Addr))
  | [], acc => some acc
  | (n, k) :: r, acc => if k == .free then (match look n with | some a => clos look r ((n, a) :: acc) | none => none) else clos look r acc
theorem closure_of {scope : Scope} {env : Env} {cs cl : List (Str × Addr)} (hc : env.cells = cs) (h : clos (cs.lookup ·) scope.names [] = some cl) : closureFor scope env = pure cl := by
  subst hc
  have gen : ∀ (names : List (Str × NameKind)) (acc cl : List (Str × Addr)), clos (env.cells.lookup ·) names acc = some cl →
      (forIn names acc fun x r => if (x.2 == NameKind.free) = true then do let __do_lift ← cellOf env x.1; pure (ForInStep.yield ((x.1, __do_lift) :: r)) else pure (ForInStep.yield r)) = (pure cl : Sem _) := by
    intro names
    induction names with
    | nil => intro acc cl h; cases h; rfl
    | cons p r ih =>
      intro acc cl h
      obtain ⟨n, k⟩ := p
      rw [List.forIn_cons]
      unfold clos at h
      dsimp only
      split at h
      · rename_i q
        rw [if_pos q]
        split at h
        · rename_i a ha
          have e : cellOf env n = pure a := by unfold cellOf; rw [ha]
          rw [e]
          exact ih _ _ h
        · cases h
      · rename_i q
        rw [if_neg q]
        exact ih _ _ h
  simp only [closureFor]
  exact (congrArg (fun t => (t >>= fun r => pure r : Sem _)) (gen scope.names [] cl h)).trans rfl

structure CompE (scope : Scope) (env : Env) (cl : List (Str × Addr)) (cenv : Env) : Prop where
  scope : cenv.scope = relabel scope env
  globals : cenv.globals = env.globals
  cells : cenv.cells = cl
  builtins : cenv.builtins = env.builtins
noncomputable def compOk (sc : Scope) (ns : List Str) : Bool := decide (ns.Nodup) && ns.all (fun x => decide (sc.names.lookup x = some .local) && !(x == ("__debug__" : Str))) && decide (sc.kind = .function)
theorem lookup_relabel {env : Env} {x : Str} {k : NameKind} : ∀ {names : List (Str × NameKind)}, names.lookup x = some k →
    ((names.map fun (n, k) => if (k == NameKind.free && env.scope.kind == .function && env.kindOf n == some .cell) then (n, NameKind.cell) else (n, k)).lookup x = some k ∨
    (k = .free ∧ (names.map fun (n, k) => if (k == NameKind.free && env.scope.kind == .function && env.kindOf n == some .cell) then (n, NameKind.cell) else (n, k)).lookup x = some .cell))
  | [], h => by cases h
  | (n, k') :: r, h => by
    rw [List.map_cons]
    show List.lookup x ((if (k' == NameKind.free && env.scope.kind == .function && env.kindOf n == some .cell) = true then (n, NameKind.cell) else (n, k')) :: _) = _ ∨ k = .free ∧ List.lookup x ((if (k' == NameKind.free && env.scope.kind == .function && env.kindOf n == some .cell) = true then (n, NameKind.cell) else (n, k')) :: _) = _
    rw [List.lookup_cons] at h
    cases hx : x == n with
    | true =>
      rw [hx] at h; cases h
      split
      · rename_i q
        simp only [Bool.and_eq_true, beq_iff_eq] at q
        exact .inr ⟨q.1.1, by simp only [List.lookup_cons, hx]⟩
      · exact .inl (by simp only [List.lookup_cons, hx])
    | false =>
      rw [hx] at h
      have ih := lookup_relabel (env := env) h
      split <;> simp only [List.lookup_cons, hx] <;> exact ih
theorem CompE.kind {scope : Scope} {env cenv : Env} {cl : List (Str × Addr)} (h : CompE scope env cl cenv) (hk : scope.kind = .function) : cenv.scope.kind = .function := by rw [h.scope]; exact hk
theorem CompE.loc {scope : Scope} {env cenv : Env} {cl : List (Str × Addr)} {x : Str} {k : NameKind} (h : CompE scope env cl cenv) (hk : scope.names.lookup x = some k) (hne : k ≠ .free) : cenv.kindOf x = some k := by
  show cenv.scope.names.lookup x = _
  rw [h.scope]
  exact (lookup_relabel hk).elim id fun e => absurd e.1 hne
theorem CompE.free {scope : Scope} {env cenv : Env} {cl : List (Str × Addr)} {x : Str} {cx : Addr} (h : CompE scope env cl cenv) (hkind : scope.kind = .function) (hk : scope.names.lookup x = some .free) (hl : cl.lookup x = some cx)
    (hd : ((x == ("__classdict__" : Str)) || (x == ("__debug__" : Str))) = false) : Cel cenv x cx := by
  refine Cel.of h.cells (h.kind hkind) ?_ hl hd
  show cenv.scope.names.lookup x = _ ∨ cenv.scope.names.lookup x = _
  rw [h.scope]
  exact (lookup_relabel hk).symm.imp (fun e => e.2) id
theorem CompE.ge {scope : Scope} {env cenv : Env} {cl : List (Str × Addr)} {gs gs' : List Str} (h : CompE scope env cl cenv) (g : GE env gs') (hs : globOk scope gs = true) : GE cenv gs := by
  simp only [globOk, Bool.and_eq_true, decide_eq_true_eq, List.all_eq_true, Bool.not_eq_true'] at hs
  exact ⟨h.kind hs.1, h.globals.trans g.g, h.builtins.trans g.b, fun x hx => ⟨h.loc (hs.2 x hx).1 (by decide), (hs.2 x hx).2⟩⟩

section
variable {c : Cfg} {S S' : List Ent} {s : Shared}
theorem ns_same {a : Addr} {P : Obj → Prop} (h : St c ((a, P) :: S) s) {h' : Heap} {tk : Nat} (hs : Heap.SameBut a s.heap h') : St c S { s with heap := h', toks := tk } :=
  h.ext .head hs.extBut

section
variable {prog : Program} {w : World} {A : Around} {E : Value → Shared → Prop} {env : Env}
theorem comp_st {e : Expr} {scope : Scope} {pos : Pos} {newAcc first : Sem Value} {g : Comprehension} {gs : List Comprehension} {cl : List (Str × Addr)} {l : List (Str × Option Value)} {Q : Value → Shared → Prop}
    (hcl : clausesOf e = g :: gs) (hs : ∀ x, foldedSetIterable g.iter env x = pure x) (hclos : closureFor scope env = pure cl)
    (hcell : (scope.names.all fun x => x.2 != .cell) = true) (hnames : (scope.names.all fun x => x.2 != .local || scope.names.lookup x.1 == some .local) = true) (hok : compOk scope (l.map (·.1)) = true) (hl : (l.all fun p => p.2.isNone) = true)
    (h : wpAny (model prog w) A first (fun x s₁ => wpAny (model prog w) A (pyIter x) (fun it s₂ => wpAny (model prog w) A newAcc (fun acc s₃ => ∃ S₃, St c S₃ s₃ ∧ ∀ cenv s₄, CompE scope env cl cenv → St c ((cenv.locals, FrP cenv l) :: S₃) s₄ →
      codeAny (model prog w) A (.compStart e 0 it acc cenv) (fun r s' => ∃ f, r = .ok f ∧ ∃ c' l' S', St c' ((cenv.locals, FrP cenv l') :: S') s' ∧ ∀ s'', St c' S' s'' → Q acc s'') s₄) E s₂) E s₁) E s) :
    wpAny (model prog w) A (comprehension e scope env pos newAcc false first) Q E s := by
  have hk : scope.kind = .function := by simp only [compOk, Bool.and_eq_true, decide_eq_true_eq] at hok; exact hok.2
  refine wpAny_comprehension_free (use := none) hcl hs hclos hk (fun x hx hx' => ?_) (wpAny_mono h (fun x s₁ h₁ => wpAny_mono h₁ (fun it s₂ h₂ => wpAny_mono h₂ (fun acc s₃ h₃ => ?_) fun _ _ e => e) fun _ _ e => e) fun _ _ e => e)
  · have := List.all_eq_true.mp hnames x hx
    simp only [Bool.or_eq_true, bne_iff_ne, beq_iff_eq] at this
    exact this.resolve_left fun e => e hx'
  obtain ⟨S₃, h₄, k⟩ := h₃
  refine wpAny_newFunctionEnv (fun x hx => by have := List.all_eq_true.mp hcell x hx; simpa using this) (fun x hx => by simp at hx) (fun h' hns hsb => ?_) hk
  have h₅ : St c ((s₃.heap.objs.size, FrP (compEnvC scope cl s₃.heap.objs.size env) l) :: S₃) { s₃ with heap := h', toks := s₃.toks + 0 } := by
    refine h₄.new (fun b o e => hsb.extBut b o (Nat.ne_of_lt (Heap.lt_size e)) (Heap.get?_push_of_some _ e)) (Nat.le_refl _) ?_
    refine ex3 hns fun o es ep hE2 => ?_
    clear hns
    refine an4 hE2 fun ho hd hks hf => ?_
    clear hE2
    simp only [compOk, Bool.and_eq_true, decide_eq_true_eq, List.all_eq_true, Bool.not_eq_true'] at hok
    refine ⟨o, ho, ⟨es, ep, hd, hks, fun p hp => ?_⟩, hok.1.1, fun p hp => ?_, hk⟩
    · have := List.all_eq_true.mp hl p hp
      rw [hf]
      show none = p.2
      cases q : p.2 with
      | none => rfl
      | some _ => rw [q] at this; cases this
    · have := hok.1.2 p.1 (List.mem_map_of_mem hp)
      exact ⟨lookup_relabel_local this.1, this.2⟩
  refine codeAny_mono (k (compEnvC scope cl s₃.heap.objs.size env) _ ⟨rfl, rfl, rfl, rfl⟩ h₅) fun r s' hr => ?_
  obtain ⟨f, rfl, c', l', S', h₆, q⟩ := hr
  obtain ⟨m, hn, -⟩ := ns_of_fr h₆
  exact ⟨m, hn, fun h'' hs'' => q _ (ns_same (tk := s'.toks) h₆ hs'')⟩

theorem comp_use {e : Expr} {scope : Scope} {pos : Pos} {newAcc first : Sem Value} {g : Comprehension} {gs : List Comprehension} {cl : List (Str × Addr)} {l : List (Str × Option Value)} {u : Value → Sem Unit} {Q : Value → Shared → Prop}
    (hcl : clausesOf e = g :: gs) (hs : ∀ x, foldedSetIterable g.iter env x = pure x) (hclos : closureFor scope env = pure cl)
    (hcell : (scope.names.all fun x => x.2 != .cell) = true) (hnames : (scope.names.all fun x => x.2 != .local || scope.names.lookup x.1 == some .local) = true) (hok : compOk scope (l.map (·.1)) = true) (hl : (l.all fun p => p.2.isNone) = true)
    (h : wpAny (model prog w) A first (fun x s₁ => wpAny (model prog w) A (pyIter x) (fun it s₂ => wpAny (model prog w) A newAcc (fun acc s₃ => ∃ S₃, St c S₃ s₃ ∧ ∀ cenv s₄, CompE scope env cl cenv → St c ((cenv.locals, FrP cenv l) :: S₃) s₄ →
      codeAny (model prog w) A (.compStart e 0 it acc cenv) (fun r s' => ∃ f, r = .ok f ∧ wpAny (model prog w) A (u acc) (fun _ s' => ∃ c' l' S', St c' ((cenv.locals, FrP cenv l') :: S') s' ∧ ∀ s'', St c' S' s'' → Q .none s'') E s') s₄) E s₂) E s₁) E s) :
    wpAny (model prog w) A (comprehension e scope env pos newAcc false first (some u)) Q E s := by
  have hk : scope.kind = .function := by simp only [compOk, Bool.and_eq_true, decide_eq_true_eq] at hok; exact hok.2
  refine wpAny_comprehension_free (use := some u) hcl hs hclos hk (fun x hx hx' => ?_) (wpAny_mono h (fun x s₁ h₁ => wpAny_mono h₁ (fun it s₂ h₂ => wpAny_mono h₂ (fun acc s₃ h₃ => ?_) fun _ _ e => e) fun _ _ e => e) fun _ _ e => e)
  · have := List.all_eq_true.mp hnames x hx
    simp only [Bool.or_eq_true, bne_iff_ne, beq_iff_eq] at this
    exact this.resolve_left fun e => e hx'
  obtain ⟨S₃, h₄, k⟩ := h₃
  refine wpAny_newFunctionEnv (fun x hx => by have := List.all_eq_true.mp hcell x hx; simpa using this) (fun x hx => by simp at hx) (fun h' hns hsb => ?_) hk
  have h₅ : St c ((s₃.heap.objs.size, FrP (compEnvC scope cl s₃.heap.objs.size env) l) :: S₃) { s₃ with heap := h', toks := s₃.toks + 0 } := by
    refine h₄.new (fun b o e => hsb.extBut b o (Nat.ne_of_lt (Heap.lt_size e)) (Heap.get?_push_of_some _ e)) (Nat.le_refl _) ?_
    refine ex3 hns fun o es ep hE2 => ?_
    clear hns
    refine an4 hE2 fun ho hd hks hf => ?_
    clear hE2
    simp only [compOk, Bool.and_eq_true, decide_eq_true_eq, List.all_eq_true, Bool.not_eq_true'] at hok
    refine ⟨o, ho, ⟨es, ep, hd, hks, fun p hp => ?_⟩, hok.1.1, fun p hp => ?_, hk⟩
    · have := List.all_eq_true.mp hl p hp
      rw [hf]
      show none = p.2
      cases q : p.2 with
      | none => rfl
      | some _ => rw [q] at this; cases this
    · have := hok.1.2 p.1 (List.mem_map_of_mem hp)
      exact ⟨lookup_relabel_local this.1, this.2⟩
  refine codeAny_mono (k (compEnvC scope cl s₃.heap.objs.size env) _ ⟨rfl, rfl, rfl, rfl⟩ h₅) fun r s' hr => ?_
  obtain ⟨f, rfl, hr⟩ := hr
  refine wpAny_mono hr (fun _ s'' hr' => ?_) fun _ _ e => e
  obtain ⟨c', l', S', h₆, q⟩ := hr'
  obtain ⟨m, hn, -⟩ := ns_of_fr h₆
  exact ⟨m, hn, fun h'' hs'' => q _ (ns_same (tk := s''.toks) h₆ hs'')⟩

noncomputable def tests (ifs : List Expr) (env : Env) : Sem Bool := forIn ifs true fun c r => if r = true then do let ok ← isTrue c env (eval c env); pure (ForInStep.yield ok) else pure (ForInStep.yield r)
theorem tests_nil {Q : Bool → Shared → Prop} (h : Q true s) : wpAny (model prog w) A (tests [] env) Q E s := wpAny_tests_nil h
theorem tests_one {t : Expr} {Q : Bool → Shared → Prop} (h : wpAny (model prog w) A (isTrue t env (eval t env)) Q E s) : wpAny (model prog w) A (tests [t] env) Q E s := wpAny_tests_one h

theorem turn_last {elt target iter : Expr} {ifs : List Expr} {gens : List Comprehension} {d : Nat} {scope : Scope} {pos : Pos} {it acc : Value} (hd : gens[d]? = some ⟨target, iter, ifs, 0⟩) (hd' : gens[d + 1]? = none) :
    compTurn (.ListComp elt gens scope pos) d it acc env = (do
      standAt iter.pos
      match ← pyNext it with
      | none => pure (.done .next)
      | some v =>
        letOwnedTupleGo target it v
        assign target env v
        let ok ← tests ifs env
        if ok then
          (do let _ ← call (.builtin "list.append") [acc, ← eval elt env])
        again (.compLoop (.ListComp elt gens scope pos) d it acc env)) := by
  unfold compTurn
  simp only [hd, hd']
  rfl
theorem turn_more {elt target iter target' iter' : Expr} {ifs ifs' : List Expr} {gens : List Comprehension} {d : Nat} {scope : Scope} {pos : Pos} {it acc : Value} (hd : gens[d]? = some ⟨target, iter, ifs, 0⟩) (hd' : gens[d + 1]? = some ⟨target', iter', ifs', 0⟩) :
    compTurn (.ListComp elt gens scope pos) d it acc env = (do
      standAt iter.pos
      match ← pyNext it with
      | none => pure (.done .next)
      | some v =>
        letOwnedTupleGo target it v
        assign target env v
        let ok ← tests ifs env
        if ok then
          let x ← eval iter' env
          standAt iter'.pos
          let x ← foldedSetIterable iter' env x
          let _ ← runOwn (.compStart (.ListComp elt gens scope pos) (d + 1) (← holding [x] (pyIter x)) acc env) env
          again (.compLoop (.ListComp elt gens scope pos) d it acc env)
        else again (.compLoop (.ListComp elt gens scope pos) d it acc env)) := by
  unfold compTurn
  simp only [hd, hd']
  rfl

theorem listcomp_loop {R : Result → Shared → Prop} {elt target iter : Expr} {ifs : List Expr} {gens : List Comprehension} {d : Nat} {scope : Scope} {pos : Pos} {it acc : Value} (len : Nat) (J : Nat → Shared → Prop)
    (hd : gens[d]? = some ⟨target, iter, ifs, 0⟩) (hd' : gens[d + 1]? = none)
    (item : ∀ (E' : Value → Shared → Prop) i s, i < len → J i s → wpAny (model prog w) A (pyNext it) (fun r s₁ => ∃ v, r = some v ∧ wpAny (model prog w) A (letOwnedTupleGo target it v) (fun _ s₁ => wpAny (model prog w) A (assign target env v) (fun _ s₂ =>
      wpAny (model prog w) A (tests ifs env) (fun ok s₃ => if ok = true then wpAny (model prog w) A (eval elt env) (fun x s₄ => wpAny (model prog w) A (call (.builtin "list.append") [acc, x]) (fun _ s₅ => J (i + 1) s₅) E' s₄) E' s₃ else J (i + 1) s₃) E' s₂) E' s₁) E' s₁) E' s)
    (done : ∀ (E' : Value → Shared → Prop) s, J len s → wpAny (model prog w) A (pyNext it) (fun r s₁ => r = none ∧ R (.ok .next) s₁) E' s)
    (h : J 0 s) : codeAny (model prog w) A (.compLoop (.ListComp elt gens scope pos) d it acc env) R s := by
  refine codeAny_loop rfl (fun n s => ∃ i, n = len - i ∧ i ≤ len ∧ J i s) (fun n s hI => ?_) len ⟨0, rfl, Nat.zero_le _, h⟩
  obtain ⟨i, hn, hi, hJ⟩ := hI
  show wpAny _ A ((compTurn (.ListComp elt gens scope pos) d it acc env).onRaise (fun x => do noteFrame x env; theTreesLotGoes x)) _ _ s
  refine wpAny_noted ?_
  rw [turn_last hd hd']
  refine wpAny_bind (wpAny_standAt (wpAny_bind ?_))
  rcases Nat.lt_or_ge i len with hlt | hge
  · refine wpAny_mono (item _ i s hlt hJ) (fun r s₁ h₁ => ?_) fun _ _ e => e
    obtain ⟨v, rfl, h₁⟩ := h₁
    refine wpAny_bind (wpAny_mono h₁ (fun _ s₂ h₂ => wpAny_bind (wpAny_mono h₂ (fun _ s₃ h₃ => wpAny_bind (wpAny_mono h₃ (fun ok s₄ h₄ => ?_) fun _ _ e => e)) fun _ _ e => e)) fun _ _ e => e)
    have fin : ∀ s', J (i + 1) s' → ∃ m, m < n ∧ ∃ i, m = len - i ∧ i ≤ len ∧ J i s' := fun s' hs' => ⟨len - (i + 1), by lia, i + 1, rfl, hlt, hs'⟩
    cases ok with
    | false => exact wpAny_pure ⟨rfl, fin _ h₄⟩
    | true => exact wpAny_bind (wpAny_bind (wpAny_mono h₄ (fun x s₄ h₄ => wpAny_bind (wpAny_mono h₄ (fun _ s₅ h₅ => wpAny_pure (wpAny_pure ⟨rfl, fin _ h₅⟩)) fun _ _ h' => h')) fun _ _ h' => h'))
  · have : i = len := by lia
    subst this
    refine wpAny_mono (done _ s hJ) (fun r s₁ h₁ => ?_) fun _ _ e => e
    obtain ⟨rfl, h₁⟩ := h₁
    exact wpAny_pure h₁
end
end
end
section
section
variable {prog : Program} {w : World} {A : Around} {E : Value → Shared → Prop} {c : Cfg} {S S' F : List Ent} {s : Shared} {env : Env} {a : Addr}

theorem listcomp_start {R : Result → Shared → Prop} {elt target iter : Expr} {ifs : List Expr} {gens : List Comprehension} {d : Nat} {scope : Scope} {pos : Pos} {it acc : Value} (hd : gens[d]? = some ⟨target, iter, ifs, 0⟩)
    (hself : ∀ (E' : Value → Shared → Prop) (Q' : Value → Shared → Prop), Q' it s → wpAny (model prog w) A (pyIter it) Q' E' s)
    (h : codeAny (model prog w) A (.compLoop (.ListComp elt gens scope pos) d it acc env) R s) : codeAny (model prog w) A (.compStart (.ListComp elt gens scope pos) d it acc env) R s := by
  refine codeAny_of_tree ?_
  show wpAny _ A ((compStart (.ListComp elt gens scope pos) d it acc env).onRaise (fun x => do noteFrame x env; standAt theWindowsPlace)) _ _ s
  refine wpAny_notedAt ?_
  unfold compStart
  have e : (clausesOf (.ListComp elt gens scope pos))[d]? = some ⟨target, iter, ifs, 0⟩ := hd
  rw [e]
  show wpAny _ A (ask >>= _) _ _ s
  refine wpAny_bind (wpAny_askSetting (wpAny_ite ?_))
  split
  · first
      | exact wpAny_bind (wpAny_pure (wpAny_pure (And.intro rfl h)))
      | exact wpAny_pure (And.intro rfl h)
  · first
      | exact wpAny_bind (wpAny_rule (wpAny_bind (wpAny_standAt (wpAny_bind (hself _ _ (wpAny_pure (And.intro rfl h)))))))
      | (refine wpAny_bind (wpAny_rule ?_); show wpAny _ _ (standAt iter.pos >>= _) _ _ s; exact wpAny_bind (wpAny_standAt (wpAny_bind (hself _ _ (wpAny_pure (And.intro rfl h))))))

theorem listcomp_more {R : Result → Shared → Prop} {elt target iter target' iter' : Expr} {ifs ifs' : List Expr} {gens : List Comprehension} {d : Nat} {scope : Scope} {pos : Pos} {it acc : Value} (len : Nat) (J : Nat → Shared → Prop)
    (hd : gens[d]? = some ⟨target, iter, ifs, 0⟩) (hd' : gens[d + 1]? = some ⟨target', iter', ifs', 0⟩) (hf : ∀ x, foldedSetIterable iter' env x = pure x)
    (item : ∀ (E' : Value → Shared → Prop) (RE : Value → Shared → Prop) i s, i < len → J i s → wpAny (model prog w) A (pyNext it) (fun r s₁ => ∃ v, r = some v ∧ wpAny (model prog w) A (letOwnedTupleGo target it v) (fun _ s₁ => wpAny (model prog w) A (assign target env v) (fun _ s₂ =>
      wpAny (model prog w) A (tests ifs env) (fun ok s₃ => if ok = true then wpAny (model prog w) A (eval iter' env) (fun x s₄ => wpAny (model prog w) A (pyIter x) (fun it' s₅ =>
        codeAny (model prog w) (A.mark none) (.compStart (.ListComp elt gens scope pos) (d + 1) it' acc env) (fun r s₆ => match r with | .ok _ => J (i + 1) s₆ | .error e => RE e s₆) s₅) E' s₄) E' s₃ else J (i + 1) s₃) E' s₂) E' s₁) E' s₁) E' s)
    (done : ∀ (E' : Value → Shared → Prop) s, J len s → wpAny (model prog w) A (pyNext it) (fun r s₁ => r = none ∧ R (.ok .next) s₁) E' s)
    (h : J 0 s) : codeAny (model prog w) A (.compLoop (.ListComp elt gens scope pos) d it acc env) R s := by
  refine codeAny_loop rfl (fun n s => ∃ i, n = len - i ∧ i ≤ len ∧ J i s) (fun n s hI => ?_) len ⟨0, rfl, Nat.zero_le _, h⟩
  obtain ⟨i, hn, hi, hJ⟩ := hI
  show wpAny _ A ((compTurn (.ListComp elt gens scope pos) d it acc env).onRaise (fun x => do noteFrame x env; theTreesLotGoes x)) _ _ s
  refine wpAny_noted ?_
  rw [turn_more hd hd']
  refine wpAny_bind (wpAny_standAt (wpAny_bind ?_))
  rcases Nat.lt_or_ge i len with hlt | hge
  · refine wpAny_mono (item _ (cameBackBy (model prog w) A env (notedBy (model prog w) A env fun e s' => R (.error e) s')) i s hlt hJ) (fun r s₁ h₁ => ?_) fun _ _ e => e
    obtain ⟨v, rfl, h₁⟩ := h₁
    refine wpAny_bind (wpAny_mono h₁ (fun _ s₂ h₂ => wpAny_bind (wpAny_mono h₂ (fun _ s₃ h₃ => wpAny_bind (wpAny_mono h₃ (fun ok s₄ h₄ => ?_) fun _ _ e => e)) fun _ _ e => e)) fun _ _ e => e)
    have fin : ∀ s', J (i + 1) s' → ∃ m, m < n ∧ ∃ i, m = len - i ∧ i ≤ len ∧ J i s' := fun s' hs' => ⟨len - (i + 1), by lia, i + 1, rfl, hlt, hs'⟩
    cases ok with
    | false => exact wpAny_pure ⟨rfl, fin _ h₄⟩
    | true =>
      refine wpAny_bind (wpAny_mono h₄ (fun x s₅ h₅ => wpAny_bind (wpAny_standAt (wpAny_bind (wpAny_of_eq (hf x) (wpAny_bind (wpAny_holding (wpAny_mono h₅ (fun it' s₆ h₆ => ?_) fun _ _ e => e))))))) fun _ _ e => e)
      refine wpAny_bind (wpAny_runOwn (codeAny_mono h₆ fun r s₇ h₇ => ?_))
      cases r with
      | ok f => exact wpAny_pure ⟨rfl, fin _ h₇⟩
      | error e => exact h₇
  · have : i = len := by lia
    subst this
    refine wpAny_mono (done _ s hJ) (fun r s₁ h₁ => ?_) fun _ _ e => e
    obtain ⟨rfl, h₁⟩ := h₁
    exact wpAny_pure h₁

theorem used_assign {x : Str} {px : Pos} {value : Expr} {spos : Pos} {Q : Flow → Shared → Prop} (hs : swapsWith value (some (.Name x px)) spos.line env = pure true)
    (h : wpAny (model prog w) A (evalThenUse value env (assign (.Name x px) env)) (fun _ s' => Q .next s') E s) : wpAny (model prog w) A (exec (.Assign [.Name x px] value spos) env) Q E s := by
  rw [exec_Assign_Name_used _ _ _ _ hs]
  exact wpAny_bind (wpAny_standAt (wpAny_bind (wpAny_mono h (fun _ s' h' => wpAny_pure h') fun _ _ e => e)))

noncomputable def RItP (x left : Int) (o : Obj) : Prop := o = { cls := .type "range_iterator", dict := none, data := .fields #[rawInt x, rawInt left, rawInt 1], slots := #[] }
noncomputable def RangeP (n : Int) (o : Obj) : Prop := ∃ t u, o = { cls := .type "range", dict := none, data := .fields #[.int 0 t, .int n u, .int 1 (t + 1)], slots := #[] }
theorem call_range {n : Int} {t : Tok} {Q : Value → Shared → Prop} (h : St c S s) (hq : ∀ r s', St c ((r, RangeP n) :: S) s' → Q (.ref r) s') : wpAny (model prog w) A (call (.type "range") [.int n t]) Q E s :=
  call_range_1 (hq _ _ (h.push _ rfl ⟨_, _, rfl⟩))
theorem iter_range {n : Int} {Q : Value → Shared → Prop} (h : St c S s) (hm : (a, RangeP n) ∈ S) (h0 : 0 ≤ n) (h1 : n < 1000) (hq : ∀ it s', St c ((it, RItP 0 n) :: S) s' → Q (.ref it) s') : wpAny (model prog w) A (pyIter (.ref a)) Q E s := by
  obtain ⟨o, ho, t, u, rfl⟩ := h.get hm
  refine wpAny_pyIter_range ho (small_one (by decide) (by decide) (by lia) (by lia)) (hq _ _ (h.push (t := s.toks) _ rfl ?_))
  unfold RItP
  rw [rangeSize_one]
  have : (if (0:Int) < n then n - 0 else 0) = n := by split <;> lia
  rw [this]
theorem range_self {x left : Int} {Q : Value → Shared → Prop} (h : St c S s) (hm : (a, RItP x left) ∈ S) (hq : Q (.ref a) s) : wpAny (model prog w) A (pyIter (.ref a)) Q E s := by
  obtain ⟨o, ho, rfl⟩ := h.get hm
  exact wpAny_pyIter_rangeiter ho hq
theorem range_item {x left : Int} {Q : Option Value → Shared → Prop} (h : St c S s) (hm : (a, RItP x left) ∈ S) (hl : 0 < left) (u : Upd S a (RItP (x + 1) (left - 1)) S') (hq : ∀ t s', St c S' s' → Q (some (.int x t)) s') : wpAny (model prog w) A (pyNext (.ref a)) Q E s := by
  obtain ⟨o, ho, rfl⟩ := h.get hm
  exact wpAny_pyNext_range_item ho hl fun h' hr hs => hq _ _ (h.set u hs ⟨_, hr, rfl⟩)
theorem range_end {x left : Int} {Q : Option Value → Shared → Prop} (hh : A.handled = none) (h : St c S s) (t : Take S (a, RItP x left) S') (hl : left ≤ 0) (hq : ∀ s', St c S' s' → Q none s') : wpAny (model prog w) A (pyNext (.ref a)) Q E s := by
  obtain ⟨o, ho, rfl⟩ := h.get t.mem.1
  exact wpAny_pyNext_range_end hh ho hl fun h' hs => hq _ (h.ext (tk := s.toks) t hs)
theorem list_self {l : Addr} {i : Nat} {Q : Value → Shared → Prop} (h : St c S s) (hm : (a, LItP l i) ∈ S) (hq : Q (.ref a) s) : wpAny (model prog w) A (pyIter (.ref a)) Q E s := by
  obtain ⟨o, ho, hc, hd⟩ := h.get hm
  exact wpAny_pyIter_listiter ⟨o, ho, hc, hd⟩ hq

theorem call_ty {f : Str} {T : String} {p pos : Pos} {args : List Expr} {Q : Value → Shared → Prop} {gs : List Str} (h : St c S s) (hB : GB c.Z) (ge : GE env gs) (hx : f ∈ gs) (hp : (f, .type T) ∈ btab)
    (hs : (args.all fun e => match e with | .Starred .. => false | _ => true) = true)
    (k : wpAny (model prog w) A (spl args env pos) (fun vs s₁ => wpAny (model prog w) A (call (.type T) vs) Q E s₁) E s) :
    wpAny (model prog w) A (eval (.Call (.Name f p) args [] pos) env) Q E s := by
  refine wpAny_Call_Name_kw (ldb h hB ge hx hp ?_)
  exact PySem.callWith_type (back_all hs) (evalArgs_spl hs k)

noncomputable def DicE (prog : Program) (w : World) (kvs : List (Int × Value)) (ep : Nat) (o : Obj) : Prop :=
  ∃ es, o.ExactDict ∧ o.data = .dict es ep ∧ KeysOf (intKind prog w) es ∧ Pairs (intKind prog w) es.toList kvs ∧ (kvs.map (·.1)).Nodup
noncomputable def DicP (prog : Program) (w : World) (kvs : List (Int × Value)) (o : Obj) : Prop := ∃ ep, DicE prog w kvs ep o
variable {kvs : List (Int × Value)} {ep : Nat} {k : Int} {t : Tok} {v : Value}
theorem dic_of (h : St c S s) (hm : (a, DicP prog w kvs) ∈ S) : s.heap.DictOf (intKind prog w) a kvs := by
  obtain ⟨o, ho, ep, es, r⟩ := h.get hm
  obtain ⟨r1, r2, r3, r4, r5⟩ := r
  exact ⟨o, es, ep, ho, r1, r2, r3, r4, r5⟩
theorem dicP_of {h' : Heap} (hd : h'.DictOf (intKind prog w) a kvs) : ∃ o, h'.get? a = some o ∧ DicP prog w kvs o := by
  obtain ⟨o, es, ep, ho, r1, r2, r3, r4, r5⟩ := hd
  exact ⟨o, ho, ep, es, r1, r2, r3, r4, r5⟩
theorem dic_nodup (h : St c S s) (hm : (a, DicP prog w kvs) ∈ S) : (kvs.map (·.1)).Nodup := by
  obtain ⟨o, ho, ep, es, r⟩ := h.get hm
  exact r.2.2.2.2
theorem dic_get {Q : Value → Shared → Prop} (h : St c S s) (hm : (a, DicP prog w kvs) ∈ S) (hv : valueAt kvs k = some v) (hq : ∀ s', St c S s' → Q v s') : wpAny (model prog w) A (getItem (.ref a) (.int k t)) Q E s :=
  wpAny_getItem_of (intKind_is prog w k t) (dic_of h hm).mapOf hv (hq _ (h.tok _))
theorem dic_sub {value slice : Expr} {Q : Value → Shared → Prop} (h : St c S s) (hm : (a, DicP prog w kvs) ∈ S) (hv : valueAt kvs k = some v)
    (hs : subscripted slice false (.ref a) (.int k t) = operate [.ref a, .int k t] (getItem (.ref a) (.int k t))) (hq : ∀ s', St c S s' → Q v s') : wpAny (model prog w) A (subscriptTail value slice (.ref a) (.int k t)) Q E s :=
  sub_tail (dic_of h hm).typeIs slot_dict_getitem.lookup hs (dic_get h hm hv hq)
theorem dic_set {Q : Unit → Shared → Prop} (h : St c S s) (hm : (a, DicP prog w kvs) ∈ S) (hz : kvs.length ≤ 900) (u : Upd S a (DicP prog w (stored kvs k v)) S') (hq : ∀ s', St c S' s' → Q () s') : wpAny (model prog w) A (setItem (.ref a) (.int k t) v) Q E s := by
  have hl : (1000 : Nat) ≤ sizeLine := by decide
  refine wpAny_setItem_pairs (intKind_is prog w k t) (dic_of h hm) (fun h' hd hs => hq _ ?_) (by lia)
  exact h.set u hs (dicP_of hd)
end
end
section
section
variable {prog : Program} {w : World} {A : Around} {E : Value → Shared → Prop} {c : Cfg} {S S' F : List Ent} {s : Shared} {env : Env} {a : Addr}
variable {kvs : List (Int × Value)} {ep : Nat} {k : Int} {t : Tok} {v : Value}
theorem own_ne (h : St c S s) {P : Obj → Prop} (hm : (a, P) ∈ S) : (a == sysModules) = false := beq_false_of_ne (h.one _ hm)
theorem dic_notin {Q : Value → Shared → Prop} (h : St c S s) (hm : (a, DicP prog w kvs) ∈ S) (hq : ∀ s', St c S s' → Q (.bool (!(valueAt kvs k).isSome)) s') : wpAny (model prog w) A (compareOp .NotIn (.int k t) (.ref a)) Q E s :=
  wpAny_notIn_of (intKind_is prog w k t) (own_ne h hm) (dic_of h hm).mapOf (hq _ (h.tok _))
noncomputable def KItP (d : Addr) (i n ep : Nat) (o : Obj) : Prop := o.cls = .type "dict_keyiterator" ∧ o.data = .fields #[.ref d, .int i 0, .int n 0, .int ep 0]
theorem kit_self {d : Addr} {i n : Nat} {Q : Value → Shared → Prop} (h : St c S s) (hm : (a, KItP d i n ep) ∈ S) (hq : Q (.ref a) s) : wpAny (model prog w) A (pyIter (.ref a)) Q E s := by
  obtain ⟨o, ho, r⟩ := h.get hm
  exact wpAny_pyIter_keyiter ⟨o, ho, r⟩ hq
theorem dic_empty {pos : Pos} {Q : Value → Shared → Prop} (h : St c S s) (hq : ∀ b s', St c ((b, DicP prog w []) :: S) s' → Q (.ref b) s') : wpAny (model prog w) A (eval (.Dict [] [] pos) env) Q E s :=
  wpAny_Dict_empty (hq _ _ (h.push (t := s.toks) _ rfl ⟨0, #[], ⟨rfl, rfl, rfl⟩, rfl, fun _ he => by simp at he, .nil, .nil⟩))
theorem new_dic {Q : Value → Shared → Prop} (h : St c S s) (hq : ∀ b s', St c ((b, DicP prog w []) :: S) s' → Q (.ref b) s') : wpAny (model prog w) A newDict Q E s :=
  wpAny_bind (wpAny_alloc (wpAny_pure (hq _ _ (h.push (t := s.toks) _ rfl ⟨0, #[], ⟨rfl, rfl, rfl⟩, rfl, fun _ he => by simp at he, .nil, .nil⟩))))
theorem new_list {Q : Value → Shared → Prop} (h : St c S s) (hq : ∀ b s', St c ((b, LstP []) :: S) s' → Q (.ref b) s') : wpAny (model prog w) A (newList []) Q E s := by
  have := h.push (t := s.toks) { cls := .type "list", dict := none, data := .seq ([] : List Value).toArray } rfl (show LstP [] _ from ⟨rfl, rfl, _, rfl⟩)
  exact wpAny_newObj_type (hq _ _ this)

theorem tru {e : Expr} {whole : Sem Value} {Q : Bool → Shared → Prop} (h : wpAny (model prog w) A whole (fun v s₁ => wpAny (model prog w) A (truthy v) Q E s₁) E s)
    (hp : isTrue e env whole = (do let v ← whole; standAt e.pos; holding [v] (truthy v))) : wpAny (model prog w) A (isTrue e env whole) Q E s := wpAny_isTrue_value h hp
theorem tru_list {vs : List Value} {Q : Bool → Shared → Prop} (h : St c S s) (hm : (a, LstP vs) ∈ S) (hz : vs.length ≤ 900) (hq : ∀ s', St c S s' → Q (!vs.isEmpty) s') : wpAny (model prog w) A (truthy (.ref a)) Q E s := by
  refine wpAny_truthy_list (lst_is h hm) (by rw [List.size_toArray]; lia) ?_
  have : (!vs.toArray.isEmpty) = !vs.isEmpty := by cases vs <;> rfl
  first | (rw [this]; exact hq _ (h.tok _)) | exact hq _ (h.tok _)

theorem dictcomp_start {R : Result → Shared → Prop} {kx vx target iter : Expr} {ifs : List Expr} {scope : Scope} {pos : Pos} {it acc : Value}
    (hself : ∀ (E' : Value → Shared → Prop) (Q' : Value → Shared → Prop), Q' it s → wpAny (model prog w) A (pyIter it) Q' E' s)
    (h : codeAny (model prog w) A (.compLoop (.DictComp kx vx [⟨target, iter, ifs, 0⟩] scope pos) 0 it acc env) R s) : codeAny (model prog w) A (.compStart (.DictComp kx vx [⟨target, iter, ifs, 0⟩] scope pos) 0 it acc env) R s :=
  codeAny_compStart_dict h (hself _ _ h)
theorem dturn {kx vx target iter : Expr} {ifs : List Expr} {scope : Scope} {pos : Pos} {it : Value} {D : Addr} :
    compTurn (.DictComp kx vx [⟨target, iter, ifs, 0⟩] scope pos) 0 it (.ref D) env = (do
      standAt iter.pos
      match ← pyNext it with
      | none => pure (.done .next)
      | some v =>
        letOwnedTupleGo target it v
        assign target env v
        let ok ← tests ifs env
        if ok then
          (do
            let kv ← eval kx env
            let vv ← holding [kv] (eval vx env)
            standAt { kx.pos with endLine := vx.pos.endLine, endCol := vx.pos.endCol }
            holding [kv, vv] (dictSet D kv vv))
        again (.compLoop (.DictComp kx vx [⟨target, iter, ifs, 0⟩] scope pos) 0 it (.ref D) env)) := rfl
theorem dictcomp_loop {R : Result → Shared → Prop} {kx vx target iter : Expr} {ifs : List Expr} {scope : Scope} {pos : Pos} {it : Value} {D : Addr} (len : Nat) (J : Nat → Shared → Prop)
    (item : ∀ (E' : Value → Shared → Prop) i s, i < len → J i s → wpAny (model prog w) A (pyNext it) (fun r s₁ => ∃ v, r = some v ∧ wpAny (model prog w) A (letOwnedTupleGo target it v) (fun _ s₁ => wpAny (model prog w) A (assign target env v) (fun _ s₂ =>
      wpAny (model prog w) A (tests ifs env) (fun ok s₃ => if ok = true then wpAny (model prog w) A (eval kx env) (fun kv s₄ => wpAny (model prog w) A (eval vx env) (fun vv s₄ => wpAny (model prog w) A (dictSet D kv vv) (fun _ s₅ => J (i + 1) s₅) E' s₄) E' s₄) E' s₃ else J (i + 1) s₃) E' s₂) E' s₁) E' s₁) E' s)
    (done : ∀ (E' : Value → Shared → Prop) s, J len s → wpAny (model prog w) A (pyNext it) (fun r s₁ => r = none ∧ R (.ok .next) s₁) E' s)
    (h : J 0 s) : codeAny (model prog w) A (.compLoop (.DictComp kx vx [⟨target, iter, ifs, 0⟩] scope pos) 0 it (.ref D) env) R s := by
  refine codeAny_loop rfl (fun n s => ∃ i, n = len - i ∧ i ≤ len ∧ J i s) (fun n s hI => ?_) len ⟨0, rfl, Nat.zero_le _, h⟩
  obtain ⟨i, hn, hi, hJ⟩ := hI
  show wpAny _ A ((compTurn (.DictComp kx vx [⟨target, iter, ifs, 0⟩] scope pos) 0 it (.ref D) env).onRaise (fun x => do noteFrame x env; theTreesLotGoes x)) _ _ s
  refine wpAny_noted ?_
  rw [dturn]
  refine wpAny_bind (wpAny_standAt (wpAny_bind ?_))
  rcases Nat.lt_or_ge i len with hlt | hge
  · refine wpAny_mono (item _ i s hlt hJ) (fun r s₁ h₁ => ?_) fun _ _ e => e
    obtain ⟨v, rfl, h₁⟩ := h₁
    refine wpAny_bind (wpAny_mono h₁ (fun _ s₂ h₂ => wpAny_bind (wpAny_mono h₂ (fun _ s₃ h₃ => wpAny_bind (wpAny_mono h₃ (fun ok s₄ h₄ => ?_) fun _ _ e => e)) fun _ _ e => e)) fun _ _ e => e)
    have fin : ∀ s', J (i + 1) s' → ∃ m, m < n ∧ ∃ i, m = len - i ∧ i ≤ len ∧ J i s' := fun s' hs' => ⟨len - (i + 1), by lia, i + 1, rfl, hlt, hs'⟩
    cases ok with
    | false => exact wpAny_pure ⟨rfl, fin _ h₄⟩
    | true => exact wpAny_bind (wpAny_bind (wpAny_mono h₄ (fun kv s₄ h₄ => wpAny_bind (wpAny_holding (wpAny_mono h₄ (fun vv s₅ h₅ => wpAny_bind (wpAny_standAt (wpAny_holding (wpAny_mono h₅ (fun _ s₆ h₆ => wpAny_pure ⟨rfl, fin _ h₆⟩) fun _ _ h' => h')))) fun _ _ h' => h'))) fun _ _ h' => h'))
  · have : i = len := by lia
    subst this
    refine wpAny_mono (done _ s hJ) (fun r s₁ h₁ => ?_) fun _ _ e => e
    obtain ⟨rfl, h₁⟩ := h₁
    exact wpAny_pure h₁
theorem dic_put {Q : Unit → Shared → Prop} (h : St c S s) (hm : (a, DicP prog w kvs) ∈ S) (hz : kvs.length ≤ 900) (u : Upd S a (DicP prog w (stored kvs k v)) S') (hq : ∀ s', St c S' s' → Q () s') : wpAny (model prog w) A (dictSet a (.int k t) v) Q E s := by
  have hl : (1000 : Nat) ≤ sizeLine := by decide
  refine wpAny_dictSet_pairs (hsz := by lia) (intKind_is prog w k t) (dic_of h hm) fun h' hd hs => hq _ ?_
  exact h.set u hs (dicP_of hd)

noncomputable def lastLine (gens : List Comprehension) : Bool := !firstAsync gens
theorem listcomp_st {elt target iter : Expr} {ifs : List Expr} {rest : List Comprehension} {scope : Scope} {pos : Pos} {cl : List (Str × Addr)} {l : List (Str × Option Value)} {Q : Value → Shared → Prop}
    (hs : ∀ x, foldedSetIterable iter env x = pure x) (hclos : closureFor scope env = pure cl)
    (hcell : (scope.names.all fun x => x.2 != .cell) = true) (hnames : (scope.names.all fun x => x.2 != .local || scope.names.lookup x.1 == some .local) = true) (hok : compOk scope (l.map (·.1)) = true) (hl : (l.all fun p => p.2.isNone) = true)
    (h : wpAny (model prog w) A (eval iter env) (fun x s₁ => wpAny (model prog w) A (pyIter x) (fun it s₂ => ∃ S₂, St c S₂ s₂ ∧ ∀ cenv b s₄, CompE scope env cl cenv → St c ((cenv.locals, FrP cenv l) :: (b, LstP []) :: S₂) s₄ →
      codeAny (model prog w) A (.compStart (.ListComp elt (⟨target, iter, ifs, 0⟩ :: rest) scope pos) 0 it (.ref b) cenv) (fun r s' => ∃ f, r = .ok f ∧ ∃ c' l' S', St c' ((cenv.locals, FrP cenv l') :: S') s' ∧ ∀ s'', St c' S' s'' → Q (.ref b) s'') s₄) E s₁) E s) :
    wpAny (model prog w) A (eval (.ListComp elt (⟨target, iter, ifs, 0⟩ :: rest) scope pos) env) Q E s := by
  rw [eval_ListComp]
  refine comp_st (c := c) (l := l) rfl hs hclos hcell hnames hok hl (wpAny_mono h (fun x s₁ h₁ => wpAny_mono h₁ (fun it s₂ h₂ => ?_) fun _ _ e => e) fun _ _ e => e)
  obtain ⟨S₂, h₃, k⟩ := h₂
  exact new_list h₃ fun b s' h₄ => ⟨_, h₄, fun cenv s₄ hC h₅ => k cenv b s₄ hC h₅⟩
theorem listcomp_use {elt target iter : Expr} {ifs : List Expr} {rest : List Comprehension} {scope : Scope} {pos : Pos} {cl : List (Str × Addr)} {l : List (Str × Option Value)} {u : Value → Sem Unit} {Q : Unit → Shared → Prop}
    (hs : ∀ x, foldedSetIterable iter env x = pure x) (hclos : closureFor scope env = pure cl)
    (hcell : (scope.names.all fun x => x.2 != .cell) = true) (hnames : (scope.names.all fun x => x.2 != .local || scope.names.lookup x.1 == some .local) = true) (hok : compOk scope (l.map (·.1)) = true) (hl : (l.all fun p => p.2.isNone) = true)
    (h : wpAny (model prog w) A (eval iter env) (fun x s₁ => wpAny (model prog w) A (pyIter x) (fun it s₂ => ∃ S₂, St c S₂ s₂ ∧ ∀ cenv b s₄, CompE scope env cl cenv → St c ((cenv.locals, FrP cenv l) :: (b, LstP []) :: S₂) s₄ →
      codeAny (model prog w) A (.compStart (.ListComp elt (⟨target, iter, ifs, 0⟩ :: rest) scope pos) 0 it (.ref b) cenv) (fun r s' => ∃ f, r = .ok f ∧ wpAny (model prog w) A (u (.ref b)) (fun _ s' => ∃ c' l' S', St c' ((cenv.locals, FrP cenv l') :: S') s' ∧ ∀ s'', St c' S' s'' → Q () s'') E s') s₄) E s₁) E s) :
    wpAny (model prog w) A (evalThenUse (.ListComp elt (⟨target, iter, ifs, 0⟩ :: rest) scope pos) env u) Q E s := by
  show wpAny _ A (do let _ ← comprehension (.ListComp elt (⟨target, iter, ifs, 0⟩ :: rest) scope pos) scope env _ (newList []) false (eval iter env) (some u)) _ _ s
  refine wpAny_bind (wpAny_mono (comp_use (c := c) (l := l) (Q := fun _ s' => Q () s') rfl hs hclos hcell hnames hok hl (wpAny_mono h (fun x s₁ h₁ => wpAny_mono h₁ (fun it s₂ h₂ => ?_) fun _ _ e => e) fun _ _ e => e)) (fun _ s' hq => wpAny_pure hq) fun _ _ e => e)
  obtain ⟨S₂, h₃, k⟩ := h₂
  exact new_list h₃ fun b s' h₄ => ⟨_, h₄, fun cenv s₄ hC h₅ => k cenv b s₄ hC h₅⟩
theorem dictcomp_st {kx vx target iter : Expr} {ifs : List Expr} {scope : Scope} {pos : Pos} {cl : List (Str × Addr)} {l : List (Str × Option Value)} {Q : Value → Shared → Prop}
    (hs : ∀ x, foldedSetIterable iter env x = pure x) (hclos : closureFor scope env = pure cl)
    (hcell : (scope.names.all fun x => x.2 != .cell) = true) (hnames : (scope.names.all fun x => x.2 != .local || scope.names.lookup x.1 == some .local) = true) (hok : compOk scope (l.map (·.1)) = true) (hl : (l.all fun p => p.2.isNone) = true)
    (h : wpAny (model prog w) A (eval iter env) (fun x s₁ => wpAny (model prog w) A (pyIter x) (fun it s₂ => ∃ S₂, St c S₂ s₂ ∧ ∀ cenv b s₄, CompE scope env cl cenv → St c ((cenv.locals, FrP cenv l) :: (b, DicP prog w []) :: S₂) s₄ →
      codeAny (model prog w) A (.compStart (.DictComp kx vx [⟨target, iter, ifs, 0⟩] scope pos) 0 it (.ref b) cenv) (fun r s' => ∃ f, r = .ok f ∧ ∃ c' l' S', St c' ((cenv.locals, FrP cenv l') :: S') s' ∧ ∀ s'', St c' S' s'' → Q (.ref b) s'') s₄) E s₁) E s) :
    wpAny (model prog w) A (eval (.DictComp kx vx [⟨target, iter, ifs, 0⟩] scope pos) env) Q E s := by
  rw [arm_eval_DictComp]
  refine comp_st (c := c) (l := l) rfl hs hclos hcell hnames hok hl (wpAny_mono h (fun x s₁ h₁ => wpAny_mono h₁ (fun it s₂ h₂ => ?_) fun _ _ e => e) fun _ _ e => e)
  obtain ⟨S₂, h₃, k⟩ := h₂
  exact new_dic h₃ fun b s' h₄ => ⟨_, h₄, fun cenv s₄ hC h₅ => k cenv b s₄ hC h₅⟩
theorem dictcomp_use {kx vx target iter : Expr} {ifs : List Expr} {scope : Scope} {pos : Pos} {cl : List (Str × Addr)} {l : List (Str × Option Value)} {u : Value → Sem Unit} {Q : Unit → Shared → Prop}
    (hs : ∀ x, foldedSetIterable iter env x = pure x) (hclos : closureFor scope env = pure cl)
    (hcell : (scope.names.all fun x => x.2 != .cell) = true) (hnames : (scope.names.all fun x => x.2 != .local || scope.names.lookup x.1 == some .local) = true) (hok : compOk scope (l.map (·.1)) = true) (hl : (l.all fun p => p.2.isNone) = true)
    (h : wpAny (model prog w) A (eval iter env) (fun x s₁ => wpAny (model prog w) A (pyIter x) (fun it s₂ => ∃ S₂, St c S₂ s₂ ∧ ∀ cenv b s₄, CompE scope env cl cenv → St c ((cenv.locals, FrP cenv l) :: (b, DicP prog w []) :: S₂) s₄ →
      codeAny (model prog w) A (.compStart (.DictComp kx vx [⟨target, iter, ifs, 0⟩] scope pos) 0 it (.ref b) cenv) (fun r s' => ∃ f, r = .ok f ∧ wpAny (model prog w) A (u (.ref b)) (fun _ s' => ∃ c' l' S', St c' ((cenv.locals, FrP cenv l') :: S') s' ∧ ∀ s'', St c' S' s'' → Q () s'') E s') s₄) E s₁) E s) :
    wpAny (model prog w) A (evalThenUse (.DictComp kx vx [⟨target, iter, ifs, 0⟩] scope pos) env u) Q E s := by
  show wpAny _ A (do let _ ← comprehension (.DictComp kx vx [⟨target, iter, ifs, 0⟩] scope pos) scope env _ newDict false (eval iter env) (some u)) _ _ s
  refine wpAny_bind (wpAny_mono (comp_use (c := c) (l := l) (Q := fun _ s' => Q () s') rfl hs hclos hcell hnames hok hl (wpAny_mono h (fun x s₁ h₁ => wpAny_mono h₁ (fun it s₂ h₂ => ?_) fun _ _ e => e) fun _ _ e => e)) (fun _ s' hq => wpAny_pure hq) fun _ _ e => e)
  obtain ⟨S₂, h₃, k⟩ := h₂
  exact new_dic h₃ fun b s' h₄ => ⟨_, h₄, fun cenv s₄ hC h₅ => k cenv b s₄ hC h₅⟩
end
end
section
structure Ext (c c' : Cfg) : Prop where
  z : ∀ a o, c.Z a = some o → c'.Z a = some o
  gens : c'.gens = c.gens
  drawn : c'.drawn = c.drawn
  os : c'.os = c.os
theorem Ext.refl (c : Cfg) : Ext c c := ⟨fun _ _ e => e, rfl, rfl, rfl⟩
theorem Ext.trans {a b c : Cfg} (x : Ext a b) (y : Ext b c) : Ext a c := ⟨fun i o e => y.z i o (x.z i o e), y.gens.trans x.gens, y.drawn.trans x.drawn, y.os.trans x.os⟩
theorem KZ.ext {w : World} {Z Z' : Addr → Option Obj} (h : KZ w Z) (x : ∀ a o, Z a = some o → Z' a = some o) : KZ w Z' :=
  { nolim := fun hh e => h.nolim hh fun b o q => e b o (x b o q)
    glob := fun hh e => h.glob hh fun b o q => e b o (x b o q)
    bmod := fun hh e => h.bmod hh fun b o q => e b o (x b o q)
    k := fun a o e n1 n2 => x a o (h.k a o e n1 n2) }
theorem St.freeze {c : Cfg} {S S' : List Ent} {s : Shared} {a : Addr} {P : Obj → Prop} (h : St c S s) (t : Take S (a, P) S') : ∃ c' o, Ext c c' ∧ c'.Z a = some o ∧ P o ∧ St c' S' s := by
  have h₁ := h.perm t.perm
  obtain ⟨hz, o, ho, hp⟩ := h₁.own _ (.head _)
  have nd := List.nodup_cons.mp h₁.nd
  refine ⟨{ c with Z := fun b => if b = a then some o else c.Z b, low := ?_ }, o, ⟨fun b o' e => ?_, rfl, rfl, rfl⟩, if_pos rfl, hp, ⟨fun b o' e => ?_, fun p hp => ?_, nd.2, fun p hp => h₁.one p (.tail _ hp), h.gens, h.drawn, h.os⟩⟩
  · obtain ⟨b, h1, h2⟩ := c.low
    refine ⟨b, h1, ?_⟩
    split
    · rfl
    · exact h2
  · show (if b = a then some o else c.Z b) = some o'
    have : b ≠ a := fun q => by rw [q, hz] at e; cases e
    rw [if_neg this]; exact e
  · have e : (if b = a then some o else c.Z b) = some o' := e
    split at e
    · rename_i q; cases e; rw [q]; exact ho
    · exact h.keep b o' e
  · obtain ⟨z, r⟩ := h₁.own p (.tail _ hp)
    refine ⟨?_, r⟩
    show (if p.1 = a then some o else c.Z p.1) = none
    rw [if_neg fun q => nd.1 (List.mem_map.mpr ⟨p, hp, q⟩)]
    exact z
theorem FInts.ext {c c' : Cfg} {l : Addr} {ns : List Int} (h : FInts c.Z l ns) (x : Ext c c') : FInts c'.Z l ns := let ⟨o, vs, n, hz, r⟩ := h; ⟨o, vs, n, x.z _ _ hz, r⟩
theorem Tups.ext {c c' : Cfg} {vs : List Value} {as : List (Int × Int)} (x : Ext c c') (h : Tups c.Z vs as) : Tups c'.Z vs as := by
  induction h with
  | nil => exact .nil
  | cons hz hp _ ih => exact .cons (x.z _ _ hz) hp ih
theorem FArr.ext {c c' : Cfg} {l : Addr} {as : List (Int × Int)} (h : FArr c.Z l as) (x : Ext c c') : FArr c'.Z l as := let ⟨o, vs, n, hz, hc, hd, ht⟩ := h; ⟨o, vs, n, x.z _ _ hz, hc, hd, ht.ext x⟩
theorem fints_of {c : Cfg} {l : Addr} {o : Obj} {ns : List Int} (hz : c.Z l = some o) (hp : IntLP ns o) : FInts c.Z l ns := by
  obtain ⟨vs, ⟨hc, _, n, hd⟩, hi⟩ := hp
  exact ⟨o, vs.toArray, n, hz, hc, hd, by simpa using hi⟩
section
variable {prog : Program} {w : World} {A : Around} {E : Value → Shared → Prop} {c : Cfg} {S S' F : List Ent} {s : Shared} {env : Env} {a : Addr} {ns : List Int}
theorem fints_list (h : St c S s) (hf : FInts c.Z a ns) : ∃ vs, s.heap.IsList a vs ∧ IntsAre vs.toList ns := let ⟨o, vs, n, hz, hc, hd, hi⟩ := hf; ⟨vs, ⟨o, h.keep _ _ hz, hc, n, hd⟩, hi⟩
theorem intlp_list (h : St c S s) (hm : (a, IntLP ns) ∈ S) : ∃ vs, s.heap.IsList a vs ∧ IntsAre vs.toList ns := by
  obtain ⟨o, ho, vs, ⟨hc, hdi, n, hd⟩, hi⟩ := h.get hm
  exact ⟨vs.toArray, ⟨o, ho, hc, n, hd⟩, by simpa using hi⟩
theorem any_ints {vs : List Value} (hi : IntsAre vs ns) (k : Int) : (vs.any fun y => match y with | .int j _ => j == k | _ => false) = decide (k ∈ ns) := by
  induction hi with
  | nil => simp
  | cons m u hi ih =>
    simp only [List.any_cons, List.mem_cons]
    rw [ih]
    by_cases q : m = k
    · subst q; simp
    · have q' : ¬ k = m := fun e => q e.symm
      simp [q, q']
theorem notin_f {k : Int} {t : Tok} {Q : Value → Shared → Prop} (h : St c S s) (hf : FInts c.Z a ns) (hq : Q (.bool (decide (k ∉ ns))) s) : wpAny (model prog w) A (compareOp .NotIn (.int k t) (.ref a)) Q E s := by
  obtain ⟨vs, hl, hi⟩ := fints_list h hf
  refine SeqInW.notIn_listW (fun y => match y with | .int j _ => j == k | _ => false) (fun y hy => ?_) hl ?_
  · obtain ⟨i, hi'⟩ := List.getElem?_of_mem (Array.mem_toList_iff.mpr hy)
    obtain ⟨n', t', rfl, _⟩ := hi.at i _ hi'
    exact MeetsSeq.EqGives.int _ _ _ _
  · rw [← Array.any_toList, any_ints hi, ← decide_not]; exact hq
theorem in_f {k : Int} {t : Tok} {Q : Value → Shared → Prop} (h : St c S s) (hf : FInts c.Z a ns) (hq : Q (.bool (decide (k ∈ ns))) s) : wpAny (model prog w) A (compareOp .In (.int k t) (.ref a)) Q E s := by
  obtain ⟨vs, hl, hi⟩ := fints_list h hf
  refine SeqInW.in_listW (fun y => match y with | .int j _ => j == k | _ => false) (fun y hy => ?_) hl ?_
  · obtain ⟨i, hi'⟩ := List.getElem?_of_mem (Array.mem_toList_iff.mpr hy)
    obtain ⟨n', t', rfl, _⟩ := hi.at i _ hi'
    exact MeetsSeq.EqGives.int _ _ _ _
  · rw [← Array.any_toList, any_ints hi]; exact hq
theorem iter_f {Q : Value → Shared → Prop} (h : St c S s) (hf : FInts c.Z a ns) (hq : ∀ it s', St c ((it, LItP a 0) :: S) s' → Q (.ref it) s') : wpAny (model prog w) A (pyIter (.ref a)) Q E s := by
  obtain ⟨vs, hl, hi⟩ := fints_list h hf
  exact iter_list h hl hq
theorem next_f {it : Addr} {i : Nat} {x : Int} {Q : Option Value → Shared → Prop} (h : St c S s) (hit : (it, LItP a i) ∈ S) (hf : FInts c.Z a ns) (hx : ns[i]? = some x) (u : Upd S it (LItP a (i + 1)) S') (hq : ∀ t s', St c S' s' → Q (some (.int x t)) s') : wpAny (model prog w) A (pyNext (.ref it)) Q E s := by
  obtain ⟨vs, hl, hi⟩ := fints_list h hf
  obtain ⟨t, e⟩ := hi.get _ _ hx
  exact next_item h hit hl (by simpa using e) u fun s' h' => hq t s' h'
theorem end_f {it : Addr} {i : Nat} {Q : Option Value → Shared → Prop} (hh : A.handled = none) (h : St c S s) (t : Take S (it, LItP a i) S') (hf : FInts c.Z a ns) (hi : i = ns.length) (hq : ∀ s', St c S' s' → Q none s') : wpAny (model prog w) A (pyNext (.ref it)) Q E s := by
  obtain ⟨vs, hl, hI⟩ := fints_list h hf
  have := hI.length
  rw [Array.length_toList] at this
  exact next_end hh h t hl (Array.getElem?_eq_none (by lia)) hq
end
theorem valueAt_stored {kvs : List (Int × Value)} {k x : Int} {v : Value} : valueAt (stored kvs k v) x = if x = k then some v else valueAt kvs x := by
  unfold stored valueAt
  split
  · rename_i q
    induction kvs with
    | nil => simp at q
    | cons p r ih =>
      simp only [List.map_cons, List.find?_cons]
      by_cases h1 : p.1 = k
      · by_cases h2 : x = k
        · subst h2; simp [h1]
        · have : ¬ p.1 = x := fun e => h2 (e.symm.trans h1)
          simp only [h1, if_true, if_neg h2]
          rw [show decide (k = x) = false from decide_eq_false fun e => h2 e.symm]
          dsimp only
          clear q ih
          induction r with
          | nil => rfl
          | cons p r ih =>
            simp only [List.map_cons, List.find?_cons]
            by_cases h3 : p.1 = k
            · simp only [h3, if_true]
              rw [show decide (k = x) = false from decide_eq_false fun e => h2 e.symm]
              exact ih
            · simp only [h3, if_false]
              by_cases h4 : p.1 = x
              · simp [h4]
              · simp only [h4, decide_false]; exact ih
      · have q' : (r.any fun kv => decide (kv.1 = k)) = true := by simpa [h1] using q
        simp only [h1, if_false]
        by_cases h2 : p.1 = x
        · have : ¬ x = k := fun e => h1 (h2.trans e)
          simp [h2, this]
        · simp only [h2, decide_false]; exact ih q'
  · rename_i q
    rw [List.find?_append]
    by_cases h : x = k
    · subst h
      have : kvs.find? (fun kv => decide (kv.1 = x)) = none := by
        rw [List.find?_eq_none]
        intro p hp hh
        exact q (List.any_eq_true.mpr ⟨p, hp, hh⟩)
      simp [this]
    · rw [if_neg h]
      have : ¬ k = x := fun e => h e.symm
      simp [this]
theorem keys_stored {kvs : List (Int × Value)} {k : Int} {v : Value} : (stored kvs k v).map (·.1) = if k ∈ kvs.map (·.1) then kvs.map (·.1) else kvs.map (·.1) ++ [k] := by
  unfold stored
  have e : (kvs.any fun kv => decide (kv.1 = k)) = decide (k ∈ kvs.map (·.1)) := by
    induction kvs with
    | nil => simp
    | cons p r ih =>
      simp only [List.any_cons, List.map_cons, List.mem_cons, ih]
      by_cases q : p.1 = k
      · simp [q]
      · have : ¬ k = p.1 := fun e => q e.symm
        simp [q, this]
  rw [e]
  by_cases q : k ∈ kvs.map (·.1)
  · rw [if_pos (decide_eq_true q), if_pos q, keys_map_store]
  · rw [if_neg (by simp [q]), if_neg q]; simp
end
section
open Classical in
noncomputable def strictL (as : List (Int × Int)) (st : Int) (rs : List Int) (v : Int) : List Int := rs.filter fun u => decide (u ≠ v ∧ ¬ ReachA as (some u) st v)
noncomputable def StrictOf (Z : Addr → Option Obj) (as : List (Int × Int)) (st : Int) (rs : List Int) (l : List Int) (kvs : List (Int × Value)) : Prop :=
  kvs.map (·.1) = l ∧ ∀ v ∈ l, ∃ a, valueAt kvs v = some (.ref a) ∧ FInts Z a (strictL as st rs v)

theorem strictL_yes {as : List (Int × Int)} {st v : Int} {rs : List Int} {i : Nat} (hi : i < rs.length) (h : rs[i] ≠ v ∧ ¬ ReachA as (some rs[i]) st v) : strictL as st (rs.take (i + 1)) v = strictL as st (rs.take i) v ++ [rs[i]] := by
  unfold strictL
  rw [List.take_add_one, List.filter_append]
  simp only [List.getElem?_eq_getElem hi, Option.toList_some, List.filter_cons, List.filter_nil, decide_eq_true_eq]
  rw [if_pos (by simpa using h)]
theorem strictL_no {as : List (Int × Int)} {st v : Int} {rs : List Int} {i : Nat} (hi : i < rs.length) (h : ¬ (rs[i] ≠ v ∧ ¬ ReachA as (some rs[i]) st v)) : strictL as st (rs.take (i + 1)) v = strictL as st (rs.take i) v := by
  unfold strictL
  rw [List.take_add_one, List.filter_append]
  simp only [List.getElem?_eq_getElem hi, Option.toList_some, List.filter_cons, List.filter_nil, decide_eq_true_eq]
  rw [if_neg (by simpa using h), List.append_nil]
section
variable {prog : Program} {w : World} {A : Around} {E : Value → Shared → Prop} {c : Cfg} {F : List Ent} {s : Shared} {a : Addr}
theorem strict_spec {R : Result → Shared → Prop} {n st : Int} {tn ts : Tok} {l rl : Addr} {as : List (Int × Int)} {rs : List Int} (h : St c F s) (hB : KZ w c.Z) (hA : Room A 6) (hl : FArr c.Z l as) (hrl : FInts c.Z rl rs)
    (has : ∀ p ∈ as, 0 ≤ p.2 ∧ p.2 < 5) (hst : 0 ≤ st ∧ st < 5) (hnd : rs.Nodup) (hlen : rs.length ≤ 5)
    (hR : ∀ c' d kvs s', Ext c c' → St c' ((d, DicP prog w kvs) :: F) s' → StrictOf c'.Z as st rs rs kvs → R (.ok (.ret (.ref d))) s') :
    codeAny (model prog w) A (.call (.ref 822) ⟨[.int n tn, .ref l, .int st ts, .ref rl], []⟩) R s := by
  refine enterC (l := [("reach", some (.ref rl)), ("found", none)]) (ns := ["reach", "found"]) (lc := [("v", none), ("start", some (.int st ts)), ("arrows", some (.ref l)), ("many", some (.int n tn))])
    (binds := [("many", .int n tn), ("arrows", .ref l), ("start", .int st ts), ("reach", .ref rl)]) (n := 5) h hB.toBase hA (hB.k 822 _ rfl (by decide) (by decide)) rfl
    ⟨821, _, _, _, rfl, hB.k 821 _ rfl (by decide) (by decide), rfl, rfl⟩ rfl rfl rfl (by rfl) rfl (by rfl) (by rfl) (by rfl) (by rfl) (by rfl) ?_ rfl rfl rfl
  rintro L env s₁ hE hA₁ h₁
  have ge : GE env [] := .of (by rw [hE]; rfl) (by rw [hE]; rfl) (by rw [hE]; rfl)
  have hcs : env.cells = ([("v", L + 4), ("start", L + 3), ("arrows", L + 2), ("many", L + 1)] : List (Str × Addr)) := by rw [hE]; rfl
  have cv : Cel env "v" (L + 4) := .of hcs ge.kind (.inl (by rw [hE]; rfl)) rfl (by decide)
  have kv : env.kindOf "v" = some .cell := by rw [hE]; rfl
  replace h₁ : St c ((env.locals, FrP env [("reach", some (.ref rl)), ("found", none)]) :: (L + 4, CellP none) :: (L + 3, CellP (some (.int st ts))) :: (L + 2, CellP (some (.ref l))) :: (L + 1, CellP (some (.int n tn))) :: F) s₁ := h₁
  clear h hE
  generalize L + 1 = c1, L + 2 = c2, L + 3 = c3, L + 4 = c4 at *
  have hint := fr_kind h₁
  kd_p; kd_p
  refine dic_empty h₁ fun d s₂ h₂ => ?_
  have h₂ := h₂.perm (.swap ..)
  refine sto h₂ (by room) fun s₃ h₃ => ?_
  kd_p; kd_p
  refine ld h₃ (by lk) ?_
  refine iter_f h₃ hrl fun it s₄ h₄ => ?_
  refine for_loop rs.length (fun j s => ∃ c' kvs vv, Ext c c' ∧ St c' ((env.locals, FrP env [("reach", some (.ref rl)), ("found", some (.ref d))]) :: (it, LItP rl j) :: (d, DicP prog w kvs) :: (c4, CellP vv) :: (c3, CellP (some (.int st ts))) :: (c2, CellP (some (.ref l))) :: (c1, CellP (some (.int n tn))) :: F) s ∧ StrictOf c'.Z as st rs (rs.take j) kvs) ?_ ?_
    ⟨c, [], none, .refl c, h₄.sub (.cons (by w_up) (fun _ h => h) (.cons (by w_up) (fun _ h => h) .refl)), rfl, fun v hv => by simp at hv⟩
  · rintro E' j s hj hE1
    refine ex3 hE1 fun c' kvs vv hE2 => ?_
    clear hE1
    refine an3 hE2 fun hX h₅ hS => ?_
    clear hE2
    intro Kq
    refine next_f h₅ (by lk) (hrl.ext hX) (x := rs[j]) (by simp [hj]) (by kt_k) fun tv s₆ h₆ => ⟨_, rfl, ?_⟩
    refine wpAny_pure ?_
    kd_p
    refine stoc h₆ kv cv (by lk) (by kt_k) fun s₇ h₇ => ?_
    kd_p; kd_p
    refine listcomp_st (c := c') (l := [("u", none)]) (cl := [("v", c4), ("start", c3), ("many", c1), ("arrows", c2)]) (fun _ => rfl) (closure_of hcs rfl) rfl rfl (by rfl) rfl ?_
    refine ld h₇ (by lk) ?_
    refine iter_f h₇ (hrl.ext hX) fun it2 s₈ h₈ => ⟨_, h₈, fun cenv b s₉ hC h₉ => ?_⟩
    refine listcomp_start (by rfl) (fun E' Q' hq => list_self h₉ (by lk) hq) ?_
    have gc : GE cenv ["_law_reached"] := hC.ge ge (by rfl)
    have hv' : Cel cenv "v" c4 := hC.free (by rfl) (by rfl) (by rfl) (by decide)
    have hst' : Cel cenv "start" c3 := hC.free (by rfl) (by rfl) (by rfl) (by decide)
    have ha' : Cel cenv "arrows" c2 := hC.free (by rfl) (by rfl) (by rfl) (by decide)
    have hm' : Cel cenv "many" c1 := hC.free (by rfl) (by rfl) (by rfl) (by decide)
    let T : List Ent := (env.locals, FrP env [("reach", some (.ref rl)), ("found", some (.ref d))]) :: (it, LItP rl (j + 1)) :: (d, DicP prog w kvs) :: (c4, CellP (some (.int rs[j] tv))) :: (c3, CellP (some (.int st ts))) :: (c2, CellP (some (.ref l))) :: (c1, CellP (some (.int n tn))) :: F
    refine listcomp_loop rs.length (fun i s => ∃ f vu, St c' ((cenv.locals, FrP cenv [("u", vu)]) :: (b, IntLP f) :: (it2, LItP rl i) :: T) s ∧ f = strictL as st (rs.take i) rs[j])
      (by rfl) (by rfl) ?_ ?_ ⟨[], none, h₉.sub (.cons (by w_up) (fun _ h => h) (.cons (by w_up) (intlp_of .nil) .refl)), rfl⟩
    · rintro E'' i s hi ⟨f, vu, ha, rfl⟩
      refine next_f ha (by lk) (hrl.ext hX) (x := rs[i]) (by simp [hi]) (by kt_k) fun tu sb hb => ⟨_, rfl, ?_⟩
      refine wpAny_pure ?_
      kd_p
      refine sto hb (by room) fun sc hc => ?_
      refine tests_one ?_
      have hlen2 : (strictL as st (rs.take i) rs[j]).length ≤ 5 := Nat.le_trans (List.length_filter_le _ _) (by rw [List.length_take]; lia)
      kd_p; kd_p; kd_p
      refine ld hc (by lk) ?_
      refine ldc hc hv' (by lk) ?_
      k_in
      kd_p
      (with_reducible first | refine ite_dec (fun hif => ?_) (fun hif => ?_) | refine ite_beq (fun hif => ?_) (fun hif => ?_) | refine ite_bne (fun hif => ?_) (fun hif => ?_))
      · have hif0 := hif
        kd_p; kd_p
        refine ldc hc hv' (by lk) ?_
        refine call_fn hc (hB.ext hX.z).toGB gc (by lk) (by lk) (hX.z _ _ (hB.k 817 _ rfl (by decide) (by decide))) rfl rfl ?_
        refine spl_cons ?_ rfl
        refine ldc hc hm' (by lk) ?_
        refine spl_cons ?_ rfl
        refine ldc hc ha' (by lk) ?_
        refine spl_cons ?_ rfl
        refine ldc hc hst' (by lk) ?_
        refine spl_cons ?_ rfl
        refine ld hc (by lk) ?_
        refine spl_nil ⟨⟨_, hc⟩, ?_⟩
        refine wpAny_call ?_
        refine reached_spec (wo := some rs[i]) hc (hB.ext hX.z) hA₁.less (hl.ext hX) ⟨_, rfl⟩ has hst fun f bf sd hfn hfr hd => ?_
        refine notin_ints hd (by lk) ?_
        kd_p
        have hd := hd.tailOf
        by_cases hin : rs[j] ∈ f
        · rw [show decide (rs[j] ∉ f) = false by simp [hin]]
          rw [if_neg Bool.false_ne_true, if_neg Bool.false_ne_true]
          refine ⟨_, _, hd, ?_⟩
          rw [strictL_no hi fun q => q.2 ((hfr _).mp hin)]
        · rw [show decide (rs[j] ∉ f) = true by simp [hin]]
          rw [if_pos rfl]
          kd_p
          rw [if_pos rfl]
          refine ld hd (by lk) ?_
          refine append_intlp hd (by lk) (by lia) (by kt_k) fun se he => ?_
          refine ⟨_, _, he, ?_⟩
          rw [strictL_yes hi ⟨hif0, fun q => hin ((hfr _).mpr q)⟩]
      · rw [if_neg Bool.false_ne_true]
        refine ⟨_, _, hc, ?_⟩
        rw [strictL_no hi fun q => q.1 (by simpa using hif)]
    · rintro E'' s ⟨f, vu, ha, rfl⟩
      refine end_f hA₁.handled ha (by w_up) (hrl.ext hX) rfl fun sb hb => ⟨rfl, ?_⟩
      refine ⟨_, rfl, _, _, _, hb, fun sc hc => ?_⟩
      refine ld (hc.sub (.cons (by w_up) (fun _ h => h) .refl)) (by lk) ?_
      refine ldc hc cv (by lk) ?_
      obtain ⟨c2', o, hX2, hz, hp, hd⟩ := hc.freeze (a := b) (by w_up)
      have hkl : kvs.length = (rs.take j).length := by rw [← hS.1, List.length_map]
      refine dic_set hd (by lk) (by rw [hkl, List.length_take]; lia) (by kt_k) fun se he => ?_
      kd_p
      refine ⟨c2', _, _, hX.trans hX2, he, ?_, fun v hv => ?_⟩
      · rw [keys_stored, hS.1, if_neg, List.take_add_one]
        · simp [hj]
        · intro hm
          obtain ⟨q, hq, e⟩ := List.getElem_of_mem hm
          rw [List.length_take] at hq
          rw [List.getElem_take] at e
          have := (List.getElem_inj hnd).mp e
          lia
      · rw [List.take_add_one] at hv
        rw [valueAt_stored]
        by_cases hvj : v = rs[j]
        · rw [if_pos hvj]
          refine ⟨_, rfl, ?_⟩
          rw [hvj]
          have e : strictL as st (rs.take rs.length) rs[j] = strictL as st rs rs[j] := by rw [List.take_length]
          rw [← e]
          exact fints_of hz hp
        · rw [if_neg hvj]
          have hv : v ∈ rs.take j := by
            rcases List.mem_append.mp hv with q | q
            · exact q
            · simp [hj] at q; exact absurd q hvj
          obtain ⟨a, e, hf⟩ := hS.2 v hv
          exact ⟨a, e, hf.ext hX2⟩
  · rintro E' s hE1
    refine ex3 hE1 fun c' kvs vv hE2 => ?_
    clear hE1
    refine an3 hE2 fun hX h₅ hS => ?_
    clear hE2
    refine end_f hA₁.handled h₅ (by w_up) (hrl.ext hX) rfl fun sb hb => ⟨rfl, ?_⟩
    kd_p; kd_p; kd_p
    refine ld hb (by lk) ?_
    refine hR c' d kvs _ hX ((hb.sub (.drop .refl)).sub (.cons (by w_up) (fun _ h => h) (.drop (.drop (.drop (.drop .refl)))))) ?_
    rw [List.take_length] at hS
    exact hS
end
end
section
noncomputable def kkAddrs : List Addr := [787, 786, 579, 578, 288, 287, 278, 602, 639, 667, 709, 374, 381, 307, 314, 321, 328, 335, 342, 631, 630, 629, 595, 67, 80, 48, 57, 40, 41, 49, 50]
noncomputable def KK (P : Params) : Frag := kkAddrs.filterMap fun a => ((hd.heap_1 P).lookup a).map (a, ·)
theorem lookup_fm {f : Addr → Option Obj} : ∀ {as : List Addr} {a : Addr} {o : Obj}, (as.filterMap fun a => (f a).map (a, ·)).lookup a = some o → f a = some o ∧ a ∈ as
  | [], _, _, h => by cases h
  | b :: r, a, o, h => by
    rw [List.filterMap_cons] at h
    cases q : f b with
    | none =>
      rw [q] at h
      obtain ⟨h1, h2⟩ := lookup_fm h
      exact ⟨h1, .tail _ h2⟩
    | some x =>
      rw [q] at h
      simp only [Option.map_some, List.lookup_cons] at h
      cases e : a == b with
      | true => rw [e] at h; cases h; rw [beq_iff_eq.mp e]; exact ⟨q, .head _⟩
      | false =>
        rw [e] at h
        obtain ⟨h1, h2⟩ := lookup_fm h
        exact ⟨h1, .tail _ h2⟩
theorem KZ.frag {w : World} {Z : Addr → Option Obj} (hB : KZ w Z) {a : Addr} {o : Obj} (h : (KK w.params).lookup a = some o) : Z a = some o := by
  obtain ⟨h1, h2⟩ := lookup_fm h
  refine hB.k a o h1 ((by decide : ∀ b ∈ kkAddrs, nd b = true) a h2) ?_
  · rintro rfl; revert h2; decide
section
variable {prog : Program} {w : World} {A : Around} {E : Value → Shared → Prop} {c : Cfg} {S S' F : List Ent} {s : Shared} {env : Env} {a : Addr}
theorem St.kk (h : St c S s) (hB : KZ w c.Z) : (KK w.params).In s.heap := fun _ _ e => h.keep _ _ (hB.frag e)

noncomputable def SDicP (prog : Program) (w : World) (l : List (Str × Value)) (o : Obj) : Prop :=
  ∃ es ep, o.ExactDict ∧ o.data = .dict es ep ∧ KeysOf (strKind prog w) es ∧ Pairs (strKind prog w) es.toList l ∧ (l.map (·.1)).Nodup
variable {l : List (Str × Value)} {name : Str} {v : Value}
theorem sdic_of (h : St c S s) (hm : (a, SDicP prog w l) ∈ S) : s.heap.DictOf (strKind prog w) a l := by
  obtain ⟨o, ho, es, ep, r⟩ := h.get hm
  exact ⟨o, es, ep, ho, r⟩
theorem sdicP_of {h' : Heap} (hd : h'.DictOf (strKind prog w) a l) : ∃ o, h'.get? a = some o ∧ SDicP prog w l o := by
  obtain ⟨o, es, ep, ho, r⟩ := hd
  exact ⟨o, ho, es, ep, r⟩
theorem sdic_look {o : Obj} (h : SDicP prog w l o) (name : Str) : lookIn name o = some (valueAt l name) := by
  refine ex2 h fun es ep hE2 => ?_
  clear h
  refine an5 hE2 fun hx hd hk hp hn => ?_
  clear hE2
  unfold lookIn
  rw [hd]
  dsimp only
  have e := hp.find name
  have hr : es.toList.any (·.refKey) = false := by
    rw [List.any_eq_false]
    intro e he
    obtain ⟨k, hk', _⟩ := hk e (Array.mem_toList_iff.mp he)
    obtain ⟨t, q⟩ := Value.isStrOf_shape hk'
    simp [DictEntry.refKey, q]
  have hf : (fun e : DictEntry => (strKind prog w).is name e.key) = fun e => e.key.isStr name := by
    funext e
    exact (strKind prog w).strs name name 0 e.key (strKind_is prog w name 0)
  rw [hf] at e
  rw [← e]
  cases q : es.toList.find? (fun e => e.key.isStr name) with
  | some x => rfl
  | none => dsimp only; rw [hr]; rfl
noncomputable def IDicP (prog : Program) (w : World) (l : List (Str × Value)) (o : Obj) : Prop :=
  ∃ es ep, o.cls = .type "dict" ∧ o.dict = none ∧ o.data = .dict es ep ∧ KeysOf (strKind prog w) es ∧ Pairs (strKind prog w) es.toList l ∧ (l.map (·.1)).Nodup
theorem sdic_i : ∀ o, SDicP prog w l o → IDicP prog w l o := fun _ ⟨es, ep, ⟨h1, h2, _⟩, h⟩ => ⟨es, ep, h1, h2, h⟩
theorem idic_look {o : Obj} (h : IDicP prog w l o) (name : Str) : lookIn name o = some (valueAt l name) := by
  refine ex2 h fun es ep hE2 => ?_
  clear h
  refine an6 hE2 fun hx hx2 hd hk hp hn => ?_
  clear hE2
  unfold lookIn
  rw [hd]
  dsimp only
  have e := hp.find name
  have hr : es.toList.any (·.refKey) = false := by
    rw [List.any_eq_false]
    intro e he
    obtain ⟨k, hk', _⟩ := hk e (Array.mem_toList_iff.mp he)
    obtain ⟨t, q⟩ := Value.isStrOf_shape hk'
    simp [DictEntry.refKey, q]
  have hf : (fun e : DictEntry => (strKind prog w).is name e.key) = fun e => e.key.isStr name := by
    funext e
    exact (strKind prog w).strs name name 0 e.key (strKind_is prog w name 0)
  rw [hf] at e
  rw [← e]
  cases q : es.toList.find? (fun e => e.key.isStr name) with
  | some x => rfl
  | none => dsimp only; rw [hr]; rfl
theorem sdic_put {o : Obj} (h : SDicP prog w l o) (name : Str) (t : Tok) (v : Value) : SDicP prog w (stored l name v) (Obj.putName name (PyData.keyHash w.params name) (.str name t) v o) ∧ ∃ es n, (Obj.putName name (PyData.keyHash w.params name) (.str name t) v o).data = .dict es n ∧ es.size ≤ l.length + 1 := by
  refine ex2 h fun es ep hE2 => ?_
  clear h
  refine an5 hE2 fun hx hd hk hp hn => ?_
  clear hE2
  have hkey := strKind_is prog w name t
  have hes : es.size = l.length := by have e1 := hp.length; have e2 : es.toList.length = es.size := by simp
                                      lia
  have hf : (fun e : DictEntry => (strKind prog w).is name e.key) = fun e => e.key.isStr name := by
    funext e
    exact (strKind prog w).strs name name 0 e.key (strKind_is prog w name 0)
  have hidx : (es.findIdx? fun e => e.key.isStr name) = l.findIdx? fun kv => decide (kv.1 = name) := by
    rw [← hp.findIdx name, hf]; obtain ⟨l⟩ := es; simp
  obtain ⟨cc, dd, dt, sl⟩ := o
  simp only at hd
  subst hd
  rw [Obj.putName_eq]
  unfold Obj.putNameByArray
  dsimp only
  cases hi : es.findIdx? fun e => e.key.isStr name with
  | some i =>
    dsimp only
    refine ⟨⟨_, _, hx, rfl, hk.modify _ _, ?_, ?_⟩, _, _, rfl, by rw [Array.size_modify]; lia⟩
    · rw [stored, if_pos (any_of_findIdx_some (hidx ▸ hi))]
      have hl : (es.toList.findIdx? fun e => (strKind prog w).is name e.key) = some i := by rw [hf, ← hi]; obtain ⟨l⟩ := es; simp
      have := hp.modify hn hl v
      obtain ⟨l⟩ := es
      simpa using this
    · rw [stored, if_pos (any_of_findIdx_some (hidx ▸ hi)), keys_map_store]; exact hn
  | none =>
    dsimp only
    have hnot : name ∉ l.map (·.1) := not_mem_of_findIdx_none (hidx ▸ hi)
    have hany : ¬ (l.any fun kv => decide (kv.1 = name)) = true := by
      rw [List.any_eq_true]; rintro ⟨kv, hkv, he⟩
      exact hnot (List.mem_map.mpr ⟨kv, hkv, of_decide_eq_true he⟩)
    refine ⟨⟨_, _, hx, rfl, hk.push hkey _, ?_, ?_⟩, _, _, rfl, by rw [Array.size_push]; lia⟩
    · rw [stored, if_neg hany]
      have := hp.append hkey (PyData.keyHash w.params name) v
      obtain ⟨l⟩ := es
      simpa using this
    · rw [stored, if_neg hany, List.map_append, List.nodup_append]
      refine ⟨hn, by simp, ?_⟩
      intro a ha b hb
      simp only [List.map_cons, List.map_nil, List.mem_singleton] at hb
      subst hb
      exact fun e => hnot (e ▸ ha)
theorem sdic_empty : SDicP prog w [] emptyDict := ⟨#[], 0, ⟨rfl, rfl, rfl⟩, rfl, fun _ he => by simp at he, .nil, .nil⟩
noncomputable def InsP (dx : Addr) (o : Obj) : Prop := o = instObj 787 dx
variable {x dx : Addr}
theorem inst_at (h : St c S s) (hx : (x, InsP dx) ∈ S) (hd : (dx, SDicP prog w l) ∈ S) : ∃ od, SDicP prog w l od ∧ InstAt s.heap x (instObj 787 dx) 787 (some od) := by
  obtain ⟨o, ho, rfl⟩ := h.get hx
  obtain ⟨od, hod, hp⟩ := h.get hd
  exact ⟨od, hp, ho, rfl, rfl, hod⟩
theorem inst_atI (h : St c S s) (hx : (x, InsP dx) ∈ S) (hd : (dx, IDicP prog w l) ∈ S) : ∃ od, IDicP prog w l od ∧ InstAt s.heap x (instObj 787 dx) 787 (some od) := by
  obtain ⟨o, ho, rfl⟩ := h.get hx
  obtain ⟨od, hod, hp⟩ := h.get hd
  exact ⟨od, hp, ho, rfl, rfl, hod⟩
theorem k_ga (P : Params) : findIn (KK P) (.ref 787) "__getattribute__" = some (some (.builtin "object.__getattribute__")) := by kernel_rfl
theorem k_gat (P : Params) : findIn (KK P) (.ref 787) "__getattr__" = some none := by kernel_rfl
theorem k_sa (P : Params) : findIn (KK P) (.ref 787) "__setattr__" = some (some (.builtin "object.__setattr__")) := by kernel_rfl
theorem k_dict (P : Params) : hasDictIn (KK P) 787 = true := by kernel_rfl
theorem k_over (P : Params) : plainOver (KK P) 787 = true := by kernel_rfl
theorem k_graph (P : Params) : findIn (KK P) (.ref 787) "graph" = some none := by kernel_rfl
theorem k_node (P : Params) : findIn (KK P) (.ref 787) "_node" = some none := by kernel_rfl
theorem k_adj (P : Params) : findIn (KK P) (.ref 787) "_adj" = some none := by kernel_rfl
theorem k_succ (P : Params) : findIn (KK P) (.ref 787) "_succ" = some none := by kernel_rfl
theorem k_pred (P : Params) : findIn (KK P) (.ref 787) "_pred" = some none := by kernel_rfl
noncomputable abbrev ownAttrs : List Str := ["graph", "_node", "_adj", "_succ", "_pred"]
theorem k_own (P : Params) {n : Str} (h : n ∈ ownAttrs) : findIn (KK P) (.ref 787) n = some none := by
  simp only [List.mem_cons, List.not_mem_nil, or_false] at h
  rcases h with rfl | rfl | rfl | rfl | rfl
  · exact k_graph P
  · exact k_node P
  · exact k_adj P
  · exact k_succ P
  · exact k_pred P

theorem attr_ {o : Expr} {pos : Pos} {Q : Value → Shared → Prop} (hbase : attributeBase o name env (eval o env) = eval o env)
    (h : wpAny (model prog w) A (eval o env) (fun ov s₁ => wpAny (model prog w) A (getAttr ov name true) Q E s₁) E s) : wpAny (model prog w) A (eval (.Attribute o name pos) env) Q E s := by
  rw [arm_eval_Attribute, hbase]
  refine wpAny_bind (wpAny_mono h (fun ov s₁ h₁ => wpAny_bind (wpAny_standAt (wpAny_bind (wpAny_holding (wpAny_mono h₁ (fun r s₂ h₂ => ?_) fun _ _ e => e))))) fun _ _ e => e)
  refine wpAny_bind (wpAny_letTemporaryGo ?_)
  exact wpAny_pure h₂
theorem get_attr {Q : Value → Shared → Prop} {expr : Bool} (h : St c S s) (hB : KZ w c.Z) (hx : (x, InsP dx) ∈ S) (hd : (dx, SDicP prog w l) ∈ S) (hn : name ∈ ownAttrs) (hv : valueAt l name = some v) (hh : handedIn v = true) (hq : ∀ s', St c S s' → Q v s') :
    wpAny (model prog w) A (getAttr (.ref x) name expr) Q E s := by
  obtain ⟨od, hp, I⟩ := inst_at h hx hd
  exact get_value (h.kk hB) I (k_ga _) (findObj_own (k_dict _) (k_own _ hn) rfl ((sdic_look hp name).trans (by rw [hv]))) hh (hq _ (h.tok _))
theorem get_attrI {Q : Value → Shared → Prop} {expr : Bool} (h : St c S s) (hB : KZ w c.Z) (hx : (x, InsP dx) ∈ S) (hd : (dx, IDicP prog w l) ∈ S) (hn : name ∈ ownAttrs) (hv : valueAt l name = some v) (hh : handedIn v = true) (hq : ∀ s', St c S s' → Q v s') :
    wpAny (model prog w) A (getAttr (.ref x) name expr) Q E s := by
  obtain ⟨od, hp, I⟩ := inst_atI h hx hd
  exact get_value (h.kk hB) I (k_ga _) (findObj_own (k_dict _) (k_own _ hn) rfl ((idic_look hp name).trans (by rw [hv]))) hh (hq _ (h.tok _))
theorem set_attr {Q : Unit → Shared → Prop} (h : St c S s) (hB : KZ w c.Z) (hx : (x, InsP dx) ∈ S) (hd : (dx, SDicP prog w l) ∈ S) (hn : name ∈ ownAttrs) (hz : l.length ≤ 100) {l' : List (Str × Value)} (hl : stored l name v = l') (u : Upd S dx (SDicP prog w l') S') (hq : ∀ s', St c S' s' → Q () s') :
    wpAny (model prog w) A (setAttr (.ref x) name v) Q E s := by
  subst hl
  obtain ⟨od, hp, I⟩ := inst_at h hx hd
  have X := h.kk hB
  refine set_plain X I (k_sa _) (osa_open (s := { s with toks := s.toks + 1 }) X I (k_over _) (r := none) (by unfold takerIn; rw [k_own _ hn]; rfl) fun b => ?_)
  obtain ⟨cd, hc, hd'⟩ := any_some (k_dict w.params)
  obtain ⟨hx', hcl, hno, hdd⟩ := I
  refine wpAny_bind (wpAny_pure (wpAny_bind (wpAny_bind (wpAny_loadPart hx' (wpAny_bind (looks_clsIn X hc _ _ _ _ (fun _ _ e => e) ?_))))))
  rw [hd']
  refine wpAny_pure (a := some dx) (wpAny_bind (wpAny_pure (wpAny_bind ?_)))
  unfold nsSet
  refine wpAny_bind (wpAny_bind (wpAny_askSetting (wpAny_pure (wpAny_bind (wpAny_mkText (wpAny_bind (wpAny_loadPart hdd ?_)))))))
  have hp' := hp
  refine ex2 hp' fun es ep hE2 => ?_
  clear hp'
  refine an5 hE2 fun hx2 hda hk hpr hnd => ?_
  clear hE2
  rw [hda]
  dsimp only
  have hr : es.any (·.refKey) = false := by
    rw [Array.any_eq_false']
    intro e he
    obtain ⟨k, hk', _⟩ := hk e he
    obtain ⟨t, q⟩ := Value.isStrOf_shape hk'
    simp [DictEntry.refKey, q]
  rw [aRefKeyMayBeTheName_at]
  rw [show (!es.any (·.key.isStr name) && es.any (·.refKey)) = false by rw [hr, Bool.and_false]]
  refine wpAny_updatePart hdd ?_
  have hput := fun t => sdic_put hp name t v
  have hfr : ∀ t, (Obj.putName name (PyData.keyHash w.params name) (.str name t) v od).isFreed = false := fun t => by
    obtain ⟨_, es', n', e, _⟩ := hput t
    exact Obj.isFreed_of_dict e
  have hl : (1000 : Nat) ≤ sizeLine := by decide
  obtain ⟨hput1, es', n', e, hsz⟩ := hput (s.toks + 1)
  refine wpAny_bind (wpAny_lookBehind (Heap.get?_update_self _ hdd (hfr _)) (show Data.pastItsLine (Obj.putName name (PyData.keyHash w.params name) (.str name (s.toks + 1)) v od).data = none by rw [e]; exact pastItsLine_dict (by lia)) ?_)
  exact wpAny_pure (hq _ (h.set (t := s.toks + 1 + 1) u (Heap.SameBut.update ..) ⟨_, Heap.get?_update_self _ hdd (hfr _), hput1⟩))

theorem call_inst {o : Expr} {apos pos : Pos} {args : List Expr} {f : Addr} {of' : Obj} {fd : FuncData} {Q : Value → Shared → Prop} (hB : KZ w c.Z) (hbase : attributeBase o name env (eval o env) = eval o env)
    (hfew : args.length < 9) (hline : (apos.endLine == pos.line) = true) (hs : (args.all fun e => match e with | .Starred .. => false | _ => true) = true)
    (hf : findIn (KK w.params) (.ref 787) name = some (some (.ref f))) (ht : isFn (KK w.params) (.ref f) = true) (hof : c.Z f = some of') (hfd : of'.data = .func fd)
    (k : wpAny (model prog w) A (eval o env) (fun ov s₁ => ∃ x dx l S₁, ov = .ref x ∧ St c S₁ s₁ ∧ (x, InsP dx) ∈ S₁ ∧ (dx, SDicP prog w l) ∈ S₁ ∧ valueAt l name = none ∧
      wpAny (model prog w) A (spl args env pos) (fun vs s₂ => (∃ S₂, St c S₂ s₂) ∧ wpAny (model prog w) A (call (.ref f) (ov :: vs)) Q E s₂) E s₁) E s) :
    wpAny (model prog w) A (eval (.Call (.Attribute o name apos) args [] pos) env) Q E s := by
  have hall := back_all (env := env) (pos := pos) hs
  have hform : methodCallForm (args.length + ([] : List Keyword).length) (backTo pos (starEach args env)) (backToKw pos (keywordEach [] env)) = true := by
    show ((backTo pos (starEach args env)).all (fun x => !x.1) && (backToKw pos (keywordEach [] env)).all (fun x => x.1.isSome) && decide (args.length + ([] : List Keyword).length + (if ([] : List Keyword).isEmpty then 0 else 1) < 30)) = true
    simp only [Bool.and_eq_true, decide_eq_true_eq]
    refine ⟨⟨?_, rfl⟩, by simp; lia⟩
    rw [List.all_eq_true]
    intro x hx
    have := List.any_eq_false.mp hall x hx
    simpa using this
  have hpos : methodCallPos true o env apos pos = pure pos := by unfold methodCallPos; simp [hline]
  rw [arm_eval_Call, hbase]
  refine wpAny_bind (wpAny_mono k (fun ov s₁ h₁ => ?_) fun _ _ e => e)
  refine ex4 h₁ fun x dx l S₁ hE2 => ?_
  clear h₁
  refine an6 hE2 fun hR1 h₂ hx hd hv h₃ => ?_
  clear hE2
  subst hR1
  obtain ⟨od, hp, I⟩ := inst_at h₂ hx hd
  refine wpAny_bind (wpAny_standAt ?_)
  unfold methodCall
  rw [hform]
  refine wpAny_bind (wpAny_holding (method_fn (h₂.kk hB) I (k_ga _) (k_gat _) hf (beq_iff_eq.mp ht) (by show (lookIn name od).map _ = _; rw [sdic_look hp, hv]; rfl) ?_))
  refine wpAny_bind (wpAny_of_eq hpos ?_)
  refine callWith_function (o := of') (fd := fd) (evalArgs_spl hs (wpAny_mono h₃ (fun vs s₂ h₄ => ?_) fun _ _ e => e))
  obtain ⟨⟨S₂, h₅⟩, h₆⟩ := h₄
  exact ⟨⟨h₅.keep _ _ hof, hfd⟩, h₆⟩
end
end
section
noncomputable def EmpP (o : Obj) : Prop := o = emptyDict
theorem emp_dic {prog : Program} {w : World} : ∀ o, EmpP o → DicP prog w [] o := fun _ e => e ▸ ⟨0, #[], ⟨rfl, rfl, rfl⟩, rfl, fun _ he => by simp at he, .nil, .nil⟩
theorem emp_sdic {prog : Program} {w : World} : ∀ o, EmpP o → SDicP prog w [] o := fun _ e => e ▸ sdic_empty
section
variable {prog : Program} {w : World} {A : Around} {E : Value → Shared → Prop} {c : Cfg} {S S' F : List Ent} {s : Shared} {env : Env} {a : Addr}

theorem emp_disp {pos : Pos} {Q : Value → Shared → Prop} (h : St c S s) (hq : ∀ b s', St c ((b, EmpP) :: S) s' → Q (.ref b) s') : wpAny (model prog w) A (eval (.Dict [] [] pos) env) Q E s :=
  wpAny_Dict_empty (hq _ _ (h.push (t := s.toks) _ rfl rfl))

theorem enterK {R : Result → Shared → Prop} {a : Addr} {o : Obj} {fd : FuncData} {body : List Stmt} {args : Args} {mk : Addr → List (Str × Value)} {l : Addr → List (Str × Option Value)} {ns : List Str} {n : Nat}
    (h : St c S s) (hB : Base c.Z) (hA : Room A (n + 1)) (ho : c.Z a = some o) (hdata : o.data = .func fd) (hcd : ZCode c.Z fd.code fd.qualname)
    (hbody : fd.body = .stmts body)
    (hbind : ∀ (E' : Value → Shared → Prop) (Q' : List (Str × Value) → Shared → Prop), (∀ b s', St c ((b, EmpP) :: S) s' → Q' (mk b) s') → wpAny (model prog w) A.in1 (bindArgs fd args) Q' E' s)
    (hcell : (fd.scope.names.all fun x => x.2 != .cell) = true) (hloc : ∀ b, ((mk b).all fun x => fd.scope.names.lookup x.1 == some .local) = true)
    (hns : ∀ b, (l b).map (·.1) = ns) (hok : namesOk fd.scope ns = true) (hl : ∀ b, (l b).map (·.2) = ns.map (fun x => (mk b).reverse.lookup x))
    (k : ∀ b env s', (∃ L, env = callEnv fd L a) → Room (A.deeper env) n → St c ((env.locals, FrP env (l b)) :: (b, EmpP) :: S) s' →
      wpAny (model prog w) (A.deeper env) (execs body env) (fun f s' => R (.ok (.ret (match f with | .ret v => v | _ => .none))) s')
        (fun e s' => wpAny (model prog w) (A.deeper env) (leaving env e) (fun _ s'' => R (.error e) s'') (fun e' s'' => R (.error e') s'') s') s')
    (hco : fd.scope.isCoroutine = false) (hgen : fd.scope.isGenerator = false) (hk : fd.scope.kind = .function) :
    codeAny (model prog w) A (.call (.ref a) args) R s := by
  refine codeAny_call_function hA.deep (h.keep _ _ ho) hdata hco hgen hbody (hcd.cod h) (hbind _ _ fun b s₁ h₁ => ?_)

  refine wpAny_newFunctionEnv (fun x hx => by simpa using List.all_eq_true.mp hcell x hx) (fun x hx => by simpa using List.all_eq_true.mp (hloc b) x hx) (fun h₀ hns₀ hsb₀ => ?_) hk
  have h₂ : St c ((s₁.heap.objs.size, FrP (callEnv fd s₁.heap.objs.size a) (l b)) :: (b, EmpP) :: S) { s₁ with heap := h₀, toks := s₁.toks + (mk b).length } := by
    refine h₁.new (fun b o e => hsb₀.extBut b o (Nat.ne_of_lt (Heap.lt_size e)) (Heap.get?_push_of_some _ e)) (Nat.le_refl _) ?_
    refine frp_new (env := callEnv fd s₁.heap.objs.size a) hns₀ (hns b) hok ?_
    have e : ∀ (l : List (Str × Option Value)) (f : Str → Option Value), l.map (·.2) = (l.map (·.1)).map f → ∀ p ∈ l, f p.1 = p.2 := by
      intro l f
      induction l with
      | nil => intro _ p hp; cases hp
      | cons q l ih =>
        intro e p hp
        simp only [List.map_cons, List.cons.injEq] at e
        rcases List.mem_cons.mp hp with rfl | hp
        · exact e.1.symm
        · exact ih e.2 p hp
    exact e (l b) _ (by rw [hns]; exact hl b)
  exact ⟨h₂.nolim hB, codeAny_func (k b _ _ ⟨_, rfl⟩ (hA.deeper _) h₂)⟩

theorem bindK_plain {fd : FuncData} {args : Args} {mk : Addr → List (Str × Value)} (h : St c S s) (e : bindArgs fd args = (alloc emptyDict >>= fun d => pure (mk d))) (E' : Value → Shared → Prop) (Q' : List (Str × Value) → Shared → Prop)
    (hq : ∀ b s', St c ((b, EmpP) :: S) s' → Q' (mk b) s') : wpAny (model prog w) A (bindArgs fd args) Q' E' s := by
  rw [e]
  exact wpAny_bind (wpAny_alloc (wpAny_pure (hq _ _ (h.push (t := s.toks) _ rfl rfl))))
theorem bindK_dflt {fd : FuncData} {args : Args} {mk : Addr → List (Str × Value)} {T : Addr} {o : Obj} {items : Array Value} {n : Nat} {k : Option (Array Value) → Sem (List (Str × Value))} (h : St c S s)
    (hd : fd.defaults = .ref T) (ho : c.Z T = some o) (hs : o.data = .seq items n) (h₁ : bindArgs fd args = seqItems? fd.defaults >>= k) (h₂ : k (some items) = (alloc emptyDict >>= fun d => pure (mk d)))
    (E' : Value → Shared → Prop) (Q' : List (Str × Value) → Shared → Prop)
    (hq : ∀ b s', St c ((b, EmpP) :: S) s' → Q' (mk b) s') : wpAny (model prog w) A (bindArgs fd args) Q' E' s := by
  rw [h₁, hd]
  refine wpAny_bind (wpAny_seqItems (h.keep _ _ ho) hs ?_)
  rw [h₂]
  exact wpAny_bind (wpAny_alloc (wpAny_pure (hq _ _ (h.push (t := s.toks) _ rfl rfl))))
end
end
section
section
variable {prog : Program} {w : World} {A : Around} {E : Value → Shared → Prop} {c : Cfg} {S F : List Ent} {s : Shared} {a : Addr}
noncomputable def FacSpec (prog : Program) (w : World) (f : Addr) : Prop := ∀ {A : Around} {c : Cfg} {F : List Ent} {s : Shared} {R : Result → Shared → Prop} {x : Addr}, St c F s → KZ w c.Z → Room A 2 →
  (∀ b s', St c ((b, EmpP) :: F) s' → R (.ok (.ret (.ref b))) s') → codeAny (model prog w) A (.call (.ref f) ⟨[.ref x], []⟩) R s
theorem fac307 : FacSpec prog w 307 := by
  intro A c F s R x h hB hA hR
  refine enter (l := [("self", some (.ref x))]) (ns := ["self"]) (binds := [("self", .ref x)]) (n := 1) h hB.toBase hA (hB.k 307 _ rfl (by decide) (by decide)) rfl
    ⟨306, _, _, _, rfl, hB.k 306 _ rfl (by decide) (by decide), rfl, rfl⟩ rfl (BindsTo.of_eq rfl) (by rfl) (by rfl) rfl (by rfl) (by rfl) ?_ rfl rfl rfl
  rintro env s₁ ⟨L, hE⟩ hA₁ h₁
  clear h hE
  kd_p; kd_p
  refine emp_disp h₁ fun b s₂ h₂ => ?_
  exact hR b _ ((h₂.perm (.swap ..)).tailOf)
theorem fac314 : FacSpec prog w 314 := by
  intro A c F s R x h hB hA hR
  refine enter (l := [("self", some (.ref x))]) (ns := ["self"]) (binds := [("self", .ref x)]) (n := 1) h hB.toBase hA (hB.k 314 _ rfl (by decide) (by decide)) rfl
    ⟨313, _, _, _, rfl, hB.k 313 _ rfl (by decide) (by decide), rfl, rfl⟩ rfl (BindsTo.of_eq rfl) (by rfl) (by rfl) rfl (by rfl) (by rfl) ?_ rfl rfl rfl
  rintro env s₁ ⟨L, hE⟩ hA₁ h₁
  clear h hE
  kd_p; kd_p
  refine emp_disp h₁ fun b s₂ h₂ => ?_
  exact hR b _ ((h₂.perm (.swap ..)).tailOf)
theorem fac321 : FacSpec prog w 321 := by
  intro A c F s R x h hB hA hR
  refine enter (l := [("self", some (.ref x))]) (ns := ["self"]) (binds := [("self", .ref x)]) (n := 1) h hB.toBase hA (hB.k 321 _ rfl (by decide) (by decide)) rfl
    ⟨320, _, _, _, rfl, hB.k 320 _ rfl (by decide) (by decide), rfl, rfl⟩ rfl (BindsTo.of_eq rfl) (by rfl) (by rfl) rfl (by rfl) (by rfl) ?_ rfl rfl rfl
  rintro env s₁ ⟨L, hE⟩ hA₁ h₁
  clear h hE
  kd_p; kd_p
  refine emp_disp h₁ fun b s₂ h₂ => ?_
  exact hR b _ ((h₂.perm (.swap ..)).tailOf)
theorem fac328 : FacSpec prog w 328 := by
  intro A c F s R x h hB hA hR
  refine enter (l := [("self", some (.ref x))]) (ns := ["self"]) (binds := [("self", .ref x)]) (n := 1) h hB.toBase hA (hB.k 328 _ rfl (by decide) (by decide)) rfl
    ⟨327, _, _, _, rfl, hB.k 327 _ rfl (by decide) (by decide), rfl, rfl⟩ rfl (BindsTo.of_eq rfl) (by rfl) (by rfl) rfl (by rfl) (by rfl) ?_ rfl rfl rfl
  rintro env s₁ ⟨L, hE⟩ hA₁ h₁
  clear h hE
  kd_p; kd_p
  refine emp_disp h₁ fun b s₂ h₂ => ?_
  exact hR b _ ((h₂.perm (.swap ..)).tailOf)
theorem fac335 : FacSpec prog w 335 := by
  intro A c F s R x h hB hA hR
  refine enter (l := [("self", some (.ref x))]) (ns := ["self"]) (binds := [("self", .ref x)]) (n := 1) h hB.toBase hA (hB.k 335 _ rfl (by decide) (by decide)) rfl
    ⟨334, _, _, _, rfl, hB.k 334 _ rfl (by decide) (by decide), rfl, rfl⟩ rfl (BindsTo.of_eq rfl) (by rfl) (by rfl) rfl (by rfl) (by rfl) ?_ rfl rfl rfl
  rintro env s₁ ⟨L, hE⟩ hA₁ h₁
  clear h hE
  kd_p; kd_p
  refine emp_disp h₁ fun b s₂ h₂ => ?_
  exact hR b _ ((h₂.perm (.swap ..)).tailOf)
theorem fac342 : FacSpec prog w 342 := by
  intro A c F s R x h hB hA hR
  refine enter (l := [("self", some (.ref x))]) (ns := ["self"]) (binds := [("self", .ref x)]) (n := 1) h hB.toBase hA (hB.k 342 _ rfl (by decide) (by decide)) rfl
    ⟨341, _, _, _, rfl, hB.k 341 _ rfl (by decide) (by decide), rfl, rfl⟩ rfl (BindsTo.of_eq rfl) (by rfl) (by rfl) rfl (by rfl) (by rfl) ?_ rfl rfl rfl
  rintro env s₁ ⟨L, hE⟩ hA₁ h₁
  clear h hE
  kd_p; kd_p
  refine emp_disp h₁ fun b s₂ h₂ => ?_
  exact hR b _ ((h₂.perm (.swap ..)).tailOf)
theorem k_f307 (P : Params) : findIn (KK P) (.ref 787) "node_dict_factory" = some (some (.ref 307)) := by kernel_rfl
theorem k_f314 (P : Params) : findIn (KK P) (.ref 787) "node_attr_dict_factory" = some (some (.ref 314)) := by kernel_rfl
theorem k_f321 (P : Params) : findIn (KK P) (.ref 787) "adjlist_outer_dict_factory" = some (some (.ref 321)) := by kernel_rfl
theorem k_f328 (P : Params) : findIn (KK P) (.ref 787) "adjlist_inner_dict_factory" = some (some (.ref 328)) := by kernel_rfl
theorem k_f335 (P : Params) : findIn (KK P) (.ref 787) "edge_attr_dict_factory" = some (some (.ref 335)) := by kernel_rfl
theorem k_f342 (P : Params) : findIn (KK P) (.ref 787) "graph_attr_dict_factory" = some (some (.ref 342)) := by kernel_rfl
theorem isfn (P : Params) : ∀ f ∈ [307, 314, 321, 328, 335, 342, 639, 667, 709, 374, 381], isFn (KK P) (.ref f) = true := by
  intro f hf
  simp only [List.mem_cons, List.not_mem_nil, or_false] at hf
  rcases hf with rfl | rfl | rfl | rfl | rfl | rfl | rfl | rfl | rfl | rfl | rfl <;> kernel_rfl

theorem call_fac {env : Env} {name : Str} {apos p pos : Pos} {f : Addr} {of' : Obj} {fd : FuncData} {x dx : Addr} {l : List (Str × Value)} {fr : List (Str × Option Value)} {Q : Value → Shared → Prop} (h : St c ((env.locals, FrP env fr) :: S) s) (hB : KZ w c.Z) (hA : Room A 3)
    (hself : (("self" : Str), some (Value.ref x)) ∈ fr) (hx : (x, InsP dx) ∈ S) (hd : (dx, SDicP prog w l) ∈ S) (hv : valueAt l name = none) (hline : (apos.endLine == pos.line) = true)
    (hf : findIn (KK w.params) (.ref 787) name = some (some (.ref f))) (hm : f ∈ [307, 314, 321, 328, 335, 342, 639, 667, 709, 374, 381]) (hof : c.Z f = some of') (hfd : of'.data = .func fd) (spec : FacSpec prog w f)
    (hq : ∀ b s', St c ((b, EmpP) :: (env.locals, FrP env fr) :: S) s' → Q (.ref b) s') : wpAny (model prog w) A (eval (.Call (.Attribute (.Name "self" p) name apos) [] [] pos) env) Q E s := by
  refine call_inst hB rfl (by decide) hline rfl hf (isfn _ _ hm) hof hfd ?_
  refine ld h hself ?_
  refine ⟨x, dx, l, _, rfl, h, mt hx, mt hd, hv, spl_nil ⟨⟨_, h⟩, ?_⟩⟩
  exact wpAny_call (spec h hB hA.less fun b s' h' => hq b s' h')
end
end
section
section
variable {prog : Program} {w : World} {A : Around} {E : Value → Shared → Prop} {c : Cfg} {S S' F : List Ent} {s : Shared} {env : Env} {a b : Addr}
theorem St.ne {P P' : Obj → Prop} (h : St c S s) (t : Take S (a, P) S') (hm : (b, P') ∈ S') : a ≠ b := by
  have h₁ := h.perm t.perm
  intro e
  exact (List.nodup_cons.mp h₁.nd).1 (List.mem_map.mpr ⟨_, hm, e.symm⟩)
theorem meets_call {T : String} {name : Str} {id : String} {B : Builtin} {self : Value} {rest : List Value} {S : PySem.Spec} {Q : Value → Shared → Prop} (slot : Slot T name id) (hT : s.TypeIs self T)
    (entry : entryFor table id = some B) (args : argsOk id ⟨self :: rest, []⟩) (g : MeetsIn prog w (B ⟨self :: rest, []⟩) S) (h : S A (wants Q E) s) :
    wpAny (model prog w) A (call (.builtin id) (self :: rest)) Q E s :=
  wpAny_call (codeAny_call_builtin slot.plain entry (slot.check _ _ _ _ _ _ _ _ hT args (g A (wants Q E) s h)))
theorem sdic_pop {k : Str} {t : Tok} {v : Value} {Q : Value → Shared → Prop} {l : List (Str × Value)} (h : St c S s) (hm : (a, SDicP prog w l) ∈ S) (hv : valueAt l k = none) (hq : ∀ s', St c S s' → Q v s') :
    wpAny (model prog w) A (call (.builtin "dict.pop") [.ref a, .str k t, v]) Q E s :=
  meets_call F.slot_dict_pop (sdic_of h hm).typeIs F.entry_dict_pop (F.args_dict_pop_3 _ _ _) (meets_dict_pop_default (strKind prog w) a (strKind_is prog w k t) (own_ne h hm) rfl v) ⟨l, sdic_of h hm, hv, hq _ (h.tok _)⟩
theorem sdic_upd {Q : Value → Shared → Prop} (h : St c S s) (tk : Take S (a, SDicP prog w []) S') (hm : (b, SDicP prog w []) ∈ S') (u : Upd S a (SDicP prog w []) S) (hq : ∀ s', St c S s' → Q .none s') :
    wpAny (model prog w) A (call (.builtin "dict.update") [.ref a, .ref b]) Q E s := by
  have hb := tk.mem.2 _ hm
  refine meets_call F.slot_dict_update (sdic_of h tk.mem.1).typeIs F.entry_dict_update (F.args_dict_update_2 _ _) (meets_dict_update (strKind prog w) a b (h.ne tk hm) (own_ne h hb)) ⟨[], [], sdic_of h tk.mem.1, sdic_of h hb, Nat.zero_le _, fun h' hd _ hs => hq _ ?_⟩
  exact h.set (t := s.toks) u hs (sdicP_of hd)
theorem dic_getd {kvs : List (Int × Value)} {k : Int} {t : Tok} {v : Value} {Q : Value → Shared → Prop} (h : St c S s) (hm : (a, DicP prog w kvs) ∈ S) (hq : ∀ s', St c S s' → Q ((valueAt kvs k).getD v) s') :
    wpAny (model prog w) A (call (.builtin "dict.get") [.ref a, .int k t, v]) Q E s :=
  meets_call F.slot_dict_get (dic_of h hm).typeIs F.entry_dict_get (F.args_dict_get_3 _ _ _) (meets_dict_get_default (intKind prog w) a (intKind_is prog w k t) (own_ne h hm) v) ⟨_, (dic_of h hm).mapOf, hq _ (h.tok _)⟩
theorem exact_meth {P : Obj → Prop} (h : St c S s) (hm : (a, P) ∈ S) (hx : ∀ o, P o → o.ExactDict) : ∃ b ob, Value.ref a = .ref b ∧ s.heap.get? b = some ob ∧ ob.cls = .type "dict" ∧ ob.dict = none := by
  obtain ⟨o, ho, hp⟩ := h.get hm
  exact ⟨a, o, rfl, ho, (hx o hp).1, (hx o hp).2.1⟩
theorem sdic_exact {l : List (Str × Value)} : ∀ o, SDicP prog w l o → o.ExactDict := fun _ ⟨_, _, hx, _⟩ => hx
theorem dic_exact {kvs : List (Int × Value)} : ∀ o, DicP prog w kvs o → o.ExactDict := fun _ ⟨_, _, hx, _⟩ => hx
theorem St.emps (prog : Program) (w : World) {e : Ent} (h : St c ((b, EmpP) :: e :: S) s) : St c (e :: (b, SDicP prog w []) :: S) s := (h.sub (.cons .head emp_sdic .refl)).perm (.swap ..)
theorem St.empd (prog : Program) (w : World) {e : Ent} (h : St c ((b, EmpP) :: e :: S) s) : St c (e :: (b, DicP prog w []) :: S) s := (h.sub (.cons .head emp_dic .refl)).perm (.swap ..)
end
end
section
noncomputable abbrev gAttrs (g0 nd sa pa : Addr) : List (Str × Value) := [("graph", .ref g0), ("_node", .ref nd), ("_adj", .ref sa), ("_succ", .ref sa), ("_pred", .ref pa)]
section
variable {prog : Program} {w : World} {A : Around} {E : Value → Shared → Prop} {c : Cfg} {S F : List Ent} {s : Shared} {a : Addr}
theorem init_spec {R : Result → Shared → Prop} {x dx : Addr} (h : St c ((x, InsP dx) :: (dx, SDicP prog w []) :: F) s) (hB : KZ w c.Z) (hA : Room A 4)
    (hR : ∀ g0 nd sa pa s', St c ((x, InsP dx) :: (dx, SDicP prog w (gAttrs g0 nd sa pa)) :: (nd, DicP prog w []) :: (sa, DicP prog w []) :: (pa, DicP prog w []) :: F) s' → R (.ok (.ret .none)) s') :
    codeAny (model prog w) A (.call (.ref 602) ⟨[.ref x], []⟩) R s := by
  refine enterK (mk := fun b => [("self", .ref x), ("incoming_graph_data", .none), ("attr", .ref b)]) (l := fun b => [("self", some (.ref x)), ("incoming_graph_data", some .none), ("attr", some (.ref b))]) (ns := ["self", "incoming_graph_data", "attr"]) (n := 3) h hB.toBase hA (hB.k 602 _ rfl (by decide) (by decide)) rfl
    ⟨601, _, _, _, rfl, hB.k 601 _ rfl (by decide) (by decide), rfl, rfl⟩ rfl (fun E' Q' hq => bindK_dflt h rfl (hB.k 595 _ rfl (by decide) (by decide)) rfl rfl rfl E' Q' hq) (by rfl) (fun _ => rfl) (fun _ => rfl) (by rfl) (fun _ => rfl) ?_ rfl rfl rfl
  rintro b env s₁ ⟨L, hE⟩ hA₁ h₁
  have hint := fr_kind h₁
  clear h hE
  replace h₁ := h₁.sub (.cons (by w_up) (fun _ h => h) (.cons (by w_up) (emp_sdic (prog := prog) (w := w)) .refl))
  kd_p
  refine plainObj_wpAny_Assign_Attribute ?_ rfl
  refine call_fac h₁ hB hA₁.less (by lk) (by lk) (by lk) rfl rfl (k_f342 _) (by decide) (hB.k 342 _ rfl (by decide) (by decide)) rfl fac342 fun g0 s₂ h₂ => ?_
  replace h₂ := h₂.emps prog w
  refine ld h₂ (by lk) ?_
  refine set_attr (l' := [("graph", .ref g0)]) h₂ hB (by lk) (by lk) (by decide) (Nat.le_of_ble_eq_true rfl) rfl (by kt_k) fun s₃ h₃ => ?_
  kd_p
  refine plainObj_wpAny_Assign_Attribute ?_ rfl
  refine call_fac h₃ hB hA₁.less (by lk) (by lk) (by lk) rfl rfl (k_f307 _) (by decide) (hB.k 307 _ rfl (by decide) (by decide)) rfl fac307 fun nd s₄ h₄ => ?_
  replace h₄ := h₄.empd prog w
  refine ld h₄ (by lk) ?_
  refine set_attr (l' := [("graph", .ref g0), ("_node", .ref nd)]) h₄ hB (by lk) (by lk) (by decide) (Nat.le_of_ble_eq_true rfl) rfl (by kt_k) fun s₅ h₅ => ?_
  kd_p
  refine plainObj_wpAny_Assign_Attribute ?_ rfl
  refine call_fac h₅ hB hA₁.less (by lk) (by lk) (by lk) rfl rfl (k_f321 _) (by decide) (hB.k 321 _ rfl (by decide) (by decide)) rfl fac321 fun sa s₆ h₆ => ?_
  replace h₆ := h₆.empd prog w
  refine ld h₆ (by lk) ?_
  refine set_attr (l' := [("graph", .ref g0), ("_node", .ref nd), ("_adj", .ref sa)]) h₆ hB (by lk) (by lk) (by decide) (Nat.le_of_ble_eq_true rfl) rfl (by kt_k) fun s₇ h₇ => ?_
  kd_p
  refine plainObj_wpAny_Assign_Attribute ?_ rfl
  refine attr_ rfl ?_
  refine ld h₇ (by lk) ?_
  refine get_attr h₇ hB (by lk) (by lk) (by decide) rfl rfl fun s₈ h₈ => ?_
  refine ld h₈ (by lk) ?_
  refine set_attr (l' := [("graph", .ref g0), ("_node", .ref nd), ("_adj", .ref sa), ("_succ", .ref sa)]) h₈ hB (by lk) (by lk) (by decide) (Nat.le_of_ble_eq_true rfl) rfl (by kt_k) fun s₉ h₉ => ?_
  kd_p
  refine plainObj_wpAny_Assign_Attribute ?_ rfl
  refine call_fac h₉ hB hA₁.less (by lk) (by lk) (by lk) rfl rfl (k_f321 _) (by decide) (hB.k 321 _ rfl (by decide) (by decide)) rfl fac321 fun pa t₁ u₁ => ?_
  replace u₁ := u₁.empd prog w
  refine ld u₁ (by lk) ?_
  refine set_attr (l' := gAttrs g0 nd sa pa) u₁ hB (by lk) (by lk) (by decide) (Nat.le_of_ble_eq_true rfl) rfl (by kt_k) fun t₂ u₂ => ?_
  kd_p; kd_p
  refine call_meth rfl (by decide) rfl PySem.F.plainAttrs_dict PySem.F.slot_dict_pop PySem.F.type_dict_pop rfl ?_
  refine ld u₂ (by lk) ?_
  refine ⟨exact_meth u₂ (a := b) (by lk) sdic_exact, ?_⟩
  refine spl_cons ?_ rfl
  refine wpAny_Constant_str ?_
  refine spl_cons ?_ rfl
  kd_p
  refine spl_nil ?_
  refine sdic_pop (u₂.tok _) (l := []) (by lk) rfl fun t₃ u₃ => ?_
  kd_p; kd_p
  refine call_meth rfl (by decide) rfl PySem.F.plainAttrs_dict PySem.F.slot_dict_update PySem.F.type_dict_update rfl ?_
  refine attr_ rfl ?_
  refine ld u₃ (by lk) ?_
  refine get_attr u₃ hB (by lk) (by lk) (by decide) rfl rfl fun t₄ u₄ => ?_
  refine ⟨exact_meth u₄ (a := g0) (by lk) sdic_exact, ?_⟩
  refine spl_cons ?_ rfl
  refine ld u₄ (by lk) ?_
  refine spl_nil ?_
  refine sdic_upd u₄ (by w_up) (by lk) (by kt_k) fun t₅ u₅ => ?_
  kd_p
  exact hR g0 nd sa pa _ (u₅.sub (by k_is))
end
end
section
theorem k_makes (P : Params) : makesIn (KK P) 787 = true := by kernel_rfl
theorem k_init (P : Params) : findIn (KK P) (.ref 787) "__init__" = some (some (.ref 602)) := by kernel_rfl
theorem k_fn602 (P : Params) : typeIn (KK P) (.ref 602) = some (.type "function") := by kernel_rfl
theorem k_keep (P : Params) : keepIn (KK P) (.ref 787) = true := by kernel_rfl
theorem k_addnode (P : Params) : findIn (KK P) (.ref 787) "add_node" = some (some (.ref 639)) := by kernel_rfl
theorem k_addedge (P : Params) : findIn (KK P) (.ref 787) "add_edge" = some (some (.ref 667)) := by kernel_rfl
section
variable {prog : Program} {w : World} {A : Around} {E : Value → Shared → Prop} {c : Cfg} {S F : List Ent} {s : Shared} {a : Addr} {env : Env} {gs : List Str}
theorem Room.under {A : Around} {n : Nat} {c : Code} (r : Room A (n + 1)) (h1 : c.weight ≤ 10) (h2 : c.cUnits ≤ 100) : Room (A.under c) n :=
  ⟨r.handled, by have := r.depth; show A.depth + c.weight + _ ≤ _; lia, by have := r.units; show A.units + c.cUnits + _ ≤ _; lia⟩
theorem Room.underCall {A : Around} {n : Nat} {C : Addr} {vs : List Value} {kw : List (Str × Value)} (r : Room A (n + 1)) : Room (A.under (.builtin "type.__call__" ⟨.ref C :: vs, kw⟩)) n :=
  r.under (Nat.le_of_ble_eq_true (by kernel_rfl)) (Nat.le_of_ble_eq_true (by kernel_rfl))
theorem new_graph {p pos : Pos} {Q : Value → Shared → Prop} (h : St c S s) (hB : KZ w c.Z) (hA : Room A 6) (ge : GE env gs) (hx : ("DiGraph" : Str) ∈ gs)
    (hq : ∀ x dx g0 nd sa pa s', St c ((x, InsP dx) :: (dx, SDicP prog w (gAttrs g0 nd sa pa)) :: (nd, DicP prog w []) :: (sa, DicP prog w []) :: (pa, DicP prog w []) :: S) s' → Q (.ref x) s') :
    wpAny (model prog w) A (eval (.Call (.Name "DiGraph" p) [] [] pos) env) Q E s := by
  refine wpAny_Call_Name_kw (ldg h hB.toGB ge hx (v := .ref 787) (by lk) ?_)
  have X := h.kk hB
  refine callWith_K0 X (k_keep _) ?_
  refine wpAny_call ?_
  obtain ⟨hh, g, d, t, os⟩ := s
  refine make_core (makes_of X (k_makes _)) (looks_findIn X (k_init _)) (fun self => bind_fn X self (k_fn602 _)) (.inl rfl) ?_
  have h₁ := (h.push (t := t) (P := SDicP prog w []) emptyDict rfl sdic_empty).push (t := t) (P := InsP hh.objs.size) (instObj 787 hh.objs.size) rfl rfl
  have e : (hh.push emptyDict).objs.size = hh.objs.size + 1 := Heap.size_push ..
  simp only [e] at h₁
  refine init_spec h₁ hB hA.underCall.less fun g0 nd sa pa s' h₂ => ?_
  exact ⟨rfl, hq _ _ _ _ _ _ _ h₂⟩
end
end
section
theorem itt {b : Bool} {P Q : Prop} (hb : b = true) (h : P) : (if b = true then P else Q) := by rw [if_pos hb]; exact h
theorem itf {b : Bool} {P Q : Prop} (hb : b = false) (h : Q) : (if b = true then P else Q) := by rw [if_neg (by rw [hb]; decide)]; exact h
section
variable {prog : Program} {w : World} {A : Around} {E : Value → Shared → Prop} {c : Cfg} {S S' F : List Ent} {s : Shared} {env : Env} {a b : Addr}

theorem Upd.append {P' : Obj → Prop} (u : Upd S a P' S') : Upd (S ++ F) a P' (S' ++ F) := by
  induction u with
  | head => exact .head
  | tail _ ih => exact .tail ih
theorem Upd.after {P' : Obj → Prop} : ∀ {T : List Ent}, Upd S a P' S' → Upd (T ++ S) a P' (T ++ S')
  | [], u => u
  | _ :: _, u => .tail (Upd.after u)

noncomputable abbrev Inn := List (Int × Addr × List (Int × Value))
noncomputable def inn (prog : Program) (w : World) (sl : Inn) : List Ent := sl.map fun e => (e.2.1, DicP prog w e.2.2)
noncomputable def outD (sl : Inn) : List (Int × Value) := sl.map fun e => (e.1, .ref e.2.1)
noncomputable def updS (sl : Inn) (k : Int) (kvs : List (Int × Value)) : Inn := sl.map fun e => if e.1 = k then (e.1, e.2.1, kvs) else e
theorem updS_id {sl : Inn} {k : Int} {kvs : List (Int × Value)} (h : k ∉ sl.map (·.1)) : updS sl k kvs = sl := by
  unfold updS
  induction sl with
  | nil => rfl
  | cons e r ih =>
    simp only [List.map_cons, List.mem_cons, not_or] at h ⊢
    rw [if_neg fun q => h.1 q.symm, ih h.2]
theorem upd_inn {sl : Inn} {k : Int} {kvs kvs' : List (Int × Value)} (hn : (sl.map (·.1)).Nodup) (h : (k, a, kvs) ∈ sl) : Upd (inn prog w sl) a (DicP prog w kvs') (inn prog w (updS sl k kvs')) := by
  induction sl with
  | nil => cases h
  | cons e r ih =>
    rw [List.map_cons, List.nodup_cons] at hn
    rcases List.mem_cons.mp h with rfl | h
    · show Upd ((a, DicP prog w kvs) :: inn prog w r) a _ (inn prog w ((if k = k then (k, a, kvs') else (k, a, kvs)) :: updS r k kvs'))
      rw [if_pos rfl, updS_id hn.1]
      exact .head
    · have hne : e.1 ≠ k := fun q => hn.1 (List.mem_map.mpr ⟨_, h, q.symm⟩)
      show Upd (_ :: inn prog w r) a _ (inn prog w ((if e.1 = k then (e.1, e.2.1, kvs') else e) :: updS r k kvs'))
      rw [if_neg hne]
      exact .tail (ih hn.2 h)
theorem outD_updS {sl : Inn} {k : Int} {kvs : List (Int × Value)} : outD (updS sl k kvs) = outD sl := by
  unfold outD updS
  rw [List.map_map]
  refine List.map_congr_left fun e _ => ?_
  show (let e' := if e.1 = k then (e.1, e.2.1, kvs) else e; (e'.1, Value.ref e'.2.1)) = _
  split <;> rfl
theorem keys_outD {sl : Inn} : (outD sl).map (·.1) = sl.map (·.1) := by unfold outD; rw [List.map_map]; rfl
theorem mem_inn {sl : Inn} {k : Int} {kvs : List (Int × Value)} (h : (k, a, kvs) ∈ sl) : (a, DicP prog w kvs) ∈ inn prog w sl := List.mem_map.mpr ⟨_, h, rfl⟩
theorem valueAt_mem {kvs : List (Int × Value)} {k : Int} {v : Value} (hn : (kvs.map (·.1)).Nodup) (h : (k, v) ∈ kvs) : valueAt kvs k = some v := by
  obtain ⟨i, hi⟩ := List.getElem?_of_mem h
  exact valueAt_of_get hn hi
theorem valueAt_none {kvs : List (Int × Value)} {k : Int} (h : k ∉ kvs.map (·.1)) : valueAt kvs k = none := by
  unfold valueAt
  rw [List.find?_eq_none.mpr]
  · rfl
  · intro p hp q
    exact h (List.mem_map.mpr ⟨p, hp, of_decide_eq_true q⟩)
theorem stored_new {kvs : List (Int × Value)} {k : Int} {v : Value} (h : k ∉ kvs.map (·.1)) : stored kvs k v = kvs ++ [(k, v)] := by
  unfold stored
  rw [if_neg]
  rw [List.any_eq_true]
  rintro ⟨p, hp, q⟩
  exact h (List.mem_map.mpr ⟨p, hp, of_decide_eq_true q⟩)
theorem isSome_valueAt {kvs : List (Int × Value)} {k : Int} : (valueAt kvs k).isSome = decide (k ∈ kvs.map (·.1)) := by
  unfold valueAt
  rw [Option.isSome_map]
  induction kvs with
  | nil => rfl
  | cons p r ih =>
    simp only [List.find?_cons, List.map_cons, List.mem_cons]
    by_cases h : p.1 = k
    · simp [h]
    · have : ¬ k = p.1 := fun e => h e.symm
      simp [h, this, ih]
theorem assign_sub {o i : Expr} {pos : Pos} {v : Value} {Q : Unit → Shared → Prop}
    (h : wpAny (model prog w) A (eval o env) (fun ov s₂ => wpAny (model prog w) A (eval i env) (fun iv s₃ => wpAny (model prog w) A (setItem ov iv v) Q E s₃) E s₂) E s) : wpAny (model prog w) A (assign (.Subscript o i pos) env v) Q E s := by
  intro Γ p hΓ
  simp only [assign_Subscript, Sem.wp_bind', Sem.wp_holding, Sem.wp_cmd_standAt, Sem.wp_release, Sem.wp_pure']
  exact Sem.wp_mono (model prog w) Γ _ (fun ov p₁ s₁ h₁ => Sem.wp_mono (model prog w) Γ _ (fun iv p₂ s₂ h₂ => Sem.wp_mono (model prog w) Γ _ (fun _ _ _ h' => h') (fun _ _ _ h' => h') _ _ (h₂ Γ _ hΓ)) (fun _ _ _ h' => h') _ _ (h₁ Γ p₁ hΓ)) (fun _ _ _ h' => h') _ _ (h Γ _ hΓ)

theorem swap2 {n1 n2 : Str} {t v : Expr} {spos : Pos} {Q : Flow → Shared → Prop} (hh : A.handled = none) (hs : swapsWithSole [t] v spos.line env = pure false) (hw : swappedStores [t] v env = pure (some [n1, n2]))
    (k : wpAny (model prog w) A (eval v env) (fun r s₁ => ∃ a o v1 v2 S₁, r = .ref a ∧ St c S₁ s₁ ∧ s₁.heap.get? a = some o ∧ TupP [v1, v2] o ∧
      ∀ s₂, St c S₁ s₂ → wpAny (model prog w) A (storeName env n2 v2) (fun _ s₃ => wpAny (model prog w) A (storeName env n1 v1) (fun _ s₄ => Q .next s₄) E s₃) E s₂) E s) :
    wpAny (model prog w) A (exec (.Assign [t] v spos) env) Q E s := by
  rw [exec_Assign_arm, hs]
  refine wpAny_bind (wpAny_standAt (wpAny_bind (wpAny_pure ?_)))
  rw [if_neg (by decide)]
  refine wpAny_bind (wpAny_mono k (fun r s₁ h₁ => ?_) fun _ _ e => e)
  obtain ⟨a, o, v1, v2, S₁, rfl, h₁, ho, ⟨hc, n, hd⟩, k⟩ := h₁
  rw [hw]
  refine wpAny_bind (wpAny_pure ?_)
  unfold assignStores
  refine wpAny_bind (wpAny_rule (wpAny_bind (wpAny_unpackItems_tuple (items := #[v1, v2]) hh ⟨o, ho, hc, n, hd⟩ fun h' hx => ?_)))
  have h₂ := h₁.more (h' := h') (t := s₁.toks) fun b o e => hx b o (Nat.ne_of_lt (Heap.lt_size e)) e
  show wpAny _ _ (assignInOrder [bindName env n2, bindName env n1] [v2, v1] >>= _) _ _ _
  exact wpAny_bind (wpAny_assignInOrder_more (wpAny_bindName (wpAny_mono (k _ h₂) (fun _ s₃ h₃ => wpAny_assignInOrder_more (wpAny_bindName (wpAny_mono h₃ (fun _ s₄ h₄ => wpAny_assignInOrder_none (wpAny_pure h₄)) fun _ _ e => e))) fun _ _ e => e)))
end
end
section
noncomputable abbrev gst (prog : Program) (w : World) (x dx g0 nd sa pa : Addr) (nk skv pkv : List (Int × Value)) (sl pl : Inn) (F : List Ent) : List Ent :=
  (x, InsP dx) :: (dx, SDicP prog w (gAttrs g0 nd sa pa)) :: (nd, DicP prog w nk) :: (sa, DicP prog w skv) :: (pa, DicP prog w pkv) :: (inn prog w sl ++ (inn prog w pl ++ F))
structure GInv (ks : List Int) (Ed : List (Int × Int)) (nk skv pkv : List (Int × Value)) (sl pl : Inn) : Prop where
  nd : ks.Nodup
  kn : nk.map (·.1) = ks
  kS : skv.map (·.1) = ks
  kP : pkv.map (·.1) = ks
  hs : skv.Perm (outD sl)
  hp : pkv.Perm (outD pl)
  es : ∀ k a kvs, (k, a, kvs) ∈ sl → ∀ y, y ∈ kvs.map (·.1) ↔ (k, y) ∈ Ed
  ep : ∀ k a kvs, (k, a, kvs) ∈ pl → ∀ y, y ∈ kvs.map (·.1) ↔ (y, k) ∈ Ed
theorem GInv.nil : GInv [] [] [] [] [] [] [] := ⟨.nil, rfl, rfl, rfl, .refl _, .refl _, fun _ _ _ h => (nomatch h), fun _ _ _ h => (nomatch h)⟩
theorem GInv.node {ks : List Int} {Ed : List (Int × Int)} {nk skv pkv : List (Int × Value)} {sl pl : Inn} (h : GInv ks Ed nk skv pkv sl pl) {n : Int} {v : Value} {a b : Addr} (hn : n ∉ ks) (hE : ∀ p ∈ Ed, p.1 ≠ n ∧ p.2 ≠ n) :
    GInv (ks ++ [n]) Ed (stored nk n v) (stored skv n (.ref a)) (stored pkv n (.ref b)) ((n, a, []) :: sl) ((n, b, []) :: pl) where
  nd := by rw [List.nodup_append]; exact ⟨h.nd, by simp, fun x hx y hy e => hn (by rw [List.mem_singleton.mp hy] at e; exact e ▸ hx)⟩
  kn := by rw [keys_stored, h.kn, if_neg hn]
  kS := by rw [keys_stored, h.kS, if_neg hn]
  kP := by rw [keys_stored, h.kP, if_neg hn]
  hs := by rw [stored_new (by rw [h.kS]; exact hn)]; exact (List.perm_append_comm).trans (h.hs.cons _)
  hp := by rw [stored_new (by rw [h.kP]; exact hn)]; exact (List.perm_append_comm).trans (h.hp.cons _)
  es k a' kvs hm y := by
    rcases List.mem_cons.mp hm with e | hm
    · cases e
      exact ⟨fun q => by simp at q, fun q => absurd rfl (hE _ q).1⟩
    · exact h.es k a' kvs hm y
  ep k a' kvs hm y := by
    rcases List.mem_cons.mp hm with e | hm
    · cases e
      exact ⟨fun q => by simp at q, fun q => absurd rfl (hE _ q).2⟩
    · exact h.ep k a' kvs hm y
theorem GInv.keyS {ks : List Int} {Ed : List (Int × Int)} {nk skv pkv : List (Int × Value)} {sl pl : Inn} (h : GInv ks Ed nk skv pkv sl pl) : (sl.map (·.1)).Nodup := by
  rw [← keys_outD]
  exact ((h.hs.map _).nodup_iff).mp (by rw [h.kS]; exact h.nd)
theorem GInv.keyP {ks : List Int} {Ed : List (Int × Int)} {nk skv pkv : List (Int × Value)} {sl pl : Inn} (h : GInv ks Ed nk skv pkv sl pl) : (pl.map (·.1)).Nodup := by
  rw [← keys_outD]
  exact ((h.hp.map _).nodup_iff).mp (by rw [h.kP]; exact h.nd)
theorem mem_of_key {sl : Inn} {skv : List (Int × Value)} (hs : skv.Perm (outD sl)) {k : Int} (hk : k ∈ skv.map (·.1)) : ∃ a kvs, (k, a, kvs) ∈ sl ∧ (k, Value.ref a) ∈ skv := by
  obtain ⟨p, hp, rfl⟩ := List.mem_map.mp hk
  obtain ⟨e, he, q⟩ := List.mem_map.mp (hs.mem_iff.mp hp)
  obtain ⟨k', a, kvs⟩ := e
  cases q
  exact ⟨a, kvs, he, hp⟩
theorem mem_updS {sl : Inn} (hn : (sl.map (·.1)).Nodup) {k k' : Int} {a : Addr} {kvs kvs' : List (Int × Value)} (h : (k', a, kvs') ∈ updS sl k kvs) : (k' ≠ k ∧ (k', a, kvs') ∈ sl) ∨ (k' = k ∧ kvs' = kvs ∧ ∃ old, (k, a, old) ∈ sl) := by
  obtain ⟨e, he, q⟩ := List.mem_map.mp h
  obtain ⟨k₁, a₁, kvs₁⟩ := e
  dsimp only at q
  split at q
  · rename_i e; cases q; exact .inr ⟨e, rfl, kvs₁, e ▸ he⟩
  · rename_i e; cases q; exact .inl ⟨e, he⟩
theorem inn_uniq {sl : Inn} (hn : (sl.map (·.1)).Nodup) {k : Int} {a a' : Addr} {kvs kvs' : List (Int × Value)} (h : (k, a, kvs) ∈ sl) (h' : (k, a', kvs') ∈ sl) : a = a' ∧ kvs = kvs' := by
  induction sl with
  | nil => cases h
  | cons e r ih =>
    rw [List.map_cons, List.nodup_cons] at hn
    rcases List.mem_cons.mp h with rfl | h₁ <;> rcases List.mem_cons.mp h' with q | h₂
    · cases q; exact ⟨rfl, rfl⟩
    · exact absurd (List.mem_map.mpr ⟨_, h₂, rfl⟩) hn.1
    · exact absurd (List.mem_map.mpr ⟨_, h₁, by rw [← q]⟩) hn.1
    · exact ih hn.2 h₁ h₂
theorem GInv.edge {ks : List Int} {Ed : List (Int × Int)} {nk skv pkv : List (Int × Value)} {sl pl : Inn} (h : GInv ks Ed nk skv pkv sl pl) {u v : Int} {a b : Addr} {ku kv : List (Int × Value)} {x y : Value}
    (hu : (u, a, ku) ∈ sl) (hv : (v, b, kv) ∈ pl) : GInv ks ((u, v) :: Ed) nk skv pkv (updS sl u (stored ku v x)) (updS pl v (stored kv u y)) where
  nd := h.nd
  kn := h.kn
  kS := h.kS
  kP := h.kP
  hs := by rw [outD_updS]; exact h.hs
  hp := by rw [outD_updS]; exact h.hp
  es k a' kvs hm z := by
    rcases mem_updS h.keyS hm with ⟨hne, hm⟩ | ⟨rfl, rfl, old, ho⟩
    · rw [h.es k a' kvs hm z, List.mem_cons]
      exact ⟨.inr, fun q => q.resolve_left fun e => hne (by cases e; rfl)⟩
    · obtain ⟨rfl, rfl⟩ := inn_uniq h.keyS hu ho
      have e : z ∈ (stored ku v x).map (·.1) ↔ z = v ∨ z ∈ ku.map (·.1) := by
        rw [keys_stored]
        split
        · rename_i q; exact ⟨.inr, fun r => r.elim (fun e => e ▸ q) id⟩
        · rw [List.mem_append, List.mem_singleton]; exact or_comm
      rw [e, h.es _ _ _ hu z, List.mem_cons]
      exact ⟨fun r => r.imp (fun e => by rw [e]) id, fun r => r.imp (fun e => by cases e; rfl) id⟩
  ep k a' kvs hm z := by
    rcases mem_updS h.keyP hm with ⟨hne, hm⟩ | ⟨rfl, rfl, old, ho⟩
    · rw [h.ep k a' kvs hm z, List.mem_cons]
      exact ⟨.inr, fun q => q.resolve_left fun e => hne (by cases e; rfl)⟩
    · obtain ⟨rfl, rfl⟩ := inn_uniq h.keyP hv ho
      have e : z ∈ (stored kv u y).map (·.1) ↔ z = u ∨ z ∈ kv.map (·.1) := by
        rw [keys_stored]
        split
        · rename_i q; exact ⟨.inr, fun r => r.elim (fun e => e ▸ q) id⟩
        · rw [List.mem_append, List.mem_singleton]; exact or_comm
      rw [e, h.ep _ _ _ hv z, List.mem_cons]
      exact ⟨fun r => r.imp (fun e => by rw [e]) id, fun r => r.imp (fun e => by cases e; rfl) id⟩

section
variable {prog : Program} {w : World} {A : Around} {E : Value → Shared → Prop} {c : Cfg} {S F : List Ent} {s : Shared} {a : Addr}
theorem addnode_spec {R : Result → Shared → Prop} {x dx g0 nd sa pa : Addr} {nk skv pkv : List (Int × Value)} {sl pl : Inn} {ks : List Int} {Ed : List (Int × Int)} {n : Int} {t : Tok} (h : St c (gst prog w x dx g0 nd sa pa nk skv pkv sl pl F) s) (hB : KZ w c.Z) (hA : Room A 4)
    (hG : GInv ks Ed nk skv pkv sl pl) (hn : n ∉ ks) (hE : ∀ p ∈ Ed, p.1 ≠ n ∧ p.2 ≠ n) (hz : ks.length ≤ 50)
    (hR : ∀ nk skv pkv sl pl s', St c (gst prog w x dx g0 nd sa pa nk skv pkv sl pl F) s' → GInv (ks ++ [n]) Ed nk skv pkv sl pl → R (.ok (.ret .none)) s') :
    codeAny (model prog w) A (.call (.ref 639) ⟨[.ref x, .int n t], []⟩) R s := by
  refine enterK (mk := fun b => [("self", .ref x), ("node_for_adding", .int n t), ("attr", .ref b)]) (l := fun b => [("self", some (.ref x)), ("node_for_adding", some (.int n t)), ("attr", some (.ref b)), ("attr_dict", none)]) (ns := ["self", "node_for_adding", "attr", "attr_dict"]) (n := 3) h hB.toBase hA (hB.k 639 _ rfl (by decide) (by decide)) rfl
    ⟨638, _, _, _, rfl, hB.k 638 _ rfl (by decide) (by decide), rfl, rfl⟩ rfl (fun E' Q' hq => bindK_plain h rfl E' Q' hq) (by rfl) (fun _ => rfl) (fun _ => rfl) (by rfl) (fun _ => rfl) ?_ rfl rfl rfl
  rintro b env s₁ ⟨L, hE'⟩ hA₁ h₁
  have hint := fr_kind h₁
  clear h hE'
  replace h₁ := h₁.sub (.cons (by w_up) (fun _ h => h) (.cons (by w_up) (emp_sdic (prog := prog) (w := w)) .refl))
  have l1 : skv.length = ks.length := by rw [← hG.kS, List.length_map]
  have l2 : pkv.length = ks.length := by rw [← hG.kP, List.length_map]
  have l3 : nk.length = ks.length := by rw [← hG.kn, List.length_map]
  kd_p; kd_p; kd_p
  refine ld h₁ (by lk) ?_
  refine attr_ rfl ?_
  refine ld h₁ (by lk) ?_
  refine get_attr h₁ hB (by lk) (by lk) (by decide) rfl rfl fun s₂ h₂ => ?_
  refine dic_notin h₂ (kvs := skv) (by lk) fun s₃ h₃ => ?_
  kd_p
  rw [isSome_valueAt, hG.kS, show decide (n ∈ ks) = false by simp [hn]]
  refine itt rfl ?_
  kd_p; kd_p; kd_p
  refine ld h₃ (by lk) ?_
  kd_p
  refine is_int_none ?_
  kd_p
  rw [if_neg Bool.false_ne_true]
  kd_p; kd_p; kd_p
  refine call_fac h₃ hB hA₁.less (by lk) (by lk) (by lk) rfl rfl (k_f328 _) (by decide) (hB.k 328 _ rfl (by decide) (by decide)) rfl fac328 fun a1 s₄ h₄ => ?_
  replace h₄ := h₄.empd prog w
  refine attr_ rfl ?_
  refine ld h₄ (by lk) ?_
  refine get_attr h₄ hB (by lk) (by lk) (by decide) rfl rfl fun s₅ h₅ => ?_
  refine ld h₅ (by lk) ?_
  refine dic_set h₅ (by lk) (by lia) (by kt_k) fun s₆ h₆ => ?_
  kd_p; kd_p
  refine call_fac h₆ hB hA₁.less (by lk) (by lk) (by lk) rfl rfl (k_f328 _) (by decide) (hB.k 328 _ rfl (by decide) (by decide)) rfl fac328 fun a2 s₇ h₇ => ?_
  replace h₇ := h₇.empd prog w
  refine attr_ rfl ?_
  refine ld h₇ (by lk) ?_
  refine get_attr h₇ hB (by lk) (by lk) (by decide) rfl rfl fun s₈ h₈ => ?_
  refine ld h₈ (by lk) ?_
  refine dic_set h₈ (by lk) (by lia) (by kt_k) fun s₉ h₉ => ?_
  kd_p
  refine wpAny_Assign_two ?_ rfl rfl
  refine call_fac h₉ hB hA₁.less (by lk) (by lk) (by lk) rfl rfl (k_f314 _) (by decide) (hB.k 314 _ rfl (by decide) (by decide)) rfl fac314 fun a3 t₁ u₁ => ?_
  replace u₁ := u₁.emps prog w
  refine wpAny_assign_Name ?_
  refine sto u₁ (by room) fun t₂ u₂ => ?_
  refine assign_sub ?_
  refine attr_ rfl ?_
  refine ld u₂ (by lk) ?_
  refine get_attr u₂ hB (by lk) (by lk) (by decide) rfl rfl fun t₃ u₃ => ?_
  refine ld u₃ (by lk) ?_
  refine dic_set u₃ (by lk) (by lia) (by kt_k) fun t₄ u₄ => ?_
  kd_p; kd_p
  refine call_meth rfl (by decide) rfl PySem.F.plainAttrs_dict PySem.F.slot_dict_update PySem.F.type_dict_update rfl ?_
  refine ld u₄ (by lk) ?_
  refine ⟨exact_meth u₄ (a := a3) (by lk) sdic_exact, ?_⟩
  refine spl_cons ?_ rfl
  refine ld u₄ (by lk) ?_
  refine spl_nil ?_
  refine sdic_upd u₄ (by w_up) (by lk) (by kt_k) fun t₅ u₅ => ?_
  kd_p; kd_p
  refine hR _ _ _ _ _ _ ?_ (hG.node (a := a1) (b := a2) (v := .ref a3) hn hE)
  refine (u₅.sub (S' := (x, InsP dx) :: (dx, SDicP prog w (gAttrs g0 nd sa pa)) :: (nd, DicP prog w (stored nk n (.ref a3))) :: (sa, DicP prog w (stored skv n (.ref a1))) :: (pa, DicP prog w (stored pkv n (.ref a2))) :: (a1, DicP prog w []) :: (a2, DicP prog w []) :: (inn prog w sl ++ (inn prog w pl ++ F))) (by k_is)).perm ?_
  exact ((((((List.perm_middle (l₁ := inn prog w sl) (a := (a2, DicP prog w [])) (l₂ := inn prog w pl ++ F)).symm.cons _).cons _).cons _).cons _).cons _).cons _
end
end
section
section
variable {prog : Program} {w : World} {A : Around} {E : Value → Shared → Prop} {c : Cfg} {S F : List Ent} {s : Shared} {a : Addr}
theorem addedge_spec {R : Result → Shared → Prop} {x dx g0 nd sa pa : Addr} {nk skv pkv : List (Int × Value)} {sl pl : Inn} {ks : List Int} {Ed : List (Int × Int)} {u v : Int} {tu tv : Tok} (h : St c (gst prog w x dx g0 nd sa pa nk skv pkv sl pl F) s) (hB : KZ w c.Z) (hA : Room A 4)
    (hG : GInv ks Ed nk skv pkv sl pl) (hu : u ∈ ks) (hv : v ∈ ks) (hE : (u, v) ∉ Ed) (hz : Ed.length ≤ 50)
    (hR : ∀ nk skv pkv sl pl s', St c (gst prog w x dx g0 nd sa pa nk skv pkv sl pl F) s' → GInv ks ((u, v) :: Ed) nk skv pkv sl pl → R (.ok (.ret .none)) s') :
    codeAny (model prog w) A (.call (.ref 667) ⟨[.ref x, .int u tu, .int v tv], []⟩) R s := by
  refine enterK (mk := fun b => [("self", .ref x), ("u_of_edge", .int u tu), ("v_of_edge", .int v tv), ("attr", .ref b)]) (l := fun b => [("self", some (.ref x)), ("u_of_edge", some (.int u tu)), ("v_of_edge", some (.int v tv)), ("attr", some (.ref b)), ("u", none), ("v", none), ("datadict", none)]) (ns := ["self", "u_of_edge", "v_of_edge", "attr", "u", "v", "datadict"]) (n := 3) h hB.toBase hA (hB.k 667 _ rfl (by decide) (by decide)) rfl
    ⟨666, _, _, _, rfl, hB.k 666 _ rfl (by decide) (by decide), rfl, rfl⟩ rfl (fun E' Q' hq => bindK_plain h rfl E' Q' hq) (by rfl) (fun _ => rfl) (fun _ => rfl) (by rfl) (fun _ => rfl) ?_ rfl rfl rfl
  rintro b env s₁ ⟨L, hE'⟩ hA₁ h₁
  have hint := fr_kind h₁
  clear h
  replace h₁ := h₁.sub (.cons (by w_up) (fun _ h => h) (.cons (by w_up) (emp_sdic (prog := prog) (w := w)) .refl))
  kd_p
  refine swap2 (c := c) (n1 := "u") (n2 := "v") hA₁.handled rfl (by rw [hE']; rfl) ?_
  clear hE'
  refine tup_disp (c := c) ?_
  refine spl_cons ?_ rfl
  refine ld h₁ (by lk) ?_
  refine spl_cons ?_ rfl
  refine ld h₁ (by lk) ?_
  refine spl_nil ⟨_, h₁, by simp, fun tp s₂ h₂ => ?_⟩
  obtain ⟨otp, hotp, htp⟩ := h₂.get (.head _)
  refine ⟨tp, otp, .int u tu, .int v tv, _, rfl, h₂.tailOf, hotp, by rw [htp]; exact ⟨rfl, _, rfl⟩, fun s₃ h₃ => ?_⟩
  refine sto h₃ (by room) fun s₄ h₄ => ?_
  refine sto h₄ (by room) fun s₅ h₅ => ?_
  obtain ⟨au, ku, hmu, hau⟩ := mem_of_key hG.hs (by rw [hG.kS]; exact hu)
  obtain ⟨av, kv, hmv, hav⟩ := mem_of_key hG.hp (by rw [hG.kP]; exact hv)
  have hvu : valueAt skv u = some (.ref au) := valueAt_mem (by rw [hG.kS]; exact hG.nd) hau
  have hvv : valueAt pkv v = some (.ref av) := valueAt_mem (by rw [hG.kP]; exact hG.nd) hav
  have hnew : valueAt ku v = none := valueAt_none fun q => hE ((hG.es _ _ _ hmu v).mp q)
  kd_p; kd_p; kd_p
  refine ld h₅ (by lk) ?_
  refine attr_ rfl ?_
  refine ld h₅ (by lk) ?_
  refine get_attr h₅ hB (by lk) (by lk) (by decide) rfl rfl fun s₆ h₆ => ?_
  refine dic_notin h₆ (kvs := skv) (by lk) fun s₇ h₇ => ?_
  kd_p
  refine itf (by rw [isSome_valueAt, hG.kS]; simp [hu]) ?_
  kd_p; kd_p; kd_p; kd_p
  refine ld h₇ (by lk) ?_
  refine attr_ rfl ?_
  refine ld h₇ (by lk) ?_
  refine get_attr h₇ hB (by lk) (by lk) (by decide) rfl rfl fun s₈ h₈ => ?_
  refine dic_notin h₈ (kvs := skv) (by lk) fun s₉ h₉ => ?_
  kd_p
  refine itf (by rw [isSome_valueAt, hG.kS]; simp [hv]) ?_
  kd_p; kd_p; kd_p
  refine call_meth rfl (by decide) rfl PySem.F.plainAttrs_dict PySem.F.slot_dict_get PySem.F.type_dict_get rfl ?_
  kd_p
  refine attr_ rfl ?_
  refine ld h₉ (by lk) ?_
  refine get_attr h₉ hB (by lk) (by lk) (by decide) rfl rfl fun t₁ u₁ => ?_
  refine ld u₁ (by lk) ?_
  refine dic_sub u₁ (by lk) hvu sc_name fun t₂ u₂ => ?_
  have hlu : ku.length ≤ 50 := by
    obtain ⟨_, hnd'⟩ : True ∧ (ku.map (·.1)).Nodup := ⟨trivial, dic_nodup u₂ (a := au) (by (with_reducible first | exact List.mem_append_left _ (mem_inn hmu) | exact List.mem_append_right _ (List.mem_append_left _ (mem_inn hmu)) | (refine mt ?_; (with_reducible first | exact List.mem_append_left _ (mem_inn hmu) | exact List.mem_append_right _ (List.mem_append_left _ (mem_inn hmu)) | (refine mt ?_; (with_reducible first | exact List.mem_append_left _ (mem_inn hmu) | exact List.mem_append_right _ (List.mem_append_left _ (mem_inn hmu)) | (refine mt ?_; (with_reducible first | exact List.mem_append_left _ (mem_inn hmu) | exact List.mem_append_right _ (List.mem_append_left _ (mem_inn hmu)) | (refine mt ?_; (with_reducible first | exact List.mem_append_left _ (mem_inn hmu) | exact List.mem_append_right _ (List.mem_append_left _ (mem_inn hmu)) | (refine mt ?_; (with_reducible first | exact List.mem_append_left _ (mem_inn hmu) | exact List.mem_append_right _ (List.mem_append_left _ (mem_inn hmu)) | (refine mt ?_; (with_reducible first | exact List.mem_append_left _ (mem_inn hmu) | exact List.mem_append_right _ (List.mem_append_left _ (mem_inn hmu)) | (refine mt ?_; (with_reducible first | exact List.mem_append_left _ (mem_inn hmu) | exact List.mem_append_right _ (List.mem_append_left _ (mem_inn hmu)) | (refine mt ?_; (with_reducible first | exact List.mem_append_left _ (mem_inn hmu) | exact List.mem_append_right _ (List.mem_append_left _ (mem_inn hmu)) | (refine mt ?_; (with_reducible first | exact List.mem_append_left _ (mem_inn hmu) | exact List.mem_append_right _ (List.mem_append_left _ (mem_inn hmu)) | (refine mt ?_; (with_reducible first | exact List.mem_append_left _ (mem_inn hmu) | exact List.mem_append_right _ (List.mem_append_left _ (mem_inn hmu)) | (refine mt ?_; (with_reducible first | exact List.mem_append_left _ (mem_inn hmu) | exact List.mem_append_right _ (List.mem_append_left _ (mem_inn hmu)) | (refine mt ?_; (with_reducible first | exact List.mem_append_left _ (mem_inn hmu) | exact List.mem_append_right _ (List.mem_append_left _ (mem_inn hmu)) | (refine mt ?_; (with_reducible first | exact List.mem_append_left _ (mem_inn hmu) | exact List.mem_append_right _ (List.mem_append_left _ (mem_inn hmu)) | (refine mt ?_; (with_reducible first | exact List.mem_append_left _ (mem_inn hmu) | exact List.mem_append_right _ (List.mem_append_left _ (mem_inn hmu)) | (refine mt ?_; (with_reducible first | exact List.mem_append_left _ (mem_inn hmu) | exact List.mem_append_right _ (List.mem_append_left _ (mem_inn hmu)) | (refine mt ?_; (with_reducible first | exact List.mem_append_left _ (mem_inn hmu) | exact List.mem_append_right _ (List.mem_append_left _ (mem_inn hmu))))))))))))))))))))))))))))))))))))⟩
    have := nodup_len hnd' (l := Ed.map (·.2)) fun y hy => List.mem_map.mpr ⟨_, (hG.es _ _ _ hmu y).mp hy, rfl⟩
    simp only [List.length_map] at this
    lia
  have hlv : kv.length ≤ 50 := by
    obtain ⟨_, hnd'⟩ : True ∧ (kv.map (·.1)).Nodup := ⟨trivial, dic_nodup u₂ (a := av) (by (with_reducible first | exact List.mem_append_left _ (mem_inn hmv) | exact List.mem_append_right _ (List.mem_append_left _ (mem_inn hmv)) | (refine mt ?_; (with_reducible first | exact List.mem_append_left _ (mem_inn hmv) | exact List.mem_append_right _ (List.mem_append_left _ (mem_inn hmv)) | (refine mt ?_; (with_reducible first | exact List.mem_append_left _ (mem_inn hmv) | exact List.mem_append_right _ (List.mem_append_left _ (mem_inn hmv)) | (refine mt ?_; (with_reducible first | exact List.mem_append_left _ (mem_inn hmv) | exact List.mem_append_right _ (List.mem_append_left _ (mem_inn hmv)) | (refine mt ?_; (with_reducible first | exact List.mem_append_left _ (mem_inn hmv) | exact List.mem_append_right _ (List.mem_append_left _ (mem_inn hmv)) | (refine mt ?_; (with_reducible first | exact List.mem_append_left _ (mem_inn hmv) | exact List.mem_append_right _ (List.mem_append_left _ (mem_inn hmv)) | (refine mt ?_; (with_reducible first | exact List.mem_append_left _ (mem_inn hmv) | exact List.mem_append_right _ (List.mem_append_left _ (mem_inn hmv)) | (refine mt ?_; (with_reducible first | exact List.mem_append_left _ (mem_inn hmv) | exact List.mem_append_right _ (List.mem_append_left _ (mem_inn hmv)) | (refine mt ?_; (with_reducible first | exact List.mem_append_left _ (mem_inn hmv) | exact List.mem_append_right _ (List.mem_append_left _ (mem_inn hmv)) | (refine mt ?_; (with_reducible first | exact List.mem_append_left _ (mem_inn hmv) | exact List.mem_append_right _ (List.mem_append_left _ (mem_inn hmv)) | (refine mt ?_; (with_reducible first | exact List.mem_append_left _ (mem_inn hmv) | exact List.mem_append_right _ (List.mem_append_left _ (mem_inn hmv)) | (refine mt ?_; (with_reducible first | exact List.mem_append_left _ (mem_inn hmv) | exact List.mem_append_right _ (List.mem_append_left _ (mem_inn hmv)) | (refine mt ?_; (with_reducible first | exact List.mem_append_left _ (mem_inn hmv) | exact List.mem_append_right _ (List.mem_append_left _ (mem_inn hmv)) | (refine mt ?_; (with_reducible first | exact List.mem_append_left _ (mem_inn hmv) | exact List.mem_append_right _ (List.mem_append_left _ (mem_inn hmv)) | (refine mt ?_; (with_reducible first | exact List.mem_append_left _ (mem_inn hmv) | exact List.mem_append_right _ (List.mem_append_left _ (mem_inn hmv)) | (refine mt ?_; (with_reducible first | exact List.mem_append_left _ (mem_inn hmv) | exact List.mem_append_right _ (List.mem_append_left _ (mem_inn hmv)) | (refine mt ?_; (with_reducible first | exact List.mem_append_left _ (mem_inn hmv) | exact List.mem_append_right _ (List.mem_append_left _ (mem_inn hmv))))))))))))))))))))))))))))))))))))⟩
    have := nodup_len hnd' (l := Ed.map (·.1)) fun y hy => List.mem_map.mpr ⟨_, (hG.ep _ _ _ hmv y).mp hy, rfl⟩
    simp only [List.length_map] at this
    lia
  refine ⟨exact_meth u₂ (a := au) (by (with_reducible first | exact List.mem_append_left _ (mem_inn hmu) | exact List.mem_append_right _ (List.mem_append_left _ (mem_inn hmu)) | (refine mt ?_; (with_reducible first | exact List.mem_append_left _ (mem_inn hmu) | exact List.mem_append_right _ (List.mem_append_left _ (mem_inn hmu)) | (refine mt ?_; (with_reducible first | exact List.mem_append_left _ (mem_inn hmu) | exact List.mem_append_right _ (List.mem_append_left _ (mem_inn hmu)) | (refine mt ?_; (with_reducible first | exact List.mem_append_left _ (mem_inn hmu) | exact List.mem_append_right _ (List.mem_append_left _ (mem_inn hmu)) | (refine mt ?_; (with_reducible first | exact List.mem_append_left _ (mem_inn hmu) | exact List.mem_append_right _ (List.mem_append_left _ (mem_inn hmu)) | (refine mt ?_; (with_reducible first | exact List.mem_append_left _ (mem_inn hmu) | exact List.mem_append_right _ (List.mem_append_left _ (mem_inn hmu)) | (refine mt ?_; (with_reducible first | exact List.mem_append_left _ (mem_inn hmu) | exact List.mem_append_right _ (List.mem_append_left _ (mem_inn hmu)) | (refine mt ?_; (with_reducible first | exact List.mem_append_left _ (mem_inn hmu) | exact List.mem_append_right _ (List.mem_append_left _ (mem_inn hmu)) | (refine mt ?_; (with_reducible first | exact List.mem_append_left _ (mem_inn hmu) | exact List.mem_append_right _ (List.mem_append_left _ (mem_inn hmu)) | (refine mt ?_; (with_reducible first | exact List.mem_append_left _ (mem_inn hmu) | exact List.mem_append_right _ (List.mem_append_left _ (mem_inn hmu)) | (refine mt ?_; (with_reducible first | exact List.mem_append_left _ (mem_inn hmu) | exact List.mem_append_right _ (List.mem_append_left _ (mem_inn hmu)) | (refine mt ?_; (with_reducible first | exact List.mem_append_left _ (mem_inn hmu) | exact List.mem_append_right _ (List.mem_append_left _ (mem_inn hmu)) | (refine mt ?_; (with_reducible first | exact List.mem_append_left _ (mem_inn hmu) | exact List.mem_append_right _ (List.mem_append_left _ (mem_inn hmu)) | (refine mt ?_; (with_reducible first | exact List.mem_append_left _ (mem_inn hmu) | exact List.mem_append_right _ (List.mem_append_left _ (mem_inn hmu)) | (refine mt ?_; (with_reducible first | exact List.mem_append_left _ (mem_inn hmu) | exact List.mem_append_right _ (List.mem_append_left _ (mem_inn hmu)) | (refine mt ?_; (with_reducible first | exact List.mem_append_left _ (mem_inn hmu) | exact List.mem_append_right _ (List.mem_append_left _ (mem_inn hmu)) | (refine mt ?_; (with_reducible first | exact List.mem_append_left _ (mem_inn hmu) | exact List.mem_append_right _ (List.mem_append_left _ (mem_inn hmu)))))))))))))))))))))))))))))))))))) dic_exact, ?_⟩
  refine spl_cons ?_ rfl
  refine ld u₂ (by lk) ?_
  refine spl_cons ?_ rfl
  refine call_fac u₂ hB hA₁.less (by lk) (by lk) (by lk) rfl rfl (k_f335 _) (by decide) (hB.k 335 _ rfl (by decide) (by decide)) rfl fac335 fun dd t₃ u₃ => ?_
  replace u₃ := u₃.emps prog w
  refine spl_nil ?_
  refine dic_getd u₃ (kvs := ku) (by (with_reducible first | exact List.mem_append_left _ (mem_inn hmu) | exact List.mem_append_right _ (List.mem_append_left _ (mem_inn hmu)) | (refine mt ?_; (with_reducible first | exact List.mem_append_left _ (mem_inn hmu) | exact List.mem_append_right _ (List.mem_append_left _ (mem_inn hmu)) | (refine mt ?_; (with_reducible first | exact List.mem_append_left _ (mem_inn hmu) | exact List.mem_append_right _ (List.mem_append_left _ (mem_inn hmu)) | (refine mt ?_; (with_reducible first | exact List.mem_append_left _ (mem_inn hmu) | exact List.mem_append_right _ (List.mem_append_left _ (mem_inn hmu)) | (refine mt ?_; (with_reducible first | exact List.mem_append_left _ (mem_inn hmu) | exact List.mem_append_right _ (List.mem_append_left _ (mem_inn hmu)) | (refine mt ?_; (with_reducible first | exact List.mem_append_left _ (mem_inn hmu) | exact List.mem_append_right _ (List.mem_append_left _ (mem_inn hmu)) | (refine mt ?_; (with_reducible first | exact List.mem_append_left _ (mem_inn hmu) | exact List.mem_append_right _ (List.mem_append_left _ (mem_inn hmu)) | (refine mt ?_; (with_reducible first | exact List.mem_append_left _ (mem_inn hmu) | exact List.mem_append_right _ (List.mem_append_left _ (mem_inn hmu)) | (refine mt ?_; (with_reducible first | exact List.mem_append_left _ (mem_inn hmu) | exact List.mem_append_right _ (List.mem_append_left _ (mem_inn hmu)) | (refine mt ?_; (with_reducible first | exact List.mem_append_left _ (mem_inn hmu) | exact List.mem_append_right _ (List.mem_append_left _ (mem_inn hmu)) | (refine mt ?_; (with_reducible first | exact List.mem_append_left _ (mem_inn hmu) | exact List.mem_append_right _ (List.mem_append_left _ (mem_inn hmu)) | (refine mt ?_; (with_reducible first | exact List.mem_append_left _ (mem_inn hmu) | exact List.mem_append_right _ (List.mem_append_left _ (mem_inn hmu)) | (refine mt ?_; (with_reducible first | exact List.mem_append_left _ (mem_inn hmu) | exact List.mem_append_right _ (List.mem_append_left _ (mem_inn hmu)) | (refine mt ?_; (with_reducible first | exact List.mem_append_left _ (mem_inn hmu) | exact List.mem_append_right _ (List.mem_append_left _ (mem_inn hmu)) | (refine mt ?_; (with_reducible first | exact List.mem_append_left _ (mem_inn hmu) | exact List.mem_append_right _ (List.mem_append_left _ (mem_inn hmu)) | (refine mt ?_; (with_reducible first | exact List.mem_append_left _ (mem_inn hmu) | exact List.mem_append_right _ (List.mem_append_left _ (mem_inn hmu)) | (refine mt ?_; (with_reducible first | exact List.mem_append_left _ (mem_inn hmu) | exact List.mem_append_right _ (List.mem_append_left _ (mem_inn hmu)))))))))))))))))))))))))))))))))))) fun t₄ u₄ => ?_
  rw [hnew]
  refine sto u₄ (by room) fun t₅ u₅ => ?_
  kd_p; kd_p
  refine call_meth rfl (by decide) rfl PySem.F.plainAttrs_dict PySem.F.slot_dict_update PySem.F.type_dict_update rfl ?_
  refine ld u₅ (by lk) ?_
  refine ⟨exact_meth u₅ (a := dd) (by lk) sdic_exact, ?_⟩
  refine spl_cons ?_ rfl
  refine ld u₅ (by lk) ?_
  refine spl_nil ?_
  refine sdic_upd u₅ (by w_up) (by lk) (by kt_k) fun t₆ u₆ => ?_
  kd_p; kd_p
  refine ld u₆ (by lk) ?_
  kd_p
  refine attr_ rfl ?_
  refine ld u₆ (by lk) ?_
  refine get_attr u₆ hB (by lk) (by lk) (by decide) rfl rfl fun t₇ u₇ => ?_
  refine ld u₇ (by lk) ?_
  refine dic_sub u₇ (by lk) hvu sc_name fun t₈ u₈ => ?_
  refine ld u₈ (by lk) ?_
  refine dic_set u₈ (a := au) (kvs := ku) (by (with_reducible first | exact List.mem_append_left _ (mem_inn hmu) | exact List.mem_append_right _ (List.mem_append_left _ (mem_inn hmu)) | (refine mt ?_; (with_reducible first | exact List.mem_append_left _ (mem_inn hmu) | exact List.mem_append_right _ (List.mem_append_left _ (mem_inn hmu)) | (refine mt ?_; (with_reducible first | exact List.mem_append_left _ (mem_inn hmu) | exact List.mem_append_right _ (List.mem_append_left _ (mem_inn hmu)) | (refine mt ?_; (with_reducible first | exact List.mem_append_left _ (mem_inn hmu) | exact List.mem_append_right _ (List.mem_append_left _ (mem_inn hmu)) | (refine mt ?_; (with_reducible first | exact List.mem_append_left _ (mem_inn hmu) | exact List.mem_append_right _ (List.mem_append_left _ (mem_inn hmu)) | (refine mt ?_; (with_reducible first | exact List.mem_append_left _ (mem_inn hmu) | exact List.mem_append_right _ (List.mem_append_left _ (mem_inn hmu)) | (refine mt ?_; (with_reducible first | exact List.mem_append_left _ (mem_inn hmu) | exact List.mem_append_right _ (List.mem_append_left _ (mem_inn hmu)) | (refine mt ?_; (with_reducible first | exact List.mem_append_left _ (mem_inn hmu) | exact List.mem_append_right _ (List.mem_append_left _ (mem_inn hmu)) | (refine mt ?_; (with_reducible first | exact List.mem_append_left _ (mem_inn hmu) | exact List.mem_append_right _ (List.mem_append_left _ (mem_inn hmu)) | (refine mt ?_; (with_reducible first | exact List.mem_append_left _ (mem_inn hmu) | exact List.mem_append_right _ (List.mem_append_left _ (mem_inn hmu)) | (refine mt ?_; (with_reducible first | exact List.mem_append_left _ (mem_inn hmu) | exact List.mem_append_right _ (List.mem_append_left _ (mem_inn hmu)) | (refine mt ?_; (with_reducible first | exact List.mem_append_left _ (mem_inn hmu) | exact List.mem_append_right _ (List.mem_append_left _ (mem_inn hmu)) | (refine mt ?_; (with_reducible first | exact List.mem_append_left _ (mem_inn hmu) | exact List.mem_append_right _ (List.mem_append_left _ (mem_inn hmu)) | (refine mt ?_; (with_reducible first | exact List.mem_append_left _ (mem_inn hmu) | exact List.mem_append_right _ (List.mem_append_left _ (mem_inn hmu)) | (refine mt ?_; (with_reducible first | exact List.mem_append_left _ (mem_inn hmu) | exact List.mem_append_right _ (List.mem_append_left _ (mem_inn hmu)) | (refine mt ?_; (with_reducible first | exact List.mem_append_left _ (mem_inn hmu) | exact List.mem_append_right _ (List.mem_append_left _ (mem_inn hmu)) | (refine mt ?_; (with_reducible first | exact List.mem_append_left _ (mem_inn hmu) | exact List.mem_append_right _ (List.mem_append_left _ (mem_inn hmu)))))))))))))))))))))))))))))))))))) (by lia) (by (with_reducible first | exact Upd.append (upd_inn hG.keyS hmu) | exact Upd.after (Upd.append (upd_inn hG.keyS hmu)) | (refine' Upd.tail ?ux; (case ux => (with_reducible first | exact Upd.append (upd_inn hG.keyS hmu) | exact Upd.after (Upd.append (upd_inn hG.keyS hmu)) | (refine' Upd.tail ?ux; (case ux => (with_reducible first | exact Upd.append (upd_inn hG.keyS hmu) | exact Upd.after (Upd.append (upd_inn hG.keyS hmu)) | (refine' Upd.tail ?ux; (case ux => (with_reducible first | exact Upd.append (upd_inn hG.keyS hmu) | exact Upd.after (Upd.append (upd_inn hG.keyS hmu)) | (refine' Upd.tail ?ux; (case ux => (with_reducible first | exact Upd.append (upd_inn hG.keyS hmu) | exact Upd.after (Upd.append (upd_inn hG.keyS hmu)) | (refine' Upd.tail ?ux; (case ux => (with_reducible first | exact Upd.append (upd_inn hG.keyS hmu) | exact Upd.after (Upd.append (upd_inn hG.keyS hmu)) | (refine' Upd.tail ?ux; (case ux => (with_reducible first | exact Upd.append (upd_inn hG.keyS hmu) | exact Upd.after (Upd.append (upd_inn hG.keyS hmu)) | (refine' Upd.tail ?ux; (case ux => (with_reducible first | exact Upd.append (upd_inn hG.keyS hmu) | exact Upd.after (Upd.append (upd_inn hG.keyS hmu)) | (refine' Upd.tail ?ux; (case ux => (with_reducible first | exact Upd.append (upd_inn hG.keyS hmu) | exact Upd.after (Upd.append (upd_inn hG.keyS hmu)) | (refine' Upd.tail ?ux; (case ux => (with_reducible first | exact Upd.append (upd_inn hG.keyS hmu) | exact Upd.after (Upd.append (upd_inn hG.keyS hmu)) | (refine' Upd.tail ?ux; (case ux => (with_reducible first | exact Upd.append (upd_inn hG.keyS hmu) | exact Upd.after (Upd.append (upd_inn hG.keyS hmu)) | (refine' Upd.tail ?ux; (case ux => (with_reducible first | exact Upd.append (upd_inn hG.keyS hmu) | exact Upd.after (Upd.append (upd_inn hG.keyS hmu)) | (refine' Upd.tail ?ux; (case ux => (with_reducible first | exact Upd.append (upd_inn hG.keyS hmu) | exact Upd.after (Upd.append (upd_inn hG.keyS hmu)) | (refine' Upd.tail ?ux; (case ux => (with_reducible first | exact Upd.append (upd_inn hG.keyS hmu) | exact Upd.after (Upd.append (upd_inn hG.keyS hmu)) | (refine' Upd.tail ?ux; (case ux => (with_reducible first | exact Upd.append (upd_inn hG.keyS hmu) | exact Upd.after (Upd.append (upd_inn hG.keyS hmu)) | (refine' Upd.tail ?ux; (case ux => (with_reducible first | exact Upd.append (upd_inn hG.keyS hmu) | exact Upd.after (Upd.append (upd_inn hG.keyS hmu)) | (refine' Upd.tail ?ux; (case ux => (with_reducible first | exact Upd.append (upd_inn hG.keyS hmu) | exact Upd.after (Upd.append (upd_inn hG.keyS hmu)))))))))))))))))))))))))))))))))))))))))))))))))))) fun t₉ u₉ => ?_
  kd_p; kd_p
  refine ld u₉ (by lk) ?_
  kd_p
  refine attr_ rfl ?_
  refine ld u₉ (by lk) ?_
  refine get_attr u₉ hB (by lk) (by lk) (by decide) rfl rfl fun v₁ w₁ => ?_
  refine ld w₁ (by lk) ?_
  refine dic_sub w₁ (by lk) hvv sc_name fun v₂ w₂ => ?_
  refine ld w₂ (by lk) ?_
  refine dic_set w₂ (a := av) (kvs := kv) (by (with_reducible first | exact List.mem_append_left _ (mem_inn hmv) | exact List.mem_append_right _ (List.mem_append_left _ (mem_inn hmv)) | (refine mt ?_; (with_reducible first | exact List.mem_append_left _ (mem_inn hmv) | exact List.mem_append_right _ (List.mem_append_left _ (mem_inn hmv)) | (refine mt ?_; (with_reducible first | exact List.mem_append_left _ (mem_inn hmv) | exact List.mem_append_right _ (List.mem_append_left _ (mem_inn hmv)) | (refine mt ?_; (with_reducible first | exact List.mem_append_left _ (mem_inn hmv) | exact List.mem_append_right _ (List.mem_append_left _ (mem_inn hmv)) | (refine mt ?_; (with_reducible first | exact List.mem_append_left _ (mem_inn hmv) | exact List.mem_append_right _ (List.mem_append_left _ (mem_inn hmv)) | (refine mt ?_; (with_reducible first | exact List.mem_append_left _ (mem_inn hmv) | exact List.mem_append_right _ (List.mem_append_left _ (mem_inn hmv)) | (refine mt ?_; (with_reducible first | exact List.mem_append_left _ (mem_inn hmv) | exact List.mem_append_right _ (List.mem_append_left _ (mem_inn hmv)) | (refine mt ?_; (with_reducible first | exact List.mem_append_left _ (mem_inn hmv) | exact List.mem_append_right _ (List.mem_append_left _ (mem_inn hmv)) | (refine mt ?_; (with_reducible first | exact List.mem_append_left _ (mem_inn hmv) | exact List.mem_append_right _ (List.mem_append_left _ (mem_inn hmv)) | (refine mt ?_; (with_reducible first | exact List.mem_append_left _ (mem_inn hmv) | exact List.mem_append_right _ (List.mem_append_left _ (mem_inn hmv)) | (refine mt ?_; (with_reducible first | exact List.mem_append_left _ (mem_inn hmv) | exact List.mem_append_right _ (List.mem_append_left _ (mem_inn hmv)) | (refine mt ?_; (with_reducible first | exact List.mem_append_left _ (mem_inn hmv) | exact List.mem_append_right _ (List.mem_append_left _ (mem_inn hmv)) | (refine mt ?_; (with_reducible first | exact List.mem_append_left _ (mem_inn hmv) | exact List.mem_append_right _ (List.mem_append_left _ (mem_inn hmv)) | (refine mt ?_; (with_reducible first | exact List.mem_append_left _ (mem_inn hmv) | exact List.mem_append_right _ (List.mem_append_left _ (mem_inn hmv)) | (refine mt ?_; (with_reducible first | exact List.mem_append_left _ (mem_inn hmv) | exact List.mem_append_right _ (List.mem_append_left _ (mem_inn hmv)) | (refine mt ?_; (with_reducible first | exact List.mem_append_left _ (mem_inn hmv) | exact List.mem_append_right _ (List.mem_append_left _ (mem_inn hmv)) | (refine mt ?_; (with_reducible first | exact List.mem_append_left _ (mem_inn hmv) | exact List.mem_append_right _ (List.mem_append_left _ (mem_inn hmv)))))))))))))))))))))))))))))))))))) (by lia) (by (with_reducible first | exact Upd.append (upd_inn hG.keyP hmv) | exact Upd.after (Upd.append (upd_inn hG.keyP hmv)) | (refine' Upd.tail ?ux; (case ux => (with_reducible first | exact Upd.append (upd_inn hG.keyP hmv) | exact Upd.after (Upd.append (upd_inn hG.keyP hmv)) | (refine' Upd.tail ?ux; (case ux => (with_reducible first | exact Upd.append (upd_inn hG.keyP hmv) | exact Upd.after (Upd.append (upd_inn hG.keyP hmv)) | (refine' Upd.tail ?ux; (case ux => (with_reducible first | exact Upd.append (upd_inn hG.keyP hmv) | exact Upd.after (Upd.append (upd_inn hG.keyP hmv)) | (refine' Upd.tail ?ux; (case ux => (with_reducible first | exact Upd.append (upd_inn hG.keyP hmv) | exact Upd.after (Upd.append (upd_inn hG.keyP hmv)) | (refine' Upd.tail ?ux; (case ux => (with_reducible first | exact Upd.append (upd_inn hG.keyP hmv) | exact Upd.after (Upd.append (upd_inn hG.keyP hmv)) | (refine' Upd.tail ?ux; (case ux => (with_reducible first | exact Upd.append (upd_inn hG.keyP hmv) | exact Upd.after (Upd.append (upd_inn hG.keyP hmv)) | (refine' Upd.tail ?ux; (case ux => (with_reducible first | exact Upd.append (upd_inn hG.keyP hmv) | exact Upd.after (Upd.append (upd_inn hG.keyP hmv)) | (refine' Upd.tail ?ux; (case ux => (with_reducible first | exact Upd.append (upd_inn hG.keyP hmv) | exact Upd.after (Upd.append (upd_inn hG.keyP hmv)) | (refine' Upd.tail ?ux; (case ux => (with_reducible first | exact Upd.append (upd_inn hG.keyP hmv) | exact Upd.after (Upd.append (upd_inn hG.keyP hmv)) | (refine' Upd.tail ?ux; (case ux => (with_reducible first | exact Upd.append (upd_inn hG.keyP hmv) | exact Upd.after (Upd.append (upd_inn hG.keyP hmv)) | (refine' Upd.tail ?ux; (case ux => (with_reducible first | exact Upd.append (upd_inn hG.keyP hmv) | exact Upd.after (Upd.append (upd_inn hG.keyP hmv)) | (refine' Upd.tail ?ux; (case ux => (with_reducible first | exact Upd.append (upd_inn hG.keyP hmv) | exact Upd.after (Upd.append (upd_inn hG.keyP hmv)) | (refine' Upd.tail ?ux; (case ux => (with_reducible first | exact Upd.append (upd_inn hG.keyP hmv) | exact Upd.after (Upd.append (upd_inn hG.keyP hmv)) | (refine' Upd.tail ?ux; (case ux => (with_reducible first | exact Upd.append (upd_inn hG.keyP hmv) | exact Upd.after (Upd.append (upd_inn hG.keyP hmv)) | (refine' Upd.tail ?ux; (case ux => (with_reducible first | exact Upd.append (upd_inn hG.keyP hmv) | exact Upd.after (Upd.append (upd_inn hG.keyP hmv)) | (refine' Upd.tail ?ux; (case ux => (with_reducible first | exact Upd.append (upd_inn hG.keyP hmv) | exact Upd.after (Upd.append (upd_inn hG.keyP hmv)))))))))))))))))))))))))))))))))))))))))))))))))))) fun v₃ w₃ => ?_
  kd_p
  exact hR _ _ _ _ _ _ (w₃.sub (by k_is)) (hG.edge hmu hmv)
end
end
section
open PySem PySem.Calls PyProof.Rows PySem.W PySem.W.X
open Sem (wp)
section
variable {prog : Program} {w : World} {A : Around} {c : Code} {fs : List Frame} {s : Shared} {P : End → Shared → Prop} {env : Env} {K : Flow → Sem Fin} {H : Value → Sem Fin} {gd : Bool → Bool} {lv : List Value → List Value}
noncomputable abbrev Go (prog : Program) (w : World) (A : Around) (c : Code) (t : Sem Fin) (fs : List Frame) (s : Shared) (P : End → Shared → Prop) : Prop := SegX (model prog w) A c t fs s P

theorem letF {c : Cfg} {s : Shared} {a : Addr} {env : Env} {x0 x1 x2 x3 : Str × Option Value} {l : List (Str × Option Value)} {S : List Ent} {G : Prop} (h : St c ((a, FrP env (x0 :: x1 :: x2 :: x3 :: l)) :: S) s) (k : let T := l; St c ((a, FrP env (x0 :: x1 :: x2 :: x3 :: T)) :: S) s → G) : G := k h
theorem goLet {t : Sem Fin} (h : let B := fs; let P' := P; Go prog w A c t B s P') : Go prog w A c t fs s P := h
theorem go_wrap {α : Type} {m : Sem α} {K : α → Sem Fin} (h : wpAny (model prog w) (A.over c fs) m (fun a s' => Go prog w A c (K a) fs s' P) (fun x s' => Go prog w A c (H x) fs s' P) s) : Go prog w A c (m.wrap K H gd lv) fs s P := by
  rintro Γ p rfl hΓ
  obtain ⟨e, s', hr, hq⟩ := runs_wrap_of_wp (Φ := fun e s' => e.quiet = true ∧ P e s') K H gd lv m (h (Γ.over fs) p (hΓ.over fs)) (fun a p' s' h' => h' Γ p' rfl hΓ) (fun x p' s' h' => h' Γ p' rfl hΓ)
  exact ⟨e, s', hr, hq⟩
theorem go_bind {α : Type} {m : Sem α} {K : α → Sem Fin} (h : wpAny (model prog w) (A.over c fs) m (fun a s' => Go prog w A c (K a) fs s' P) (fun x s' => Go prog w A c (.raise x) fs s' P) s) : Go prog w A c (m >>= K) fs s P := by
  rw [Sem.bind_eq_wrap']; exact go_wrap h
theorem go_at {p' : Pos} {k : Unit → Sem Fin} (h : Go prog w A c (k ()) fs s P) : Go prog w A c (.at p' k) fs s P := go_wrap (m := standAt p') (K := k) (H := .raise) (gd := id) (lv := id) (wpAny_standAt h)
theorem go_point {l : List Value} {k : Unit → Sem Fin} (h : Go prog w A c (k ()) fs s P) : Go prog w A c (.point l k) fs s P := go_wrap (m := point) (K := k) (H := .raise) (gd := id) (lv := fun _ => l) (wpAny_point h)
theorem go_nil (h : Go prog w A c (K .next) fs s P) : Go prog w A c ((execs [] env).wrap K H gd lv) fs s P := h
theorem go_cons {st : Stmt} {rest : List Stmt} (h : Go prog w A c ((exec st env).wrap (fun f => match f with | .next => (execs rest env).wrap K H gd lv | f => K f) H gd lv) fs s P) : Go prog w A c ((execs (st :: rest) env).wrap K H gd lv) fs s P := by
  rw [execs_cons_wrap]; exact h
theorem go_If {test : Expr} {body orelse : List Stmt} {pos : Pos} (h : wpAny (model prog w) (A.over c fs) (isTrue test env (eval test env)) (fun b s' => if b = true then Go prog w A c ((execs body env).wrap K H gd lv) fs s' P else Go prog w A c ((execs orelse env).wrap K H gd lv) fs s' P) (fun x s' => Go prog w A c (H x) fs s' P) s) :
    Go prog w A c ((exec (.If test body orelse pos) env).wrap K H gd lv) fs s P := by
  rw [exec_If]
  show Go prog w A c (.at pos fun _ => (isTrue test env (eval test env) >>= fun b => if b = true then execs body env else execs orelse env).wrap K H gd lv) fs s P
  refine go_at ?_
  rw [Sem.bind_eq_wrap', Sem.wrap_wrap]
  refine go_wrap (wpAny_mono h (fun b s' hb => ?_) fun _ _ e => e)
  cases b with
  | true => exact hb
  | false => exact hb
theorem go_Yield {e : Expr} {ypos pos : Pos} (hfs : splitAtGen fs = none) (hgd : gd false = false) (hfg : fs.any Frame.guarded = false)
    (h : wpAny (model prog w) (A.over c fs) (eval e env) (fun v s' => ∀ l k p, (∀ s'' Q, Go prog w A c (K .next) fs s'' Q → Go prog w A c (k (.send .none)) fs s'' Q) → P (.susp v false l k c p fs) s') (fun x s' => Go prog w A c (H x) fs s' P) s)
    (hco : env.scope.isCoroutine = false) (hi : interactive env = false) : Go prog w A c ((exec (.Expr (.Yield (some e) ypos) pos) env).wrap K H gd lv) fs s P := by
  rw [exec_Expr env _ pos hi rfl]
  show Go prog w A c (.at pos fun _ => ((eval e env >>= fun v => (standAt ypos >>= fun _ => yieldOut env v)) >>= fun x => dropValue (.Yield (some e) ypos) pos x).wrap K H gd lv) fs s P
  have hy : ∀ v, yieldOut env v = yieldValue v := fun v => by simp only [yieldOut, hco, Bool.false_eq_true, if_false]
  simp only [hy]
  refine go_at ?_
  rw [Sem.bind_eq_wrap', Sem.bind_eq_wrap', Sem.wrap_wrap, Sem.wrap_wrap]
  refine go_wrap (wpAny_mono h (fun v s' h' => ?_) fun _ _ x => x)
  refine go_at ?_
  rintro Γ p rfl _
  refine ⟨_, s', Runs.yield' fs hfs, by simp [End.quiet, hgd, hfg], ?_⟩
  show P (End.susp v (gd false) _ _ _ p fs) s'
  rw [hgd]
  exact h' _ _ p fun s'' Q hx => hx
theorem go_call {c' : Code} {h : Option Value} {g : Bool} {l : List Value} {k : Result → Sem Fin} (hc : ∀ p, Go prog w A c' ((model prog w).den c') (.ret k h g l c p [] :: fs) s P) : Go prog w A c (.call c' h g l k) fs s P := by
  rintro Γ p rfl hΓ
  obtain ⟨e, s', hr, hq⟩ := hc p (Γ.goto c') p rfl (hΓ.goto c')
  exact ⟨e, s', runs_call_seg hr, hq⟩
theorem go_again {c' : Code} (hq : c'.quiet = true) (hc : Go prog w A c' ((model prog w).den c') fs s P) : Go prog w A c (.pure (.again c')) fs s P := s_again prog w A c fs P s c' hq hc
theorem go_leaf {k : Result → Sem Fin} {h : Option Value} {g : Bool} {l : List Value} {c₁ : Code} {p₁ : Pos} {kp : List Value} (r : Result) (hk : Go prog w A c₁ (k r) fs s P) : Go prog w A c (leafOf r) (.ret k h g l c₁ p₁ kp :: fs) s P := s_pop prog w A c fs P s r _ rfl k h g l c₁ p₁ kp hk
theorem go_end (r : Result) (h : P (.ret r) s) : Go prog w A c (leafOf r) [] s P := s_end prog w A c P s r _ rfl h

noncomputable abbrev ownBack (env : Env) (K : Flow → Sem Fin) (H : Value → Sem Fin) (gd : Bool → Bool) (lv : List Value → List Value) (r : Result) : Sem Fin :=
  ((match r with | .ok f => (.pure f : Sem Flow) | .error e => .raise e).onRaise fun (x : Value) => do
    if (← field x 1) == Value.none then unsupported "frame.own-activation:exception-without-traceback"
    setFlight x env.frame).wrap K H gd lv
theorem go_While {test : Expr} {body orelse : List Stmt} {pos : Pos}
    (h : ∀ p, Go prog w A (.whileLoop test body orelse env) ((model prog w).den (.whileLoop test body orelse env)) (.ret (ownBack env K H gd lv) none (gd false) (lv []) c p [] :: fs) s P) :
    Go prog w A c ((exec (.While test body orelse pos) env).wrap K H gd lv) fs s P := go_at (go_call h)
theorem go_For {target iter : Expr} {body orelse : List Stmt} {pos : Pos} (hs : ∀ x, foldedSetIterable iter env x = pure x)
    (h : wpAny (model prog w) (A.over c fs) (eval iter env) (fun x s₁ => wpAny (model prog w) (A.over c fs) (pyIter x) (fun it s₂ => ∀ p,
      Go prog w A (.forLoop target it body orelse env) ((model prog w).den (.forLoop target it body orelse env)) (.ret (ownBack env K H gd lv) none (gd false) (lv []) c p [] :: fs) s₂ P) (fun x s' => Go prog w A c (H x) fs s' P) s₁) (fun x s' => Go prog w A c (H x) fs s' P) s) :
    Go prog w A c ((exec (.For target iter body orelse pos) env).wrap K H gd lv) fs s P := by
  rw [exec_For]
  show Go prog w A c (.at pos fun _ => (eval iter env >>= fun y => foldedSetIterable iter env y >>= fun x => standAt iter.pos >>= fun _ => holding [x] (pyIter x) >>= fun it => runOwn (.forLoop target it body orelse env) env).wrap K H gd lv) fs s P
  refine go_at ?_
  rw [Sem.bind_eq_wrap', Sem.wrap_wrap]
  refine go_wrap (wpAny_mono h (fun x s₁ h₁ => ?_) fun _ _ e => e)
  rw [hs]
  show Go prog w A c (.at iter.pos fun _ => (holding [x] (pyIter x) >>= fun it => runOwn (.forLoop target it body orelse env) env).wrap K H gd lv) fs s₁ P
  refine go_at ?_
  rw [Sem.bind_eq_wrap', Sem.wrap_wrap]
  refine go_wrap (wpAny_holding (wpAny_mono h₁ (fun it s₂ h₂ => ?_) fun _ _ e => e))
  exact go_call h₂

noncomputable abbrev noteH (env : Env) (e : Value) : Sem Fin := (do noteFrame e env; theTreesLotGoes e : Sem Unit).wrap (fun _ => .raise e) .raise id id
noncomputable abbrev loopK (again : Code) (f : Flow) : Sem Fin := match f with
  | .next | .cont => .pure (.again again)
  | .brk => .pure (.done .next)
  | .ret v => .pure (.done (.ret v))
theorem go_whileLoop {test : Expr} {body orelse : List Stmt}
    (h : wpAny (model prog w) (A.over (.whileLoop test body orelse env) fs) (isTrue test env (eval test env)) (fun b s' =>
        if b = true then Go prog w A (.whileLoop test body orelse env) ((execs body env).wrap (loopK (.whileLoop test body orelse env)) (noteH env) id id) fs s' P
        else Go prog w A (.whileLoop test body orelse env) ((execs orelse env).wrap (fun f => .pure (.done f)) (noteH env) id id) fs s' P)
      (fun x s' => Go prog w A (.whileLoop test body orelse env) (noteH env x) fs s' P) s) :
    Go prog w A (.whileLoop test body orelse env) ((model prog w).den (.whileLoop test body orelse env)) fs s P := by
  show Go prog w A _ ((whileTurn test body orelse env).onRaise (fun x => do noteFrame x env; theTreesLotGoes x)) fs s P
  unfold whileTurn
  rw [Sem.onRaise_eq_wrap, Sem.bind_eq_wrap', Sem.wrap_wrap]
  refine go_wrap (wpAny_mono h (fun b s' hb => ?_) fun x s' hx => ?_)
  · cases b with
    | true =>
      rw [if_pos rfl] at hb
      show Go prog w A _ (Sem.wrap _ _ _ _ (if true = true then _ else _)) fs s' P
      rw [if_pos rfl, Sem.bind_eq_wrap', Sem.wrap_wrap]
      rw [Sem.wrap_congr (execs body env) _ _ (K' := loopK (.whileLoop test body orelse env)) (H' := noteH env) (fun f => by cases f <;> rfl)
        (fun e => by first | exact Sem.bind_eq_wrap _ _ | (show (do noteFrame e env; theTreesLotGoes e : Sem Unit).bind (fun _ => .raise e) = _; rw [Sem.bind_eq_wrap]))]
      exact hb
    | false =>
      rw [if_neg Bool.false_ne_true] at hb
      show Go prog w A _ (Sem.wrap _ _ _ _ (if false = true then _ else _)) fs s' P
      rw [if_neg Bool.false_ne_true, Sem.bind_eq_wrap', Sem.wrap_wrap]
      rw [Sem.wrap_congr (execs orelse env) _ _ (K' := fun f => (.pure (.done f) : Sem Fin)) (H' := noteH env) (fun f => by rfl)
        (fun e => by first | exact Sem.bind_eq_wrap _ _ | (show (do noteFrame e env; theTreesLotGoes e : Sem Unit).bind (fun _ => .raise e) = _; rw [Sem.bind_eq_wrap]))]
      exact hb
  · first
      | (rw [← Sem.bind_eq_wrap] at hx; exact hx)
      | (show Go prog w A _ ((do noteFrame x env; theTreesLotGoes x : Sem Unit).bind fun _ => .raise x) fs s' P; rw [Sem.bind_eq_wrap]; exact hx)
theorem go_forLoop {target : Expr} {it : Value} {body orelse : List Stmt}
    (h : wpAny (model prog w) (A.over (.forLoop target it body orelse env) fs) (pyNext it) (fun r s₁ => match r with
      | none => Go prog w A (.block orelse env) ((model prog w).den (.block orelse env)) fs s₁ P
      | some v => wpAny (model prog w) (A.over (.forLoop target it body orelse env) fs) (letOwnedTupleGo target it v) (fun _ s₂ => wpAny (model prog w) (A.over (.forLoop target it body orelse env) fs) (assign target env v) (fun _ s₃ =>
          Go prog w A (.forLoop target it body orelse env) ((execs body env).wrap (loopK (.forLoop target it body orelse env)) (noteH env) id id) fs s₃ P)
          (fun x s' => Go prog w A (.forLoop target it body orelse env) (noteH env x) fs s' P) s₂) (fun x s' => Go prog w A (.forLoop target it body orelse env) (noteH env x) fs s' P) s₁)
      (fun x s' => Go prog w A (.forLoop target it body orelse env) (noteH env x) fs s' P) s) :
    Go prog w A (.forLoop target it body orelse env) ((model prog w).den (.forLoop target it body orelse env)) fs s P := by
  have hx : ∀ x s', Go prog w A (.forLoop target it body orelse env) (noteH env x) fs s' P → Go prog w A (.forLoop target it body orelse env) ((do noteFrame x env; theTreesLotGoes x : Sem Unit).bind fun _ => .raise x) fs s' P := fun x s' q => by
    rw [Sem.bind_eq_wrap]; exact q
  show Go prog w A _ ((forTurn target it body orelse env).onRaise (fun x => do noteFrame x env; theTreesLotGoes x)) fs s P
  unfold forTurn
  rw [Sem.onRaise_eq_wrap]
  show Go prog w A _ (.at target.pos fun _ => Sem.wrap _ _ _ _ ((pyNext it).onRaise (fun _ => standAt { target.pos with line := 0 }) >>= _)) fs s P
  refine go_at ?_
  rw [Sem.bind_eq_wrap', Sem.wrap_wrap]
  refine go_wrap (wpAny_onRaise (wpAny_mono h (fun r s₁ h₁ => ?_) fun x s' q => wpAny_standAt (hx x s' q)))
  cases r with
  | none => exact go_again rfl h₁
  | some v =>
    show Go prog w A _ (Sem.wrap _ _ _ _ (letOwnedTupleGo target it v >>= fun _ => assign target env v >>= fun _ => execs body env >>= _)) fs s₁ P
    rw [Sem.bind_eq_wrap', Sem.wrap_wrap]
    refine go_wrap (wpAny_mono h₁ (fun _ s₂ h₂ => ?_) fun x s' q => hx x s' q)
    rw [Sem.bind_eq_wrap', Sem.wrap_wrap]
    refine go_wrap (wpAny_mono h₂ (fun _ s₃ h₃ => ?_) fun x s' q => hx x s' q)
    rw [Sem.bind_eq_wrap', Sem.wrap_wrap]
    rw [Sem.wrap_congr (execs body env) _ _ (K' := loopK (.forLoop target it body orelse env)) (H' := noteH env) (fun f => by cases f <;> rfl)
      (fun e => by first | exact Sem.bind_eq_wrap _ _ | (show (do noteFrame e env; theTreesLotGoes e : Sem Unit).bind (fun _ => .raise e) = _; rw [Sem.bind_eq_wrap]))]
    exact h₃
theorem go_func {body : List Stmt}
    (h : Go prog w A (.func body env) ((execs body env).wrap (fun f => .pure (.done (.ret (match f with | .ret v => v | _ => .none)))) (fun e => (leaving env e).wrap (fun _ => .raise e) .raise id id) id id) fs s P) :
    Go prog w A (.func body env) ((model prog w).den (.func body env)) fs s P := by
  show Go prog w A _ (.point [] fun _ => ((execs body env).onRaise (leaving env)) >>= _) fs s P
  refine go_point ?_
  rw [Sem.onRaise_eq_wrap, Sem.bind_eq_wrap', Sem.wrap_wrap]
  rw [Sem.wrap_congr (execs body env) _ _ (K' := fun f => .pure (.done (.ret (match f with | .ret v => v | _ => .none))))
    (H' := fun e => (leaving env e).wrap (fun _ => .raise e) .raise id id) (fun f => by cases f <;> rfl)
    (fun e => by rw [Sem.bind_eq_wrap, Sem.wrap_wrap]; rfl)]
  exact h
theorem Room.push {A : Around} {c c' : Code} {fs : List Frame} {k : Result → Sem Fin} {g : Bool} {l : List Value} {p : Pos} {n : Nat} (r : Room (A.over c fs) (n + 1)) (h1 : c'.weight ≤ 10) (h2 : c'.cUnits ≤ 100) : Room (A.over c' (.ret k none g l c p [] :: fs)) n := by
  have hd := r.depth
  have hu := r.units
  refine ⟨?_, ?_, ?_⟩
  · have := r.handled
    show (marksOver (.ret k none g l c p [] :: fs) (A.handled, A.handled)).1 = none
    simp only [marksOver, List.foldr_cons, Frame.marks, markOver]
    exact this
  · show A.depth + frameCount ((c, p) :: fs.map Frame.where_) + c'.weight + _ ≤ _
    rw [frameCount_cons]
    have : (A.over c fs).depth = A.depth + frameCount (fs.map Frame.where_) + c.weight := rfl
    lia
  · show A.units + unitsOf ((c, p) :: fs.map Frame.where_) + c'.cUnits + _ ≤ _
    rw [unitsOf_cons]
    have : (A.over c fs).units = A.units + unitsOf (fs.map Frame.where_) + c.cUnits := rfl
    lia
end
end
section
open PySem PySem.Calls PyProof.Rows PySem.W PySem.W.X
open Sem (wp)
theorem k_len (P : Params) : findIn (KK P) (.ref 787) "__len__" = some (some (.ref 381)) := by kernel_rfl
theorem k_contains (P : Params) : findIn (KK P) (.ref 787) "__contains__" = some (some (.ref 374)) := by kernel_rfl
theorem k_neighbors (P : Params) : findIn (KK P) (.ref 787) "neighbors" = some (some (.ref 709)) := by kernel_rfl
theorem k_fnget (P : Params) : specialIn (KK P) (.ref 709) "__get__" = some (some (.builtin "function.__get__")) := by kernel_rfl
theorem k_fntakes (P : Params) : takesIn (KK P) (.ref 709) = some false := by kernel_rfl
theorem k_fnIn709 (P : Params) : fnIn (KK P) 709 = true := by kernel_rfl
noncomputable def MthP (f x : Addr) (o : Obj) : Prop := o = methodObj (.ref f) (.ref x)
noncomputable def SetP (prog : Program) (w : World) (l : List Int) (o : Obj) : Prop :=
  ∃ es ep t, o.ExactSet ∧ o.data = .set es ep t ∧ ElemsOf (intKind prog w) es.toList ∧ (∀ k, decide (k ∈ l) = true ↔ ∃ e ∈ es.toList, (intKind prog w).is k e.2 = true) ∧ es.size < scanBound ∧ t.fits es.size = true ∧ es.size = l.length
section
variable {prog : Program} {w : World} {A : Around} {E : Value → Shared → Prop} {c : Cfg} {S S' F : List Ent} {s : Shared} {env : Env} {a x dx : Addr} {l : List (Str × Value)} {name : Str}

theorem get_bound {f : Addr} {Q : Value → Shared → Prop} {expr : Bool} (h : St c S s) (hB : KZ w c.Z) (hx : (x, InsP dx) ∈ S) (hd : (dx, IDicP prog w l) ∈ S) (hf : findIn (KK w.params) (.ref 787) name = some (some (.ref f)))
    (hfg : specialIn (KK w.params) (.ref f) "__get__" = some (some (.builtin "function.__get__"))) (hft : takesIn (KK w.params) (.ref f) = some false) (hfn : isFn (KK w.params) (.ref f) = true) (hc : copiedNames.contains name = false)
    (hv : valueAt l name = none) (hq : ∀ m s', St c ((m, MthP f x) :: S) s' → Q (.ref m) s') : wpAny (model prog w) A (getAttr (.ref x) name expr) Q E s := by
  obtain ⟨od, hp, I⟩ := inst_atI h hx hd
  have X := h.kk hB
  have hfo : findObj (KK w.params) 787 (some od) name = some (.bind (.builtin "function.__get__") (.ref f)) := by
    obtain ⟨cd, hc', hd'⟩ := any_some (k_dict w.params)
    unfold findObj
    have ho : W.ownOf cd (some od) name = some none := by
      unfold W.ownOf
      rw [if_pos hd']
      show lookIn name od = _
      rw [idic_look hp, hv]
    rw [hc', Option.bind_some, hf, Option.bind_some]
    simp only [hfg, Option.bind_some, hft, ho, hc, Bool.false_and, Bool.false_eq_true, if_false]
  refine get_bind X I (k_ga _) hfo (k_gat _) (wpAny_call (fn_get (s := { s with toks := s.toks + 1 }) X (beq_iff_eq.mp hfn) ?_))
  exact handed_on rfl (hq _ _ (h.push (t := s.toks + 1) _ rfl rfl))

theorem call_bound {f : Str} {p pos : Pos} {args : List Expr} {m g x : Addr} {Q : Value → Shared → Prop} (hB : KZ w c.Z) (hg : fnIn (KK w.params) g = true)
    (hs : (args.all fun e => match e with | .Starred .. => false | _ => true) = true)
    (k : wpAny (model prog w) A (eval (.Name f p) env) (fun v s₀ => v = .ref m ∧ wpAny (model prog w) A (spl args env pos) (fun vs s₁ => (∃ S₁, St c S₁ s₁ ∧ (m, MthP g x) ∈ S₁) ∧ codeAny (model prog w) A (.call (.ref g) ⟨.ref x :: vs, []⟩) (fun r s' => match r with | .ok (.ret v) => Q v s' | .ok _ => False | .error e => E e s') s₁) E s₀) E s) :
    wpAny (model prog w) A (eval (.Call (.Name f p) args [] pos) env) Q E s := by
  refine wpAny_Call_Name_kw (wpAny_mono k (fun v s₀ h₀ => ?_) fun _ _ e => e)
  obtain ⟨rfl, h₀⟩ := h₀
  refine callWith_of (P := MethP (KK w.params) m g (.ref x)) (by rw [back_all hs]; rfl) (keeps_M hg) (evalArgs_spl hs (wpAny_mono h₀ (fun vs s₁ h₁ => ?_) fun _ _ e => e))
  obtain ⟨⟨S₁, h₂, hm⟩, h₃⟩ := h₁
  obtain ⟨o, ho, rfl⟩ := h₂.get hm
  exact ⟨⟨ho, h₂.kk hB⟩, wpAny_call (method_call ho h₃)⟩

theorem len_inst {Q : Value → Shared → Prop} {n : Int} (h : St c S s) (hB : KZ w c.Z) (hx : (x, InsP dx) ∈ S) (hd : (dx, IDicP prog w l) ∈ S) (h0 : 0 ≤ n) (h1 : n < 1000)
    (k : codeAny (model prog w) A.in1 (.call (.ref 381) ⟨[.ref x], []⟩) (fun r s' => match r with | .ok (.ret v) => (∃ t, v = .int n t) ∧ ∀ t, Q (.int n t) { s' with toks := s'.toks + 1 } | .ok _ => False | .error e => E e s') s) :
    wpAny (model prog w) A (call (.builtin "len") [.ref x]) Q E s := by
  obtain ⟨od, hp, I⟩ := inst_atI h hx hd
  refine Calls.call_function_entry kind_len plain_len entry_len (args_len1 _) ?_
  unfold Builtin.«len»
  refine wpAny_bind (m := oneArg "len" _) (wpAny_pure ?_)
  refine wpAny_bind (m := callSpecial? (.ref x) (Str.ofString "__len__")) (special_fn (h.kk hB) I (k_len _) (beq_iff_eq.mp (isfn _ 381 (by decide))) (wpAny_call (codeAny_mono k fun r s' hr => ?_)))
  rcases r with e | (v | _ | _ | _) <;> first | exact hr | exact hr.elim | skip
  obtain ⟨⟨t, rfl⟩, hq⟩ := hr
  refine wpAny_bind (wpAny_holding (wpAny_pure ?_))
  refine wpAny_bind (wpAny_letGo ?_)
  show wpAny _ _ (if n < 0 then _ else _) _ _ _
  rw [if_neg (by lia)]
  show wpAny _ _ (if n ≥ 2 ^ 63 then _ else _) _ _ _
  rw [if_neg (by lia)]
  exact wpAny_bind (wpAny_mkInt (wpAny_pure ⟨_, rfl, hq _⟩))

variable {vis : List Int} {k : Int} {t : Tok}
theorem set_of (h : St c S s) (hm : (a, SetP prog w vis) ∈ S) : s.heap.SetOf (intKind prog w) a (fun k => decide (k ∈ vis)) vis.length := by
  obtain ⟨o, ho, es, ep, t, r⟩ := h.get hm
  exact ⟨o, es, ep, t, ho, r⟩
theorem new_set {Q : Value → Shared → Prop} (h : St c S s) (hq : ∀ b s', St c ((b, SetP prog w []) :: S) s' → Q (.ref b) s') : wpAny (model prog w) A (call (.type "set") []) Q E s := by
  refine call_set_0 fun led => hq _ _ (h.push (t := s.toks) _ rfl ⟨#[], 0, .fresh 0 0 led, ⟨rfl, rfl, rfl⟩, rfl, fun _ he => by simp at he, fun k => by simp, by decide, ?_, rfl⟩)
  cases led <;> decide +kernel
theorem in_set {Q : Value → Shared → Prop} (h : St c S s) (hm : (a, SetP prog w vis) ∈ S) (hq : ∀ s', St c S s' → Q (.bool (decide (k ∈ vis))) s') : wpAny (model prog w) A (compareOp .In (.int k t) (.ref a)) Q E s :=
  wpAny_inSet_of (intKind_is prog w k t) rfl (set_of h hm) (hq _ (h.tok _))
theorem set_add {Q : Value → Shared → Prop} (h : St c S s) (hm : (a, SetP prog w vis) ∈ S) (hn : k ∉ vis) (hz : vis.length ≤ 900) (u : Upd S a (SetP prog w (k :: vis)) S') (hq : ∀ s', St c S' s' → Q .none s') : wpAny (model prog w) A (call (.builtin "set.add") [.ref a, .int k t]) Q E s := by
  refine call_set_add (intKind_is prog w k t) rfl (set_of h hm) (by show _ < 4096; lia) fun h' hs hS => hq _ (h.set u hs ?_)
  obtain ⟨o, es, ep, t, ho, r1, r2, r3, r4, r5, r6, r7⟩ := hS
  refine ⟨o, ho, es, ep, t, r1, r2, r3, fun k' => ?_, r5, r6, ?_⟩
  · rw [← r4 k']
    simp only [Bool.or_eq_true, decide_eq_true_eq, List.mem_cons]
    exact or_comm
  · rw [r7, if_neg (by simp [hn])]; rfl
theorem set_meth {l : List Int} (h : St c S s) (hm : (a, SetP prog w l) ∈ S) : ∃ b ob, Value.ref a = .ref b ∧ s.heap.get? b = some ob ∧ ob.cls = .type "set" ∧ ob.dict = none := by
  obtain ⟨o, ho, es, ep, t, hx, _⟩ := h.get hm
  exact ⟨a, o, rfl, ho, hx.1, hx.2.1⟩
theorem lst_last {vs : List Value} {v : Value} {Q : Value → Shared → Prop} (h : St c S s) (hm : (a, LstP (vs ++ [v])) ∈ S) (hz : vs.length ≤ 900) (hq : Q v s) : wpAny (model prog w) A (getItem (.ref a) (.int (-1) t)) Q E s := by
  refine wpAny_getItem_list_neg (lst_is h hm) (by decide) (by simp; lia) (by decide) ?_ hq
  have e : ((-1 : Int) + ((vs ++ [v]).toArray.size : Nat)).toNat = vs.length := by simp; lia
  rw [e]
  simp
noncomputable def TupE (vs : List Value) (o : Obj) : Prop := o = { cls := .type "tuple", data := .seq vs.toArray }
theorem tup_get {vs : List Value} {i : Nat} {v : Value} {Q : Value → Shared → Prop} (h : St c S s) (hm : (a, TupE vs) ∈ S) (hi : i < 100) (hv : vs[i]? = some v) (hq : Q v s) : wpAny (model prog w) A (getItem (.ref a) (.int i t)) Q E s := by
  obtain ⟨o, ho, rfl⟩ := h.get hm
  have hlt : i < vs.length := by
    rcases Nat.lt_or_ge i vs.length with q | q
    · exact q
    · rw [List.getElem?_eq_none q] at hv; cases hv
  refine PySem.P.getItem_tuple (n := 0) (items := vs.toArray) (k := i) ho (by lia) (by lia) ?_ (by simpa using hv) hq
  unfold seqIndex?
  have h1 : ¬ ((i : Int) < 0) := by lia
  simp only [h1, if_false, List.size_toArray, Bool.and_eq_true, decide_eq_true_eq, Int.toNat_natCast]
  rw [if_pos]
  constructor <;> first | lia | (exact Int.ofNat_lt.mpr hlt)
end
section
variable {prog : Program} {w : World} {A : Around} {c : Code} {fs : List Frame} {s : Shared} {P : End → Shared → Prop} {env : Env}
theorem go_block {stmts : List Stmt} (h : Go prog w A (.block stmts env) ((execs stmts env).wrap (fun f => .pure (.done f)) (noteH env) id id) fs s P) : Go prog w A (.block stmts env) ((model prog w).den (.block stmts env)) fs s P := by
  show Go prog w A _ (((execs stmts env).onRaise (fun x => do noteFrame x env; theTreesLotGoes x)) >>= fun f => pure (Fin.done f)) fs s P
  rw [Sem.onRaise_eq_wrap, Sem.bind_eq_wrap', Sem.wrap_wrap]
  rw [Sem.wrap_congr (execs stmts env) _ _ (K' := fun f => (.pure (.done f) : Sem Fin)) (H' := noteH env) (fun f => by rfl)
    (fun e => by first | exact Sem.bind_eq_wrap _ _ | (show ((do noteFrame e env; theTreesLotGoes e : Sem Unit).bind (fun _ => .raise e)).wrap _ _ _ _ = _; rw [Sem.bind_eq_wrap, Sem.wrap_wrap]; rfl))]
  exact h
end
end
section
open PySem PySem.Calls PyProof.Rows PySem.W PySem.W.X
open Sem (wp)
theorem kind_iter : builtinKind "iter" = none := by decide +kernel
theorem plain_iter : plainId "iter" = true := by decide +kernel
theorem entry_iter : entryFor table "iter" = some Builtin.«iter» := entryFor_of_tree (by kernel_rfl)
theorem args_iter1 (a : Value) : argsOk "iter" ⟨[a], []⟩ := by unfold argsOk; kernel_rfl
noncomputable def FDic (prog : Program) (w : World) (Z : Addr → Option Obj) (a : Addr) (kvs : List (Int × Value)) (ep : Nat) : Prop := a ≠ sysModules ∧ ∃ o, Z a = some o ∧ DicE prog w kvs ep o
section
variable {prog : Program} {w : World} {A : Around} {E : Value → Shared → Prop} {c c' : Cfg} {S S' F : List Ent} {s : Shared} {env : Env} {a b : Addr} {kvs : List (Int × Value)} {ep : Nat} {k : Int} {t : Tok} {v : Value}
theorem FDic.ext (h : FDic prog w c.Z a kvs ep) (x : Ext c c') : FDic prog w c'.Z a kvs ep := ⟨h.1, let ⟨o, hz, hd⟩ := h.2; ⟨o, x.z _ _ hz, hd⟩⟩
theorem fdic_at (h : St c S s) (hf : FDic prog w c.Z a kvs ep) : s.heap.DictAt (intKind prog w) a kvs ep := by
  obtain ⟨_, o, hz, es, r1, r2, r3, r4, r5⟩ := hf
  exact ⟨o, es, h.keep _ _ hz, r1, r2, r3, r4, r5⟩
theorem fd_ne (hf : FDic prog w c.Z a kvs ep) : (a == sysModules) = false := beq_false_of_ne hf.1
theorem fd_nodup (hf : FDic prog w c.Z a kvs ep) : (kvs.map (·.1)).Nodup := let ⟨_, _, _, _, _, _, _, _, r⟩ := hf; r
theorem fd_sub {value slice : Expr} {Q : Value → Shared → Prop} (h : St c S s) (hf : FDic prog w c.Z a kvs ep) (hv : valueAt kvs k = some v)
    (hs : subscripted slice false (.ref a) (.int k t) = operate [.ref a, .int k t] (getItem (.ref a) (.int k t))) (hq : ∀ s', St c S s' → Q v s') : wpAny (model prog w) A (subscriptTail value slice (.ref a) (.int k t)) Q E s :=
  sub_tail (fdic_at h hf).dictOf.typeIs slot_dict_getitem.lookup hs (wpAny_getItem_of (intKind_is prog w k t) (fdic_at h hf).dictOf.mapOf hv (hq _ (h.tok _)))
theorem fd_in {Q : Value → Shared → Prop} (h : St c S s) (hf : FDic prog w c.Z a kvs ep) (hq : ∀ s', St c S s' → Q (.bool (valueAt kvs k).isSome) s') : wpAny (model prog w) A (compareOp .In (.int k t) (.ref a)) Q E s :=
  wpAny_in_of (intKind_is prog w k t) (fd_ne hf) (fdic_at h hf).dictOf.mapOf (hq _ (h.tok _))
theorem fd_len {Q : Value → Shared → Prop} (h : St c S s) (hf : FDic prog w c.Z a kvs ep) (hz : kvs.length ≤ 900) (hq : ∀ t s', St c S s' → Q (.int kvs.length t) s') : wpAny (model prog w) A (call (.builtin "len") [.ref a]) Q E s :=
  call_len_dict (fd_ne hf) (fdic_at h hf).dictOf (by lia) (hq _ _ (h.tok _))
theorem fd_iter {Q : Value → Shared → Prop} (h : St c S s) (hf : FDic prog w c.Z a kvs ep) (hq : ∀ it s', St c ((it, KItP a 0 kvs.length ep) :: S) s' → Q (.ref it) s') : wpAny (model prog w) A (pyIter (.ref a)) Q E s :=
  wpAny_pyIter_dict (fd_ne hf) (fdic_at h hf) (hq _ _ (h.push (t := s.toks) _ rfl ⟨rfl, rfl⟩))
theorem fd_next {i : Nat} {d : Addr} {Q : Option Value → Shared → Prop} (h : St c S s) (hit : (a, KItP d i kvs.length ep) ∈ S) (hf : FDic prog w c.Z d kvs ep) (hx : kvs[i]? = some (k, v)) (u : Upd S a (KItP d (i + 1) kvs.length ep) S')
    (hq : ∀ t s', St c S' s' → Q (some (.int k t)) s') : wpAny (model prog w) A (pyNext (.ref a)) Q E s := by
  obtain ⟨o, ho, r⟩ := h.get hit
  refine wpAny_pyNext_dict_item ⟨o, ho, r⟩ (fdic_at h hf) hx fun key h' hk hi hs => ?_
  obtain ⟨t, rfl⟩ := Value.isInt_shape hk
  exact hq _ _ (h.set (t := s.toks) u hs hi)
theorem fd_end {i : Nat} {d : Addr} {Q : Option Value → Shared → Prop} (hh : A.handled = none) (h : St c S s) (tk : Take S (a, KItP d i kvs.length ep) S') (hf : FDic prog w c.Z d kvs ep) (hx : kvs[i]? = none) (hq : ∀ s', St c S' s' → Q none s') : wpAny (model prog w) A (pyNext (.ref a)) Q E s := by
  obtain ⟨o, ho, r⟩ := h.get tk.mem.1
  exact wpAny_pyNext_dict_end hh ⟨o, ho, r⟩ (fdic_at h hf) hx fun h' hs => hq _ (h.ext (tk := s.toks) tk hs)
theorem call_iter {x : Value} {Q : Value → Shared → Prop} (h : wpAny (model prog w) A.in1 (pyIter x) Q E s) : wpAny (model prog w) A (call (.builtin "iter") [x]) Q E s := by
  refine Calls.call_function_entry kind_iter plain_iter entry_iter (args_iter1 _) ?_
  unfold Builtin.«iter»
  refine wpAny_bind (m := someArgs "iter" 1 2 _) (wpAny_pure ?_)
  exact wpAny_bind (wpAny_mono h (fun r s' hr => wpAny_pure ⟨r, rfl, hr⟩) fun _ _ e => e)
theorem freeze_dic {kvs : List (Int × Value)} (h : St c S s) (t : Take S (a, DicP prog w kvs) S') : ∃ c' ep, Ext c c' ∧ FDic prog w c'.Z a kvs ep ∧ St c' S' s := by
  have h1 := h.one _ t.mem.1
  obtain ⟨c', o, x, hz, ⟨ep, hd⟩, h'⟩ := h.freeze t
  exact ⟨c', ep, x, ⟨h1, o, hz, hd⟩, h'⟩

structure FGr (prog : Program) (w : World) (Z : Addr → Option Obj) (nd sa pa : Addr) (ks : List Int) (su pr : Int → List Int) : Prop where
  n : ∃ kv ep, FDic prog w Z nd kv ep ∧ kv.map (·.1) = ks
  s : ∃ kv ep, FDic prog w Z sa kv ep ∧ kv.map (·.1) = ks ∧ ∀ k ∈ ks, ∃ a kvs ep, valueAt kv k = some (.ref a) ∧ FDic prog w Z a kvs ep ∧ kvs.map (·.1) = su k
  p : ∃ kv ep, FDic prog w Z pa kv ep ∧ kv.map (·.1) = ks ∧ ∀ k ∈ ks, ∃ a kvs ep, valueAt kv k = some (.ref a) ∧ FDic prog w Z a kvs ep ∧ kvs.map (·.1) = pr k
theorem FGr.ext {nd sa pa : Addr} {ks : List Int} {su pr : Int → List Int} (h : FGr prog w c.Z nd sa pa ks su pr) (x : Ext c c') : FGr prog w c'.Z nd sa pa ks su pr := by
  obtain ⟨⟨a1, a2, a3, a4⟩, ⟨b1, b2, b3, b4, b5⟩, ⟨c1, c2, c3, c4, c5⟩⟩ := h
  refine ⟨⟨a1, a2, a3.ext x, a4⟩, ⟨b1, b2, b3.ext x, b4, fun k hk => ?_⟩, ⟨c1, c2, c3.ext x, c4, fun k hk => ?_⟩⟩
  · obtain ⟨a, kvs, ep, e1, e2, e3⟩ := b5 k hk
    exact ⟨a, kvs, ep, e1, e2.ext x, e3⟩
  · obtain ⟨a, kvs, ep, e1, e2, e3⟩ := c5 k hk
    exact ⟨a, kvs, ep, e1, e2.ext x, e3⟩
end
noncomputable def Zle (c c' : Cfg) : Prop := ∀ a o, c.Z a = some o → c'.Z a = some o
theorem Zle.trans {a b c : Cfg} (x : Zle a b) (y : Zle b c) : Zle a c := fun i o e => y i o (x i o e)
theorem FDic.le {prog : Program} {w : World} {c c' : Cfg} {a : Addr} {kvs : List (Int × Value)} {ep : Nat} (h : FDic prog w c.Z a kvs ep) (x : Zle c c') : FDic prog w c'.Z a kvs ep := ⟨h.1, let ⟨o, hz, hd⟩ := h.2; ⟨o, x _ _ hz, hd⟩⟩
theorem FGr.le {prog : Program} {w : World} {c c' : Cfg} {nd sa pa : Addr} {ks : List Int} {su pr : Int → List Int} (h : FGr prog w c.Z nd sa pa ks su pr) (x : Zle c c') : FGr prog w c'.Z nd sa pa ks su pr := by
  obtain ⟨⟨a1, a2, a3, a4⟩, ⟨b1, b2, b3, b4, b5⟩, ⟨c1, c2, c3, c4, c5⟩⟩ := h
  refine ⟨⟨a1, a2, a3.le x, a4⟩, ⟨b1, b2, b3.le x, b4, fun k hk => ?_⟩, ⟨c1, c2, c3.le x, c4, fun k hk => ?_⟩⟩
  · obtain ⟨a, kvs, ep, e1, e2, e3⟩ := b5 k hk
    exact ⟨a, kvs, ep, e1, e2.le x, e3⟩
  · obtain ⟨a, kvs, ep, e1, e2, e3⟩ := c5 k hk
    exact ⟨a, kvs, ep, e1, e2.le x, e3⟩
end
section
open PySem PySem.Calls PyProof.Rows PySem.W PySem.W.X
open Sem (wp)
section
variable {prog : Program} {w : World} {A : Around} {E : Value → Shared → Prop} {c : Cfg} {S F : List Ent} {s : Shared} {a : Addr} {x dx g0 nd sa pa : Addr} {at' : List (Str × Value)} {ks : List Int} {su pr : Int → List Int}
structure GAt (l : List (Str × Value)) (nd sa pa : Addr) : Prop where
  node : valueAt l "_node" = some (.ref nd)
  succ : valueAt l "_succ" = some (.ref sa)
  pred : valueAt l "_pred" = some (.ref pa)
  no : ∀ n ∈ (["neighbors", "__len__", "add_node", "add_edge"] : List Str), valueAt l n = none
theorem neigh_spec {c₀ : Cfg} (hz : Zle c₀ c) {R : Result → Shared → Prop} {n : Int} {t : Tok} (h : St c S s) (hB : KZ w c.Z) (hA : Room A 4) (hx : (x, InsP dx) ∈ S) (hd : (dx, IDicP prog w at') ∈ S) (hat : GAt at' nd sa pa)
    (hg : FGr prog w c₀.Z nd sa pa ks su pr) (hn : n ∈ ks)
    (hR : ∀ it d kvs ep s', FDic prog w c₀.Z d kvs ep → kvs.map (·.1) = su n → St c ((it, KItP d 0 kvs.length ep) :: S) s' → R (.ok (.ret (.ref it))) s') : codeAny (model prog w) A (.call (.ref 709) ⟨[.ref x, .int n t], []⟩) R s := by
  refine enter (l := [("self", some (.ref x)), ("n", some (.int n t)), ("err", none)]) (ns := ["self", "n", "err"]) (binds := [("self", .ref x), ("n", .int n t)]) (n := 3) h hB.toBase hA (hB.k 709 _ rfl (by decide) (by decide)) rfl
    ⟨708, _, _, _, rfl, hB.k 708 _ rfl (by decide) (by decide), rfl, rfl⟩ rfl (BindsTo.of_eq rfl) (by rfl) (by rfl) rfl (by rfl) (by rfl) ?_ rfl rfl rfl
  rintro env s₁ ⟨L, hE⟩ hA₁ h₁
  have ge : GE env ["iter"] := .of (by rw [hE]; rfl) (by rw [hE]; rfl) (by rw [hE]; rfl)
  clear h hE
  obtain ⟨kv, ep, f1, f2, f3⟩ := hg.s
  obtain ⟨d, kvs, ep', e1, e2, e3⟩ := f3 n hn
  kd_p
  refine wpAny_Try_except ?_
  kd_p; kd_p
  refine call_bi h₁ hB.toGB ge (by lk) (by lk) rfl ?_
  refine spl_cons ?_ rfl
  kd_p
  refine attr_ rfl ?_
  refine ld h₁ (by lk) ?_
  refine get_attrI h₁ hB (mt hx) (mt hd) (by decide) hat.succ rfl fun s₂ h₂ => ?_
  refine ld h₂ (by lk) ?_
  refine fd_sub h₂ (f1.le hz) e1 sc_name fun s₃ h₃ => ?_
  refine spl_nil ?_
  refine call_iter ?_
  refine fd_iter h₃ (e2.le hz) fun it s₄ h₄ => ?_
  exact hR it d kvs ep' _ e2 e3 ((h₄.perm (.swap ..)).tailOf)
theorem contains_spec {R : Result → Shared → Prop} {n : Int} {t : Tok} (h : St c S s) (hB : KZ w c.Z) (hA : Room A 4) (hx : (x, InsP dx) ∈ S) (hd : (dx, IDicP prog w at') ∈ S) (hat : GAt at' nd sa pa)
    (hg : FGr prog w c.Z nd sa pa ks su pr) (hR : ∀ s', St c S s' → R (.ok (.ret (.bool (decide (n ∈ ks))))) s') : codeAny (model prog w) A (.call (.ref 374) ⟨[.ref x, .int n t], []⟩) R s := by
  refine enter (l := [("self", some (.ref x)), ("n", some (.int n t))]) (ns := ["self", "n"]) (binds := [("self", .ref x), ("n", .int n t)]) (n := 3) h hB.toBase hA (hB.k 374 _ rfl (by decide) (by decide)) rfl
    ⟨373, _, _, _, rfl, hB.k 373 _ rfl (by decide) (by decide), rfl, rfl⟩ rfl (BindsTo.of_eq rfl) (by rfl) (by rfl) rfl (by rfl) (by rfl) ?_ rfl rfl rfl
  rintro env s₁ ⟨L, hE⟩ hA₁ h₁
  clear h hE
  obtain ⟨kv, ep, f1, f2⟩ := hg.n
  kd_p
  refine wpAny_Try_except ?_
  kd_p; kd_p
  kd_p
  refine ld h₁ (by lk) ?_
  refine attr_ rfl ?_
  refine ld h₁ (by lk) ?_
  refine get_attrI h₁ hB (mt hx) (mt hd) (by decide) hat.node rfl fun s₂ h₂ => ?_
  refine fd_in h₂ f1 fun s₃ h₃ => ?_
  rw [isSome_valueAt, f2]
  exact hR _ h₃.tailOf
theorem glen_spec {R : Result → Shared → Prop} (h : St c S s) (hB : KZ w c.Z) (hA : Room A 4) (hx : (x, InsP dx) ∈ S) (hd : (dx, IDicP prog w at') ∈ S) (hat : GAt at' nd sa pa)
    (hg : FGr prog w c.Z nd sa pa ks su pr) (hz : ks.length ≤ 50) (hR : ∀ t s', St c S s' → R (.ok (.ret (.int ks.length t))) s') : codeAny (model prog w) A (.call (.ref 381) ⟨[.ref x], []⟩) R s := by
  refine enter (l := [("self", some (.ref x))]) (ns := ["self"]) (binds := [("self", .ref x)]) (n := 3) h hB.toBase hA (hB.k 381 _ rfl (by decide) (by decide)) rfl
    ⟨380, _, _, _, rfl, hB.k 380 _ rfl (by decide) (by decide), rfl, rfl⟩ rfl (BindsTo.of_eq rfl) (by rfl) (by rfl) rfl (by rfl) (by rfl) ?_ rfl rfl rfl
  rintro env s₁ ⟨L, hE⟩ hA₁ h₁
  have ge : GE env ["len"] := .of (by rw [hE]; rfl) (by rw [hE]; rfl) (by rw [hE]; rfl)
  clear h hE
  obtain ⟨kv, ep, f1, f2⟩ := hg.n
  kd_p; kd_p
  refine call_bi h₁ hB.toGB ge (by lk) (by lk) rfl ?_
  refine spl_cons ?_ rfl
  refine attr_ rfl ?_
  refine ld h₁ (by lk) ?_
  refine get_attrI h₁ hB (mt hx) (mt hd) (by decide) hat.node rfl fun s₂ h₂ => ?_
  refine spl_nil ?_
  have hl : kv.length = ks.length := by rw [← f2, List.length_map]
  refine fd_len h₂ f1 (by lia) fun t s₃ h₃ => ?_
  rw [hl]
  exact hR t _ h₃.tailOf
end
end
section
open PySem PySem.Calls PyProof.Rows PySem.W PySem.W.X
open Sem (wp)
noncomputable def ItemP (y : Int × Bool) (o : Obj) : Prop := ∃ u tu tv td d, TupE [.int u tu, .int y.1 tv, .str d td] o ∧ (y.2 = true ↔ d = ("reverse" : Str))
theorem item_of {u v : Int} {tu tv td : Tok} {d : Str} {b : Bool} (hd : b = true ↔ d = ("reverse" : Str)) : ∀ o : Obj, o = { cls := .type "tuple", data := .seq [Value.int u tu, .int v tv, .str d td].toArray } → ItemP (v, b) o := fun _ q => ⟨u, tu, tv, td, d, q, hd⟩
theorem St.item {c : Cfg} {S : List Ent} {s : Shared} {b : Addr} {u v : Int} {tu tv td : Tok} {d : Str} {r : Bool} (h : St c ((b, fun o => o = { cls := .type "tuple", data := .seq [Value.int u tu, .int v tv, .str d td].toArray }) :: S) s) (hd : r = true ↔ d = ("reverse" : Str)) : St c ((b, ItemP (v, r)) :: S) s :=
  h.sub (.cons .head (item_of hd) .refl)
section
variable (prog : Program) (w : World) (A : Around) (Gr : List Ent)
noncomputable def RestAt : List (Int × Bool) → Cfg → List Ent → Code → Sem Fin → List Frame → Prop
  | [] => fun c' Gp cc t fs => ∀ c F s, Zle c' c → St c (Gp ++ F) s → Go prog w A cc t fs s (fun e s' => e = .ret (.ok (.ret .none)) ∧ St c (Gr ++ F) s')
  | y :: l => fun c' Gp cc t fs => ∀ c F s, Zle c' c → St c (Gp ++ F) s → Go prog w A cc t fs s (fun e s' => ∃ ls k cc' p fs' va Gp', e = .susp (.ref va) false ls k cc' p fs' ∧ St c ((va, ItemP y) :: (Gp' ++ F)) s' ∧ RestAt l c Gp' cc' (k (.send .none)) fs')
noncomputable def PostR (l : List (Int × Bool)) (c : Cfg) (F : List Ent) (e : End) (s' : Shared) : Prop := match l with
  | [] => e = .ret (.ok (.ret .none)) ∧ St c (Gr ++ F) s'
  | y :: l => ∃ ls k cc' p fs' va Gp', e = .susp (.ref va) false ls k cc' p fs' ∧ St c ((va, ItemP y) :: (Gp' ++ F)) s' ∧ RestAt prog w A Gr l c Gp' cc' (k (.send .none)) fs'
theorem rest_iff {l : List (Int × Bool)} {c' : Cfg} {Gp : List Ent} {cc : Code} {t : Sem Fin} {fs : List Frame} : RestAt prog w A Gr l c' Gp cc t fs ↔ ∀ c F s, Zle c' c → St c (Gp ++ F) s → Go prog w A cc t fs s (PostR prog w A Gr l c F) := by
  cases l <;> exact Iff.rfl
end
section
variable {prog : Program} {w : World} {A : Around} {c : Code} {fs : List Frame} {s : Shared} {P : End → Shared → Prop} {env : Env} {K : Flow → Sem Fin} {H : Value → Sem Fin} {gd : Bool → Bool} {lv : List Value → List Value}
noncomputable def seqK (rest : List Stmt) (env : Env) (K : Flow → Sem Fin) (H : Value → Sem Fin) (gd : Bool → Bool) (lv : List Value → List Value) (f : Flow) : Sem Fin := match f with | .next => (execs rest env).wrap K H gd lv | f => K f
theorem g_cons {st : Stmt} {rest : List Stmt} (h : Go prog w A c ((exec st env).wrap (seqK rest env K H gd lv) H gd lv) fs s P) : Go prog w A c ((execs (st :: rest) env).wrap K H gd lv) fs s P := go_cons h
theorem g_next {rest : List Stmt} (h : Go prog w A c ((execs rest env).wrap K H gd lv) fs s P) : Go prog w A c (seqK rest env K H gd lv .next) fs s P := h
theorem g_brk {rest : List Stmt} (h : Go prog w A c (K .brk) fs s P) : Go prog w A c (seqK rest env K H gd lv .brk) fs s P := h
theorem g_stmt {st : Stmt} {rest : List Stmt} (h : wpAny (model prog w) (A.over c fs) (exec st env) (fun f s' => Go prog w A c (seqK rest env K H gd lv f) fs s' P) (fun x s' => Go prog w A c (H x) fs s' P) s) : Go prog w A c ((execs (st :: rest) env).wrap K H gd lv) fs s P := g_cons (go_wrap h)
theorem g_back {gdb : Bool} {l : List Value} {p : Pos} {c₁ : Code} {f : Flow} (h : Go prog w A c₁ (K f) fs s P) : Go prog w A c (.pure (.done f)) (.ret (ownBack env K H gd lv) none gdb l c₁ p [] :: fs) s P := by
  refine go_leaf (.ok f) ?_
  exact h
theorem g_brkS {pos : Pos} {rest : List Stmt} (h : Go prog w A c (K .brk) fs s P) : Go prog w A c ((exec (.Break pos) env).wrap (seqK rest env K H gd lv) H gd lv) fs s P := go_at h
end
theorem neg_one {prog : Program} {w : World} {A : Around} {E : Value → Shared → Prop} {s : Shared} {env : Env} {p1 p2 : Pos} {k : Nat} {Q : Value → Shared → Prop} (h : Q (.int (-1) (s.toks + 1)) { s with toks := s.toks + 1 + 1 }) :
    wpAny (model prog w) A (eval (.UnaryOp .USub (.Constant (.int 1) k p1) p2) env) Q E s :=
  wpAny_UnaryOp (wpAny_Constant_int (neg_int h))
theorem assign_one {prog : Program} {w : World} {A : Around} {E : Value → Shared → Prop} {s : Shared} {env : Env} {t value : Expr} {pos : Pos} {Q : Flow → Shared → Prop}
    (h : wpAny (model prog w) A (eval value env) (fun v s₁ => wpAny (model prog w) A (assign t env v) (fun _ => Q .next) E s₁) E s)
    (hs : swapsWithSole [t] value pos.line env = pure false) (he : (assignEach [t] env).map (·.2) = [assign t env]) (hw : swappedStores [t] value env = pure none) :
    wpAny (model prog w) A (exec (.Assign [t] value pos) env) Q E s := by
  refine wpAny_Assign_stores (wpAny_mono h (fun v s₁ h₁ => ?_) fun _ _ x => x) hs hw
  rw [he]
  first | exact h₁ | exact wpAny_holding h₁ | exact wpAny_bind (wpAny_holding h₁)
noncomputable def fnBody (P : Params) (f : Addr) : List Stmt := match (hd.heap_1 P).lookup f with
  | some o => (match o.data with | .func fd => (match fd.body with | .stmts b => b | _ => []) | _ => [])
  | none => []
noncomputable def stmtAt : List Stmt → Nat → Stmt
  | s :: _, 0 => s
  | _ :: r, n + 1 => stmtAt r n
  | [], _ => .Pass ⟨0, 0, 0, 0⟩
noncomputable def bodyOf : Stmt → List Stmt
  | .For _ _ b _ _ => b
  | .While _ b _ _ => b
  | .If _ b _ _ => b
  | _ => []
noncomputable def orelseOf : Stmt → List Stmt
  | .For _ _ _ b _ => b
  | .While _ _ b _ => b
  | .If _ _ b _ => b
  | _ => []
noncomputable def exprOf : Stmt → Expr
  | .For t _ _ _ _ => t
  | .While t _ _ _ => t
  | .If t _ _ _ => t
  | _ => .Constant .none 0 ⟨0, 0, 0, 0⟩
end
section
open PySem PySem.Calls PyProof.Rows PySem.W PySem.W.X
open Sem (wp)
inductive Tr (su : Int → List Int) (st : Int) : List (Int × Nat) → List Int → List (Int × Bool) → Prop
  | nil {vis : List Int} : Tr su st [] vis [(st, true)]
  | seen {p : Int} {i : Nat} {r : List (Int × Nat)} {vis : List Int} {l : List (Int × Bool)} {ch : Int} : (su p)[i]? = some ch → ch ∈ vis → Tr su st ((p, i + 1) :: r) vis l → Tr su st ((p, i) :: r) vis ((ch, false) :: l)
  | push {p : Int} {i : Nat} {r : List (Int × Nat)} {vis : List Int} {l : List (Int × Bool)} {ch : Int} : (su p)[i]? = some ch → ch ∉ vis → Tr su st ((ch, 0) :: (p, i + 1) :: r) (ch :: vis) l → Tr su st ((p, i) :: r) vis ((ch, false) :: l)
  | pop {p : Int} {i : Nat} {q : Int × Nat} {r : List (Int × Nat)} {vis : List Int} {l : List (Int × Bool)} : (su p)[i]? = none → Tr su st (q :: r) vis l → Tr su st ((p, i) :: q :: r) vis ((p, true) :: l)
  | last {p : Int} {i : Nat} {vis : List Int} {l : List (Int × Bool)} : (su p)[i]? = none → Tr su st [] vis l → Tr su st [(p, i)] vis l
structure DE where
  node : Int
  tok : Tok
  tup : Addr
  it : Addr
  d : Addr
  kvs : List (Int × Value)
  ep : Nat
  i : Nat
noncomputable def stkE : List DE → List Ent
  | [] => []
  | e :: r => (e.tup, TupE [.int e.node e.tok, .ref e.it]) :: (e.it, KItP e.d e.i e.kvs.length e.ep) :: stkE r
noncomputable def dAbs (stk : List DE) : List (Int × Nat) := stk.map fun e => (e.node, e.i)
noncomputable def dVal (stk : List DE) : List Value := stk.reverse.map fun e => .ref e.tup
structure DeOk (prog : Program) (w : World) (Z : Addr → Option Obj) (su : Int → List Int) (ks : List Int) (e : DE) : Prop where
  f : FDic prog w Z e.d e.kvs e.ep
  k : e.kvs.map (·.1) = su e.node
  n : e.node ∈ ks
noncomputable abbrev forS (P : Params) : Stmt := stmtAt (fnBody P 57) 4
noncomputable abbrev whileS (P : Params) : Stmt := stmtAt (bodyOf (forS P)) 5
noncomputable abbrev innerS (P : Params) : Stmt := stmtAt (bodyOf (whileS P)) 1
noncomputable abbrev whileC (P : Params) (env : Env) : Code := .whileLoop (exprOf (whileS P)) (bodyOf (whileS P)) (orelseOf (whileS P)) env
noncomputable abbrev inC (P : Params) (env : Env) (it : Value) : Code := .forLoop (exprOf (innerS P)) it (bodyOf (innerS P)) (orelseOf (innerS P)) env
section
variable {prog : Program} {w : World} {A : Around} {E : Value → Shared → Prop} {c : Cfg} {S S' F : List Ent} {s : Shared} {a : Addr}
theorem l_pop_last {vs : List Value} {x : Value} {Q : Value → Shared → Prop} (h : St c S s) (hm : (a, LstP (vs ++ [x])) ∈ S) (hz : vs.length ≤ 800) (u : Upd S a (LstP vs) S') (hq : ∀ s', St c S' s' → Q x s') :
    wpAny (model prog w) A (call (.builtin "list.pop") [.ref a]) Q E s := by
  refine wpAny_call_entry PySem.F.slot_list_pop (lst_is h hm).typeIs PySem.F.entry_list_pop ?_ (PySem.F.args_list_pop_1 _)
  obtain ⟨o, ho, hc, hdi, n, hd⟩ := h.get hm
  unfold Builtin.«list.pop»
  refine wpAny_bind (m := selfAndSome _ _ _ _ _) (wpAny_pure ?_)
  refine wpAny_bind (m := pure (-1)) (wpAny_pure ?_)
  have e1 : Builtin.List.listFitsIndex (-1) = true := by decide
  simp only [e1, Bool.not_true, Bool.false_eq_true, if_false]
  refine wpAny_bind (wpAny_listItems ho hd ?_)
  have e2 : (vs ++ [x]).toArray.isEmpty = false := by simp
  simp only [e2, Bool.false_eq_true, if_false]
  have e3 : (seqIndex? (-1) (vs ++ [x]).toArray.size).bind (fun k => (vs ++ [x]).toArray[k]?.map (k, ·)) = some (vs.length, x) := by
    rw [seqIndex_neg (by decide) (by simp; lia)]
    have : ((-1 : Int) + ((vs ++ [x]).toArray.size : Nat)).toNat = vs.length := by simp; lia
    rw [this]
    simp
  simp only [e3]
  refine wpAny_bind (m := updateSeq a _) (seq_upd h hm (vs' := vs) ?_ (by simp; lia) (by lia) u fun s' h' => wpAny_pure ⟨_, rfl, hq s' h'⟩)
  rw [List.eraseIdxIfInBounds_toArray]
  congr 1
  rw [List.eraseIdx_append_of_length_le (Nat.le_refl _)]
  simp
end
section
variable {prog : Program} {w : World} {A : Around}
noncomputable def gpD (prog : Program) (w : World) (env : Env) (x dx : Addr) (at' : List (Str × Value)) (ks : List Int) (st : Int) (ts tl ts' : Tok) (nl m vs sl : Addr) (O : List Ent) (stk : List DE) (vis : List Int) (dn : Nat) (td : Tok) (pa ch cd : Option Value) : List Ent :=
  (env.locals, FrP env [("depth_now", some (.int dn td)), ("parent", pa), ("children", ch), ("child", cd), ("visited", some (.ref vs)), ("stack", some (.ref sl)), ("source", some (.int st ts)), ("depth_limit", some (.int ks.length tl)), ("nodes", some (.ref nl)), ("get_children", some (.ref m)), ("start", some (.int st ts'))]) :: (vs, SetP prog w vis) :: (sl, LstP (dVal stk)) :: (m, MthP 709 x) :: (x, InsP dx) :: (dx, IDicP prog w at') :: (stkE stk ++ O)
theorem dfs_loops {env : Env} {x dx nd sa pa' : Addr} {at' : List (Str × Value)} {ks : List Int} {su pr : Int → List Int} {st : Int} {ts tl ts' : Tok} {nl m vs sl : Addr} {O Gr : List Ent} {c' : Cfg}
    {cc : Code} {fs : List Frame} {K : Flow → Sem Fin} {H : Value → Sem Fin} {gd : Bool → Bool} {lv : List Value → List Value}
    (hB : KZ w c'.Z) (hg : FGr prog w c'.Z nd sa pa' ks su pr) (hat : GAt at' nd sa pa') (hks : ks.Nodup) (hz : ks.length ≤ 50) (hsu : ∀ k ∈ ks, ∀ y ∈ su k, y ∈ ks)
    (ge : GE env ["iter"]) (hint : interactive env = false) (hco : env.scope.isCoroutine = false) (hfs : splitAtGen fs = none) (hgd : gd false = false) (hfg : fs.any Frame.guarded = false) (hA : Room (A.over cc fs) 12)
    (hK : ∀ vis td pa ch cd, RestAt prog w A Gr [(st, true)] c' (gpD prog w env x dx at' ks st ts tl ts' nl m vs sl O [] vis 0 td pa ch cd) cc (K .next) fs) {ab : List (Int × Nat)} {vis : List Int} {l : List (Int × Bool)} (hT : Tr su st ab vis l) :
    ∀ stk : List DE, dAbs stk = ab → (∀ e ∈ stk, DeOk prog w c'.Z su ks e) → stk.length ≤ vis.length → vis.Nodup → (∀ v ∈ vis, v ∈ ks) → ∀ td pa ch cd p,
      RestAt prog w A Gr l c' (gpD prog w env x dx at' ks st ts tl ts' nl m vs sl O stk vis stk.length td pa ch cd) (whileC w.params env) ((model prog w).den (whileC w.params env)) (.ret (ownBack env K H gd lv) none (gd false) (lv []) cc p [] :: fs) := by
  obtain ⟨WP, hWP⟩ : ∃ WP : List (Int × Bool) → List DE → List Int → Prop, ∀ l stk vis, WP l stk vis ↔ (∀ td pa ch cd p, RestAt prog w A Gr l c' (gpD prog w env x dx at' ks st ts tl ts' nl m vs sl O stk vis stk.length td pa ch cd) (whileC w.params env) ((model prog w).den (whileC w.params env)) (.ret (ownBack env K H gd lv) none (gd false) (lv []) cc p [] :: fs)) := ⟨_, fun _ _ _ => Iff.rfl⟩
  obtain ⟨FP, hFP⟩ : ∃ FP : List (Int × Bool) → DE → List DE → List Int → Prop, ∀ l e r vis, FP l e r vis ↔ (∀ td tp cd p p', RestAt prog w A Gr l c' (gpD prog w env x dx at' ks st ts tl ts' nl m vs sl O (e :: r) vis (e :: r).length td (some (.int e.node tp)) (some (.ref e.it)) cd) (inC w.params env (.ref e.it)) ((model prog w).den (inC w.params env (.ref e.it)))
        (.ret (ownBack env (seqK [] env (loopK (whileC w.params env)) (noteH env) id id) (noteH env) id id) none false [] (whileC w.params env) p' [] :: .ret (ownBack env K H gd lv) none (gd false) (lv []) cc p [] :: fs)) := ⟨_, fun _ _ _ _ => Iff.rfl⟩
  suffices main : ∀ stk : List DE, dAbs stk = ab → (∀ e ∈ stk, DeOk prog w c'.Z su ks e) → stk.length ≤ vis.length → vis.Nodup → (∀ v ∈ vis, v ∈ ks) → WP l stk vis ∧ (∀ e r, stk = e :: r → FP l e r vis) from
    fun stk h1 h2 h3 h4 h5 => (hWP _ _ _).mp (main stk h1 h2 h3 h4 h5).1
  have w_of_f : ∀ {l : List (Int × Bool)} {vis : List Int} (e : DE) (r : List DE), r.length ≤ 400 → FP l e r vis → WP l (e :: r) vis := by
    intro l vis e r hr hF
    rw [hFP] at hF
    rw [hWP]
    intro td pa ch cd p
    rw [rest_iff]
    intro c F s hz' h
    refine goLet ?_; intro fs' P'
    have hA1 : Room (A.over (whileC w.params env) (.ret (ownBack env K H gd lv) none (gd false) (lv []) cc p [] :: fs)) 11 := hA.push (Nat.le_of_ble_eq_true rfl) (Nat.le_of_ble_eq_true rfl)
    simp only [gpD, stkE, List.cons_append] at h
    refine letF h ?_; clear h; intro TD h
    have hdv : dVal (e :: r) = dVal r ++ [.ref e.tup] := by unfold dVal; simp
    rw [hdv] at h
    refine go_whileLoop ?_
    refine letQ ?_; intro Kq Ke
    refine tru ?_ rfl
    refine ld h (by lk) ?_
    refine tru_list h (vs := dVal r ++ [.ref e.tup]) (by lk) (by unfold dVal; simp; lia) fun s₁ h₁ => ?_
    refine itt (by simp) ?_
    refine g_stmt ?_
    refine letQ ?_; intro Kq Ke
    refine assign_one (t := .Tuple _ _ _) ?_ rfl rfl rfl
    kd_p
    refine ld h₁ (by lk) ?_
    refine neg_one ?_
    refine sub_tail (lst_is (h₁.tok _) (a := sl) (by lk)).typeIs slot_list_getitem.lookup rfl ?_
    refine lst_last (h₁.tok _) (vs := dVal r) (by lk) (by unfold dVal; simp; lia) ?_
    obtain ⟨otp, hotp, htp⟩ := (h₁.tok (s₁.toks + 1 + 1)).get (a := e.tup) (by lk)
    refine assign_tup2 hA1.handled (h₁.tok _) ⟨otp, hotp, by rw [htp]; exact ⟨rfl, 0, rfl⟩⟩ rfl fun s₂ h₂ => ?_
    refine wpAny_assign_Name ?_
    refine sto h₂ (by room) fun s₃ h₃ => ?_
    refine wpAny_assign_Name ?_
    refine sto h₃ (by room) fun s₄ h₄ => ?_
    refine g_next ?_
    refine g_cons ?_
    refine go_For (fun _ => rfl) ?_
    refine ld h₄ (by lk) ?_
    refine kit_self h₄ (a := e.it) (by lk) fun p' => ?_
    refine (rest_iff prog w A Gr).mp (hF td e.tok cd p p') c F s₄ hz' ?_
    simp only [gpD, stkE, List.cons_append, hdv]
    exact h₄
  have hlen : ∀ {vis : List Int}, vis.Nodup → (∀ v ∈ vis, v ∈ ks) → vis.length ≤ ks.length := fun h1 h2 => nodup_len h1 fun y hy => h2 y hy
  have hA1 : ∀ p, Room (A.over (whileC w.params env) (.ret (ownBack env K H gd lv) none (gd false) (lv []) cc p [] :: fs)) 11 := fun p => hA.push (Nat.le_of_ble_eq_true rfl) (Nat.le_of_ble_eq_true rfl)
  have hA2 : ∀ it p p', Room (A.over (inC w.params env it) (.ret (ownBack env (seqK [] env (loopK (whileC w.params env)) (noteH env) id id) (noteH env) id id) none false [] (whileC w.params env) p' [] :: .ret (ownBack env K H gd lv) none (gd false) (lv []) cc p [] :: fs)) 10 :=
    fun it p p' => (hA1 p).push (Nat.le_of_ble_eq_true rfl) (Nat.le_of_ble_eq_true rfl)
  have hA3 : ∀ b p p', Room (A.over (.block b env) (.ret (ownBack env (seqK [] env (loopK (whileC w.params env)) (noteH env) id id) (noteH env) id id) none false [] (whileC w.params env) p' [] :: .ret (ownBack env K H gd lv) none (gd false) (lv []) cc p [] :: fs)) 10 :=
    fun b p p' => (hA1 p).push (Nat.le_of_ble_eq_true rfl) (Nat.le_of_ble_eq_true rfl)
  have hsp : ∀ p p', splitAtGen (.ret (ownBack env (seqK [] env (loopK (whileC w.params env)) (noteH env) id id) (noteH env) id id) none false [] (whileC w.params env) p' [] :: .ret (ownBack env K H gd lv) none (gd false) (lv []) cc p [] :: fs) = none := fun p p' => by simp [splitAtGen, hfs]
  have hgu : ∀ p p', (List.any (.ret (ownBack env (seqK [] env (loopK (whileC w.params env)) (noteH env) id id) (noteH env) id id) none false [] (whileC w.params env) p' [] :: .ret (ownBack env K H gd lv) none (gd false) (lv []) cc p [] :: fs) Frame.guarded) = false := fun p p' => by simp [Frame.guarded, hgd, hfg]
  have done : ∀ {stk : List DE} {vis : List Int} {l : List (Int × Bool)}, vis.Nodup → (∀ v ∈ vis, v ∈ ks) → stk.length ≤ vis.length → (∀ e r, stk = e :: r → FP l e r vis) → stk ≠ [] → WP l stk vis ∧ (∀ e r, stk = e :: r → FP l e r vis) := by
    intro stk vis l h1 h2 h3 hF hne
    cases stk with
    | nil => exact absurd rfl hne
    | cons e r => exact ⟨w_of_f e r (by have := hlen h1 h2; simp at h3; lia) (hF e r rfl), hF⟩
  have hdv : ∀ (e : DE) (r : List DE), dVal (e :: r) = dVal r ++ [.ref e.tup] := fun e r => by unfold dVal; simp
  have hdl : ∀ (r : List DE), (dVal r).length = r.length := fun r => by unfold dVal; simp
  induction hT with
  | nil =>
    intro stk hs hok h3 h4 h5
    cases stk with
    | cons e r => cases hs
    | nil =>
      refine ⟨?_, fun e r q => nomatch q⟩
      rw [hWP]
      intro td pa ch cd p
      rw [rest_iff]
      intro c F s hz' h
      refine goLet ?_; intro fs' P'
      simp only [gpD, stkE, List.cons_append, List.nil_append] at h
      refine letF h ?_; clear h; intro TD h
      refine go_whileLoop ?_
      refine letQ ?_; intro Kq Ke
      refine tru ?_ rfl
      refine ld h (by lk) ?_
      refine tru_list h (vs := dVal []) (by lk) (by decide) fun s₁ h₁ => ?_
      refine itf rfl ?_
      refine go_nil ?_
      refine g_back ?_
      exact (rest_iff prog w A Gr).mp (hK _ td pa ch cd) c F s₁ hz' h₁
  | @seen p i r vis l chd hch hin hT ih =>
    intro stk hs hok h3 h4 h5
    cases stk with
    | nil => cases hs
    | cons e r0 =>
      simp only [dAbs, List.map_cons, List.cons.injEq, Prod.mk.injEq] at hs
      obtain ⟨⟨rfl, rfl⟩, rfl⟩ := hs
      refine done h4 h5 h3 ?_ (by simp)
      rintro e' r' q
      cases q
      rw [hFP]
      intro td tp cd p p'
      rw [rest_iff]
      intro c F s hz' h
      refine goLet ?_; intro fs' P'
      simp only [gpD, stkE, List.cons_append] at h
      refine letF h ?_; clear h; intro TD h
      have ok := hok e (.head _)
      have hf := ok.f.le hz'
      obtain ⟨v, hv⟩ : ∃ v, e.kvs[e.i]? = some (chd, v) := by
        rw [← ok.k, List.getElem?_map] at hch
        obtain ⟨q, hq, e1⟩ := Option.map_eq_some_iff.mp hch
        exact ⟨q.2, by rw [hq, ← e1]⟩
      refine go_forLoop ?_
      refine letQ ?_; intro Kq Ke
      refine fd_next h (a := e.it) (by lk) hf hv (by kt_k) fun tc s₁ h₁ => ?_
      refine wpAny_pure ?_
      refine wpAny_assign_Name ?_
      refine sto h₁ (by room) fun s₂ h₂ => ?_
      refine g_cons ?_
      refine go_If ?_
      refine letQ ?_; intro Kq Ke
      kd_p
      refine ld h₂ (by lk) ?_
      refine ld h₂ (by lk) ?_
      refine in_set h₂ (vis := vis) (by lk) fun s₃ h₃ => ?_
      kd_p
      refine itt (by simp [hin]) ?_
      refine g_cons ?_
      refine go_Yield (hsp _ _) rfl (hgu _ _) ?_ hco hint
      refine tup_disp (c := c) ?_
      refine spl_cons ?_ rfl
      refine ld h₃ (by lk) ?_
      refine spl_cons ?_ rfl
      refine ld h₃ (by lk) ?_
      refine spl_cons ?_ rfl
      refine wpAny_Constant_str ?_
      refine spl_nil ⟨_, h₃.tok _, by simp, fun b s₄ h₄ => fun ls k pq hk => ?_⟩
      refine ⟨ls, k, _, pq, _, b, gpD prog w env x dx at' ks st ts tl ts' nl m vs sl O ({ e with i := e.i + 1 } :: r0) vis (e :: r0).length td (some (.int e.node tp)) (some (.ref e.it)) (some (.int chd tc)), rfl, ?_, ?_⟩
      · simp only [gpD, stkE, List.cons_append]
        rw [hdv { e with i := e.i + 1 } r0]
        rw [hdv e r0] at h₄
        exact h₄.item (by decide)
      · rw [rest_iff]
        intro c3 F3 s5 hz3 h5'
        apply hk
        refine g_next ?_
        refine go_nil ?_
        refine g_next ?_
        refine go_nil ?_
        refine go_again rfl ?_
        have IH := (ih ({ e with i := e.i + 1 } :: r0) rfl (fun e' he' => by
          rcases List.mem_cons.mp he' with rfl | he'
          · exact ⟨ok.f, ok.k, ok.n⟩
          · exact hok e' (.tail _ he')) h3 h4 h5).2 _ _ rfl
        rw [hFP] at IH
        exact (rest_iff prog w A Gr).mp (IH td tp _ p p') c3 F3 s5 (hz'.trans hz3) h5'
  | @push p i r vis l chd hch hin hT ih =>
    intro stk hs hok h3 h4 h5
    cases stk with
    | nil => cases hs
    | cons e r0 =>
      simp only [dAbs, List.map_cons, List.cons.injEq, Prod.mk.injEq] at hs
      obtain ⟨⟨rfl, rfl⟩, rfl⟩ := hs
      refine done h4 h5 h3 ?_ (by simp)
      rintro e' r' q
      cases q
      rw [hFP]
      intro td tp cd p p'
      rw [rest_iff]
      intro c F s hz' h
      refine goLet ?_; intro fs' P'
      simp only [gpD, stkE, List.cons_append] at h
      refine letF h ?_; clear h; intro TD h
      have ok := hok e (.head _)
      have hf := ok.f.le hz'
      have hchk : chd ∈ ks := hsu _ ok.n _ (List.mem_of_getElem? hch)
      have hvl : vis.length < ks.length := by
        have := nodup_len (f := chd :: vis) (l := ks) (by rw [List.nodup_cons]; exact ⟨hin, h4⟩) fun y hy => by
          rcases List.mem_cons.mp hy with rfl | hy
          · exact hchk
          · exact h5 y hy
        simp only [List.length_cons] at this
        lia
      have hsl : r0.length < 50 := by simp only [List.length_cons] at h3; lia
      obtain ⟨v, hv⟩ : ∃ v, e.kvs[e.i]? = some (chd, v) := by
        rw [← ok.k, List.getElem?_map] at hch
        obtain ⟨q, hq, e1⟩ := Option.map_eq_some_iff.mp hch
        exact ⟨q.2, by rw [hq, ← e1]⟩
      refine go_forLoop ?_
      refine letQ ?_; intro Kq Ke
      refine fd_next h (a := e.it) (by lk) hf hv (by kt_k) fun tc s₁ h₁ => ?_
      refine wpAny_pure ?_
      refine wpAny_assign_Name ?_
      refine sto h₁ (by room) fun s₂ h₂ => ?_
      refine g_cons ?_
      refine go_If ?_
      refine letQ ?_; intro Kq Ke
      kd_p
      refine ld h₂ (by lk) ?_
      refine ld h₂ (by lk) ?_
      refine in_set h₂ (vis := vis) (by lk) fun s₃ h₃ => ?_
      kd_p
      refine itf (by simp [hin]) ?_
      refine g_cons ?_
      refine go_Yield (hsp _ _) rfl (hgu _ _) ?_ hco hint
      refine tup_disp (c := c) ?_
      refine spl_cons ?_ rfl
      refine ld h₃ (by lk) ?_
      refine spl_cons ?_ rfl
      refine ld h₃ (by lk) ?_
      refine spl_cons ?_ rfl
      refine wpAny_Constant_str ?_
      refine spl_nil ⟨_, h₃.tok _, by simp, fun b s₄ h₄ => fun ls k pq hk => ?_⟩
      refine ⟨ls, k, _, pq, _, b, gpD prog w env x dx at' ks st ts tl ts' nl m vs sl O ({ e with i := e.i + 1 } :: r0) vis (e :: r0).length td (some (.int e.node tp)) (some (.ref e.it)) (some (.int chd tc)), rfl, ?_, ?_⟩
      · simp only [gpD, stkE, List.cons_append]
        rw [hdv { e with i := e.i + 1 } r0]
        rw [hdv e r0] at h₄
        exact h₄.item (by decide)
      rw [rest_iff]
      intro c3 F3 s5 hz3 h5'
      apply hk
      have hz4 := hz'.trans hz3
      have hB3 : KZ w c3.Z := hB.ext hz4
      simp only [gpD, stkE, List.cons_append] at h5'
      refine letF h5' ?_; clear h5'; intro TD h5'
      refine g_next ?_
      refine g_stmt ?_
      refine letQ ?_; intro Kq Ke
      kd_p
      refine call_meth rfl (by decide) rfl PySem.F.plainAttrs_set PySem.F.slot_set_add PySem.F.type_set_add rfl ?_
      refine ld h5' (by lk) ?_
      refine ⟨set_meth h5' (a := vs) (l := vis) (by lk), ?_⟩
      refine spl_cons ?_ rfl
      refine ld h5' (by lk) ?_
      refine spl_nil ?_
      refine set_add h5' (by lk) hin (by lia) (by kt_k) fun s6 h6 => ?_
      refine g_next ?_
      refine g_cons ?_
      refine go_If ?_
      refine letQ ?_; intro Kq Ke
      kd_p
      refine ld h6 (by lk) ?_
      refine ld h6 (by lk) ?_
      k_in
      kd_p
      refine itt (by simp only [decide_eq_true_eq]; simp only [List.length_cons] at h3 ⊢; lia) ?_
      refine g_stmt ?_
      refine letQ ?_; intro Kq Ke
      kd_p
      refine call_meth rfl (by decide) rfl PySem.F.plainAttrs_list slot_list_append type_list_append rfl ?_
      refine ld h6 (by lk) ?_
      refine ⟨lst_meth h6 (a := sl) (by lk), ?_⟩
      refine spl_cons ?_ rfl
      refine tup_disp (c := c3) ?_
      refine spl_cons ?_ rfl
      refine ld h6 (by lk) ?_
      refine spl_cons ?_ rfl
      refine call_bi h6 hB3.toGB ge (by lk) (by lk) rfl ?_
      refine spl_cons ?_ rfl
      refine call_bound (m := m) (x := x) hB3 (k_fnIn709 _) rfl ?_
      refine ld h6 (by lk) ?_
      refine ⟨rfl, ?_⟩
      refine spl_cons ?_ rfl
      refine ld h6 (by lk) ?_
      refine spl_nil ⟨⟨_, h6, by lk⟩, ?_⟩
      refine neigh_spec hz4 h6 hB3 (hA2 _ _ _).less (by lk) (by lk) hat hg hchk fun it d kvs ep s7 f1 f2 h7 => ?_
      refine spl_nil ?_
      refine call_iter ?_
      refine kit_self h7 (a := it) (by lk) ?_
      refine spl_nil ⟨_, h7, by simp, fun b2 s8 h8 => ?_⟩
      replace h8 := h8.sub (.cons (a := b2) (P' := TupE [.int chd tc, .ref it]) .head (fun _ q => q) .refl)
      refine spl_nil ?_
      refine l_append h8 (a := sl) (by lk) (by rw [hdl]; simp only [List.length_cons]; lia) (by kt_k) fun s9 h9 => ?_
      refine g_next ?_
      refine g_stmt ?_
      refine letQ ?_; intro Kq Ke
      refine wpAny_AugAssign_Name ?_
      replace h9 := h9.sub (.cons (a := env.locals) (by w_up) (fun _ h => h) .refl)
      refine loadN h9 (by lk) ?_
      kd_p
      refine iadd_int ?_
      refine sto (h9.tok _) (by room) fun s10 h10 => ?_
      refine g_next ?_
      refine g_cons ?_
      refine g_brkS ?_
      refine g_brk ?_
      refine g_brk ?_
      refine g_back ?_
      refine g_next ?_
      refine go_nil ?_
      refine go_again rfl ?_
      have IH := (ih (⟨chd, tc, b2, it, _, _, _, 0⟩ :: { e with i := e.i + 1 } :: r0) rfl (fun e' he' => by
          rcases List.mem_cons.mp he' with rfl | he'
          · exact ⟨f1, f2, hchk⟩
          rcases List.mem_cons.mp he' with rfl | he'
          · exact ⟨ok.f, ok.k, ok.n⟩
          · exact hok e' (.tail _ he')) (by simp only [List.length_cons] at h3 ⊢; lia) (by rw [List.nodup_cons]; exact ⟨hin, h4⟩) (fun y hy => by
          rcases List.mem_cons.mp hy with rfl | hy
          · exact hchk
          · exact h5 y hy)).1
      rw [hWP] at IH
      refine (rest_iff prog w A Gr).mp (IH (s9.toks + 1) (some (.int e.node tp)) (some (.ref e.it)) (some (.int chd tc)) p) c3 F3 s10 hz4 ?_
      simp only [gpD, stkE, List.cons_append]
      have e1 : (((e :: r0).length : Nat) : Int) + 1 = (((⟨chd, tc, b2, it, d, kvs, ep, 0⟩ :: { e with i := e.i + 1 } :: r0 : List DE).length : Nat) : Int) := by simp
      have e2 : dVal (⟨chd, tc, b2, it, d, kvs, ep, 0⟩ :: { e with i := e.i + 1 } :: r0) = dVal ({ e with i := e.i + 1 } :: r0) ++ [.ref b2] := hdv _ _
      rw [← e1, e2]
      exact h10.sub (by k_is)
  | @pop p i q r vis l hno hT ih =>
    intro stk hs hok h3 h4 h5
    match stk, hs with
    | [], hs => cases hs
    | [e], hs => simp [dAbs] at hs
    | e :: e2 :: r1, hs =>
      simp only [dAbs, List.map_cons, List.cons.injEq, Prod.mk.injEq] at hs
      obtain ⟨⟨rfl, rfl⟩, hq⟩ := hs
      refine done h4 h5 h3 ?_ (by simp)
      rintro e' r' q
      cases q
      rw [hFP]
      intro td tp cd p p'
      rw [rest_iff]
      intro c F s hz' h
      refine goLet ?_; intro fs' P'
      simp only [gpD, stkE, List.cons_append] at h
      refine letF h ?_; clear h; intro TD h
      have ok := hok e (.head _)
      have hf := ok.f.le hz'
      have hsl : (e2 :: r1).length < 50 := by have := hlen h4 h5; simp only [List.length_cons] at h3 ⊢; lia
      have hv : e.kvs[e.i]? = none := by
        rw [← ok.k, List.getElem?_map, Option.map_eq_none_iff] at hno
        exact hno
      rw [hdv e] at h
      refine go_forLoop ?_
      refine letQ ?_; intro Kq Ke
      refine fd_end (hA2 _ _ _).handled h (a := e.it) (by w_up) hf hv fun s₁ h₁ => ?_
      refine go_block ?_
      refine g_stmt ?_
      refine letQ ?_; intro Kq Ke
      kd_p
      refine call_meth rfl (by decide) rfl PySem.F.plainAttrs_list PySem.F.slot_list_pop PySem.F.type_list_pop rfl ?_
      refine ld h₁ (by lk) ?_
      refine ⟨lst_meth h₁ (a := sl) (by lk), ?_⟩
      refine spl_nil ?_
      refine l_pop_last h₁ (by lk) (by rw [hdl]; simp only [List.length_cons] at hsl ⊢; lia) (by kt_k) fun s₂ h₂ => ?_
      refine g_next ?_
      refine g_stmt ?_
      refine letQ ?_; intro Kq Ke
      refine wpAny_AugAssign_Name ?_
      refine loadN h₂ (by lk) ?_
      kd_p
      refine isub_int ?_
      refine sto (h₂.tok _) (by room) fun s₃ h₃ => ?_
      refine g_next ?_
      refine g_cons ?_
      refine go_If ?_
      refine letQ ?_; intro Kq Ke
      refine tru ?_ rfl
      refine ld h₃ (by lk) ?_
      refine tru_list h₃ (vs := dVal (e2 :: r1)) (by lk) (by rw [hdl]; simp only [List.length_cons] at hsl ⊢; lia) fun s₄ h₄ => ?_
      rw [hdv e2 r1] at h₄
      refine itt (by rw [hdv]; simp) ?_
      refine g_cons ?_
      refine go_Yield (hsp _ _) rfl (hgu _ _) ?_ hco hint
      refine tup_disp (c := c) ?_
      refine spl_cons ?_ rfl
      kd_p; kd_p
      refine ld h₄ (by lk) ?_
      refine neg_one ?_
      refine sub_tail (lst_is (h₄.tok _) (a := sl) (by lk)).typeIs slot_list_getitem.lookup rfl ?_
      refine lst_last (h₄.tok _) (vs := dVal r1) (by lk) (by rw [hdl]; simp only [List.length_cons] at hsl ⊢; lia) ?_
      kd_p
      refine sub_tail (T := "tuple") ?_ PySem.F.slot_tuple_getitem.lookup rfl ?_
      · obtain ⟨o, ho, hp⟩ := h₄.get (a := e2.tup) (P := TupE [.int e2.node e2.tok, .ref e2.it]) (by lk)
        exact ⟨o, ho, by rw [hp]⟩
      refine tup_get (i := 0) (vs := [.int e2.node e2.tok, .ref e2.it]) (h₄.tok _) (by lk) (by decide) rfl ?_
      refine spl_cons ?_ rfl
      refine ld (h₄.tok _) (by lk) ?_
      refine spl_cons ?_ rfl
      refine wpAny_Constant_str ?_
      refine spl_nil ⟨_, h₄.tok _, by simp, fun b s₅ h₅ => fun ls k pq hk => ?_⟩
      refine ⟨ls, k, _, pq, _, b, gpD prog w env x dx at' ks st ts tl ts' nl m vs sl O (e2 :: r1) vis (e2 :: r1).length (s₂.toks + 1) (some (.int e.node tp)) (some (.ref e.it)) cd, rfl, ?_, ?_⟩
      · simp only [gpD, stkE, List.cons_append]
        rw [hdv e2 r1]
        have e1 : (((e :: e2 :: r1).length : Nat) : Int) - 1 = (((e2 :: r1).length : Nat) : Int) := by simp
        rw [e1] at h₅
        exact (h₅.item (r := true) (by decide)).sub (by k_is)
      rw [rest_iff]
      intro c3 F3 s6 hz3 h6
      apply hk
      refine g_next ?_
      refine go_nil ?_
      refine g_next ?_
      refine go_nil ?_
      refine g_back ?_
      refine g_next ?_
      refine go_nil ?_
      refine go_again rfl ?_
      have IH := (ih (e2 :: r1) (by simp only [dAbs, List.map_cons]; rw [hq.1, hq.2]) (fun e' he' => hok e' (.tail _ he')) (by simp only [List.length_cons] at h3 ⊢; lia) h4 h5).1
      rw [hWP] at IH
      exact (rest_iff prog w A Gr).mp (IH _ _ _ _ p) c3 F3 s6 (hz'.trans hz3) h6
  | @last p i vis l hno hT ih =>
    intro stk hs hok h3 h4 h5
    match stk, hs with
    | [], hs => cases hs
    | e :: e2 :: r1, hs => simp [dAbs] at hs
    | [e], hs =>
      simp only [dAbs, List.map_cons, List.map_nil, List.cons.injEq, Prod.mk.injEq, and_true] at hs
      obtain ⟨rfl, rfl⟩ := hs
      refine done h4 h5 h3 ?_ (by simp)
      rintro e' r' q
      cases q
      rw [hFP]
      intro td tp cd p p'
      rw [rest_iff]
      intro c F s hz' h
      refine goLet ?_; intro fs' P'
      simp only [gpD, stkE, List.cons_append, List.nil_append] at h
      refine letF h ?_; clear h; intro TD h
      have ok := hok e (.head _)
      have hf := ok.f.le hz'
      have hsl : ([] : List DE).length < 50 := by decide
      have hv : e.kvs[e.i]? = none := by
        rw [← ok.k, List.getElem?_map, Option.map_eq_none_iff] at hno
        exact hno
      rw [hdv e] at h
      refine go_forLoop ?_
      refine letQ ?_; intro Kq Ke
      refine fd_end (hA2 _ _ _).handled h (a := e.it) (by w_up) hf hv fun s₁ h₁ => ?_
      refine go_block ?_
      refine g_stmt ?_
      refine letQ ?_; intro Kq Ke
      kd_p
      refine call_meth rfl (by decide) rfl PySem.F.plainAttrs_list PySem.F.slot_list_pop PySem.F.type_list_pop rfl ?_
      refine ld h₁ (by lk) ?_
      refine ⟨lst_meth h₁ (a := sl) (by lk), ?_⟩
      refine spl_nil ?_
      refine l_pop_last h₁ (by lk) (by decide) (by kt_k) fun s₂ h₂ => ?_
      refine g_next ?_
      refine g_stmt ?_
      refine letQ ?_; intro Kq Ke
      refine wpAny_AugAssign_Name ?_
      refine loadN h₂ (by lk) ?_
      kd_p
      refine isub_int ?_
      refine sto (h₂.tok _) (by room) fun s₃ h₃ => ?_
      refine g_next ?_
      refine g_cons ?_
      refine go_If ?_
      refine letQ ?_; intro Kq Ke
      refine tru ?_ rfl
      refine ld h₃ (by lk) ?_
      refine tru_list h₃ (vs := dVal []) (by lk) (by decide) fun s₄ h₄ => ?_
      refine itf rfl ?_
      refine go_nil ?_
      refine g_next ?_
      refine go_nil ?_
      refine g_back ?_
      refine g_next ?_
      refine go_nil ?_
      refine go_again rfl ?_
      have IH := (ih [] rfl (fun e' he' => nomatch he') (Nat.zero_le _) h4 h5).1
      rw [hWP] at IH
      refine (rest_iff prog w A Gr).mp (IH (s₂.toks + 1) (some (.int e.node tp)) (some (.ref e.it)) cd p) c F s₄ hz' ?_
      simp only [gpD, stkE, List.cons_append, List.nil_append]
      have e1 : ((([e] : List DE).length : Nat) : Int) - 1 = ((([] : List DE).length : Nat) : Int) := by simp
      rw [e1] at h₄
      exact h₄.sub (by k_is)
end
end
section
open PySem PySem.Calls PyProof.Rows PySem.W PySem.W.X
open Sem (wp)
noncomputable def GenP (g : Nat) (o : Obj) : Prop := o.cls = .type "generator" ∧ (∃ nm qn, o.data = .fields #[.int g 0, nm, qn]) ∧ o.slots = #[]
noncomputable def addGen (c : Cfg) (x : GenState) : Cfg := { c with gens := c.gens.push x }
noncomputable def setG (c : Cfg) (g : Nat) (x : GenState) : Cfg := { c with gens := c.gens.setIfInBounds g x }
section
variable {prog : Program} {w : World} {A : Around} {E : Value → Shared → Prop} {c : Cfg} {S S' F : List Ent} {s : Shared} {env : Env} {a : Addr}
theorem gen_is {g : Nat} (h : St c S s) (hm : (a, GenP g) ∈ S) : s.heap.IsGen a g := by
  obtain ⟨o, ho, hc, ⟨nm, qn, hd⟩, hs⟩ := h.get hm
  exact ⟨o, nm, qn, ho, hc, hd, hs⟩
theorem St.addGen (h : St c S s) (x : GenState) : St (addGen c x) S { s with gens := s.gens.push x } :=
  ⟨h.keep, h.own, h.nd, h.one, by show s.gens.push x = c.gens.push x; rw [h.gens], h.drawn, h.os⟩
theorem St.setG (h : St c S s) (g : Nat) (x : GenState) : St (setG c g x) S (s.setGen g x) := by
  refine ⟨h.keep, h.own, h.nd, h.one, ?_, h.drawn, h.os⟩
  show (s.setGen g x).gens = c.gens.setIfInBounds g x
  rw [← h.gens]; rfl

theorem enterGen {R : Result → Shared → Prop} {a : Addr} {o : Obj} {fd : FuncData} {body : List Stmt} {args : Args} {binds : List (Str × Value)} {l lc : List (Str × Option Value)} {ns : List Str}
    (h : St c S s) (hB : Base c.Z) (hA : A.depth < recursionLimit) (ho : c.Z a = some o) (hdata : o.data = .func fd) (hcd : ZCode c.Z fd.code fd.qualname)
    (hbody : fd.body = .stmts body) (hbind : BindsTo s fd args binds) (hclo : fd.closure = []) (hcell : cellsOk fd.scope binds = true)
    (hns : l.map (·.1) = ns) (hok : namesOk fd.scope ns = true)
    (hl : l.map (·.2) = ns.map (bindL (callEnvC fd 0 a).kindOf binds fun _ => none))
    (hlc : lc.map (·.1) = (cellsFrom 0 fd.scope.names []).map (·.1)) (hlc' : lc.map (·.2) = (lc.map (·.1)).map (bindC (callEnvC fd 0 a).kindOf binds fun _ => none)) (hnd : decide ((lc.map (·.1)).Nodup) = true)
    (k : ∀ L env a' s', env = callEnvC fd L a → St (addGen c (.fresh (.func body env))) ((a', GenP c.gens.size) :: (env.locals, FrP env l) :: (List.zipWith (fun p q => (q.2, CellP p.2)) lc (cellsFrom (L + 1) fd.scope.names []) ++ S)) s' → R (.ok (.ret (.ref a'))) s')
    (hco : fd.scope.isCoroutine = false) (hgen : fd.scope.isGenerator = true) (hk : fd.scope.kind = .function) :
    codeAny (model prog w) A (.call (.ref a) args) R s := by
  refine codeAny_call_generator hA (h.keep _ _ ho) hdata hco hgen hbody (hcd.cod h) (hbind _ _ _ _ ?_)
  rw [hclo]
  refine wpAny_newFunctionEnv_cells hk (fun x hx => ?_) fun env he s₁ x => ?_
  · have := List.all_eq_true.mp hcell x hx
    simp only [Bool.or_eq_true, Bool.and_eq_true, beq_iff_eq] at this
    refine this.imp id fun e => ⟨e.1, cellsFrom_isSome _ _ _ _ _ id e.2⟩
  · subst he
    have h₁ := inC_st (a := a) (fd := fd) h hns hok hl hlc hlc' (of_decide_eq_true hnd) x
    refine ⟨h₁.nolim hB, k s.heap.objs.size _ _ _ rfl ?_⟩
    have h₂ := (h₁.push (P := GenP c.gens.size) (t := s₁.toks + 1 + 1) { cls := .type "generator", data := .fields #[.int s₁.gens.size 0, .str fd.name s₁.toks, .str fd.qualname (s₁.toks + 1)] } rfl ⟨rfl, ⟨_, _, by rw [h₁.gens]⟩, rfl⟩).addGen (.fresh (.func body (callEnvC fd s.heap.objs.size a)))
    exact h₂
end
end
section
open PySem PySem.Calls PyProof.Rows PySem.W PySem.W.X
open Sem (wp)
theorem Room.over0 {A : Around} {c : Code} {n : Nat} (r : Room A (n + 1)) (h1 : c.weight ≤ 10) (h2 : c.cUnits ≤ 100) : Room (A.over c []) n :=
  ⟨r.handled, by have := r.depth; show A.depth + 0 + c.weight + _ ≤ _; lia, by have := r.units; show A.units + 0 + c.cUnits + _ ≤ _; lia⟩
theorem dVal_one (e : DE) : dVal [e] = [.ref e.tup] := rfl
theorem len_one (e : DE) : ((([e] : List DE).length : Nat) : Int) = 1 := rfl
section
variable {prog : Program} {w : World} {A : Around}
theorem dfs_fresh {env : Env} {x dx nd sa pa cG cS : Addr} {at' : List (Str × Value)} {ks : List Int} {su pr : Int → List Int} {st : Int} {ts : Tok} {c' : Cfg} {l : List (Int × Bool)}
    (hB : KZ w c'.Z) (hg : FGr prog w c'.Z nd sa pa ks su pr) (hat : GAt at' nd sa pa) (hks : ks.Nodup) (hz : ks.length ≤ 50) (hsu : ∀ k ∈ ks, ∀ y ∈ su k, y ∈ ks) (hst : st ∈ ks)
    (ge : GE env ["len", "set", "iter"]) (hG : Cel env "G" cG) (hS : Cel env "sort_neighbors" cS) (hco : env.scope.isCoroutine = false) (hA : Room A 16) (hT : Tr su st [(st, 0)] [st] l) :
    RestAt prog w A [(x, InsP dx), (dx, IDicP prog w at')] ((st, false) :: l) c'
      ((env.locals, FrP env [("depth_now", none), ("parent", none), ("children", none), ("child", none), ("visited", none), ("stack", none), ("source", some (.int st ts)), ("depth_limit", some .none), ("nodes", none), ("get_children", none), ("start", none)]) :: (cS, CellP (some .none)) :: (cG, CellP (some (.ref x))) :: (x, InsP dx) :: (dx, IDicP prog w at') :: [])
      (.func (fnBody w.params 57) env) ((model prog w).den (.func (fnBody w.params 57) env)) [] := by
  rw [rest_iff]
  intro c F s hz' h
  refine goLet ?_; intro fs' P'
  simp only [List.cons_append, List.nil_append] at h
  have hint := not_inter ge.kind
  have hB1 : KZ w c.Z := hB.ext hz'
  have hA0 : Room (A.over (.func (fnBody w.params 57) env) []) 15 := hA.over0 (Nat.le_of_ble_eq_true rfl) (Nat.le_of_ble_eq_true rfl)
  refine go_func ?_
  refine g_cons ?_
  refine go_If ?_
  refine letQ ?_; intro Kq Ke
  kd_p
  refine ld h (by lk) ?_
  kd_p
  refine is_int_none ?_
  kd_p
  refine itf rfl ?_
  refine g_stmt ?_
  refine letQ ?_; intro Kq Ke
  kd_p
  refine list_disp (c := c) ?_
  refine spl_cons ?_ rfl
  refine ld h (by lk) ?_
  refine spl_nil ⟨_, h, by simp, fun nl s₁ h₁ => ?_⟩
  replace h₁ := h₁.perm (.swap ..)
  refine sto h₁ (by room) fun s₂ h₂ => ?_
  refine g_next ?_
  refine go_nil ?_
  refine g_next ?_
  refine g_cons ?_
  refine go_If ?_
  refine letQ ?_; intro Kq Ke
  kd_p
  refine ld h₂ (by lk) ?_
  kd_p
  refine is_none_none ?_
  kd_p
  refine itt rfl ?_
  refine g_stmt ?_
  refine letQ ?_; intro Kq Ke
  kd_p
  refine call_bi h₂ hB1.toGB ge (by lk) (by lk) rfl ?_
  refine spl_cons ?_ rfl
  refine ldc h₂ hG (by lk) ?_
  refine spl_nil ?_
  refine len_inst (n := ks.length) h₂ hB1 (by lk) (by lk) (by lia) (by lia) ?_
  refine glen_spec h₂ hB1 hA0.in1.less (by lk) (by lk) hat (hg.le hz') hz fun tl s₃ h₃ => ?_
  refine ⟨⟨tl, rfl⟩, fun tl => ?_⟩
  refine sto (h₃.tok _) (by room) fun s₄ h₄ => ?_
  refine g_next ?_
  refine go_nil ?_
  refine g_next ?_
  refine g_stmt ?_
  refine letQ ?_; intro Kq Ke
  kd_p
  kd_p
  kd_p
  refine ldc h₄ hS (by lk) ?_
  kd_p
  refine is_none_none ?_
  kd_p
  refine itt rfl ?_
  refine attr_ rfl ?_
  refine ldc h₄ hG (by lk) ?_
  refine get_bound h₄ hB1 (by lk) (by lk) (k_neighbors _) (k_fnget _) (k_fntakes _) (isfn _ _ (by decide)) (by decide +kernel) (hat.no _ (by decide)) fun m s₅ h₅ => ?_
  replace h₅ := h₅.perm (.swap ..)
  refine sto h₅ (by room) fun s₆ h₆ => ?_
  refine g_next ?_
  refine g_stmt ?_
  refine letQ ?_; intro Kq Ke
  kd_p
  refine call_ty h₆ hB1.toGB ge (by lk) (by lk) rfl ?_
  refine spl_nil ?_
  refine new_set h₆ fun vs s₇ h₇ => ?_
  replace h₇ := h₇.perm (.swap ..)
  refine sto h₇ (by room) fun s₈ h₈ => ?_
  refine g_next ?_
  refine g_cons ?_
  refine go_For (fun _ => rfl) ?_
  refine ld h₈ (by lk) ?_
  refine iter_list h₈ (lst_is h₈ (a := nl) (by lk)) fun oit s₉ h₉ p => ?_
  replace h₉ := h₉.perm (.swap ..)
  have hA1 : Room (A.over (.forLoop (exprOf (forS w.params)) (.ref oit) (bodyOf (forS w.params)) (orelseOf (forS w.params)) env) (.ret (ownBack env (seqK [] env (fun f => .pure (.done (.ret (match f with | .ret v => v | _ => .none)))) (fun e => (leaving env e).wrap (fun _ => .raise e) .raise id id) id id) (fun e => (leaving env e).wrap (fun _ => .raise e) .raise id id) id id) none false [] (.func (fnBody w.params 57) env) p [] :: [])) 14 :=
    hA0.push (Nat.le_of_ble_eq_true rfl) (Nat.le_of_ble_eq_true rfl)
  refine go_forLoop ?_
  refine letQ ?_; intro Kq Ke
  refine next_item h₉ (by lk) (lst_is h₉ (a := nl) (by lk)) (x := .int st ts) rfl (by kt_k) fun t₁ u₁ => ?_
  refine wpAny_pure ?_
  refine wpAny_assign_Name ?_
  refine sto u₁ (by room) fun t₂ u₂ => ?_
  refine g_cons ?_
  refine go_If ?_
  refine letQ ?_; intro Kq Ke
  kd_p
  refine ld u₂ (by lk) ?_
  refine ld u₂ (by lk) ?_
  refine in_set u₂ (vis := []) (by lk) fun t₃ u₃ => ?_
  kd_p
  refine itf (by simp) ?_
  refine go_nil ?_
  refine g_next ?_
  refine g_cons ?_
  refine go_Yield rfl rfl rfl ?_ hco hint
  refine tup_disp (c := c) ?_
  refine spl_cons ?_ rfl
  refine ld u₃ (by lk) ?_
  refine spl_cons ?_ rfl
  refine ld u₃ (by lk) ?_
  refine spl_cons ?_ rfl
  refine wpAny_Constant_str ?_
  refine spl_nil ⟨_, u₃.tok _, by simp, fun b t₄ u₄ => fun ls k pq hk => ?_⟩
  refine ⟨ls, k, _, pq, _, b, _ :: _ :: _ :: _ :: _ :: _ :: _ :: _ :: _ :: [], rfl, u₄.item (by decide), ?_⟩
  rw [rest_iff]
  intro c3 F3 s5 hz3 h5
  apply hk
  simp only [List.cons_append, List.nil_append] at h5
  have hz4 := hz'.trans hz3
  have hB3 : KZ w c3.Z := hB.ext hz4
  refine g_next ?_
  refine g_stmt ?_
  refine letQ ?_; intro Kq Ke
  kd_p
  refine call_meth rfl (by decide) rfl PySem.F.plainAttrs_set PySem.F.slot_set_add PySem.F.type_set_add rfl ?_
  refine ld h5 (by lk) ?_
  refine ⟨set_meth h5 (a := vs) (l := []) (by lk), ?_⟩
  refine spl_cons ?_ rfl
  refine ld h5 (by lk) ?_
  refine spl_nil ?_
  refine set_add h5 (vis := []) (by lk) (by simp) (by decide) (by kt_k) fun s6 h6 => ?_
  refine g_next ?_
  refine g_stmt ?_
  refine letQ ?_; intro Kq Ke
  kd_p
  refine list_disp (c := c3) ?_
  refine spl_cons ?_ rfl
  refine tup_disp (c := c3) ?_
  refine spl_cons ?_ rfl
  refine ld h6 (by lk) ?_
  refine spl_cons ?_ rfl
  refine call_bound (m := m) (x := x) hB3 (k_fnIn709 _) rfl ?_
  refine ld h6 (by lk) ?_
  refine ⟨rfl, ?_⟩
  refine spl_cons ?_ rfl
  refine ld h6 (by lk) ?_
  refine spl_nil ⟨⟨_, h6, by lk⟩, ?_⟩
  refine neigh_spec hz4 h6 hB3 hA1.less (by lk) (by lk) hat hg hst fun it d kvs ep s7 f1 f2 h7 => ?_
  refine spl_nil ⟨_, h7, by simp, fun b2 s8 h8 => ?_⟩
  replace h8 := h8.sub (.cons (a := b2) (P' := TupE [.int st ts, .ref it]) .head (fun _ q => q) .refl)
  refine spl_nil ⟨_, h8, by simp, fun sl s9 h9 => ?_⟩
  replace h9 := h9.sub (.cons (a := env.locals) (by w_up) (fun _ h => h) .refl)
  refine sto h9 (by room) fun s10 h10 => ?_
  refine g_next ?_
  refine g_stmt ?_
  refine letQ ?_; intro Kq Ke
  kd_p
  kd_p
  refine sto (h10.tok _) (by room) fun s11 h11 => ?_
  refine g_next ?_
  refine g_cons ?_
  refine go_While fun p2 => ?_
  have key := dfs_loops (A := A) (x := x) (dx := dx) (K := seqK [stmtAt (bodyOf (forS w.params)) 6] env (loopK (.forLoop (exprOf (forS w.params)) (.ref oit) (bodyOf (forS w.params)) (orelseOf (forS w.params)) env)) (noteH env) id id) (H := noteH env) (Gr := [(x, InsP dx), (dx, IDicP prog w at')]) (O := [(cS, CellP (some .none)), (cG, CellP (some (.ref x))), (nl, LstP [.int st ts]), (oit, LItP nl 1)]) (ts := ts) (tl := tl) (ts' := ts) (nl := nl) (m := m) (vs := vs) (sl := sl) (gd := id) (lv := id) hB hg hat hks hz hsu
    ⟨ge.kind, ge.g, ge.b, fun x hx => ge.n x (by simp at hx ⊢; exact .inr (.inr hx))⟩ hint hco rfl rfl rfl hA1.less ?_ hT [⟨st, ts, b2, it, d, kvs, ep, 0⟩] rfl (fun e he => by rw [List.mem_singleton.mp he]; exact ⟨f1, f2, hst⟩) (by simp) (by simp) (by simpa using hst)
  · refine (rest_iff prog w A _).mp (key s10.toks none none none p2) c3 F3 s11 hz4 ?_
    simp only [gpD, stkE, List.cons_append, List.nil_append]
    rw [dVal_one, len_one]
    dsimp only
    exact h11.sub (by k_is)
  · intro vis td pa ch cd
    rw [rest_iff]
    intro c4 F4 v1 hz5 w1
    simp only [gpD, stkE, List.cons_append, List.nil_append] at w1
    refine g_next ?_
    refine g_cons ?_
    refine go_Yield rfl rfl rfl ?_ hco hint
    refine tup_disp (c := c4) ?_
    refine spl_cons ?_ rfl
    refine ld w1 (by lk) ?_
    refine spl_cons ?_ rfl
    refine ld w1 (by lk) ?_
    refine spl_cons ?_ rfl
    refine wpAny_Constant_str ?_
    refine spl_nil ⟨_, w1.tok _, by simp, fun b3 v2 w2 => fun ls2 k2 pq2 hk2 => ?_⟩
    refine ⟨ls2, k2, _, pq2, _, b3, _ :: _ :: _ :: _ :: _ :: _ :: _ :: _ :: _ :: _ :: [], rfl, w2.item (by decide), ?_⟩
    rw [rest_iff]
    intro c5 F5 v3 hz6 w3
    simp only [List.cons_append, List.nil_append] at w3
    apply hk2
    refine g_next ?_
    refine go_nil ?_
    refine go_again rfl ?_
    refine go_forLoop ?_
    refine letQ ?_; intro Kq Ke
    refine next_end hA1.handled w3 (it := oit) (by w_up) (lst_is w3 (a := nl) (by lk)) rfl fun v4 w4 => ?_
    refine go_block ?_
    refine go_nil ?_
    refine g_back ?_
    refine g_next ?_
    refine go_nil ?_
    refine go_end (.ok (.ret .none)) ⟨rfl, ?_⟩
    simp only [List.cons_append, List.nil_append]
    exact w4.sub (by k_is)
end
end
section
open PySem PySem.Calls PyProof.Rows PySem.W PySem.W.X
open Sem (wp)
section
variable {prog : Program} {w : World} {A : Around} {E : Value → Shared → Prop} {c : Cfg} {S S' F : List Ent} {s : Shared} {a : Addr}
structure Fills (prog : Program) (w : World) (A : Around) (I : Addr) (n : Nat) (J : Nat → Cfg → List Ent → List Value → Prop) (D : Cfg → List Ent → List Value → Prop) : Prop where
  item : ∀ {i : Nat} {c : Cfg} {F : List Ent} {acc : List Value} {T : List Ent} {s : Shared} {Q : Option Value → Shared → Prop} {E : Value → Shared → Prop}, i < n → J i c F acc → St c (T ++ F) s →
    (∀ c' F' v s', J (i + 1) c' F' (acc ++ [v]) → St c' (T ++ F') s' → Q (some v) s') → wpAny (model prog w) A (pyNext (.ref I)) Q E s
  done : ∀ {c : Cfg} {F : List Ent} {acc : List Value} {T : List Ent} {s : Shared} {Q : Option Value → Shared → Prop} {E : Value → Shared → Prop}, J n c F acc → St c (T ++ F) s →
    (∀ c' F' s', D c' F' acc → St c' (T ++ F') s' → Q none s') → wpAny (model prog w) A (pyNext (.ref I)) Q E s
  len : ∀ {i : Nat} {c : Cfg} {F : List Ent} {acc : List Value}, J i c F acc → acc.length = i

theorem extend_loop {R : Result → Shared → Prop} {I : Addr} {n : Nat} {J : Nat → Cfg → List Ent → List Value → Prop} {D : Cfg → List Ent → List Value → Prop} {res : Value} (W : Fills prog w A.in1 I n J D) (hn : n ≤ 900) {l : Addr}
    (hR : ∀ c F acc s', D c F acc → St c ((l, LstP acc) :: F) s' → R (.ok (.ret res)) s') :
    ∀ (k i : Nat) (c : Cfg) (F : List Ent) (acc : List Value) (s : Shared), n - i = k → i ≤ n → J i c F acc → St c ((l, LstP acc) :: F) s → codeAny (model prog w) A (.builtin "list.extend.loop" ⟨[.ref l, .ref I, res], []⟩) R s := by
  intro k
  induction k with
  | zero =>
    intro i c F acc s hk hi hJ h
    have hin : i = n := by lia
    subst hin
    refine codeAny_builtin PySem.F.entry_extend_loop ?_
    rw [Around.under_plainId PySem.F.plain_extend_loop _]
    show wpAny _ A.in1 (pyNext (.ref I) >>= _) _ _ s
    refine wpAny_bind (W.done (T := [(l, LstP acc)]) hJ h fun c' F' s' hD h' => ?_)
    exact wpAny_pure (hR c' F' acc s' hD h')
  | succ k ih =>
    intro i c F acc s hk hi hJ h
    refine codeAny_builtin PySem.F.entry_extend_loop ?_
    rw [Around.under_plainId PySem.F.plain_extend_loop _]
    show wpAny _ A.in1 (pyNext (.ref I) >>= _) _ _ s
    refine wpAny_bind (W.item (T := [(l, LstP acc)]) (by lia) hJ h fun c' F' v s' hJ' h' => ?_)
    show wpAny _ A.in1 (updateSeq l (·.push v) >>= _) _ _ _
    have hl := W.len hJ
    refine wpAny_bind (seq_upd (vs' := acc ++ [v]) h' (.head _) (by simp) (by lia) (by simp; lia) .head fun s'' h'' => ?_)
    exact wpAny_pure ⟨plainId_quiet PySem.F.plain_extend_loop _, ih (i + 1) c' F' (acc ++ [v]) s'' (by lia) (by lia) hJ' h''⟩

theorem extend_it {R : Result → Shared → Prop} {I : Addr} {n : Nat} {J : Nat → Cfg → List Ent → List Value → Prop} {D : Cfg → List Ent → List Value → Prop} {res : Value} {l x : Addr} {T : String} (W : Fills prog w A.in1 I n J D) (hn : n ≤ 900)
    (h : St c ((l, LstP []) :: F) s) (hT : s.TypeIs (.ref x) T) (hTl : (Value.type T == Value.type "list") = false) (hTt : (Value.type T == Value.type "tuple") = false) (hne : l ≠ x)
    (hit : ∀ {Q : Value → Shared → Prop} {E : Value → Shared → Prop}, (∀ c F s, J 0 c F [] → St c ((l, LstP []) :: F) s → Q (.ref I) s) → wpAny (model prog w) A.in1 (pyIter (.ref x)) Q E s)
    (hhint : ∀ {Q : Bool → Shared → Prop} {E : Value → Shared → Prop} {c : Cfg} {F : List Ent} {s : Shared}, J 0 c F [] → St c ((l, LstP []) :: F) s → (∀ b s', St c ((l, LstP []) :: F) s' → Q b s') → wpAny (model prog w) A.in1 (Builtin.List.listLengthHint (.ref x)) Q E s)
    (hR : ∀ c F acc s', D c F acc → St c ((l, LstP acc) :: F) s' → R (.ok (.ret res)) s') :
    wpAny (model prog w) A.in1 (Builtin.List.listExtendWith (.ref l) (.ref x) res)
      (fun fin s' => match fin with | .done f => R (.ok f) s' | .again c' => c'.quiet = true ∧ codeAny (model prog w) A c' R s') (fun e s' => R (.error e) s') s := by
  unfold Builtin.List.listExtendWith
  refine wpAny_bind (wpAny_typeOf hT ?_)
  have h1 : Builtin.List.listSameRef (.ref l) (.ref x) = false := by simp [Builtin.List.listSameRef, hne]
  simp only [h1, hTl, hTt, Bool.or_false, Bool.false_eq_true, if_false]
  refine wpAny_bind (hit fun c₁ F₁ s₁ hJ h₁ => ?_)
  refine wpAny_bind (wpAny_holding (hhint hJ h₁ fun b s₂ h₂ => ?_))
  have fin : ∀ s₃, St c₁ ((l, LstP []) :: F₁) s₃ → codeAny (model prog w) A (.builtin "list.extend.loop" ⟨[.ref l, .ref I, res], []⟩) R s₃ := fun s₃ h₃ => extend_loop W hn hR n 0 c₁ F₁ [] s₃ rfl (Nat.zero_le _) hJ h₃
  have yes : wpAny (model prog w) A.in1 (rule "list.extend.makes-room" >>= fun _ => Builtin.List.listTouch (.ref l) >>= fun _ => again (.builtin "list.extend.loop" ⟨[.ref l, .ref I, res], []⟩))
      (fun fin s' => match fin with | .done f => R (.ok f) s' | .again c' => c'.quiet = true ∧ codeAny (model prog w) A c' R s') (fun e s' => R (.error e) s') s₂ := by
    refine wpAny_bind (wpAny_rule (wpAny_bind ?_))
    show wpAny _ A.in1 (updateSeq l (·.push .none) >>= fun _ => updateSeq l (·.pop)) _ _ _
    refine wpAny_bind (seq_upd (vs' := [.none]) h₂ (.head _) rfl (by decide) (by decide) .head fun s₃ h₃ => ?_)
    refine seq_upd (vs' := []) h₃ (.head _) rfl (by decide) (by decide) .head fun s₄ h₄ => ?_
    exact wpAny_pure ⟨plainId_quiet PySem.F.plain_extend_loop _, fin s₄ h₄⟩
  split
  · exact yes
  · exact wpAny_pure ⟨plainId_quiet PySem.F.plain_extend_loop _, fin s₂ h₂⟩

theorem call_list_it {I : Addr} {n : Nat} {J : Nat → Cfg → List Ent → List Value → Prop} {D : Cfg → List Ent → List Value → Prop} {x : Addr} {T : String} {Q : Value → Shared → Prop} (W : Fills prog w A.in1.in1 I n J D) (hn : n ≤ 900)
    (h : St c S s) (hx : ∀ {c : Cfg} {S' : List Ent} {s : Shared}, St c (S' ++ S) s → s.TypeIs (.ref x) T) (hxl : ∀ {c : Cfg} {l : Addr} {s : Shared}, St c ((l, LstP []) :: S) s → l ≠ x) (hTl : (Value.type T == Value.type "list") = false) (hTt : (Value.type T == Value.type "tuple") = false)
    (hit : ∀ {l : Addr} {s : Shared} {Q : Value → Shared → Prop} {E : Value → Shared → Prop}, St c ((l, LstP []) :: S) s → (∀ c F s, J 0 c F [] → St c ((l, LstP []) :: F) s → Q (.ref I) s) → wpAny (model prog w) A.in1.in1 (pyIter (.ref x)) Q E s)
    (hhint : ∀ {l : Addr} {Q : Bool → Shared → Prop} {E : Value → Shared → Prop} {c : Cfg} {F : List Ent} {s : Shared}, J 0 c F [] → St c ((l, LstP []) :: F) s → (∀ b s', St c ((l, LstP []) :: F) s' → Q b s') → wpAny (model prog w) A.in1.in1 (Builtin.List.listLengthHint (.ref x)) Q E s)
    (hq : ∀ l c F acc s', D c F acc → St c ((l, LstP acc) :: F) s' → Q (.ref l) s') : wpAny (model prog w) A (call (.type "list") [.ref x]) Q E s := by
  refine callType_codes (Q₁ := fun obj s₁ => obj = .ref s.heap.objs.size ∧ s₁ = { s with heap := s.heap.push { cls := .type "list", data := .seq #[] } }) PySem.F.called_list (PySem.F.typeCall_list_1 _) PySem.F.entry_list_init
    (code_list_new _ ⟨rfl, rfl⟩) fun obj s₁ h₁ => ?_
  obtain ⟨rfl, rfl⟩ := h₁
  have h₂ := h.push (t := s.toks) (P := LstP []) { cls := .type "list", data := .seq #[] } rfl ⟨rfl, rfl, _, rfl⟩
  refine ⟨(lst_is h₂ (.head _)).typeIs, PySem.F.args_list_init_2 _ _, ?_⟩
  show wpAny _ A.in1.in1 (do let old ← Builtin.List.listItems (.ref s.heap.objs.size); Builtin.List.listUpdate (.ref s.heap.objs.size) (fun _ => #[]); letGo old.toList.reverse; Builtin.List.listExtendWith (.ref s.heap.objs.size) (.ref x) .none) _ _ _
  refine wpAny_bind ?_
  unfold Builtin.List.listItems
  obtain ⟨o, ho, hc, hdi, m, hd⟩ := h₂.get (.head _)
  refine wpAny_bind (wpAny_seqItems ho hd (wpAny_pure ?_))
  show wpAny _ A.in1.in1 (updateSeq s.heap.objs.size (fun _ => #[]) >>= fun _ => letGo _ >>= fun _ => Builtin.List.listExtendWith (.ref s.heap.objs.size) (.ref x) .none) _ _ _
  refine wpAny_bind (seq_upd (vs' := []) h₂ (.head _) rfl (by decide) (by decide) .head fun s₃ h₃ => ?_)
  refine wpAny_bind (wpAny_letGo ?_)
  refine extend_it (T := T) W hn h₃ (hx (S' := [_]) h₃) hTl hTt (hxl h₃) (fun hq' => hit h₃ hq') hhint fun c F acc s' hD h' => ?_
  exact ⟨rfl, hq _ c F acc s' hD h'⟩
theorem hint_gen {g : Nat} {Q : Bool → Shared → Prop} (h : St c S s) (hm : (a, GenP g) ∈ S) (hq : ∀ b s', St c S s' → Q b s') : wpAny (model prog w) A (Builtin.List.listLengthHint (.ref a)) Q E s := by
  have hT := (gen_is h hm).typeIs
  unfold Builtin.List.listLengthHint
  refine wpAny_bind (wpAny_specialOf hT PySem.F.gen_no_len ?_)
  show wpAny _ A (specialOf (Value.ref a) (Str.ofString "__length_hint__") >>= _) _ _ _
  refine wpAny_bind (wpAny_specialOf hT PySem.F.gen_no_hint ?_)
  exact wpAny_pure (hq _ _ h)
end
end
section
open PySem PySem.Calls PyProof.Rows PySem.W PySem.W.X
open Sem (wp)
section
variable {prog : Program} {w : World} {A : Around} {E : Value → Shared → Prop} {c : Cfg} {S S' F : List Ent} {s : Shared} {a : Addr}
theorem resume_go {α : Type} {Q : α → Shared → Prop} {g : Nat} {gs : GenState} {r : Resume} {l : List Value} {k : GenResult → Sem α} {c₀ : Code} {t₀ : Sem Fin} {fs₀ : List Frame} (hg : s.gens[g]? = some gs)
    (hgs : (gs = .fresh c₀ ∧ r = .send .none ∧ t₀ = denote table c₀ ∧ fs₀ = []) ∨ (∃ k₀ l₀ p₀ cl, gs = .suspended k₀ l₀ c₀ p₀ fs₀ cl ∧ t₀ = k₀ r))
    (x : Go prog w A c₀ t₀ fs₀ (s.setGen g .running) (fun e s₁ => wpAny (model prog w) A (k e.result) Q E (s₁.setGen g e.genState))) : wpAny (model prog w) A (.resume g r l k) Q E s :=
  wake_any α prog w hg hgs (fun Γ => Γ.In A) (fun _ h => h) (x.mono fun _ _ h Γ p hΓ => h Γ p hΓ)

noncomputable def Waits (prog : Program) (w : World) (A : Around) (gs : GenState) (s : Shared) (P : End → Shared → Prop) : Prop :=
  (∃ cc, gs = .fresh cc ∧ Go prog w A cc ((model prog w).den cc) [] s P) ∨ (∃ k ls cc p fs cl, gs = .suspended k ls cc p fs cl ∧ Go prog w A cc (k (.send .none)) fs s P)

theorem gen_next {g : Nat} {gs : GenState} {Q : Option Value → Shared → Prop} (hh : A.handled = none) (hl : s.heap.NoLimit) (hroom : A.depth < recursionLimit) (hg : s.heap.IsGen a g) (hgs : s.gens[g]? = some gs)
    (x : Waits prog w A.in1 gs (s.setGen g .running) (fun e s₁ => match e with
      | .ret (.ok (.ret .none)) | .ret (.ok .next) => ∀ h' tk, (∀ b o, s₁.heap.get? b = some o → h'.get? b = some o) → Q none { s₁.setGen g .finished with heap := h', toks := tk }
      | .susp v g₀ l k c p fs => Q (some v) (s₁.setGen g (.suspended k l c p fs (g₀ || fs.any Frame.guarded)))
      | _ => False)) : wpAny (model prog w) A (pyNext (.ref a)) Q E s := by
  unfold pyNext
  refine wpAny_bind (wpAny_attempt (wpAny_callSpecial?_slot (name := Str.ofString "__next__") hg.typeIs slot_gen_next
    (wpAny_call_entry slot_gen_next hg.typeIs entry_gen_next ?_ (args_gen_next _))))
  show wpAny _ A.in1 (Builtin.Generator.genWake (.ref a) (.send .none)) _ _ s
  unfold Builtin.Generator.genWake
  refine wpAny_bind (wpAny_holding (wpAny_genNumber hg (wpAny_bind (wpAny_genState hgs ?_))))
  rcases x with ⟨cc, rfl, x⟩ | ⟨k, ls, cc, p, fs, cl, rfl, x⟩
  · skip
    refine wpAny_bind (wpAny_roomToWake hl hroom ?_)
    show wpAny _ A.in1 (.resume g (.send .none) [] _) _ _ s
    refine resume_go hgs (.inl ⟨rfl, rfl, rfl, rfl⟩) (x.mono fun e s₁ he => ?_)
    rcases e with (_ | _ | _ | _ | v) | ⟨v, g₀, l, k, c, p, fs⟩
    · exact he.elim
    · show wpAny _ A.in1 (newExc (.type "StopIteration") [] >>= _) _ _ _
      refine wpAny_bind ?_
      simp only [newExc, newTuple]
      refine wpAny_bind (wpAny_newObj_type ?_ (by size_fits))
      refine wpAny_bind (m := firstArgMember _ _) (wpAny_of_eq (a := Value.none) (by first | rfl | (simp only [firstArgMember]; rfl)) ?_)
      refine wpAny_newObj_type ?_ (by size_fits)
      simp only [raiseNew]
      refine wpAny_bind (wpAny_bind (wpAny_handled ?_))
      first | rw [show A.in1.handled = none from hh] | rw [hh]
      refine wpAny_throw ?_
      refine wpAny_bind (wpAny_isInstance (T := "StopIteration") (b := true) ⟨_, Heap.get?_push_size _ rfl, rfl⟩ isSubtype_stop ?_)
      exact wpAny_pure (he _ _ fun b o hb => Heap.get?_push_of_some _ (Heap.get?_push_of_some _ hb))
    · exact he.elim
    · exact he.elim
    · cases v <;> try exact he.elim
      show wpAny _ A.in1 (newExc (.type "StopIteration") [] >>= _) _ _ _
      refine wpAny_bind ?_
      simp only [newExc, newTuple]
      refine wpAny_bind (wpAny_newObj_type ?_ (by size_fits))
      refine wpAny_bind (m := firstArgMember _ _) (wpAny_of_eq (a := Value.none) (by first | rfl | (simp only [firstArgMember]; rfl)) ?_)
      refine wpAny_newObj_type ?_ (by size_fits)
      simp only [raiseNew]
      refine wpAny_bind (wpAny_bind (wpAny_handled ?_))
      first | rw [show A.in1.handled = none from hh] | rw [hh]
      refine wpAny_throw ?_
      refine wpAny_bind (wpAny_isInstance (T := "StopIteration") (b := true) ⟨_, Heap.get?_push_size _ rfl, rfl⟩ isSubtype_stop ?_)
      exact wpAny_pure (he _ _ fun b o hb => Heap.get?_push_of_some _ (Heap.get?_push_of_some _ hb))
    · exact wpAny_pure ⟨v, rfl, wpAny_pure he⟩
  · skip
    refine wpAny_bind (wpAny_roomToWake hl hroom ?_)
    show wpAny _ A.in1 (.resume g (.send .none) [] _) _ _ s
    refine resume_go hgs (.inr ⟨_, _, _, _, rfl, rfl⟩) (x.mono fun e s₁ he => ?_)
    rcases e with (_ | _ | _ | _ | v) | ⟨v, g₀, l, k, c, p, fs⟩
    · exact he.elim
    · show wpAny _ A.in1 (newExc (.type "StopIteration") [] >>= _) _ _ _
      refine wpAny_bind ?_
      simp only [newExc, newTuple]
      refine wpAny_bind (wpAny_newObj_type ?_ (by size_fits))
      refine wpAny_bind (m := firstArgMember _ _) (wpAny_of_eq (a := Value.none) (by first | rfl | (simp only [firstArgMember]; rfl)) ?_)
      refine wpAny_newObj_type ?_ (by size_fits)
      simp only [raiseNew]
      refine wpAny_bind (wpAny_bind (wpAny_handled ?_))
      first | rw [show A.in1.handled = none from hh] | rw [hh]
      refine wpAny_throw ?_
      refine wpAny_bind (wpAny_isInstance (T := "StopIteration") (b := true) ⟨_, Heap.get?_push_size _ rfl, rfl⟩ isSubtype_stop ?_)
      exact wpAny_pure (he _ _ fun b o hb => Heap.get?_push_of_some _ (Heap.get?_push_of_some _ hb))
    · exact he.elim
    · exact he.elim
    · cases v <;> try exact he.elim
      show wpAny _ A.in1 (newExc (.type "StopIteration") [] >>= _) _ _ _
      refine wpAny_bind ?_
      simp only [newExc, newTuple]
      refine wpAny_bind (wpAny_newObj_type ?_ (by size_fits))
      refine wpAny_bind (m := firstArgMember _ _) (wpAny_of_eq (a := Value.none) (by first | rfl | (simp only [firstArgMember]; rfl)) ?_)
      refine wpAny_newObj_type ?_ (by size_fits)
      simp only [raiseNew]
      refine wpAny_bind (wpAny_bind (wpAny_handled ?_))
      first | rw [show A.in1.handled = none from hh] | rw [hh]
      refine wpAny_throw ?_
      refine wpAny_bind (wpAny_isInstance (T := "StopIteration") (b := true) ⟨_, Heap.get?_push_size _ rfl, rfl⟩ isSubtype_stop ?_)
      exact wpAny_pure (he _ _ fun b o hb => Heap.get?_push_of_some _ (Heap.get?_push_of_some _ hb))
    · exact wpAny_pure ⟨v, rfl, wpAny_pure he⟩
end
end
section
open PySem PySem.Calls PyProof.Rows PySem.W PySem.W.X
open Sem (wp)
section
variable {prog : Program} {w : World} {A : Around} {E : Value → Shared → Prop} {c : Cfg} {S S' F : List Ent} {s : Shared} {a : Addr} {Gr : List Ent}
theorem rest_z {l : List (Int × Bool)} {c c' : Cfg} {Gp : List Ent} {cc : Code} {t : Sem Fin} {fs : List Frame} (h : RestAt prog w A Gr l c Gp cc t fs) (hz : Zle c c') : RestAt prog w A Gr l c' Gp cc t fs := by
  rw [rest_iff] at h ⊢
  exact fun c'' F s hz' hs => h c'' F s (hz.trans hz') hs
noncomputable def DHold (prog : Program) (w : World) (A : Around) (Gr : List Ent) (l : List (Int × Bool)) (c : Cfg) (Gp : List Ent) (gs : GenState) : Prop :=
  (∃ cc, gs = .fresh cc ∧ RestAt prog w A Gr l c Gp cc ((model prog w).den cc) []) ∨ (∃ k ls cc p fs cl, gs = .suspended k ls cc p fs cl ∧ RestAt prog w A Gr l c Gp cc (k (.send .none)) fs)
theorem dhold_z {l : List (Int × Bool)} {c c' : Cfg} {Gp : List Ent} {gs : GenState} (h : DHold prog w A Gr l c Gp gs) (hz : Zle c c') : DHold prog w A Gr l c' Gp gs := by
  rcases h with ⟨cc, e, h⟩ | ⟨k, ls, cc, p, fs, cl, e, h⟩
  · exact .inl ⟨cc, e, rest_z h hz⟩
  · exact .inr ⟨k, ls, cc, p, fs, cl, e, rest_z h hz⟩
theorem zle_of {c c' : Cfg} (h : c.Z = c'.Z) : Zle c c' := fun _ _ e => h ▸ e
theorem setG_setG {g : Nat} {x y : GenState} : setG (setG c g x) g y = setG c g y := by
  unfold setG
  simp only [Array.setIfInBounds_setIfInBounds]
theorem dfs_next {g : Nat} {gs : GenState} {l : List (Int × Bool)} {Gp : List Ent} {Q : Option Value → Shared → Prop} (hB : Base c.Z) (hA : Room A 1) (h : St c (Gp ++ F) s) (hm : (a, GenP g) ∈ F) (hgs : c.gens[g]? = some gs) (hd : DHold prog w A.in1 Gr l c Gp gs)
    (hq0 : l = [] → ∀ s', St (setG c g .finished) (Gr ++ F) s' → Q none s')
    (hq1 : ∀ y l', l = y :: l' → ∀ va Gp' gs' s', DHold prog w A.in1 Gr l' c Gp' gs' → St (setG c g gs') ((va, ItemP y) :: (Gp' ++ F)) s' → Q (some (.ref va)) s') : wpAny (model prog w) A (pyNext (.ref a)) Q E s := by
  refine gen_next hA.handled (h.nolim hB) hA.deep (gen_is h (List.mem_append_right _ hm)) (by rw [h.gens]; exact hgs) ?_
  have h₁ := h.setG g .running
  have post : ∀ e s₁, PostR prog w A.in1 Gr l (setG c g .running) F e s₁ → (match e with
      | .ret (.ok (.ret .none)) | .ret (.ok .next) => ∀ h' tk, (∀ b o, s₁.heap.get? b = some o → h'.get? b = some o) → Q none { s₁.setGen g .finished with heap := h', toks := tk }
      | .susp v g₀ l k c p fs => Q (some v) (s₁.setGen g (.suspended k l c p fs (g₀ || fs.any Frame.guarded)))
      | _ => False) := by
    intro e s₁ hp
    cases l with
    | nil =>
      obtain ⟨rfl, hs⟩ := hp
      intro h' tk hk
      have := (hs.setG g .finished).more (h' := h') (t := tk) hk
      rw [setG_setG] at this
      exact hq0 rfl _ this
    | cons y l' =>
      refine ex7 hp fun ls k cc' p fs' va Gp' hE2 => ?_
      clear hp
      refine an3 hE2 fun hR1 hs hr => ?_
      clear hE2
      subst hR1
      have := hs.setG g (.suspended k ls cc' p fs' (false || fs'.any Frame.guarded))
      rw [setG_setG] at this
      exact hq1 y l' rfl va Gp' _ _ (.inr ⟨k, ls, cc', p, fs', _, rfl, rest_z hr fun _ _ e => e⟩) this
  rcases hd with ⟨cc, rfl, hr⟩ | ⟨k, ls, cc, p, fs, cl, rfl, hr⟩
  · exact .inl ⟨cc, rfl, ((rest_iff prog w A.in1 Gr).mp hr (setG c g .running) F _ (fun _ _ e => e) h₁).mono post⟩
  · exact .inr ⟨k, ls, cc, p, fs, cl, rfl, ((rest_iff prog w A.in1 Gr).mp hr (setG c g .running) F _ (fun _ _ e => e) h₁).mono post⟩

theorem gturn {elt target iter : Expr} {ifs : List Expr} {scope : Scope} {pos : Pos} {it acc : Value} {env : Env} :
    compTurn (.GeneratorExp elt [⟨target, iter, ifs, 0⟩] scope pos) 0 it acc env = (do
      standAt iter.pos
      match ← pyNext it with
      | none => pure (.done .next)
      | some v =>
        letOwnedTupleGo target it v
        assign target env v
        let ok ← tests ifs env
        if ok then
          (do let v ← eval elt env; standAt elt.pos; let _ ← yieldOut env v)
        again (.compLoop (.GeneratorExp elt [⟨target, iter, ifs, 0⟩] scope pos) 0 it acc env)) := by rfl
noncomputable abbrev gC (elt target iter : Expr) (ifs : List Expr) (scope : Scope) (pos : Pos) (it acc : Value) (env : Env) : Code := .compLoop (.GeneratorExp elt [⟨target, iter, ifs, 0⟩] scope pos) 0 it acc env
theorem go_genLoop {elt target iter : Expr} {ifs : List Expr} {scope : Scope} {pos : Pos} {it acc : Value} {env : Env} {P : End → Shared → Prop} (hco : env.scope.isCoroutine = false)
    (h : ∀ (E' : Value → Shared → Prop), wpAny (model prog w) (A.over (gC elt target iter ifs scope pos it acc env) []) (pyNext it) (fun r s₁ => match r with
      | none => P (.ret (.ok .next)) s₁
      | some v => wpAny (model prog w) (A.over (gC elt target iter ifs scope pos it acc env) []) (letOwnedTupleGo target it v) (fun _ s₂ => wpAny (model prog w) (A.over (gC elt target iter ifs scope pos it acc env) []) (assign target env v) (fun _ s₃ =>
          wpAny (model prog w) (A.over (gC elt target iter ifs scope pos it acc env) []) (tests ifs env) (fun ok s₄ => if ok = true then wpAny (model prog w) (A.over (gC elt target iter ifs scope pos it acc env) []) (eval elt env) (fun v s₅ =>
              ∀ ls k p, (∀ s'' Q, Go prog w A (gC elt target iter ifs scope pos it acc env) ((model prog w).den (gC elt target iter ifs scope pos it acc env)) [] s'' Q → Go prog w A (gC elt target iter ifs scope pos it acc env) (k (.send .none)) [] s'' Q) →
                P (.susp v false ls k (gC elt target iter ifs scope pos it acc env) p []) s₅) E' s₄
            else Go prog w A (gC elt target iter ifs scope pos it acc env) ((model prog w).den (gC elt target iter ifs scope pos it acc env)) [] s₄ P) E' s₃) E' s₂) E' s₁) E' s) :
    Go prog w A (gC elt target iter ifs scope pos it acc env) ((model prog w).den (gC elt target iter ifs scope pos it acc env)) [] s P := by
  show Go prog w A _ ((compTurn (.GeneratorExp elt [⟨target, iter, ifs, 0⟩] scope pos) 0 it acc env).onRaise (leaving env)) [] s P
  rw [gturn, Sem.onRaise_eq_wrap]
  show Go prog w A _ (.at iter.pos fun _ => Sem.wrap _ _ _ _ (pyNext it >>= _)) [] s P
  refine go_at ?_
  rw [Sem.bind_eq_wrap', Sem.wrap_wrap]
  refine go_wrap (wpAny_mono (h _) (fun r s₁ h₁ => ?_) fun _ _ e => e)
  cases r with
  | none => exact go_end (.ok .next) h₁
  | some v =>
    show Go prog w A _ (Sem.wrap _ _ _ _ (letOwnedTupleGo target it v >>= fun _ => assign target env v >>= fun _ => tests ifs env >>= _)) [] s₁ P
    rw [Sem.bind_eq_wrap', Sem.wrap_wrap]
    refine go_wrap (wpAny_mono h₁ (fun _ s₂ h₂ => ?_) fun _ _ e => e)
    rw [Sem.bind_eq_wrap', Sem.wrap_wrap]
    refine go_wrap (wpAny_mono h₂ (fun _ s₃ h₃ => ?_) fun _ _ e => e)
    rw [Sem.bind_eq_wrap', Sem.wrap_wrap]
    refine go_wrap (wpAny_mono h₃ (fun ok s₄ h₄ => ?_) fun _ _ e => e)
    cases ok with
    | false => exact go_again rfl h₄
    | true =>
      have hy : ∀ v, yieldOut env v = yieldValue v := fun v => by simp only [yieldOut, hco, Bool.false_eq_true, if_false]
      show Go prog w A _ (Sem.wrap _ _ _ _ ((eval elt env >>= fun v => standAt elt.pos >>= fun _ => yieldOut env v >>= fun _ => pure ()) >>= fun _ => _)) [] s₄ P
      simp only [hy]
      rw [Sem.bind_eq_wrap', Sem.bind_eq_wrap', Sem.wrap_wrap, Sem.wrap_wrap]
      refine go_wrap (wpAny_mono h₄ (fun v s₅ h₅ => ?_) fun _ _ e => e)
      refine go_at ?_
      intro Γ p hc _
      refine ⟨_, s₅, Runs.yield' [] rfl, rfl, ?_⟩
      rw [hc]
      exact h₅ _ _ p fun s'' Q hx => go_again rfl hx

theorem letOwned_gen {elts : List Expr} {x1 : Nat} {pos : Pos} {g : Nat} {v : Addr} {Q : Unit → Shared → Prop} (h : St c S s) (hm : (a, GenP g) ∈ S) (hq : Q () s) : wpAny (model prog w) A (letOwnedTupleGo (.Tuple elts x1 pos) (.ref a) (.ref v)) Q E s := by
  obtain ⟨o, ho, hc, ⟨nm, qn, hd⟩, hs⟩ := h.get hm
  unfold letOwnedTupleGo
  refine wpAny_bind (wpAny_load ho ?_)
  rw [hc, hd]
  show wpAny _ A (if (["enumerate", "zip", "dict_itemiterator", "dict_reverseitemiterator", "odict_iterator", "itertools.zip_longest", "itertools.pairwise"].contains "generator" && _) = true then _ else _) Q E s
  rw [if_neg (by simp)]
  exact wpAny_pure hq
theorem assign_tup3 {env : Env} {e1 e2 e3 : Expr} {k : Nat} {pos : Pos} {t : Addr} {v1 v2 v3 : Value} {Q : Unit → Shared → Prop} (hh : A.handled = none) (h : St c S s) (ht : ∃ o, s.heap.get? t = some o ∧ TupP [v1, v2, v3] o)
    (he : assignEach [e1, e2, e3] env = [(false, assign e1 env), (false, assign e2 env), (false, assign e3 env)])
    (k' : ∀ s', St c S s' → wpAny (model prog w) A (assign e1 env v1) (fun _ s₁ => wpAny (model prog w) A (assign e2 env v2) (fun _ s₂ => wpAny (model prog w) A (assign e3 env v3) Q E s₂) E s₁) E s') :
    wpAny (model prog w) A (assign (.Tuple [e1, e2, e3] k pos) env (.ref t)) Q E s := by
  obtain ⟨o, ho, hc, n, hd⟩ := ht
  refine wpAny_assign_Tuple hh (items := #[v1, v2, v3]) ⟨o, ho, hc, n, hd⟩ (by rw [he]; rfl) (by rw [he]; rfl) fun h' hx => ?_
  rw [he]
  refine wpAny_assignInOrder_more (wpAny_mono (k' _ (h.more (t := s.toks) fun b o e => hx b o (Nat.ne_of_lt (Heap.lt_size e)) e)) (fun _ s₁ h₁ => wpAny_assignInOrder_more (wpAny_mono h₁ (fun _ _ h₂ => wpAny_assignInOrder_more (wpAny_mono h₂ (fun _ _ h₃ => wpAny_assignInOrder_none h₃) fun _ _ e => e)) fun _ _ e => e)) fun _ _ e => e)
end
end
section
open PySem PySem.Calls PyProof.Rows PySem.W PySem.W.X
open Sem (wp)
noncomputable def retOf : Stmt → Expr
  | .Return (some e) _ => e
  | _ => .Constant .none 0 ⟨0, 0, 0, 0⟩
noncomputable def gElt : Expr → Expr
  | .GeneratorExp e _ _ _ => e
  | e => e
noncomputable def gGen : Expr → Comprehension
  | .GeneratorExp _ (g :: _) _ _ => g
  | e => ⟨e, e, [], 0⟩
noncomputable def gScope : Expr → Scope
  | .GeneratorExp _ _ s _ => s
  | _ => { kind := .function, names := [], isGenerator := false, isCoroutine := false }
noncomputable def gPos : Expr → Pos
  | .GeneratorExp _ _ _ p => p
  | _ => ⟨0, 0, 0, 0⟩
noncomputable abbrev pgx (P : Params) : Expr := retOf (stmtAt (fnBody P 48) 1)
noncomputable abbrev pgC (P : Params) (it : Value) (env : Env) : Code := gC (gElt (pgx P)) (gGen (pgx P)).target (gGen (pgx P)).iter (gGen (pgx P)).ifs (gScope (pgx P)) (gPos (pgx P)) it .none env
noncomputable def outL (l : List (Int × Bool)) : List Int := (l.filter (·.2)).map (·.1)
section
variable {prog : Program} {w : World} {A : Around} {E : Value → Shared → Prop} {c : Cfg} {S S' F : List Ent} {s : Shared} {a : Addr} {Gr : List Ent}
theorem mid2 {G F : List Ent} {x y : Ent} : (G ++ (x :: y :: F)).Perm (y :: x :: (G ++ F)) :=
  (List.perm_middle.trans (List.perm_middle.cons _)).trans (.swap ..)
theorem eq_str {x y : Str} {t u : Tok} {Q : Value → Shared → Prop} (hq : Q (.bool (decide (x = y))) s) : wpAny (model prog w) A (compareOp .Eq (.str x t) (.str y u)) Q E s := by
  refine PySem.P.eq_str ?_
  have e : (x.cps.toList == y.cps.toList) = decide (x = y) := by
    obtain ⟨⟨cx⟩⟩ := x
    obtain ⟨⟨cy⟩⟩ := y
    by_cases q : cx = cy
    · subst q; simp
    · have : ¬ (({ cps := { toList := cx } } : Str) = { cps := { toList := cy } }) := fun e => q (by cases e; rfl)
      simp [q, this]
  rw [e]; exact hq
theorem gx_run {env : Env} {e1 : Addr} {g1 : Nat} (hB : KZ w c.Z) (hA : Room (A.over (pgC w.params (.ref e1) env) []) 2) (hco : env.scope.isCoroutine = false) (hk : env.scope.kind = .function) {l : List (Int × Bool)} :
    ∀ {Gp : List Ent} {gs : GenState} {s : Shared} {vu vv vd : Option Value} {c₁ : Cfg}, c₁.Z = c.Z → c₁.gens[g1]? = some gs → DHold prog w (A.over (pgC w.params (.ref e1) env) []).in1 Gr l c Gp gs →
      St c₁ (Gp ++ ((e1, GenP g1) :: (env.locals, FrP env [(".0", some (.ref e1)), ("u", vu), ("v", vv), ("d", vd)]) :: F)) s →
      Go prog w A (pgC w.params (.ref e1) env) ((model prog w).den (pgC w.params (.ref e1) env)) [] s (fun e s' => ∃ vu vv vd,
        (outL l = [] ∧ e = .ret (.ok .next) ∧ St (setG c₁ g1 .finished) (Gr ++ ((e1, GenP g1) :: (env.locals, FrP env [(".0", some (.ref e1)), ("u", vu), ("v", vv), ("d", vd)]) :: F)) s') ∨
        (∃ v t l' Gp' gs' ls k p, outL l = v :: outL l' ∧ e = .susp (.int v t) false ls k (pgC w.params (.ref e1) env) p [] ∧
          (∀ s'' Q, Go prog w A (pgC w.params (.ref e1) env) ((model prog w).den (pgC w.params (.ref e1) env)) [] s'' Q → Go prog w A (pgC w.params (.ref e1) env) (k (.send .none)) [] s'' Q) ∧ DHold prog w (A.over (pgC w.params (.ref e1) env) []).in1 Gr l' c Gp' gs' ∧
          St (setG c₁ g1 gs') (Gp' ++ ((e1, GenP g1) :: (env.locals, FrP env [(".0", some (.ref e1)), ("u", vu), ("v", vv), ("d", vd)]) :: F)) s')) := by
  induction l with
  | nil =>
    intro Gp gs s vu vv vd c₁ hZ hg hd h
    refine goLet ?_; intro fs' P'
    refine go_genLoop hco fun E' => ?_
    refine dfs_next (Gr := Gr) (Gp := Gp) (l := []) (F := (e1, GenP g1) :: (env.locals, FrP env [(".0", some (.ref e1)), ("u", vu), ("v", vv), ("d", vd)]) :: F) (hZ ▸ hB.toBase) hA.less h (.head _) hg (dhold_z hd (zle_of hZ.symm)) (fun _ s' h' => ?_) (fun y l' q => by cases q)
    exact ⟨vu, vv, vd, .inl ⟨rfl, rfl, h'⟩⟩
  | cons y l ih =>
    intro Gp gs s vu vv vd c₁ hZ hg hd h
    refine goLet ?_; intro fs' P'
    refine go_genLoop hco fun E' => ?_
    refine dfs_next (Gr := Gr) (Gp := Gp) (l := y :: l) (F := (e1, GenP g1) :: (env.locals, FrP env [(".0", some (.ref e1)), ("u", vu), ("v", vv), ("d", vd)]) :: F) (hZ ▸ hB.toBase) hA.less h (.head _) hg (dhold_z hd (zle_of hZ.symm)) (fun q => by cases q) (fun y' l' q va Gp' gs' s' hd' h' => ?_)
    cases q
    replace hd' := dhold_z hd' (zle_of hZ)
    have h₂ := h'.perm ((mid2.cons _).trans (.swap ..))
    obtain ⟨o, ho, u, tu, tv, td, d, hp, hrev⟩ := h₂.get (a := va) (by lk)
    refine letOwned_gen h₂ (a := e1) (by lk) ?_
    refine assign_tup3 hA.handled h₂ ⟨o, ho, by rw [hp]; exact ⟨rfl, 0, rfl⟩⟩ rfl fun s₃ h₃ => ?_
    refine wpAny_assign_Name ?_
    refine sto h₃ (by room) fun s₄ h₄ => ?_
    refine wpAny_assign_Name ?_
    refine sto h₄ (by room) fun s₅ h₅ => ?_
    refine wpAny_assign_Name ?_
    refine sto h₅ (by room) fun s₆ h₆ => ?_
    refine tests_one ?_
    refine wpAny_isTrue_Compare1 ?_ rfl
    refine ld h₆ (by lk) ?_
    refine wpAny_Constant_str ?_
    refine eq_str ?_
    kd_p
    have back : ∀ s', St (setG c₁ g1 gs') ((env.locals, FrP env [(".0", some (.ref e1)), ("u", some (.int u tu)), ("v", some (.int y.1 tv)), ("d", some (.str d td))]) :: (va, ItemP y) :: (e1, GenP g1) :: (Gp' ++ F)) s' →
        St (setG c₁ g1 gs') (Gp' ++ ((e1, GenP g1) :: (env.locals, FrP env [(".0", some (.ref e1)), ("u", some (.int u tu)), ("v", some (.int y.1 tv)), ("d", some (.str d td))]) :: F)) s' := fun s' h' =>
      (h'.sub (.cons (a := env.locals) (by w_up) (fun _ q => q) (.drop .refl))).perm mid2.symm
    by_cases hr : d = ("reverse" : Str)
    · refine itt (by simp [hr]) ?_
      refine ld (h₆.tok _) (by lk) ?_
      intro ls k p hk
      refine ⟨_, _, _, .inr ⟨y.1, tv, l, Gp', gs', ls, k, p, ?_, rfl, hk, hd', back _ (h₆.tok _)⟩⟩
      unfold outL
      rw [List.filter_cons, if_pos (hrev.mpr hr)]
      rfl
    · refine itf (by simp [hr]) ?_
      have hlt : g1 < c₁.gens.size := by
        rcases Nat.lt_or_ge g1 c₁.gens.size with q | q
        · exact q
        · rw [Array.getElem?_eq_none q] at hg; cases hg
      refine (ih (c₁ := setG c₁ g1 gs') hZ (by show (c₁.gens.setIfInBounds g1 gs')[g1]? = _; simp [hlt]) hd' (back _ (h₆.tok _))).mono fun e s' hp' => ?_
      have e0 : outL (y :: l) = outL l := by
        unfold outL
        rw [List.filter_cons, if_neg (fun q => hr (hrev.mp q))]
      show ∃ _ _ _, _
      rw [e0]
      simpa only [setG_setG] using hp'
end
end
section
open PySem PySem.Calls PyProof.Rows PySem.W PySem.W.X
open Sem (wp)
noncomputable abbrev pgS (P : Params) (it : Value) (env : Env) : Code := .compStart (.GeneratorExp (gElt (pgx P)) [⟨(gGen (pgx P)).target, (gGen (pgx P)).iter, (gGen (pgx P)).ifs, 0⟩] (gScope (pgx P)) (gPos (pgx P))) 0 it .none env
noncomputable def cfg2 (c : Cfg) (g1 g2 : Nat) (x y : GenState) : Cfg := { c with gens := (c.gens.setIfInBounds g1 x).setIfInBounds g2 y }
theorem cfg2_step {c : Cfg} {g1 g2 : Nat} {x y r x' y' : GenState} (hne : g1 ≠ g2) : setG (setG (setG (cfg2 c g1 g2 x y) g2 r) g1 x') g2 y' = cfg2 c g1 g2 x' y' := by
  unfold setG cfg2
  dsimp only
  congr 1
  apply Array.ext_getElem?
  intro i
  simp only [Array.getElem?_setIfInBounds, Array.size_setIfInBounds]
  by_cases h2 : g2 = i
  · subst h2; simp
  · by_cases h1 : g1 = i
    · subst h1; simp [h2, fun e : g2 = g1 => hne e.symm]
    · simp [h1, h2]
section
variable {prog : Program} {w : World} {A : Around} {E : Value → Shared → Prop} {c : Cfg} {S S' F : List Ent} {s : Shared} {a : Addr} {Gr : List Ent}
theorem go_genStart {elt target iter : Expr} {ifs : List Expr} {scope : Scope} {pos : Pos} {it acc : Value} {env : Env} {P : End → Shared → Prop}
    (hself : ∀ (A' : Around) (E' : Value → Shared → Prop) (Q' : Value → Shared → Prop), Q' it s → wpAny (model prog w) A' (pyIter it) Q' E' s)
    (h : Go prog w A (gC elt target iter ifs scope pos it acc env) ((model prog w).den (gC elt target iter ifs scope pos it acc env)) [] s P) :
    Go prog w A (.compStart (.GeneratorExp elt [⟨target, iter, ifs, 0⟩] scope pos) 0 it acc env) ((model prog w).den (.compStart (.GeneratorExp elt [⟨target, iter, ifs, 0⟩] scope pos) 0 it acc env)) [] s P := by
  show Go prog w A _ ((compStart (.GeneratorExp elt [⟨target, iter, ifs, 0⟩] scope pos) 0 it acc env).onRaise (leaving env)) [] s P
  rw [Sem.onRaise_eq_wrap]
  unfold compStart
  show Go prog w A _ ((ask >>= _ : Sem PySem.Fin).wrap _ _ _ _) [] s P
  rw [Sem.bind_eq_wrap', Sem.wrap_wrap]
  refine go_wrap (wpAny_askSetting ?_)
  split
  · exact go_again rfl h
  · show Go prog w A _ (.rule _ fun _ => .at iter.pos fun _ => Sem.wrap _ _ _ _ (pyIter it >>= _)) [] s P
    refine go_wrap (m := rule _) (K := fun _ => .at iter.pos fun _ => Sem.wrap _ _ _ _ (pyIter it >>= _)) (H := .raise) (gd := id) (lv := id) (wpAny_rule ?_)
    refine go_at ?_
    rw [Sem.bind_eq_wrap', Sem.wrap_wrap]
    exact go_wrap (hself _ _ _ (go_again rfl h))
noncomputable def XHold (prog : Program) (w : World) (A : Around) (e1 : Addr) (env : Env) (gs : GenState) : Prop :=
  gs = .fresh (pgS w.params (.ref e1) env) ∨ ∃ k ls p cl, gs = .suspended k ls (pgC w.params (.ref e1) env) p [] cl ∧
    ∀ s'' Q, Go prog w A (pgC w.params (.ref e1) env) ((model prog w).den (pgC w.params (.ref e1) env)) [] s'' Q → Go prog w A (pgC w.params (.ref e1) env) (k (.send .none)) [] s'' Q
theorem gx_next {env : Env} {e1 a2 : Addr} {g1 g2 : Nat} {x y : GenState} {l : List (Int × Bool)} {Gp : List Ent} {vu vv vd : Option Value} {Q : Option Value → Shared → Prop} (hB : KZ w c.Z) (hA : Room A 6) (hco : env.scope.isCoroutine = false) (hk : env.scope.kind = .function)
    (hne : g1 ≠ g2) (h1 : g1 < c.gens.size) (h2 : g2 < c.gens.size) (hx : DHold prog w (A.in1.over (pgC w.params (.ref e1) env) []).in1 Gr l c Gp x) (hy : XHold prog w A.in1 e1 env y)
    (h : St (cfg2 c g1 g2 x y) (Gp ++ ((e1, GenP g1) :: (env.locals, FrP env [(".0", some (.ref e1)), ("u", vu), ("v", vv), ("d", vd)]) :: F)) s) (hm : (a2, GenP g2) ∈ F)
    (hq0 : outL l = [] → ∀ vu vv vd s', St (cfg2 c g1 g2 .finished .finished) (Gr ++ ((e1, GenP g1) :: (env.locals, FrP env [(".0", some (.ref e1)), ("u", vu), ("v", vv), ("d", vd)]) :: F)) s' → Q none s')
    (hq1 : ∀ v t l' Gp' x' y' vu vv vd s', outL l = v :: outL l' → DHold prog w (A.in1.over (pgC w.params (.ref e1) env) []).in1 Gr l' c Gp' x' → XHold prog w A.in1 e1 env y' →
      St (cfg2 c g1 g2 x' y') (Gp' ++ ((e1, GenP g1) :: (env.locals, FrP env [(".0", some (.ref e1)), ("u", vu), ("v", vv), ("d", vd)]) :: F)) s' → Q (some (.int v t)) s') :
    wpAny (model prog w) A (pyNext (.ref a2)) Q E s := by
  have e2 : (cfg2 c g1 g2 x y).gens[g2]? = some y := by
    show ((c.gens.setIfInBounds g1 x).setIfInBounds g2 y)[g2]? = _
    simp [h2]
  refine gen_next hA.handled (h.nolim hB.toBase) hA.deep (gen_is h (List.mem_append_right _ (mt (mt hm)))) (by rw [h.gens]; exact e2) ?_
  have h₁ := h.setG g2 .running
  have e1' : (setG (cfg2 c g1 g2 x y) g2 .running).gens[g1]? = some x := by
    show (((c.gens.setIfInBounds g1 x).setIfInBounds g2 y).setIfInBounds g2 .running)[g1]? = _
    have hne' : ¬ g2 = g1 := fun e => hne e.symm
    simp only [Array.getElem?_setIfInBounds, Array.size_setIfInBounds, if_neg hne', if_pos h1, if_true]
  have hA1 : Room (A.in1.over (pgC w.params (.ref e1) env) []) 3 := ⟨hA.handled, by have := hA.depth; show A.depth + 0 + (1 : Nat) + _ ≤ _; lia, by have := hA.units; show A.units + 1 + 0 + (3 : Nat) + _ ≤ _; lia⟩
  have run := (gx_run (F := F) hB hA1.less hco hk (l := l) (c₁ := setG (cfg2 c g1 g2 x y) g2 .running) rfl e1' hx h₁).mono (P' := fun e s₁ => match e with
      | .ret (.ok (.ret .none)) | .ret (.ok .next) => ∀ h' tk, (∀ b o, s₁.heap.get? b = some o → h'.get? b = some o) → Q none { s₁.setGen g2 .finished with heap := h', toks := tk }
      | .susp v g₀ l k c p fs => Q (some v) (s₁.setGen g2 (.suspended k l c p fs (g₀ || fs.any Frame.guarded)))
      | _ => False) (by
    intro e s₁ hp
    obtain ⟨vu, vv, vd, ⟨ho, rfl, hs⟩ | ⟨v, t, l', Gp', gs', ls, k, p, ho, rfl, hk', hd', hs⟩⟩ := hp
    · intro h' tk hkp
      have := (hs.setG g2 .finished).more (h' := h') (t := tk) hkp
      rw [cfg2_step hne] at this
      exact hq0 ho _ _ _ _ this
    · have := hs.setG g2 (.suspended k ls (pgC w.params (.ref e1) env) p [] (false || List.any [] Frame.guarded))
      rw [cfg2_step hne] at this
      exact hq1 v t l' Gp' gs' _ _ _ _ _ ho hd' (.inr ⟨k, ls, p, _, rfl, hk'⟩) this)
  rcases hy with rfl | ⟨k, ls, p, cl, rfl, hk'⟩
  · refine .inl ⟨_, rfl, go_genStart (fun A' E' Q' hq' => ?_) run⟩
    exact wpAny_pyIter_gen (gen_is h₁ (a := e1) (g := g1) (List.mem_append_right _ (.head _))) hq'
  · exact .inr ⟨k, ls, _, p, [], cl, rfl, hk' _ _ run⟩
end
end
section
open PySem PySem.Calls PyProof.Rows PySem.W PySem.W.X
open Sem (wp)
noncomputable def TabP (T : Array Value → Prop) (o : Obj) : Prop := ∃ ps, o = { cls := .none, data := .fields ps } ∧ TriplesOk ps.toList ∧ T ps
structure CodeZ (Z : Addr → Option Obj) (cd P : Addr) : Prop where
  f : ∃ o vs file tf flags tg inF text tt, Z cd = some o ∧ o.cls = .type "code" ∧ o.data = .fields vs ∧ vs.getD 11 .none = .ref P ∧ vs[11]? = some (.ref P) ∧ vs.getD 18 .none = .str file tf ∧ vs.getD 7 .none = .int flags tg ∧ vs.getD 9 .none = .bool inF ∧ vs.getD 10 .none = .int text tt
  ne : cd ≠ P
section
variable {prog : Program} {w : World} {A : Around} {E : Value → Shared → Prop} {c : Cfg} {S S' F : List Ent} {s : Shared} {a : Addr} {env : Env}
theorem CodeZ.is {cd P : Addr} {ps : Array Value} (x : CodeZ c.Z cd P) (h : St c S s) (hP : s.heap.get? P = some { cls := .none, data := .fields ps }) (ht : TriplesOk ps.toList) : s.heap.IsCode cd P ps ∧ s.heap.TableAt cd P ps := by
  obtain ⟨⟨o, vs, file, tf, flags, tg, inF, text, tt, hz, hc, hd, h11, h11', h18, h7, h9, h10⟩, hne⟩ := x
  have ho := h.keep _ _ hz
  exact ⟨⟨o, vs, file, tf, flags, tg, inF, text, tt, _, ho, hd, h11, h18, h7, h9, h10, hP, rfl, ht, hne⟩, ⟨⟨o, vs, ho, hc, hd, h11'⟩, hP⟩⟩
theorem uniq : ∀ {S : List Ent} {a : Addr} {P P' : Obj → Prop}, (S.map (·.1)).Nodup → (a, P) ∈ S → (a, P') ∈ S → P = P'
  | [], _, _, _, _, h, _ => nomatch h
  | x :: r, a, P, P', hn, h, h' => by
    rw [List.map_cons, List.nodup_cons] at hn
    rcases List.mem_cons.mp h with e | h <;> rcases List.mem_cons.mp h' with e' | h'
    · rw [← e'] at e; cases e; rfl
    · exact absurd (List.mem_map.mpr ⟨_, h', by rw [← e]⟩) hn.1
    · exact absurd (List.mem_map.mpr ⟨_, h, by rw [← e']⟩) hn.1
    · exact uniq hn.2 h h'
theorem St.table {cd P : Addr} {ps' : Array Value} {T : Array Value → Prop} (h : St c S s) (hm : (P, TabP T) ∈ S) {h' : Heap} {tk : Nat} (hx : Heap.ExtBut P s.heap h') (ht : h'.TableAt cd P ps') (hok : TriplesOk ps'.toList) (hT : T ps') : St c S { s with heap := h', toks := tk } where
  keep b o e := by
    refine hx b o (fun q => ?_) (h.keep b o e)
    have := (h.own _ hm).1
    rw [q] at e; rw [this] at e; cases e
  own p hp := by
    by_cases q : p.1 = P
    · have e : p = (P, TabP T) := by
        obtain ⟨pa, pp⟩ := p
        have q : pa = P := q
        subst q
        rw [uniq h.nd hp hm]
      subst e
      exact ⟨(h.own _ hm).1, _, ht.2, ps', rfl, hok, hT⟩
    · obtain ⟨z, o, e, r⟩ := h.own p hp
      exact ⟨z, o, hx _ _ q e, r⟩
  nd := h.nd
  one := h.one
  gens := h.gens
  drawn := h.drawn
  os := h.os

theorem gx_code {cd P : Addr} {T : Array Value → Prop} {pos : Pos} {qn : Str} {scope : Scope} {Q : Value → Shared → Prop} (hc : env.code = .ref cd) (h : St c S s) (hz : CodeZ c.Z cd P) (hm : (P, TabP T) ∈ S)
    (hT : ∀ ps v, T ps → codeAmong pos ps.toList = none → T (ps ++ #[rawInt pos.line, rawInt pos.col, v])) (hq : ∀ v s', St c S s' → Q v s') : wpAny (model prog w) A (genexprCode env pos qn scope) Q E s := by
  obtain ⟨o, ho, ps, rfl, hok, hT'⟩ := h.get hm
  obtain ⟨hic, hta⟩ := hz.is h ho hok
  cases hf : codeAmong pos ps.toList with
  | some v => exact wpAny_genexprCode_hit hc hic hf (hq _ _ h)
  | none =>
    refine wpAny_genexprCodeX hc hic hta hf fun c' h' tk hx _ _ _ _ ht _ => hq _ _ (h.table hm hx ht ?_ (hT _ _ hT' hf))
    have := TriplesOk_snoc pos.line pos.col (.ref c') _ hok
    simpa using this
theorem bi_for {Q : Addr → Shared → Prop} {gs : List Str} (h : St c S s) (hB : GB c.Z) (ge : GE env gs) (hq : Q builtinsNs s) : wpAny (model prog w) A (builtinsFor env.globals env.builtins) Q E s := by
  obtain ⟨mg, bm, ob, h1, h2, h3, h4, h5, h6, h7⟩ := hB.bmod _ h.keep
  exact wpAny_builtinsFor (ge.g ▸ h1) h2 h3 h4 h5 h6 h7 hq

theorem gx_make {elt target iter : Expr} {ifs : List Expr} {scope : Scope} {pos : Pos} {cl : List (Str × Addr)} {cd P : Addr} {T : Array Value → Prop} {gs : List Str} {l : List (Str × Option Value)} {Q : Value → Shared → Prop} (hB : GB c.Z) (ge : GE env gs) (hA : A.depth < recursionLimit)
    (hc : env.code = .ref cd) (hz : CodeZ c.Z cd P) (hT : ∀ ps v, T ps → codeAmong pos ps.toList = none → T (ps ++ #[rawInt pos.line, rawInt pos.col, v]))
    (hco : scope.isCoroutine = false) (hclos : closureFor scope env = pure cl) (hcell : (scope.names.all fun x => x.2 != .cell) = true) (h0 : scope.names.lookup (".0" : Str) = some NameKind.local) (hns : namesOk scope (".0" :: l.map (·.1)) = true) (hl : (l.all fun p => p.2.isNone && p.1 != (".0" : Str)) = true)
    (hs : ∀ x, genFold iter env x = pure x)
    (h : wpAny (model prog w) A (eval iter env) (fun xv s₁ => wpAny (model prog w) A (pyIter xv) (fun it s₂ => ∃ S₂, St c S₂ s₂ ∧ (P, TabP T) ∈ S₂ ∧
      ∀ cenv a2 s', cenv.globals = mainGlobals → cenv.builtins = builtinsNs → cenv.cells = cl → cenv.scope = scope →
        St (addGen c (.fresh (.compStart (.GeneratorExp elt [⟨target, iter, ifs, 0⟩] scope pos) 0 it .none cenv))) ((a2, GenP c.gens.size) :: (cenv.locals, FrP cenv ((".0", some it) :: l)) :: S₂) s' → Q (.ref a2) s') E s₁) E s) :
    wpAny (model prog w) A (eval (.GeneratorExp elt [⟨target, iter, ifs, 0⟩] scope pos) env) Q E s := by
  have hk : scope.kind = .function := by simp only [namesOk, Bool.and_eq_true, decide_eq_true_eq] at hns; exact hns.2
  refine wpAny_GeneratorExp_make hco hclos (fun x hx => by simpa using List.all_eq_true.mp hcell x hx) h0 hk hA (wpAny_mono h (fun xv s₁ h₁ => wpAny_mono h₁ (fun it s₂ h₂ => ?_) fun _ _ e => e) fun _ _ e => e) hs
  obtain ⟨S₂, h₃, hm, k⟩ := h₂
  refine ⟨h₃.nolim hB.toBase, gx_code hc h₃ hz hm hT fun code s₃ h₄ => bi_for h₄ hB ge ?_⟩
  intro h' hns' hsb
  have h₅ : St c ((s₃.heap.objs.size, FrP (genEnv scope cl s₃.heap.objs.size code builtinsNs env) ((".0", some it) :: l)) :: S₂) { s₃ with heap := h', toks := s₃.toks + 1 } := by
    refine h₄.new (fun b o e => hsb.extBut b o (Nat.ne_of_lt (Heap.lt_size e)) (Heap.get?_push_of_some _ e)) (Nat.le_refl _) ?_
    refine frp_new (env := genEnv scope cl s₃.heap.objs.size code builtinsNs env) hns' (by simp) hns fun p hp => ?_
    rcases List.mem_cons.mp hp with rfl | hp
    · rfl
    · have := List.all_eq_true.mp hl p hp
      simp only [Bool.and_eq_true, bne_iff_ne] at this
      show (if p.1 = ".0" then some it else none) = p.2
      rw [if_neg this.2]
      cases q : p.2 with
      | none => rfl
      | some _ => rw [q] at this; cases this.1
  have h₆ := (h₅.push (P := GenP c.gens.size) (t := s₃.toks + 1 + 1 + 1) { cls := .type "generator", data := .fields #[.int s₃.gens.size 0, .str "<genexpr>" (s₃.toks + 1), .str (env.qual ++ "<genexpr>") (s₃.toks + 1 + 1)] } rfl ⟨rfl, ⟨_, _, by rw [h₄.gens]⟩, rfl⟩).addGen
    (.fresh (.compStart (.GeneratorExp elt [⟨target, iter, ifs, 0⟩] scope pos) 0 it .none (genEnv scope cl s₃.heap.objs.size code builtinsNs env)))
  exact k (genEnv scope cl s₃.heap.objs.size code builtinsNs env) _ _ ge.g rfl rfl rfl h₆
end
end
section
open PySem PySem.Calls PyProof.Rows PySem.W PySem.W.X
open Sem (wp)
section
variable {prog : Program} {w : World} {A : Around} {E : Value → Shared → Prop} {c : Cfg} {S S' F : List Ent} {s : Shared} {a : Addr}
theorem binds_peek {fd : FuncData} {args : Args} {binds : List (Str × Value)} (X : (KK w.params).In s.heap) (e : ∀ S, peek (KK w.params) S (bindArgs fd args) = some binds) : BindsTo s fd args binds :=
  fun M A E Q hq => Looks.of_peek (M := M) X (e _) A Q E s (fun _ _ h => h) hq
theorem call_kw {pos : Pos} {fa : Addr} {o : Obj} {fd : FuncData} {first : List Value} {args : List (Bool × Sem Value)} {keywords : List (Option Str × Sem Value)} {Q : Value → Shared → Prop} (ho : c.Z fa = some o) (hd : o.data = .func fd)
    (h : wpAny (model prog w) A (evalArgs (.ref fa) true args keywords) (fun x s₁ => (∃ S₁, St c S₁ s₁) ∧ wpAny (model prog w) A (call (.ref fa) (first ++ x.pos) x.kw) Q E s₁) E s) : wpAny (model prog w) A (callWith pos (.ref fa) first args keywords) Q E s :=
  callWith_function_kw (o := o) (fd := fd) (wpAny_mono h (fun _ _ ⟨⟨_, h₁⟩, h₂⟩ => ⟨⟨h₁.keep _ _ ho, hd⟩, h₂⟩) fun _ _ e => e)
theorem kw_at {t : Sem Value} {pos : Pos} {Q : Value → Shared → Prop} (h : wpAny (model prog w) A t Q E s) : wpAny (model prog w) A (do let v ← t; standAt pos; pure v) Q E s :=
  wpAny_bind (wpAny_mono h (fun _ _ h' => wpAny_bind (wpAny_standAt (wpAny_pure h'))) fun _ _ e => e)
noncomputable def TT (_ : Array Value) : Prop := True
noncomputable abbrev gfr (e1 : Addr) (vu vv vd : Option Value) : List (Str × Option Value) := [(".0", some (.ref e1)), ("u", vu), ("v", vv), ("d", vd)]
theorem code47 {Z : Addr → Option Obj} (hB : KZ w Z) : CodeZ Z 47 43 :=
  ⟨⟨_, _, _, _, _, _, _, _, _, hB.k 47 _ rfl (by decide) (by decide), rfl, rfl, rfl, rfl, rfl, rfl, rfl, rfl⟩, by decide⟩
theorem post_spec {R : Result → Shared → Prop} {x dx nd sa pa : Addr} {at' : List (Str × Value)} {ks : List Int} {su pr : Int → List Int} {st : Int} {ts : Tok} {l : List (Int × Bool)}
    (h : St c ((x, InsP dx) :: (dx, IDicP prog w at') :: (43, TabP TT) :: F) s) (hB : KZ w c.Z) (hA : Room A 6) (hg : FGr prog w c.Z nd sa pa ks su pr) (hat : GAt at' nd sa pa) (hks : ks.Nodup) (hz : ks.length ≤ 50) (hsu : ∀ k ∈ ks, ∀ y ∈ su k, y ∈ ks) (hst : st ∈ ks) (hT : Tr su st [(st, 0)] [st] l)
    (hR : ∀ e1 a2 cenv Gp gs1 gs2 s', cenv.scope.isCoroutine = false → cenv.scope.kind = .function → (∀ A', Room A' 16 → DHold prog w A' [(x, InsP dx), (dx, IDicP prog w at')] ((st, false) :: l) c Gp gs1) → (∀ A', XHold prog w A' e1 cenv gs2) →
      St (addGen (addGen c gs1) gs2) (Gp ++ ((e1, GenP c.gens.size) :: (cenv.locals, FrP cenv (gfr e1 none none none)) :: (a2, GenP (c.gens.size + 1)) :: (43, TabP TT) :: F)) s' → R (.ok (.ret (.ref a2))) s') :
    codeAny (model prog w) A (.call (.ref 48) ⟨[.ref x, .int st ts], []⟩) R s := by
  refine enter (l := [("G", some (.ref x)), ("source", some (.int st ts)), ("depth_limit", some .none), ("sort_neighbors", some .none), ("edges", none)]) (ns := ["G", "source", "depth_limit", "sort_neighbors", "edges"]) (binds := [("G", .ref x), ("source", .int st ts), ("depth_limit", .none), ("sort_neighbors", .none)]) (n := 5) h hB.toBase hA (hB.k 48 _ rfl (by decide) (by decide)) rfl
    ⟨47, _, _, _, rfl, hB.k 47 _ rfl (by decide) (by decide), rfl, rfl⟩ rfl (binds_peek (h.kk hB) (fun _ => by kernel_rfl)) (by rfl) (by rfl) rfl (by rfl) (by rfl) ?_ rfl rfl rfl
  rintro env s₁ ⟨L, hE⟩ hA₁ h₁
  have ge : GE env ["dfs_labeled_edges"] := .of (by rw [hE]; rfl) (by rw [hE]; rfl) (by rw [hE]; rfl)
  have hcode : env.code = .ref 47 := by rw [hE]; rfl
  have hcells : env.cells = [] := by rw [hE]; rfl
  clear h hE
  kd_p; kd_p
  refine wpAny_Call_Name_kw (ldg h₁ hB.toGB ge (by lk) (v := .ref 57) (by lk) ?_)
  refine call_kw (hB.k 57 _ rfl (by decide) (by decide)) rfl (evalArgs_kw (x := eval _ env) rfl ?_)
  refine Calls.spliced_cons ?_
  refine ld h₁ (by lk) ?_
  refine Calls.spliced_nil ?_
  refine wpAny_evalAll_cons ?_
  refine kw_at ?_
  refine ld h₁ (by lk) ?_
  refine wpAny_evalAll_cons ?_
  refine kw_at ?_
  refine ld h₁ (by lk) ?_
  refine wpAny_evalAll_cons ?_
  refine kw_at ?_
  refine ld h₁ (by lk) ?_
  refine wpAny_evalAll_nil ?_
  refine ⟨⟨_, h₁⟩, ?_⟩
  refine wpAny_call ?_
  refine enterGen (l := [("depth_now", none), ("parent", none), ("children", none), ("child", none), ("visited", none), ("stack", none), ("source", some (.int st ts)), ("depth_limit", some .none), ("nodes", none), ("get_children", none), ("start", none)])
    (ns := ["depth_now", "parent", "children", "child", "visited", "stack", "source", "depth_limit", "nodes", "get_children", "start"]) (lc := [("sort_neighbors", some .none), ("G", some (.ref x))])
    (binds := [("G", .ref x), ("source", .int st ts), ("depth_limit", .none), ("sort_neighbors", .none)]) h₁ hB.toBase hA₁.deep (hB.k 57 _ rfl (by decide) (by decide)) rfl
    ⟨56, _, _, _, rfl, hB.k 56 _ rfl (by decide) (by decide), rfl, rfl⟩ rfl (binds_peek (h₁.kk hB) (fun _ => by kernel_rfl)) rfl rfl rfl (by rfl) (by rfl) (by rfl) (by rfl) (by rfl) ?_ rfl rfl rfl
  intro L2 env2 e1 s₂ hE2 h₂
  have ge2 : GE env2 ["len", "set", "iter"] := .of (by rw [hE2]; rfl) (by rw [hE2]; rfl) (by rw [hE2]; rfl)
  have hcs2 : env2.cells = ([("sort_neighbors", L2 + 2), ("G", L2 + 1)] : List (Str × Addr)) := by rw [hE2]; rfl
  have hG2 : Cel env2 "G" (L2 + 1) := .of hcs2 ge2.kind (.inl (by rw [hE2]; rfl)) rfl (by decide)
  have hS2 : Cel env2 "sort_neighbors" (L2 + 2) := .of hcs2 ge2.kind (.inl (by rw [hE2]; rfl)) rfl (by decide)
  have hco2 : env2.scope.isCoroutine = false := by rw [hE2]; rfl
  clear hE2
  replace h₂ : St (addGen c (.fresh (.func (fnBody w.params 57) env2))) ((e1, GenP c.gens.size) :: (env2.locals, FrP env2 [("depth_now", none), ("parent", none), ("children", none), ("child", none), ("visited", none), ("stack", none), ("source", some (.int st ts)), ("depth_limit", some .none), ("nodes", none), ("get_children", none), ("start", none)]) :: (L2 + 2, CellP (some .none)) :: (L2 + 1, CellP (some (.ref x))) ::
    (env.locals, FrP env [("G", some (.ref x)), ("source", some (.int st ts)), ("depth_limit", some .none), ("sort_neighbors", some .none), ("edges", none)]) :: (x, InsP dx) :: (dx, IDicP prog w at') :: (43, TabP TT) :: F) s₂ := h₂
  replace h₂ := h₂.sub (.cons (a := env.locals) (by w_up) (fun _ q => q) .refl)
  refine sto h₂ (by room) fun s₃ h₃ => ?_
  kd_p; kd_p
  refine gx_make (T := TT) (l := [("u", none), ("v", none), ("d", none)]) (cl := []) (c := addGen c (.fresh (.func (fnBody w.params 57) env2))) hB.toGB ge hA₁.deep hcode (code47 hB) (fun _ _ _ _ => trivial) rfl (closure_of hcells rfl) rfl rfl (by rfl) rfl (fun _ => rfl) ?_
  refine ld h₃ (by lk) ?_
  refine wpAny_pyIter_gen (gen_is h₃ (a := e1) (by lk)) ?_
  refine ⟨_, h₃, by lk, fun cenv a2 s₄ c1 c2 c3 c4 h₄ => ?_⟩
  refine hR e1 a2 cenv [(env2.locals, FrP env2 [("depth_now", none), ("parent", none), ("children", none), ("child", none), ("visited", none), ("stack", none), ("source", some (.int st ts)), ("depth_limit", some .none), ("nodes", none), ("get_children", none), ("start", none)]), (L2 + 2, CellP (some .none)), (L2 + 1, CellP (some (.ref x))), (x, InsP dx), (dx, IDicP prog w at')] (.fresh (.func (fnBody w.params 57) env2)) (.fresh (pgS w.params (.ref e1) cenv)) s₄ (by rw [c4]) (by rw [c4]) (fun A' hA' => ?_) (fun A' => ?_) ?_
  · exact .inl ⟨_, rfl, dfs_fresh hB hg hat hks hz hsu hst ge2 hG2 hS2 hco2 hA' hT⟩
  · exact .inl rfl
  · simp only [List.cons_append, List.nil_append]
    have e : (addGen c (.fresh (.func (fnBody w.params 57) env2))).gens.size = c.gens.size + 1 := by show (c.gens.push _).size = _; simp
    rw [e] at h₄
    exact h₄.sub (by k_is)
end
end
section
open PySem PySem.Calls PyProof.Rows PySem.W PySem.W.X
open Sem (wp)
section
variable {prog : Program} {w : World} {A : Around} {E : Value → Shared → Prop} {c : Cfg} {S S' F : List Ent} {s : Shared} {a : Addr}
theorem cfg2_start {g1 : GenState} {g2 : GenState} : addGen (addGen c g1) g2 = cfg2 (addGen (addGen c g1) g2) c.gens.size (c.gens.size + 1) g1 g2 := by
  unfold cfg2 addGen
  dsimp only
  congr 1
  apply Array.ext_getElem?
  intro i
  simp only [Array.getElem?_setIfInBounds, Array.size_setIfInBounds, Array.size_push]
  by_cases h2 : c.gens.size + 1 = i
  · subst h2; simp [Array.getElem_push, Array.getElem?_push, Array.size_push]
  · by_cases h1 : c.gens.size = i
    · subst h1; simp [Array.getElem?_push]; try lia
    · simp [h1, h2]
theorem permT {T G R : List Ent} {x y : Ent} : (T ++ (G ++ (x :: y :: R))).Perm (G ++ (x :: y :: (T ++ R))) :=
  (List.perm_append_comm_assoc _ _ _).trans (List.Perm.append_left G (List.perm_middle.trans (List.perm_middle.cons _)))
theorem perm3 {x p q r : Ent} {G R : List Ent} : (x :: (G ++ (p :: q :: r :: R))).Perm (p :: q :: r :: x :: (G ++ R)) :=
  have h1 : ((x :: G) ++ (p :: q :: r :: R)).Perm (p :: ((x :: G) ++ (q :: r :: R))) := List.perm_middle
  have h2 : ((x :: G) ++ (q :: r :: R)).Perm (q :: ((x :: G) ++ (r :: R))) := List.perm_middle
  have h3 : ((x :: G) ++ (r :: R)).Perm (r :: ((x :: G) ++ R)) := List.perm_middle
  h1.trans ((h2.trans (h3.cons q)).cons p)
theorem list_gx {c₀ : Cfg} {cenv : Env} {e1 a2 : Addr} {g1 g2 : Nat} {x y : GenState} {l : List (Int × Bool)} {Gp Gr F : List Ent} {vu vv vd : Option Value} {Q : Value → Shared → Prop} (hB : KZ w c₀.Z) (hA : Room A 30) (hco : cenv.scope.isCoroutine = false) (hk : cenv.scope.kind = .function)
    (hne : g1 ≠ g2) (h1 : g1 < c₀.gens.size) (h2 : g2 < c₀.gens.size) (hx : ∀ A', Room A' 16 → DHold prog w A' Gr l c₀ Gp x) (hy : ∀ A', XHold prog w A' e1 cenv y) (hn : (outL l).length ≤ 900)
    (h : St (cfg2 c₀ g1 g2 x y) (Gp ++ ((e1, GenP g1) :: (cenv.locals, FrP cenv (gfr e1 vu vv vd)) :: (a2, GenP g2) :: F)) s)
    (hq : ∀ b s', St (cfg2 c₀ g1 g2 .finished .finished) ((b, IntLP (outL l)) :: (Gr ++ F)) s' → Q (.ref b) s') : wpAny (model prog w) A (call (.type "list") [.ref a2]) Q E s := by
  have hA2 : Room A.in1.in1 28 := hA.in1.in1
  let A1 : Around := (A.in1.in1.in1.over (pgC w.params (.ref e1) cenv) []).in1
  have hA1 : Room A1 16 := ⟨hA.handled, by have := hA.depth; show A.depth + 0 + (1 : Nat) + _ ≤ _; lia, by have := hA.units; show A.units + 1 + 1 + 1 + 0 + (3 : Nat) + 1 + _ ≤ _; lia⟩
  let J : Nat → Cfg → List Ent → List Value → Prop := fun i c F' acc => ∃ l' Gp' x' y' vu vv vd ns, c = cfg2 c₀ g1 g2 x' y' ∧ F' = Gp' ++ ((e1, GenP g1) :: (cenv.locals, FrP cenv (gfr e1 vu vv vd)) :: (a2, GenP g2) :: F) ∧ DHold prog w A1 Gr l' c₀ Gp' x' ∧ XHold prog w A.in1.in1.in1 e1 cenv y' ∧ IntsAre acc ns ∧ outL l = ns ++ outL l' ∧ ns.length = i
  let D : Cfg → List Ent → List Value → Prop := fun c F' acc => ∃ vu vv vd, c = cfg2 c₀ g1 g2 .finished .finished ∧ F' = Gr ++ ((e1, GenP g1) :: (cenv.locals, FrP cenv (gfr e1 vu vv vd)) :: (a2, GenP g2) :: F) ∧ IntsAre acc (outL l)
  have W : Fills prog w A.in1.in1 a2 (outL l).length J D := by
    refine ⟨?_, ?_, ?_⟩
    · rintro i c F' acc T s Q E hi ⟨l', Gp', x', y', vu, vv, vd, ns, rfl, rfl, hd, hyy, hI, ho, hl⟩ h hq
      refine gx_next (F := T ++ ((a2, GenP g2) :: F)) hB hA2.less hco hk hne h1 h2 hd hyy (h.perm permT) (List.mem_append_right _ (.head _)) (fun h0 => ?_) (fun v t l'' Gp'' x'' y'' vu' vv' vd' s' ho' hd' hy' h' => ?_)
      · rw [h0, List.append_nil] at ho
        rw [ho] at hi
        lia
      · refine hq _ _ _ _ ⟨l'', Gp'', x'', y'', vu', vv', vd', ns ++ [v], rfl, rfl, hd', hy', hI.append (.cons _ _ .nil), by rw [ho, ho']; simp, by simp [hl]⟩ (h'.perm permT.symm)
    · rintro c F' acc T s Q E ⟨l', Gp', x', y', vu, vv, vd, ns, rfl, rfl, hd, hyy, hI, ho, hl⟩ h hq
      have h0' : outL l' = [] := by
        have := congrArg List.length ho
        rw [List.length_append, hl] at this
        exact List.length_eq_zero_iff.mp (by lia)
      refine gx_next (F := T ++ ((a2, GenP g2) :: F)) hB hA2.less hco hk hne h1 h2 hd hyy (h.perm permT) (List.mem_append_right _ (.head _)) (fun h0 vu' vv' vd' s' h' => ?_) (fun v t l'' Gp'' x'' y'' vu' vv' vd' s' ho' hd' hy' h' => ?_)
      · exact hq _ _ _ ⟨vu', vv', vd', rfl, rfl, by rw [ho, h0', List.append_nil]; exact hI⟩ (h'.perm permT.symm)
      · rw [h0'] at ho'; cases ho'
    · rintro i c F' acc hE1
      refine ex8 hE1 fun l' Gp' x' y' vu vv vd ns hE2 => ?_
      clear hE1
      refine an7 hE2 fun hR1 hR2 hd hyy hI ho hl => ?_
      clear hE2
      subst hR1
      subst hR2
      exact hI.length.trans hl
  have hma : (a2, GenP g2) ∈ Gp ++ ((e1, GenP g1) :: (cenv.locals, FrP cenv (gfr e1 vu vv vd)) :: (a2, GenP g2) :: F) := List.mem_append_right _ (mt (mt mh))
  refine call_list_it (T := "generator") W hn h (fun h' => (gen_is h' (List.mem_append_right _ hma)).typeIs) (fun h' => ?_) rfl rfl (fun h' hq' => ?_) (fun hJ h' hq' => ?_) (fun b c F' acc s' hD h' => ?_)
  · exact h'.ne .head hma
  · refine wpAny_pyIter_gen (gen_is h' (a := a2) (g := g2) (.tail _ hma)) (hq' _ _ _ ⟨l, Gp, x, y, vu, vv, vd, [], rfl, rfl, hx _ hA1, hy _, .nil, rfl, rfl⟩ h')
  · refine ex8 hJ fun l' Gp' x' y' vu vv vd ns hE2 => ?_
    clear hJ
    refine an7 hE2 fun hR1 hR2 hd hyy hI ho hl => ?_
    clear hE2
    subst hR1
    subst hR2
    exact hint_gen h' (g := g2) (.tail _ (List.mem_append_right _ (mt (mt mh)))) hq'
  · obtain ⟨vu, vv, vd, rfl, rfl, hI⟩ := hD
    refine hq b s' ?_
    have := (h'.sub (.cons (a := b) .head (intlp_of hI) .refl))
    exact (this.perm perm3).tailOf.tailOf.tailOf
end
end
section
open PySem PySem.Calls PyProof.Rows PySem.W PySem.W.X
open Sem (wp)
noncomputable def IsV (v : Value) : Option Int → Prop
  | none => v = .none
  | some n => ∃ t, v = .int n t
noncomputable def DI (prog : Program) (w : World) (ks : List Int) (f : Int → Option Int) (o : Obj) : Prop := ∃ kvs, DicP prog w kvs o ∧ kvs.map (·.1) = ks ∧ ∀ k v, (k, v) ∈ kvs → IsV v (f k)
noncomputable def DIE (prog : Program) (w : World) (ks : List Int) (f : Int → Option Int) (ep : Nat) (o : Obj) : Prop := ∃ kvs, DicE prog w kvs ep o ∧ kvs.map (·.1) = ks ∧ ∀ k v, (k, v) ∈ kvs → IsV v (f k)
noncomputable def upf (f : Int → Option Int) (k : Int) (v : Option Int) : Int → Option Int := fun x => if x = k then v else f x
noncomputable def addk (ks : List Int) (k : Int) : List Int := if k ∈ ks then ks else ks ++ [k]
section
variable {prog : Program} {w : World} {A : Around} {E : Value → Shared → Prop} {c : Cfg} {S S' F : List Ent} {s : Shared} {env : Env} {a : Addr} {ks : List Int} {f : Int → Option Int} {k : Int} {t : Tok} {v : Value} {ep : Nat}
theorem mem_of_valueAt {kvs : List (Int × Value)} {k : Int} {v : Value} (h : valueAt kvs k = some v) : (k, v) ∈ kvs := by
  unfold valueAt at h
  obtain ⟨p, hp, e⟩ := Option.map_eq_some_iff.mp h
  have h1 := List.mem_of_find?_eq_some hp
  have h2 := List.find?_some hp
  obtain ⟨a, b⟩ := p
  have : a = k := by simpa using h2
  subst this; subst e; exact h1
theorem valueAt_of_key {kvs : List (Int × Value)} {k : Int} (h : k ∈ kvs.map (·.1)) : ∃ v, valueAt kvs k = some v := by
  have := isSome_valueAt (kvs := kvs) (k := k)
  rw [decide_eq_true h] at this
  exact Option.isSome_iff_exists.mp this
theorem mem_stored {kvs : List (Int × Value)} {k x : Int} {v y : Value} (hn : (kvs.map (·.1)).Nodup) (h : (x, y) ∈ stored kvs k v) : (x = k ∧ y = v) ∨ (x ≠ k ∧ (x, y) ∈ kvs) := by
  unfold stored at h
  split at h
  · obtain ⟨p, hp, e⟩ := List.mem_map.mp h
    split at e
    · rename_i q; cases e; exact .inl ⟨q, rfl⟩
    · rename_i q; subst e; exact .inr ⟨q, hp⟩
  · rename_i q
    rcases List.mem_append.mp h with h | h
    · refine .inr ⟨fun e => q ?_, h⟩
      rw [List.any_eq_true]
      exact ⟨_, h, by simp [e]⟩
    · simp only [List.mem_singleton] at h
      cases h; exact .inl ⟨rfl, rfl⟩
theorem di_stored {kvs : List (Int × Value)} {ov : Option Int} (hn : (kvs.map (·.1)).Nodup) (h : ∀ k v, (k, v) ∈ kvs → IsV v (f k)) (hv : IsV v ov) : ∀ x y, (x, y) ∈ stored kvs k v → IsV y (upf f k ov x) := by
  intro x y hm
  unfold upf
  rcases mem_stored hn hm with ⟨rfl, rfl⟩ | ⟨h1, h2⟩
  · rw [if_pos rfl]; exact hv
  · rw [if_neg h1]; exact h x y h2
theorem di_nodup (h : St c S s) (hm : (a, DI prog w ks f) ∈ S) : ks.Nodup := by
  obtain ⟨o, ho, kvs, ⟨ep, es, hd⟩, rfl, hv⟩ := h.get hm
  exact hd.2.2.2.2
theorem di_dic (h : St c S s) (hm : (a, DI prog w ks f) ∈ S) : ∃ kvs, kvs.map (·.1) = ks ∧ (∀ k v, (k, v) ∈ kvs → IsV v (f k)) ∧ s.heap.DictOf (intKind prog w) a kvs := by
  obtain ⟨o, ho, kvs, ⟨ep, es, hd⟩, e, hv⟩ := h.get hm
  exact ⟨kvs, e, hv, o, es, ep, ho, hd⟩
theorem di_get {Q : Value → Shared → Prop} (h : St c S s) (hm : (a, DI prog w ks f) ∈ S) (hk : k ∈ ks) (hq : ∀ v s', IsV v (f k) → St c S s' → Q v s') : wpAny (model prog w) A (getItem (.ref a) (.int k t)) Q E s := by
  obtain ⟨kvs, rfl, hv, hd⟩ := di_dic h hm
  obtain ⟨v, hval⟩ := valueAt_of_key hk
  exact wpAny_getItem_of (intKind_is prog w k t) hd.mapOf hval (hq _ _ (hv _ _ (mem_of_valueAt hval)) (h.tok _))
theorem di_type (h : St c S s) (hm : (a, DI prog w ks f) ∈ S) : s.TypeIs (.ref a) "dict" := by
  obtain ⟨kvs, _, _, hd⟩ := di_dic h hm
  exact hd.typeIs
theorem di_sub {value slice : Expr} {Q : Value → Shared → Prop} (h : St c S s) (hm : (a, DI prog w ks f) ∈ S) (hk : k ∈ ks)
    (hs : subscripted slice false (.ref a) (.int k t) = operate [.ref a, .int k t] (getItem (.ref a) (.int k t))) (hq : ∀ v s', IsV v (f k) → St c S s' → Q v s') : wpAny (model prog w) A (subscriptTail value slice (.ref a) (.int k t)) Q E s :=
  sub_tail (di_type h hm) slot_dict_getitem.lookup hs (di_get h hm hk hq)
theorem di_mk {h' : Heap} {kvs : List (Int × Value)} {ov : Option Int} (hn : (kvs.map (·.1)).Nodup) (h : ∀ k v, (k, v) ∈ kvs → IsV v (f k)) (hv : IsV v ov) (hd : h'.DictOf (intKind prog w) a (stored kvs k v)) : ∃ o, h'.get? a = some o ∧ DI prog w (addk (kvs.map (·.1)) k) (upf f k ov) o := by
  obtain ⟨o, ho, hp⟩ := dicP_of hd
  exact ⟨o, ho, _, hp, keys_stored, di_stored hn h hv⟩
theorem di_set {Q : Unit → Shared → Prop} {ov : Option Int} (h : St c S s) (hm : (a, DI prog w ks f) ∈ S) (hv : IsV v ov) (hz : ks.length ≤ 900) (u : Upd S a (DI prog w (addk ks k) (upf f k ov)) S') (hq : ∀ s', St c S' s' → Q () s') : wpAny (model prog w) A (setItem (.ref a) (.int k t) v) Q E s := by
  have hn := di_nodup h hm
  obtain ⟨kvs, rfl, hvs, hd⟩ := di_dic h hm
  have hl : (1000 : Nat) ≤ sizeLine := by decide
  rw [List.length_map] at hz
  refine wpAny_setItem_pairs (intKind_is prog w k t) hd (fun h' hd' hs => hq _ ?_) (by lia)
  exact h.set u hs (di_mk hn hvs hv hd')
theorem di_put {Q : Unit → Shared → Prop} {ov : Option Int} (h : St c S s) (hm : (a, DI prog w ks f) ∈ S) (hv : IsV v ov) (hz : ks.length ≤ 900) (u : Upd S a (DI prog w (addk ks k) (upf f k ov)) S') (hq : ∀ s', St c S' s' → Q () s') : wpAny (model prog w) A (dictSet a (.int k t) v) Q E s := by
  have hn := di_nodup h hm
  obtain ⟨kvs, rfl, hvs, hd⟩ := di_dic h hm
  have hl : (1000 : Nat) ≤ sizeLine := by decide
  rw [List.length_map] at hz
  refine wpAny_dictSet_pairs (hsz := by lia) (intKind_is prog w k t) hd fun h' hd' hs => hq _ ?_
  exact h.set u hs (di_mk hn hvs hv hd')
theorem di_in {Q : Value → Shared → Prop} (h : St c S s) (hm : (a, DI prog w ks f) ∈ S) (hq : ∀ s', St c S s' → Q (.bool (decide (k ∈ ks))) s') : wpAny (model prog w) A (compareOp .In (.int k t) (.ref a)) Q E s := by
  obtain ⟨kvs, rfl, hvs, hd⟩ := di_dic h hm
  refine wpAny_in_of (intKind_is prog w k t) (own_ne h hm) hd.mapOf ?_
  rw [isSome_valueAt]; exact hq _ (h.tok _)
theorem di_notin {Q : Value → Shared → Prop} (h : St c S s) (hm : (a, DI prog w ks f) ∈ S) (hq : ∀ s', St c S s' → Q (.bool (!decide (k ∈ ks))) s') : wpAny (model prog w) A (compareOp .NotIn (.int k t) (.ref a)) Q E s := by
  obtain ⟨kvs, rfl, hvs, hd⟩ := di_dic h hm
  refine wpAny_notIn_of (intKind_is prog w k t) (own_ne h hm) hd.mapOf ?_
  rw [isSome_valueAt]; exact hq _ (h.tok _)
theorem di_del {Q : Unit → Shared → Prop} (h : St c S s) (hm : (a, DI prog w ks f) ∈ S) (hk : k ∈ ks) (hz : ks.length ≤ 900) (u : Upd S a (DI prog w (ks.filter fun x => decide (x ≠ k)) f) S') (hq : ∀ s', St c S' s' → Q () s') : wpAny (model prog w) A (delItem (.ref a) (.int k t)) Q E s := by
  have hn := di_nodup h hm
  obtain ⟨kvs, rfl, hvs, hD⟩ := di_dic h hm
  have hl : (1000 : Nat) ≤ sizeLine := by decide
  rw [List.length_map] at hz
  unfold delItem
  try with_reducible refine wpAny_holding ?_
  refine wpAny_bind (wpAny_sequenceKey hD.typeIs (by decide) ?_)
  refine wpAny_bind (wpAny_callSpecial?_slot (name := Str.ofString "__delitem__") hD.typeIs PySem.F.slot_dict_delitem
    (call_meetsIn PySem.F.slot_dict_delitem hD.typeIs PySem.F.entry_dict_delitem (PySem.F.args_dict_delitem_2 _ _) (meets_dict_delitem_pairs (intKind prog w) a (intKind_is prog w k t)) ⟨kvs, hD, (by lia), by rw [isSome_valueAt]; exact decide_eq_true hk, fun h' hmm hs => ?_⟩))
  refine wpAny_pure (hq _ (h.set u hs ?_))
  obtain ⟨o, ho, hp⟩ := dicP_of hmm
  refine ⟨o, ho, _, hp, ?_, fun x y hx => hvs x y (List.mem_filter.mp hx).1⟩
  unfold without
  rw [List.filter_map]; rfl
theorem di_nil : ∀ o, DicP prog w [] o → DI prog w [] f o := fun _ h => ⟨[], h, rfl, fun _ _ q => nomatch q⟩
theorem di_len {Q : Value → Shared → Prop} (h : St c S s) (hm : (a, DI prog w ks f) ∈ S) (hz : ks.length ≤ 900) (hq : ∀ t s', St c S s' → Q (.int ks.length t) s') : wpAny (model prog w) A (call (.builtin "len") [.ref a]) Q E s := by
  obtain ⟨kvs, rfl, hvs, hd⟩ := di_dic h hm
  rw [List.length_map] at hz hq
  exact call_len_dict (own_ne h hm) hd (by lia) (hq _ _ (h.tok _))
theorem die_open (h : St c S s) (hm : (a, DI prog w ks f) ∈ S) : ∃ ep, ∀ S', Upd S a (DIE prog w ks f ep) S' → St c S' s := by
  obtain ⟨o, ho, kvs, ⟨ep, hd⟩, e, hv⟩ := h.get hm
  exact ⟨ep, fun S' u => h.set (t := s.toks) u (Heap.SameBut.refl ..) ⟨o, ho, kvs, hd, e, hv⟩⟩
theorem die_at (h : St c S s) (hm : (a, DIE prog w ks f ep) ∈ S) : ∃ kvs, kvs.map (·.1) = ks ∧ (∀ k v, (k, v) ∈ kvs → IsV v (f k)) ∧ s.heap.DictAt (intKind prog w) a kvs ep := by
  obtain ⟨o, ho, kvs, ⟨es, hd⟩, e, hv⟩ := h.get hm
  exact ⟨kvs, e, hv, o, es, ho, hd⟩
theorem die_iter {Q : Value → Shared → Prop} (h : St c S s) (hm : (a, DIE prog w ks f ep) ∈ S) (hq : ∀ it s', St c ((it, KItP a 0 ks.length ep) :: S) s' → Q (.ref it) s') : wpAny (model prog w) A (pyIter (.ref a)) Q E s := by
  obtain ⟨kvs, rfl, hv, hd⟩ := die_at h hm
  refine wpAny_pyIter_dict (own_ne h hm) hd (hq _ _ (h.push (t := s.toks) _ rfl ⟨rfl, ?_⟩))
  rw [List.length_map]; rfl
theorem die_next {d : Addr} {i : Nat} {Q : Option Value → Shared → Prop} (h : St c S s) (hit : (a, KItP d i ks.length ep) ∈ S) (hm : (d, DIE prog w ks f ep) ∈ S) (hx : ks[i]? = some k) (u : Upd S a (KItP d (i + 1) ks.length ep) S')
    (hq : ∀ t s', St c S' s' → Q (some (.int k t)) s') : wpAny (model prog w) A (pyNext (.ref a)) Q E s := by
  obtain ⟨o, ho, r⟩ := h.get hit
  obtain ⟨kvs, rfl, hv, hd⟩ := die_at h hm
  rw [List.getElem?_map] at hx
  obtain ⟨⟨k', v'⟩, hx', rfl⟩ := Option.map_eq_some_iff.mp hx
  rw [List.length_map] at r u
  refine wpAny_pyNext_dict_item ⟨o, ho, r⟩ hd hx' fun key h' hk hi hs => ?_
  obtain ⟨t, rfl⟩ := Value.isInt_shape hk
  exact hq _ _ (h.set (t := s.toks) u hs hi)
theorem die_end {d : Addr} {i : Nat} {Q : Option Value → Shared → Prop} (hh : A.handled = none) (h : St c S s) (tk : Take S (a, KItP d i ks.length ep) S') (hm : (d, DIE prog w ks f ep) ∈ S) (hx : ks[i]? = none) (hq : ∀ s', St c S' s' → Q none s') : wpAny (model prog w) A (pyNext (.ref a)) Q E s := by
  obtain ⟨o, ho, r⟩ := h.get tk.mem.1
  obtain ⟨kvs, rfl, hv, hd⟩ := die_at h hm
  rw [List.length_map] at r
  rw [List.getElem?_map, Option.map_eq_none_iff] at hx
  exact wpAny_pyNext_dict_end hh ⟨o, ho, r⟩ hd hx fun h' hs => hq _ (h.ext (tk := s.toks) tk hs)

noncomputable def EnuP (it : Addr) (i : Nat) (o : Obj) : Prop := ∃ old, o = { cls := .type "enumerate", dict := none, data := .fields #[.none, .bool false, .ref it, rawInt i, .none, old], slots := #[] }
noncomputable def EnuO (it : Addr) (i : Nat) (t : Addr) (o : Obj) : Prop := ∃ item, o = { cls := .type "enumerate", dict := none, data := .fields #[rawInt t, .bool false, .ref it, rawInt i, .none, item], slots := #[] }
theorem St.set2 {P P' : Obj → Prop} {b : Addr} {S'' : List Ent} (h : St c S s) (u : Upd S a P S') (u' : Upd S' b P' S'') (hne : a ≠ b) {h' : Heap} {t : Nat} (hs : ∀ x o, x ≠ a → x ≠ b → s.heap.get? x = some o → h'.get? x = some o) (ha : ∃ o, h'.get? a = some o ∧ P o) (hb : ∃ o, h'.get? b = some o ∧ P' o) :
    St c S'' { s with heap := h', toks := t } := by
  have k1 : a ∈ S.map (·.1) := u.key
  have k2 : b ∈ S.map (·.1) := by rw [← u.keys]; exact u'.key
  have za : c.Z a = none := by obtain ⟨p, hp, rfl⟩ := List.mem_map.mp k1; exact (h.own p hp).1
  have zb : c.Z b = none := by obtain ⟨p, hp, rfl⟩ := List.mem_map.mp k2; exact (h.own p hp).1
  refine ⟨fun x o e => hs x o (fun q => ?_) (fun q => ?_) (h.keep x o e), fun p hp => ?_, by rw [u'.keys, u.keys]; exact h.nd, fun p hp => ?_, h.gens, h.drawn, h.os⟩
  · rw [q, za] at e; cases e
  · rw [q, zb] at e; cases e
  · rcases u'.cases (by rw [u.keys]; exact h.nd) p hp with rfl | ⟨hp, hne'⟩
    · exact ⟨zb, hb⟩
    · rcases u.cases h.nd p hp with rfl | ⟨hp, hne''⟩
      · exact ⟨za, ha⟩
      · obtain ⟨z, o, e, q⟩ := h.own p hp
        exact ⟨z, o, hs _ _ hne'' hne' e, q⟩
  · have : p.1 ∈ S''.map (·.1) := List.mem_map_of_mem hp
    rw [u'.keys, u.keys] at this
    obtain ⟨q, hq, e⟩ := List.mem_map.mp this
    exact e ▸ h.one q hq
theorem call_enum {l : Addr} {items : Array Value} {Q : Value → Shared → Prop} (h : St c S s) (hl : s.heap.IsList l items) (hq : ∀ e it s', St c ((e, EnuP it 0) :: (it, LItP l 0) :: S) s' → Q (.ref e) s') : wpAny (model prog w) A (call (.type "enumerate") [.ref l]) Q E s := by
  refine call_enumerate_list hl fun h' he hi hsz hk => hq _ s.heap.objs.size _ ?_
  obtain ⟨oi, hoi, hci, hdi⟩ := hi
  have h1 := h.append (T := [(s.heap.objs.size + 1, EnuP s.heap.objs.size 0), (s.heap.objs.size, LItP l 0)]) (t := s.toks) hk (fun p hp => ?_) ?_
  · exact h1
  · simp only [List.mem_cons, List.not_mem_nil, or_false] at hp
    rcases hp with rfl | rfl
    · exact ⟨Nat.le_succ _, _, he, _, rfl⟩
    · exact ⟨Nat.le_refl _, oi, hoi, hci, hdi⟩
  · simp only [List.map_cons, List.map_nil, List.nodup_cons, List.mem_singleton, List.not_mem_nil, not_false_eq_true, List.nodup_nil, and_true]
    exact Nat.succ_ne_self _
theorem enum_self {it : Addr} {i : Nat} {Q : Value → Shared → Prop} (h : St c S s) (hm : (a, EnuP it i) ∈ S) (hq : Q (.ref a) s) : wpAny (model prog w) A (pyIter (.ref a)) Q E s := by
  obtain ⟨o, ho, old, rfl⟩ := h.get hm
  exact wpAny_pyIter_enum ho hq
theorem enum_next {it l : Addr} {i : Nat} {items : Array Value} {x : Value} {Q : Option Value → Shared → Prop} (h : St c ((a, EnuP it i) :: (it, LItP l i) :: S) s) (hl : s.heap.IsList l items) (hx : items[i]? = some x)
    (hq : ∀ t tk s', St c ((t, TupE [.int i tk, x]) :: (a, EnuO it (i + 1) t) :: (it, LItP l (i + 1)) :: S) s' → Q (some (.ref t)) s') : wpAny (model prog w) A (pyNext (.ref a)) Q E s := by
  obtain ⟨o, ho, old, rfl⟩ := h.get (.head _)
  obtain ⟨o2, ho2, hc2, hd2⟩ := h.get (.tail _ (.head _))
  have hne : a ≠ it := by
    have := h.nd
    simp only [List.map_cons, List.nodup_cons, List.mem_cons, not_or] at this
    exact this.1.1
  refine wpAny_pyNext_enum_item ho ⟨o2, ho2, hc2, hd2⟩ hl hx hne fun h' he hit ht hsz hk => hq _ s.toks _ ?_
  obtain ⟨o3, ho3, hc3, hd3⟩ := hit
  have hsz' : ∀ b o, s.heap.get? b = some o → b < s.heap.objs.size := fun b o e => Heap.lt_size e
  have z := get_size (h := s.heap)
  have hb : ∀ p ∈ (a, EnuP it i) :: (it, LItP l i) :: S, p.1 ≠ s.heap.objs.size := fun p hp e => by
    obtain ⟨_, o, q, _⟩ := h.own p hp
    rw [e, z] at q; cases q
  have h1 := h.set2 (h' := h') (t := s.toks + 1) (P := EnuO it (i + 1) s.heap.objs.size) (P' := LItP l (i + 1)) .head (.tail .head) hne hk ⟨_, he, x, by rfl⟩ ⟨o3, ho3, hc3, hd3⟩
  refine ⟨h1.keep, fun p hp => ?_, ?_, fun p hp => ?_, h1.gens, h1.drawn, h1.os⟩
  · rcases List.mem_cons.mp hp with rfl | hp
    · refine ⟨?_, _, ht, rfl⟩
      cases q : c.Z s.heap.objs.size with
      | none => rfl
      | some o => rw [h.keep _ o q] at z; cases z
    · exact h1.own p hp
  · rw [List.map_cons, List.nodup_cons]
    refine ⟨fun hm => ?_, h1.nd⟩
    have hm' : s.heap.objs.size ∈ ((a, EnuP it i) :: (it, LItP l i) :: S).map (·.1) := hm
    obtain ⟨p, hp, e⟩ := List.mem_map.mp hm'
    exact hb p hp e
  · rcases List.mem_cons.mp hp with rfl | hp
    · intro e
      have e : s.heap.objs.size = 1 := e
      exact absurd h.size (by lia)
    · exact h1.one p hp
theorem enum_let {it : Addr} {i : Nat} {t : Addr} {elts : List Expr} {x1 : Nat} {pos : Pos} {Q : Unit → Shared → Prop} (h : St c S s) (hm : (a, EnuO it i t) ∈ S) (u : Upd S a (EnuP it i) S') (hq : ∀ s', St c S' s' → Q () s') :
    wpAny (model prog w) A (letOwnedTupleGo (.Tuple elts x1 pos) (.ref a) (.ref t)) Q E s := by
  obtain ⟨o, ho, item, rfl⟩ := h.get hm
  exact wpAny_letOwnedTupleGo_enum ho fun h' he hs => hq _ (h.set (t := s.toks) u hs ⟨_, he, item, rfl⟩)
theorem enum_end {it l : Addr} {i : Nat} {items : Array Value} {Q : Option Value → Shared → Prop} (hh : A.handled = none) (h : St c ((a, EnuP it i) :: (it, LItP l i) :: S) s) (hl : s.heap.IsList l items) (hx : items[i]? = none)
    (hq : ∀ s', St c S s' → Q none s') : wpAny (model prog w) A (pyNext (.ref a)) Q E s := by
  obtain ⟨o, ho, old, rfl⟩ := h.get (.head _)
  obtain ⟨o2, ho2, hc2, hd2⟩ := h.get (.tail _ (.head _))
  exact wpAny_pyNext_enum_end hh ho ⟨o2, ho2, hc2, hd2⟩ hl hx fun h' hx' => hq _ (h.tailOf.ext (tk := s.toks) .head hx')

noncomputable def FnP (fd : FuncData) (o : Obj) : Prop := o.data = .func fd
noncomputable def CodeP (q : Str) (o : Obj) : Prop := ∃ vs t, o.data = .fields vs ∧ vs[1]? = some (.str q t)
theorem enterF {R : Result → Shared → Prop} {fd : FuncData} {body : List Stmt} {args : Args} {binds : List (Str × Value)} {l : List (Str × Option Value)} {ns : List Str} {n : Nat} {kc : Addr}
    (h : St c S s) (hB : Base c.Z) (hA : Room A (n + 1)) (hf : (a, FnP fd) ∈ S) (hc : (kc, CodeP fd.qualname) ∈ S) (hcd : fd.code = .ref kc)
    (hbody : fd.body = .stmts body) (hbind : BindsTo s fd args binds) (hcell : (fd.scope.names.all fun x => x.2 != .cell) = true) (hloc : (binds.all fun x => fd.scope.names.lookup x.1 == some .local) = true)
    (hns : l.map (·.1) = ns) (hok : namesOk fd.scope ns = true) (hl : l.map (·.2) = ns.map (fun x => binds.reverse.lookup x))
    (k : ∀ env s', (∃ L, env = callEnv fd L a) → Room (A.deeper env) n → St c ((env.locals, FrP env l) :: S) s' →
      wpAny (model prog w) (A.deeper env) (execs body env) (fun f s' => R (.ok (.ret (match f with | .ret v => v | _ => .none))) s')
        (fun e s' => wpAny (model prog w) (A.deeper env) (leaving env e) (fun _ s'' => R (.error e) s'') (fun e' s'' => R (.error e') s'') s') s')
    (hco : fd.scope.isCoroutine = false) (hgen : fd.scope.isGenerator = false) (hk : fd.scope.kind = .function) :
    codeAny (model prog w) A (.call (.ref a) args) R s := by
  obtain ⟨o, ho, hdata⟩ := h.get hf
  obtain ⟨oc, hoc, vs, t, hd, hv⟩ := h.get hc
  refine codeAny_call_def hA.deep ho hdata (h.nolim hB) ⟨kc, oc, vs, t, hcd, hoc, hd, hv⟩ hbody hbind (fun x hx => ?_) (fun x hx => ?_) (fun h₀ hn hk₀ => ?_) hco hgen hk
  · simpa using List.all_eq_true.mp hcell x hx
  · simpa using List.all_eq_true.mp hloc x hx
  · refine k _ _ ⟨_, rfl⟩ (hA.deeper _) (h.new hk₀ (Nat.le_refl _) ?_)
    refine frp_new (env := callEnv fd s.heap.objs.size a) hn hns hok fun p hp => ?_
    have e : ∀ (l : List (Str × Option Value)) (f : Str → Option Value), l.map (·.2) = (l.map (·.1)).map f → ∀ p ∈ l, f p.1 = p.2 := by
      intro l f
      induction l with
      | nil => intro _ p hp; cases hp
      | cons q l ih =>
        intro e p hp
        simp only [List.map_cons, List.cons.injEq] at e
        rcases List.mem_cons.mp hp with rfl | hp
        · exact e.1.symm
        · exact ih e.2 p hp
    exact e l _ (by rw [hns]; exact hl) p hp
end
end
section
inductive Anc (f : Int → Option Int) : Int → Int → Prop
  | refl {x : Int} : Anc f x x
  | step {x y z : Int} : f x = some y → Anc f y z → Anc f x z
noncomputable def IsNCA (f : Int → Option Int) (u v r : Int) : Prop := Anc f u r ∧ Anc f v r ∧ ∀ z, Anc f u z → Anc f v z → Anc f r z
theorem Anc.trans {f : Int → Option Int} {x y z : Int} (h : Anc f x y) (h' : Anc f y z) : Anc f x z := by
  induction h with
  | refl => exact h'
  | step e _ ih => exact .step e (ih h')
theorem Anc.up {f : Int → Option Int} {x y z : Int} (h : Anc f x z) (e : f x = some y) (hne : z ≠ x) : Anc f y z := by
  cases h with
  | refl => exact absurd rfl hne
  | step e' h' => rw [e] at e'; cases e'; exact h'
theorem Anc.top {f : Int → Option Int} {x z : Int} (h : Anc f x z) (e : f x = none) : z = x := by
  cases h with
  | refl => rfl
  | step e' h' => rw [e] at e'; cases e'
structure Tree (st : Int) (K : List Int) (d : Int → Int) (f : Int → Option Int) : Prop where
  mem : st ∈ K
  top : f st = none
  up : ∀ x ∈ K, x ≠ st → ∃ y ∈ K, f x = some y ∧ d x < d y
  inj : ∀ x ∈ K, ∀ y ∈ K, d x = d y → x = y
  le : ∀ x ∈ K, d x ≤ d st
theorem Tree.anc {st : Int} {K : List Int} {d : Int → Int} {f : Int → Option Int} (T : Tree st K d f) {x y : Int} (h : Anc f x y) (hx : x ∈ K) : y ∈ K ∧ d x ≤ d y := by
  induction h with
  | refl => exact ⟨hx, Int.le_refl _⟩
  | @step x y z e _ ih =>
    by_cases q : x = st
    · subst q; rw [T.top] at e; cases e
    · obtain ⟨y', hy, e', hd⟩ := T.up x hx q
      rw [e] at e'; cases e'
      obtain ⟨h1, h2⟩ := ih hy
      exact ⟨h1, by lia⟩
structure Fing (st : Int) (K : List Int) (d : Int → Int) (f : Int → Option Int) (u0 v0 u v : Int) : Prop where
  hu : u ∈ K
  hv : v ∈ K
  au : Anc f u0 u
  av : Anc f v0 v
  com : ∀ z, Anc f u0 z → Anc f v0 z → Anc f u z ∧ Anc f v z
noncomputable def msr (st : Int) (d : Int → Int) (u v : Int) : Nat := (d st - d u).toNat + (d st - d v).toNat
section
variable {st : Int} {K : List Int} {d : Int → Int} {f : Int → Option Int} {u0 v0 u v : Int}
theorem Fing.start (hu : u ∈ K) (hv : v ∈ K) : Fing st K d f u v u v := ⟨hu, hv, .refl, .refl, fun _ a b => ⟨a, b⟩⟩
theorem Fing.swap (h : Fing st K d f u0 v0 u v) : Fing st K d f v0 u0 v u := ⟨h.hv, h.hu, h.av, h.au, fun z a b => (h.com z b a).symm⟩
theorem Fing.left (T : Tree st K d f) (h : Fing st K d f u0 v0 u v) (hlt : d u < d v) : ∃ y, f u = some y ∧ Fing st K d f u0 v0 y v ∧ msr st d y v < msr st d u v := by
  have hne : u ≠ st := fun q => by have := T.le v h.hv; rw [q] at hlt; lia
  obtain ⟨y, hy, e, hd⟩ := T.up u h.hu hne
  refine ⟨y, e, ⟨hy, h.hv, h.au.trans (.step e .refl), h.av, fun z a b => ?_⟩, ?_⟩
  · obtain ⟨h1, h2⟩ := h.com z a b
    have := (T.anc h2 h.hv).2
    exact ⟨h1.up e fun q => by subst q; lia, h2⟩
  · have h1 := T.le y hy
    have h2 := T.le v h.hv
    unfold msr; lia
theorem Fing.right (T : Tree st K d f) (h : Fing st K d f u0 v0 u v) (hlt : d v < d u) : ∃ y, f v = some y ∧ Fing st K d f u0 v0 u y ∧ msr st d u y < msr st d u v := by
  obtain ⟨y, e, h', hm⟩ := h.swap.left T hlt
  refine ⟨y, e, h'.swap, ?_⟩
  unfold msr at hm ⊢; lia
theorem Fing.done (h : Fing st K d f u0 v0 u u) : IsNCA f u0 v0 u := ⟨h.au, h.av, fun z a b => (h.com z a b).1⟩
end
end
section
open PySem PySem.Calls PyProof.Rows PySem.W PySem.W.X
open Sem (wp)
noncomputable def dBody : Stmt → List Stmt
  | .FunctionDef _ _ b _ _ _ _ _ _ _ => b
  | _ => []
noncomputable def dArgs : Stmt → Arguments
  | .FunctionDef _ a _ _ _ _ _ _ _ _ => a
  | _ => ⟨[], [], none, [], [], none, []⟩
noncomputable def dScope : Stmt → Scope
  | .FunctionDef _ _ _ _ _ _ s _ _ _ => s
  | _ => { kind := .function, names := [], isGenerator := false, isCoroutine := false }
noncomputable def dPos : Stmt → Pos
  | .FunctionDef _ _ _ _ _ _ _ _ _ p => p
  | _ => ⟨0, 0, 0, 0⟩
noncomputable abbrev iDef (P : Params) : Stmt := stmtAt (fnBody P 87) 6
noncomputable abbrev iQ : Str := "immediate_dominators.<locals>.intersect"
noncomputable def iFd (P : Params) (k cD cI : Addr) (ct pm : Value) : FuncData :=
  { name := "intersect", qualname := iQ, params := dArgs (iDef P), body := .stmts (dBody (iDef P)), scope := dScope (iDef P), globals := mainGlobals, closure := [("idom", cI), ("dfn", cD)], closureTuple := ct,
    code := .ref k, builtins := builtinsNs, defaults := .none, kwdefaults := .none, pyModule := pm }
section
variable {prog : Program} {w : World} {A : Around} {E : Value → Shared → Prop} {c : Cfg} {S S' F : List Ent} {s : Shared} {a : Addr}
theorem i_bind0 (P : Params) (k cD cI : Addr) (ct pm u v : Value) : bindArgs (iFd P k cD cI ct pm) ⟨[u, v], []⟩ = (pure ([("u", u), ("v", v)] : List (Str × Value)) : Sem _) := by kernel_rfl
structure IB (s : Shared) (fd : FuncData) (args : Args) (binds : List (Str × Value)) : Prop where
  b : BindsTo s fd args binds
theorem i_bind (P : Params) (k cD cI : Addr) (ct pm u v : Value) : IB s (iFd P k cD cI ct pm) ⟨[u, v], []⟩ [("u", u), ("v", v)] := by
  constructor
  intro M A E Q hq
  rw [i_bind0]
  exact wpAny_pure hq
theorem i_sc (P : Params) (k cD cI : Addr) (ct pm : Value) : (iFd P k cD cI ct pm).scope = { kind := .function, names := [("u", .local), ("v", .local), ("dfn", .free), ("idom", .free)], isGenerator := false, isCoroutine := false } := by kernel_rfl
theorem i_body (P : Params) (k cD cI : Addr) (ct pm : Value) : (iFd P k cD cI ct pm).body = .stmts (dBody (iDef P)) := rfl
theorem isect_spec {R : Result → Shared → Prop} {fa k cD cI D I : Addr} {ct pm : Value} {ks ds : List Int} {f d' : Int → Option Int} {d : Int → Int} {st u0 v0 : Int} {tu0 tv0 : Tok}
    (h : St c ((fa, FnP (iFd w.params k cD cI ct pm)) :: (k, CodeP iQ) :: (cD, CellP (some (.ref D))) :: (cI, CellP (some (.ref I))) :: (D, DI prog w ds d') :: (I, DI prog w ks f) :: F) s) (hB : KZ w c.Z) (hA : Room A 6)
    (T : Tree st ks d f) (hds : ∀ x ∈ ks, x ∈ ds) (hd : ∀ x ∈ ks, d' x = some (d x)) (hu : u0 ∈ ks) (hv : v0 ∈ ks)
    (hR : ∀ r t s', IsNCA f u0 v0 r → r ∈ ks → St c ((fa, FnP (iFd w.params k cD cI ct pm)) :: (k, CodeP iQ) :: (cD, CellP (some (.ref D))) :: (cI, CellP (some (.ref I))) :: (D, DI prog w ds d') :: (I, DI prog w ks f) :: F) s' → R (.ok (.ret (.int r t))) s') :
    codeAny (model prog w) A (.call (.ref fa) ⟨[.int u0 tu0, .int v0 tv0], []⟩) R s := by
  obtain ⟨hb⟩ := i_bind (s := s) w.params k cD cI ct pm (.int u0 tu0) (.int v0 tv0)
  have esc := i_sc w.params k cD cI ct pm
  have ebo := i_body w.params k cD cI ct pm
  have ecl : (iFd w.params k cD cI ct pm).closure = ([("idom", cI), ("dfn", cD)] : List (Str × Addr)) := rfl
  have eq1 : (iFd w.params k cD cI ct pm).qualname = iQ := rfl
  have ecd : (iFd w.params k cD cI ct pm).code = .ref k := rfl
  revert h hR hb esc ebo ecl eq1 ecd
  generalize iFd w.params k cD cI ct pm = fd
  intro h hR hb esc ebo ecl eq1 ecd
  refine enterF (l := [("u", some (.int u0 tu0)), ("v", some (.int v0 tv0))]) (ns := ["u", "v"]) (binds := [("u", .int u0 tu0), ("v", .int v0 tv0)]) (n := 5) h hB.toBase hA (fd := fd) (by lk) (kc := k) (by rw [eq1]; lk) ecd (body := dBody (iDef w.params)) ebo hb (by rw [esc]; rfl) (by rw [esc]; rfl) rfl (by rw [esc]; rfl) (by rfl) ?_ (by rw [esc]) (by rw [esc]) (by rw [esc])
  rintro env s₁ ⟨L, hE⟩ hA₁ h₁
  have hcs : env.cells = ([("idom", cI), ("dfn", cD)] : List (Str × Addr)) := by rw [hE]; exact ecl
  have hsc : env.scope = { kind := .function, names := [("u", .local), ("v", .local), ("dfn", .free), ("idom", .free)], isGenerator := false, isCoroutine := false } := by rw [hE]; exact esc
  have hk : env.scope.kind = .function := by rw [hsc]
  have hI : Cel env "idom" cI := .of hcs hk (.inr (by unfold Env.kindOf; rw [hsc]; rfl)) rfl (by decide)
  have hD : Cel env "dfn" cD := .of hcs hk (.inr (by unfold Env.kindOf; rw [hsc]; rfl)) rfl (by decide)
  clear h hE hcs hsc
  show wpAny _ _ (execs [_, _] env) _ _ _
  kd_p; kd_p
  refine while_loop (fun n s => ∃ u v tu tv, Fing st ks d f u0 v0 u v ∧ msr st d u v = n ∧ St c ((env.locals, FrP env [("u", some (.int u tu)), ("v", some (.int v tv))]) :: (fa, FnP fd) :: (k, CodeP iQ) :: (cD, CellP (some (.ref D))) :: (cI, CellP (some (.ref I))) :: (D, DI prog w ds d') :: (I, DI prog w ks f) :: F) s) ?_ _ ⟨u0, v0, tu0, tv0, .start hu hv, rfl, h₁⟩
  rintro E' n s hE1
  refine ex4 hE1 fun u v tu tv hE2 => ?_
  clear hE1
  refine an3 hE2 fun hF hn h₂ => ?_
  clear hE2
  intro Kq
  kd_p
  refine ld h₂ (by lk) ?_
  refine ld h₂ (by lk) ?_
  k_in
  kd_p
  (with_reducible first | refine ite_dec (fun hif => ?_) (fun hif => ?_) | refine ite_beq (fun hif => ?_) (fun hif => ?_) | refine ite_bne (fun hif => ?_) (fun hif => ?_))
  · kd_p; kd_p
    refine while_loop (fun m s => ∃ u v tu tv, Fing st ks d f u0 v0 u v ∧ msr st d u v = m ∧ m ≤ n ∧ (m < n ∨ d u ≠ d v) ∧ St c ((env.locals, FrP env [("u", some (.int u tu)), ("v", some (.int v tv))]) :: (fa, FnP fd) :: (k, CodeP iQ) :: (cD, CellP (some (.ref D))) :: (cI, CellP (some (.ref I))) :: (D, DI prog w ds d') :: (I, DI prog w ks f) :: F) s) ?_ _ ⟨u, v, tu, tv, hF, rfl, by lia, .inr fun q => hif (T.inj u hF.hu v hF.hv q), h₂⟩
    clear h₂ hF hif hn u v tu tv
    rintro E'' m s hE1
    refine ex4 hE1 fun u v tu tv hE2 => ?_
    clear hE1
    refine an5 hE2 fun hF hm hle hor h₂ => ?_
    clear hE2
    intro Kq
    kd_p
    kd_p
    refine ldc h₂ hD (by lk) ?_
    refine ld h₂ (by lk) ?_
    refine di_sub h₂ (by lk) (hds _ hF.hu) sc_name fun vu s₃ hvu h₃ => ?_
    rw [hd _ hF.hu] at hvu
    obtain ⟨t1, rfl⟩ := hvu
    kd_p
    refine ldc h₃ hD (by lk) ?_
    refine ld h₃ (by lk) ?_
    refine di_sub h₃ (by lk) (hds _ hF.hv) sc_name fun vv s₄ hvv h₄ => ?_
    rw [hd _ hF.hv] at hvv
    obtain ⟨t2, rfl⟩ := hvv
    k_in
    kd_p
    (with_reducible first | refine ite_dec (fun hif => ?_) (fun hif => ?_) | refine ite_beq (fun hif => ?_) (fun hif => ?_) | refine ite_bne (fun hif => ?_) (fun hif => ?_))
    · obtain ⟨y, ey, hF', hm'⟩ := hF.left T hif
      kd_p; kd_p; kd_p
      refine ldc h₄ hI (by lk) ?_
      refine ld h₄ (by lk) ?_
      refine di_sub h₄ (by lk) hF.hu sc_name fun vy s₅ hvy h₅ => ?_
      rw [ey] at hvy
      obtain ⟨t3, rfl⟩ := hvy
      refine sto h₅ (by room) fun s₆ h₆ => ?_
      kd_p
      exact ⟨_, by lia, y, v, t3, tv, hF', rfl, by lia, .inl (by lia), h₆⟩
    · kd_p
      kd_p; kd_p
      refine while_loop (fun m s => ∃ u v tu tv, Fing st ks d f u0 v0 u v ∧ msr st d u v = m ∧ m ≤ n ∧ (m < n ∨ d v < d u) ∧ St c ((env.locals, FrP env [("u", some (.int u tu)), ("v", some (.int v tv))]) :: (fa, FnP fd) :: (k, CodeP iQ) :: (cD, CellP (some (.ref D))) :: (cI, CellP (some (.ref I))) :: (D, DI prog w ds d') :: (I, DI prog w ks f) :: F) s) ?_ _ ⟨u, v, tu, tv, hF, rfl, by lia, by lia, h₄⟩
      clear h₂ h₃ h₄ hF hif hm hle hor u v tu tv
      rintro E''' m s hE1
      refine ex4 hE1 fun u v tu tv hE2 => ?_
      clear hE1
      refine an5 hE2 fun hF hm hle hor h₂ => ?_
      clear hE2
      intro Kq
      kd_p
      kd_p
      refine ldc h₂ hD (by lk) ?_
      refine ld h₂ (by lk) ?_
      refine di_sub h₂ (by lk) (hds _ hF.hu) sc_name fun vu s₃ hvu h₃ => ?_
      rw [hd _ hF.hu] at hvu
      obtain ⟨t1, rfl⟩ := hvu
      kd_p
      refine ldc h₃ hD (by lk) ?_
      refine ld h₃ (by lk) ?_
      refine di_sub h₃ (by lk) (hds _ hF.hv) sc_name fun vv s₄ hvv h₄ => ?_
      rw [hd _ hF.hv] at hvv
      obtain ⟨t2, rfl⟩ := hvv
      k_in
      kd_p
      (with_reducible first | refine ite_dec (fun hif => ?_) (fun hif => ?_) | refine ite_beq (fun hif => ?_) (fun hif => ?_) | refine ite_bne (fun hif => ?_) (fun hif => ?_))
      · obtain ⟨y, ey, hF', hm'⟩ := hF.right T hif
        kd_p; kd_p; kd_p
        refine ldc h₄ hI (by lk) ?_
        refine ld h₄ (by lk) ?_
        refine di_sub h₄ (by lk) hF.hv sc_name fun vy s₅ hvy h₅ => ?_
        rw [ey] at hvy
        obtain ⟨t3, rfl⟩ := hvy
        refine sto h₅ (by room) fun s₆ h₆ => ?_
        kd_p
        exact ⟨_, by lia, u, y, tu, t3, hF', rfl, by lia, .inl (by lia), h₆⟩
      · kd_p
        kd_p
        exact ⟨_, by lia, u, v, tu, tv, hF, rfl, h₄⟩
  · subst hif
    kd_p
    kd_p; kd_p
    refine ld h₂ (by lk) ?_
    exact hR _ _ _ hF.done hF.hu h₂.tailOf
end
end
section
open PySem PySem.Calls PyProof.Rows PySem.W PySem.W.X
open Sem (wp)
noncomputable def T84 (P : Params) : Option Addr → Array Value → Prop
  | none, ps => codeAmong (dPos (iDef P)) ps.toList = none
  | some k, ps => codeAmong (dPos (iDef P)) ps.toList = some (.ref k)
noncomputable def codeE : Option Addr → List Ent
  | none => []
  | some k => [(k, CodeP iQ)]
theorem iDef_eq (P : Params) : iDef P = .FunctionDef "intersect" (dArgs (iDef P)) (dBody (iDef P)) [] none [] (dScope (iDef P)) none "intersect" (dPos (iDef P)) := by kernel_rfl
theorem iArgs_d (P : Params) : (dArgs (iDef P)).defaults = [] := by kernel_rfl
theorem iArgs_k (P : Params) : (dArgs (iDef P)).kw_defaults = [] := by kernel_rfl
theorem iArgs_o (P : Params) : (dArgs (iDef P)).kwonlyargs = [] := by kernel_rfl
theorem iArgs_a (P : Params) (env : Env) : annTrees (dArgs (iDef P)) none env = [] := by kernel_rfl
theorem i_clos (P : Params) (cD cI : Addr) : clos (([("idom", cI), ("dfn", cD)] : List (Str × Addr)).lookup ·) (dScope (iDef P)).names [] = some ([("idom", cI), ("dfn", cD)] : List (Str × Addr)) := by kernel_rfl
theorem iDoc (P : Params) : docOf (dBody (iDef P)) = none := by kernel_rfl
theorem code86 {w : World} {Z : Addr → Option Obj} (hB : KZ w Z) : CodeZ Z 86 84 :=
  ⟨⟨_, _, _, _, _, _, _, _, _, hB.k 86 _ rfl (by decide) (by decide), rfl, rfl, rfl, rfl, rfl, rfl, rfl, rfl⟩, by decide⟩
theorem among_app {pos : Pos} {v : Value} (l r : List Value) (h : codeAmong pos l = some v) : codeAmong pos (l ++ r) = some v := by
  fun_induction codeAmong pos l with
  | case1 line t col u c rest hc => simpa [codeAmong, hc] using h
  | case2 line t col u c rest hc ih => simpa [codeAmong, hc] using ih h
  | case3 => cases h
section
variable {prog : Program} {w : World} {A : Around} {E : Value → Shared → Prop} {c : Cfg} {S S' S₀ F : List Ent} {s s₀ : Shared} {a : Addr} {env : Env}
theorem St.claim {P : Obj → Prop} (h : St c S s) (h₀ : St c S₀ s₀) (hk : S.map (·.1) = S₀.map (·.1)) (hle : s₀.heap.objs.size ≤ a) (ho : ∃ o, s.heap.get? a = some o ∧ P o) : St c ((a, P) :: S) s := by
  have z := get_ge hle
  refine ⟨h.keep, fun p hp => ?_, ?_, fun p hp => ?_, h.gens, h.drawn, h.os⟩
  · rcases List.mem_cons.mp hp with rfl | hp
    · refine ⟨?_, ho⟩
      cases q : c.Z a with
      | none => rfl
      | some o => rw [h₀.keep _ o q] at z; cases z
    · exact h.own p hp
  · rw [List.map_cons, List.nodup_cons]
    refine ⟨fun hm => ?_, h.nd⟩
    rw [hk] at hm
    obtain ⟨p, hp, e⟩ := List.mem_map.mp hm
    obtain ⟨_, o, q, _⟩ := h₀.own p hp
    rw [e, z] at q; cases q
  · rcases List.mem_cons.mp hp with rfl | hp
    · intro e
      have e : a = 1 := e
      rw [e] at hle
      exact absurd hle (Nat.not_le.mpr h₀.size)
    · exact h.one p hp
theorem St.at_ {P P' : Obj → Prop} (h : St c S s) (u : Upd S a P S') (hm : ∃ o, s.heap.get? a = some o ∧ P o) : St c S' s := h.set (t := s.toks) u (Heap.SameBut.refl ..) hm
theorem is_code {tb : Option Addr} {qn nm : Str} {p : Arguments} {sc : Scope} {fl : Nat} {body : FuncBody} {Q : Value → Shared → Prop} (hB : KZ w c.Z) (hc : env.code = .ref 86) (h : St c ((84, TabP (T84 w.params tb)) :: (codeE tb ++ F)) s) (hq : qn = iQ)
    (hQ : ∀ k s', St c ((84, TabP (T84 w.params (some k))) :: (k, CodeP iQ) :: F) s' → Q (.ref k) s') : wpAny (model prog w) A (functionCode env (dPos (iDef w.params)) fl nm qn p sc body) Q E s := by
  subst hq
  obtain ⟨o, ho, ps, rfl, hok, hT⟩ := h.get (.head _)
  obtain ⟨hic, hta⟩ := (code86 hB).is h ho hok
  cases tb with
  | some k => exact wpAny_functionCode_hit hc hic hT (hQ _ _ h)
  | none =>
    refine wpAny_functionCodeX hc hic hta hT fun c' h' tk hx hge _ _ hrec ht _ => hQ _ _ ?_
    have hl : (ps ++ #[rawInt (dPos (iDef w.params)).line, rawInt (dPos (iDef w.params)).col, Value.ref c']).toList = ps.toList ++ [rawInt (dPos (iDef w.params)).line, rawInt (dPos (iDef w.params)).col, .ref c'] := by simp
    have hok' := TriplesOk_snoc (dPos (iDef w.params)).line (dPos (iDef w.params)).col (.ref c') _ hok
    have h1 : St c ((84, TabP TT) :: F) s := h.sub (.cons .head (fun o ⟨ps, e, h, _⟩ => ⟨ps, e, h, trivial⟩) .refl)
    have h2 := h1.table (h' := h') (tk := tk) (.head _) hx ht (by rw [hl]; exact hok') trivial
    have h3 : St c ((84, TabP (T84 w.params (some c'))) :: F) { s with heap := h', toks := tk } := h2.at_ (P' := fun _ => True) .head ⟨_, ht.2, _, rfl, by rw [hl]; exact hok', by show codeAmong _ _ = _; rw [hl]; exact codeAmong_snoc _ hok hT⟩
    obtain ⟨kc, oc, vs, tq, ek, hoc, hdc, hv⟩ := hrec
    cases ek
    exact (h3.claim (s₀ := s) h1 rfl hge ⟨oc, hoc, vs, tq, hdc, hv⟩).perm (.swap ..)
theorem idef_spec {tb : Option Addr} {cD cI : Addr} {l : List (Str × Option Value)} {l' : Value → List (Str × Option Value)} {gs : List Str} {Q : Flow → Shared → Prop} (hB : KZ w c.Z) (ge : GE env gs) (hc : env.code = .ref 86) (hq : env.qual = "immediate_dominators.<locals>.") (hcs : env.cells = ([("idom", cI), ("dfn", cD)] : List (Str × Addr))) (hnk : env.kindOf "intersect" = some .local)
    (h : St c ((84, TabP (T84 w.params tb)) :: (codeE tb ++ ((env.locals, FrP env l) :: F))) s) (u : ∀ v, UpdL l "intersect" v (l' v))
    (hQ : ∀ fa k ct pm s', St c ((fa, FnP (iFd w.params k cD cI ct pm)) :: (env.locals, FrP env (l' (.ref fa))) :: (84, TabP (T84 w.params (some k))) :: (k, CodeP iQ) :: F) s' → Q .next s') :
    wpAny (model prog w) A (exec (iDef w.params) env) Q E s := by
  rw [iDef_eq, exec_def, defaultsOf_eq, iArgs_d, iArgs_k, iArgs_a]
  have hclos : clos (([("idom", cI), ("dfn", cD)] : List (Str × Addr)).lookup ·) (dScope (iDef w.params)).names [] = some ([("idom", cI), ("dfn", cD)] : List (Str × Addr)) := i_clos _ _ _
  have hclo : closureFor (dScope (iDef w.params)) env = pure ([("idom", cI), ("dfn", cD)] : List (Str × Addr)) := closure_of hcs hclos
  have hqn : qualnameIn env "intersect" "intersect" = iQ := by
    unfold qualnameIn
    rw [hnk, hq]
    rfl
  refine wpAny_bind (wpAny_standAt (wpAny_bind (wpAny_holding ?_)))
  refine wpAny_bind (m := evalAll _) (wpAny_pure ?_)
  refine wpAny_bind (wpAny_holding (m := evalAllOpt _) (wpAny_pure ?_))
  refine wpAny_holding ?_
  refine wpAny_bind (m := evalNamed _) (wpAny_pure ?_)
  rw [hqn]
  simp only [makeFunction, iArgs_o, List.zip_nil_left, List.filterMap_nil, List.isEmpty_nil, if_true, pure_bind, hclo, iDoc, List.isEmpty_cons, Bool.false_eq_true, if_false]
  refine wpAny_bind (wpAny_newObjAsIs_type ?_)
  generalize hob : ({ cls := .type "tuple", dict := none, data := _ } : Obj) = ob
  have h1 := h.more (h' := s.heap.push ob) (t := s.toks) fun b o e => Heap.get?_push_of_some _ e
  refine wpAny_bind (is_code hB hc h1 rfl fun k s₂ h₂ => ?_)
  refine wpAny_bind (bi_for h₂ hB.toGB ge ?_)
  obtain ⟨mg, mb, hg, hb, -⟩ := hB.glob _ h₂.keep
  rw [ge.g]
  refine wpAny_bind (wpAny_nsGet hg ?_)
  simp only [newObj]
  refine wpAny_bind (wpAny_alloc ?_)
  refine wpAny_pure ?_
  have h₃ := h₂.push (t := s₂.toks) (P := FnP (iFd w.params k cD cI (.ref s.heap.objs.size) ((mg "__name__").getD .none))) { cls := .type "function", data := .func (iFd w.params k cD cI (.ref s.heap.objs.size) ((mg "__name__").getD .none)) } rfl rfl
  refine wpAny_bind (wpAny_standAt (wpAny_bind (wpAny_bindName ?_)))
  refine sto (h₃.sub (.cons (a := env.locals) (by w_up) (fun _ q => q) .refl)) (u _) fun s₄ h₄ => wpAny_pure (hQ _ _ _ _ s₄ (h₄.perm (.swap ..)))
end
end
section
inductive Av (st : Int) (N : List Int) (pr : Int → List Int) (d : Int → Int) (x : Int) : Nat → Int → Prop
  | base {j : Nat} : st ≠ x → Av st N pr d x j st
  | adv {j : Nat} {p u : Int} : Av st N pr d x j p → u ∈ N → p ∈ pr u → u ≠ x → d u < d p → Av st N pr d x j u
  | ret {j : Nat} {p u : Int} : Av st N pr d x j p → u ∈ N → p ∈ pr u → u ≠ x → Av st N pr d x (j + 1) u
section
variable {st : Int} {N : List Int} {pr : Int → List Int} {d : Int → Int} {x u p q : Int} {j j' : Nat}
theorem Av.ne (h : Av st N pr d x j u) : u ≠ x := by cases h <;> assumption
theorem Av.mem (hs : st ∈ N) (h : Av st N pr d x j u) : u ∈ N := by cases h <;> assumption
theorem Av.mono (h : Av st N pr d x j u) : j ≤ j' → Av st N pr d x j' u := by
  induction h generalizing j' with
  | base h => exact fun _ => .base h
  | adv _ h1 h2 h3 h4 ih => exact fun l => .adv (ih l) h1 h2 h3 h4
  | ret _ h1 h2 h3 ih =>
    intro l
    cases j' with
    | zero => lia
    | succ m => exact .ret (ih (by lia)) h1 h2 h3
theorem Av.split (q : Int) (h : Av st N pr d x j p) : Av st N pr d q j p ∨ Av st N pr d x j q := by
  induction h with
  | base h =>
    by_cases e : st = q
    · subst e; exact .inr (.base h)
    · exact .inl (.base e)
  | @adv j p u h0 h1 h2 h3 h4 ih =>
    rcases ih with ih | ih
    · by_cases e : u = q
      · subst e; exact .inr (.adv h0 h1 h2 h3 h4)
      · exact .inl (.adv ih h1 h2 e h4)
    · exact .inr ih
  | @ret j p u h0 h1 h2 h3 ih =>
    rcases ih with ih | ih
    · by_cases e : u = q
      · subst e; exact .inr (.ret h0 h1 h2 h3)
      · exact .inl (.ret ih h1 h2 e)
    · exact .inr (ih.mono (Nat.le_succ _))
end
noncomputable def Dm (st : Int) (N : List Int) (pr : Int → List Int) (d : Int → Int) (x w : Int) : Prop := ∀ j, ¬ Av st N pr d x j w
theorem bound_exists (P : Int → Int → Nat → Prop) (mono : ∀ x w j j', P x w j → j ≤ j' → P x w j') (N : List Int) : ∃ B, ∀ x ∈ N, ∀ w ∈ N, (∃ j, P x w j) → P x w B := by
  have one : ∀ (x : Int) (L : List Int), ∃ B, ∀ w ∈ L, (∃ j, P x w j) → P x w B := by
    intro x L
    induction L with
    | nil => exact ⟨0, fun _ h => nomatch h⟩
    | cons w L ih =>
      obtain ⟨B, hB⟩ := ih
      by_cases h : ∃ j, P x w j
      · obtain ⟨j, hj⟩ := h
        refine ⟨max B j, fun w' hw' h' => ?_⟩
        rcases List.mem_cons.mp hw' with rfl | hw'
        · exact mono _ _ _ _ hj (Nat.le_max_right ..)
        · exact mono _ _ _ _ (hB w' hw' h') (Nat.le_max_left ..)
      · refine ⟨B, fun w' hw' h' => ?_⟩
        rcases List.mem_cons.mp hw' with rfl | hw'
        · exact absurd h' h
        · exact hB w' hw' h'
  suffices ∀ M : List Int, ∃ B, ∀ x ∈ M, ∀ w ∈ N, (∃ j, P x w j) → P x w B from this N
  intro M
  induction M with
  | nil => exact ⟨0, fun _ h => nomatch h⟩
  | cons x M ih =>
    obtain ⟨B, hB⟩ := ih
    obtain ⟨B', hB'⟩ := one x N
    refine ⟨max B B', fun x' hx' w hw h => ?_⟩
    rcases List.mem_cons.mp hx' with rfl | hx'
    · exact mono _ _ _ _ (hB' w hw h) (Nat.le_max_right ..)
    · exact mono _ _ _ _ (hB x' hx' w hw h) (Nat.le_max_left ..)
structure Base0 (st : Int) (L : List Int) (pr : Int → List Int) (d : Int → Int) : Prop where
  nd : L.Nodup
  ns : st ∉ L
  lt : ∀ u ∈ L, d u < d st
  dec : ∀ i j (hi : i < L.length) (hj : j < L.length), i < j → d L[j] < d L[i]
  pre : ∀ u ∈ L, ∃ p ∈ pr u, p ∈ st :: L ∧ d u < d p
noncomputable abbrev keysAt (st : Int) (L : List Int) (k i : Nat) : List Int := st :: (if k = 1 then L.take i else L)
open Classical in
noncomputable def lv (st : Int) (L : List Int) (k i : Nat) (w : Int) : Nat := if w = st ∨ w ∈ L.take i then k - 1 else k - 2
structure Inv (st : Int) (L : List Int) (pr : Int → List Int) (d : Int → Int) (B k i : Nat) (f : Int → Option Int) (ch : Bool) : Prop where
  k1 : 1 ≤ k
  il : i ≤ L.length
  T : Tree st (keysAt st L k i) d f
  U : ∀ w ∈ keysAt st L k i, ∀ x, Anc f w x → ¬ Av st (st :: L) pr d x (lv st L k i w) w
  lb : ∀ w ∈ keysAt st L k i, ∀ y, f w = some y → ∀ x, x ≠ w → Dm st (st :: L) pr d x w → Dm st (st :: L) pr d x y
  fx : ch = false → (k = 1 → i = 0) ∧ ∀ w ∈ L.take i, ∀ y, f w = some y → ∀ p ∈ pr w, p ∈ st :: L → ∀ z, Anc f y z → Anc f p z
  big : B + 2 ≤ k → ch = false
structure NewDom (f : Int → Option Int) (K ps : List Int) (r : Int) : Prop where
  mem : r ∈ K
  anc : ∀ p ∈ ps, p ∈ K → Anc f p r
  max : ∀ z, (∀ p ∈ ps, p ∈ K → Anc f p z) → Anc f r z
section
variable {st : Int} {L : List Int} {pr : Int → List Int} {d : Int → Int} {B k i : Nat} {f : Int → Option Int} {ch : Bool}
theorem Anc.antisymm {K : List Int} (T : Tree st K d f) {x y : Int} (hx : x ∈ K) (h : Anc f x y) (h' : Anc f y x) : x = y := by
  obtain ⟨h1, h2⟩ := T.anc h hx
  obtain ⟨_, h4⟩ := T.anc h' h1
  exact T.inj x hx y h1 (by lia)
theorem anc_new {u w x : Int} {r : Option Int} (h : Anc (fun x => if x = u then r else f x) w x) : Anc f w x ∨ (Anc f w u ∧ Anc (fun x => if x = u then r else f x) u x) := by
  induction h with
  | refl => exact .inl .refl
  | @step w y z e h ih =>
    by_cases q : w = u
    · subst q; exact .inr ⟨.refl, .step e h⟩
    · have e' : f w = some y := by simpa [q] using e
      rcases ih with ih | ⟨ih, h2⟩
      · exact .inl (.step e' ih)
      · exact .inr ⟨.step e' ih, h2⟩
theorem anc_keep {K : List Int} (T : Tree st K d f) {u w x : Int} {r : Option Int} (h : Anc f w x) (hw : w ∈ K) (hd : d u < d w) : Anc (fun x => if x = u then r else f x) w x := by
  induction h with
  | refl => exact .refl
  | @step w y z e h ih =>
    have hne : w ≠ u := fun q => by subst q; lia
    by_cases q : w = st
    · subst q; rw [T.top] at e; cases e
    · obtain ⟨y', hy, e', hd'⟩ := T.up w hw q
      rw [e] at e'; cases e'
      exact .step (by simp [hne, e]) (ih hy (by lia))
theorem anc_old {K : List Int} (T : Tree st K d f) {u w x : Int} {r : Option Int} (h : Anc (fun x => if x = u then r else f x) w x) (hw : w ∈ K) (hd : d u < d w) : Anc f w x := by
  rcases anc_new h with h | ⟨h, _⟩
  · exact h
  · have := (T.anc h hw).2; lia
theorem up_of {K : List Int} (T : Tree st K d f) {u y : Int} (hu : u ∈ K) (e : f u = some y) : y ∈ K ∧ d u < d y := by
  by_cases q : u = st
  · subst q; rw [T.top] at e; cases e
  · obtain ⟨y', h1, h2, h3⟩ := T.up u hu q
    rw [e] at h2; cases h2; exact ⟨h1, h3⟩
theorem chain {K N : List Int} (T : Tree st K d f) (lb : ∀ w ∈ K, ∀ y, f w = some y → ∀ x, x ≠ w → Dm st N pr d x w → Dm st N pr d x y) {x : Int} :
    ∀ (n : Nat) (p : Int), p ∈ K → (d st - d p).toNat ≤ n → Dm st N pr d x p → Anc f p x ∧ ∀ y, Anc f p y → Anc f y x → Dm st N pr d x y := by
  intro n
  induction n with
  | zero =>
    intro p hp hn hD
    have h1 := T.le p hp
    have : p = st := T.inj p hp st T.mem (by lia)
    subst this
    have hx : x = p := Classical.byContradiction fun q => hD 0 (.base fun e => q e.symm)
    subst hx
    exact ⟨.refl, fun y hy _ => by rw [hy.top T.top]; exact hD⟩
  | succ n ih =>
    intro p hp hn hD
    by_cases hx : x = p
    · subst hx
      exact ⟨.refl, fun y hy hy' => by rw [← Anc.antisymm T hp hy hy']; exact hD⟩
    · by_cases hps : p = st
      · subst hps
        exact absurd (.base fun e => hx e.symm) (hD 0)
      · obtain ⟨q, hq, e, hd⟩ := T.up p hp hps
        have h2 := T.le q hq
        obtain ⟨i1, i2⟩ := ih q hq (by lia) (lb p hp q e x hx hD)
        refine ⟨.step e i1, fun y hy hy' => ?_⟩
        cases hy with
        | refl => exact hD
        | step e' hy => rw [e] at e'; cases e'; exact i2 y hy hy'
theorem dm_pred {x u p : Int} (hu : u ∈ st :: L) (hne : x ≠ u) (hp : p ∈ pr u) (h : Dm st (st :: L) pr d x u) : Dm st (st :: L) pr d x p := fun j hj => h (j + 1) (.ret hj hu hp fun e => hne e.symm)
theorem take_succ_mem {w : Int} (hi : i < L.length) : w ∈ L.take (i + 1) ↔ w ∈ L.take i ∨ w = L[i] := by
  rw [← List.take_append_getElem hi, List.mem_append, List.mem_singleton]
theorem before {w : Int} (b : Base0 st L pr d) (hi : i < L.length) (hw : w ∈ L) (hd : d L[i] < d w) : w ∈ L.take i := by
  obtain ⟨m, hm, rfl⟩ := List.getElem_of_mem hw
  rcases Nat.lt_trichotomy m i with h | h | h
  · exact List.mem_take_iff_getElem.mpr ⟨m, by lia, rfl⟩
  · subst h; lia
  · have := b.dec i m hi hm h; lia
theorem not_taken (b : Base0 st L pr d) (hi : i < L.length) : L[i] ∉ L.take i := fun h => by
  obtain ⟨m, hm, e⟩ := List.mem_take_iff_getElem.mp h
  have hm' : m < L.length := by lia
  have := b.dec m i hm' hi (by lia)
  rw [e] at this; lia
theorem keys_add (b : Base0 st L pr d) (hi : i < L.length) (hk : 1 ≤ k) : (if L[i] ∈ keysAt st L k i then keysAt st L k i else keysAt st L k i ++ [L[i]]) = keysAt st L k (i + 1) := by
  unfold keysAt
  by_cases h : k = 1
  · have h1 : L[i] ∉ st :: L.take i := by
      rw [List.mem_cons, not_or]
      exact ⟨fun e => b.ns (e ▸ List.getElem_mem hi), not_taken b hi⟩
    simp only [h, if_true, h1, if_false]
    rw [List.take_add_one, List.getElem?_eq_getElem hi]; rfl
  · simp only [h, if_false]
    rw [if_pos (List.mem_cons_of_mem _ (List.getElem_mem hi))]
theorem keys_sub (hk : 1 ≤ k) : ∀ w ∈ keysAt st L k i, w ∈ st :: L := by
  intro w hw
  rcases List.mem_cons.mp hw with rfl | hw
  · exact .head _
  · split at hw
    · exact .tail _ (List.mem_of_mem_take hw)
    · exact .tail _ hw
theorem Inv.start (b : Base0 st L pr d) (hB : True) : Inv st L pr d B 1 0 (fun _ => none) false := by
  refine ⟨Nat.le_refl _, Nat.zero_le _, ⟨.head _, rfl, fun x hx hne => ?_, fun x hx y hy _ => ?_, fun x hx => ?_⟩, fun w hw x hx => ?_, fun w hw y e => (nomatch e), fun _ => ⟨fun _ => rfl, fun w hw => by simp at hw⟩, fun h => rfl⟩
  · simp at hx; exact absurd hx hne
  · simp at hx hy; rw [hx, hy]
  · simp at hx; rw [hx]; exact Int.le_refl _
  · have := hx.top rfl
    subst this
    exact fun h => h.ne rfl
theorem Inv.next (b : Base0 st L pr d) (h : Inv st L pr d B k L.length f ch) : Inv st L pr d B (k + 1) 0 f false := by
  have ek : ∀ w, w ∈ keysAt st L (k + 1) 0 ↔ w ∈ keysAt st L k L.length := by
    intro w
    have : ¬ (k + 1 = 1) := by have := h.k1; lia
    simp only [keysAt, this, if_false, List.take_length]
    split <;> exact Iff.rfl
  refine ⟨by lia, Nat.zero_le _, ⟨.head _, h.T.top, fun x hx hne => ?_, fun x hx y hy => h.T.inj x ((ek x).mp hx) y ((ek y).mp hy), fun x hx => h.T.le x ((ek x).mp hx)⟩, fun w hw x hx => ?_, fun w hw => h.lb w ((ek w).mp hw), fun _ => ⟨fun q => rfl, fun w hw => by simp at hw⟩, fun _ => rfl⟩
  · obtain ⟨y, h1, h2⟩ := h.T.up x ((ek x).mp hx) hne
    exact ⟨y, (ek y).mpr h1, h2⟩
  · by_cases e : w = st
    · subst e
      have := hx.top h.T.top
      subst this
      exact fun h => h.ne rfl
    · have h1 := h.U w ((ek w).mp hw) x hx
      have e1 : lv st L (k + 1) 0 w = k - 1 := by
        unfold lv
        rw [if_neg (by simp [e])]
        lia
      have e2 : lv st L k L.length w = k - 1 := by
        unfold lv
        rw [if_pos]
        rw [List.take_length]
        have := keys_sub h.k1 w ((ek w).mp hw)
        exact List.mem_cons.mp this
      rw [e1]; rw [e2] at h1; exact h1
open Classical in
theorem Inv.step (b : Base0 st L pr d) (hBB : ∀ x ∈ st :: L, ∀ w ∈ st :: L, (∃ j, Av st (st :: L) pr d x j w) → Av st (st :: L) pr d x B w) (h : Inv st L pr d B k i f ch) (hi : i < L.length) {r : Int} (hr : NewDom f (keysAt st L k i) (pr L[i]) r) :
    Inv st L pr d B k (i + 1) (fun x => if x = L[i] then some r else f x) (ch || !decide (L[i] ∈ keysAt st L k i ∧ f L[i] = some r)) := by
  have hk1 := h.k1
  have huL : L[i] ∈ L := List.getElem_mem hi
  have hus : L[i] ≠ st := fun e => b.ns (e ▸ huL)
  have huN : L[i] ∈ st :: L := .tail _ huL
  have ek : ∀ w, w ∈ keysAt st L k (i + 1) ↔ w ∈ keysAt st L k i ∨ w = L[i] := by
    intro w
    unfold keysAt
    split
    · rw [List.mem_cons, List.mem_cons, take_succ_mem hi, or_assoc]
    · constructor
      · exact .inl
      · rintro (h | rfl)
        · exact h
        · exact huN
  obtain ⟨p0, hp0, hp0N, hp0d⟩ := b.pre L[i] huL
  have known : ∀ p, p ∈ st :: L → d L[i] < d p → p ∈ keysAt st L k i ∧ (p = st ∨ p ∈ L.take i) := by
    intro p hp hd
    rcases List.mem_cons.mp hp with rfl | hp
    · exact ⟨.head _, .inl rfl⟩
    · have := before b hi hp hd
      refine ⟨.tail _ ?_, .inr this⟩
      split
      · exact this
      · exact hp
  have hp0K := (known p0 hp0N hp0d).1
  have hrK := hr.mem
  have hrd : d L[i] < d r := by
    have := (h.T.anc (hr.anc p0 hp0 hp0K) hp0K).2
    lia
  have hfr : ∀ x, Anc (fun x => if x = L[i] then some r else f x) r x ↔ Anc f r x := fun x => ⟨fun q => anc_old h.T q hrK hrd, fun q => anc_keep h.T q hrK hrd⟩
  have T' : Tree st (keysAt st L k (i + 1)) d (fun x => if x = L[i] then some r else f x) := by
    refine ⟨.head _, by simp [Ne.symm hus, h.T.top], fun x hx hne => ?_, fun x hx y hy e => ?_, fun x hx => ?_⟩
    · by_cases q : x = L[i]
      · subst q; exact ⟨r, (ek r).mpr (.inl hrK), by simp, hrd⟩
      · obtain ⟨y, h1, h2, h3⟩ := h.T.up x (((ek x).mp hx).resolve_right q) hne
        exact ⟨y, (ek y).mpr (.inl h1), by simp [q, h2], h3⟩
    · have inj : ∀ x y : Int, x ∈ st :: L → y ∈ st :: L → d x = d y → x = y := by
        have one : ∀ x ∈ L, ∀ y ∈ L, d x = d y → x = y := by
          intro x hx y hy e
          obtain ⟨m, hm, rfl⟩ := List.getElem_of_mem hx
          obtain ⟨m', hm', rfl⟩ := List.getElem_of_mem hy
          rcases Nat.lt_trichotomy m m' with q | q | q
          · have := b.dec m m' hm hm' q; lia
          · subst q; rfl
          · have := b.dec m' m hm' hm q; lia
        intro x y hx hy e
        rcases List.mem_cons.mp hx with h1 | h1 <;> rcases List.mem_cons.mp hy with h2 | h2
        · rw [h1, h2]
        · have := b.lt y h2; rw [h1] at e; lia
        · have := b.lt x h1; rw [h2] at e; lia
        · exact one x h1 y h2 e
      exact inj x y (keys_sub hk1 x hx) (keys_sub hk1 y hy) e
    · rcases (ek x).mp hx with hx | rfl
      · exact h.T.le x hx
      · exact Int.le_of_lt (b.lt _ huL)
  have lvu : lv st L k (i + 1) L[i] = k - 1 := by unfold lv; rw [if_pos (.inr ((take_succ_mem hi).mpr (.inr rfl)))]
  have lvw : ∀ w, w ≠ L[i] → lv st L k (i + 1) w = lv st L k i w := by
    intro w hw
    unfold lv
    have : (w = st ∨ w ∈ L.take (i + 1)) ↔ (w = st ∨ w ∈ L.take i) := by rw [take_succ_mem hi]; simp [hw]
    simp only [this]
  have Uu : ∀ x, Anc (fun x => if x = L[i] then some r else f x) L[i] x → ¬ Av st (st :: L) pr d x (k - 1) L[i] := by
    intro x hx hA
    have hne := hA.ne
    have hrx : Anc f r x := (hfr x).mp (hx.up (by simp) fun e => hne e.symm)
    generalize hkk : k - 1 = kk at hA
    generalize hgu : L[i] = u at hA
    cases hA with
    | base _ => exact hus hgu
    | @adv _ p _ h0 h1 h2 h3 h4 =>
      subst hgu
      obtain ⟨hpK, hpt⟩ := known p (h0.mem (.head _)) h4
      have := h.U p hpK x ((hr.anc p h2 hpK).trans hrx)
      have e : lv st L k i p = k - 1 := by unfold lv; rw [if_pos hpt]
      rw [e, hkk] at this
      exact this h0
    | @ret jj p _ h0 h1 h2 h3 =>
      subst hgu
      have hk2 : k ≠ 1 := by lia
      have hpK : p ∈ keysAt st L k i := by
        have := h0.mem (.head _)
        unfold keysAt
        rw [if_neg hk2]; exact this
      have := h.U p hpK x ((hr.anc p h2 hpK).trans hrx)
      refine this (h0.mono ?_)
      unfold lv
      split <;> lia
  refine ⟨hk1, hi, T', fun w hw x hx => ?_, fun w hw y e x hne hD => ?_, fun hch => ?_, fun hb => ?_⟩
  · by_cases q : w = L[i]
    · subst q; rw [lvu]; exact Uu x hx
    · rw [lvw w q]
      have hwK := ((ek w).mp hw).resolve_right q
      rcases anc_new hx with hx | ⟨h1, h2⟩
      · exact h.U w hwK x hx
      · intro hA
        rcases hA.split L[i] with hA' | hA'
        · exact h.U w hwK _ h1 hA'
        · refine Uu x h2 (hA'.mono ?_)
          unfold lv
          split <;> lia
  · by_cases q : w = L[i]
    · subst q
      have e : r = y := by simpa using e
      subst e
      have hxp : ∀ p ∈ pr L[i], Dm st (st :: L) pr d x p := fun p hp => dm_pred huN hne hp hD
      have ch := fun p (hp : p ∈ pr L[i]) (hpK : p ∈ keysAt st L k i) => chain h.T h.lb (x := x) _ p hpK (Nat.le_refl _) (hxp p hp)
      have hrx := hr.max x fun p hp hpK => (ch p hp hpK).1
      exact (ch p0 hp0 hp0K).2 r (hr.anc p0 hp0 hp0K) hrx
    · exact h.lb w (((ek w).mp hw).resolve_right q) y (by simpa [q] using e) x hne hD
  · have hch' : ch = false ∧ L[i] ∈ keysAt st L k i ∧ f L[i] = some r := by
      rw [Bool.or_eq_false_iff, Bool.not_eq_false', decide_eq_true_eq] at hch
      exact hch
    obtain ⟨c1, c2, c3⟩ := hch'
    have hk2 : k ≠ 1 := fun e => by
      unfold keysAt at c2
      rw [if_pos e] at c2
      rcases List.mem_cons.mp c2 with c2 | c2
      · exact hus c2
      · exact not_taken b hi c2
    have ef : (fun x => if x = L[i] then some r else f x) = f := by
      funext x
      by_cases q : x = L[i]
      · simp only [q, if_true]; rw [c3]
      · simp [q]
    rw [ef]
    refine ⟨fun e => absurd e hk2, fun w hw y e p hp hpN z hz => ?_⟩
    replace e : f w = some y := (congrFun ef w).symm.trans e
    rcases (take_succ_mem hi).mp hw with hw | rfl
    · exact (h.fx c1).2 w hw y e p hp hpN z hz
    · rw [c3] at e; cases e
      have hpK : p ∈ keysAt st L k i := by unfold keysAt; rw [if_neg hk2]; exact hpN
      exact (hr.anc p hp hpK).trans hz
  · have hk2 : k ≠ 1 := by lia
    have c1 := h.big hb
    have hNK : keysAt st L k i = st :: L := by unfold keysAt; rw [if_neg hk2]
    have huK : L[i] ∈ keysAt st L k i := by rw [hNK]; exact huN
    obtain ⟨y, hy, ey, hyd⟩ := h.T.up L[i] huK hus
    have ancD : ∀ w ∈ st :: L, ∀ x, Anc f w x → Dm st (st :: L) pr d x w := by
      intro w hw x hx j hA
      have hxN : x ∈ st :: L := by
        have := (h.T.anc hx (by rw [hNK]; exact hw)).1
        rw [hNK] at this; exact this
      refine h.U w (by rw [hNK]; exact hw) x hx ((hBB x hxN w hw ⟨j, hA⟩).mono ?_)
      unfold lv
      split <;> lia
    have hry : r = y := by
      have hyN : y ∈ st :: L := by rw [← hNK]; exact hy
      have a1 : Anc f r y := by
        refine hr.max y fun p hp hpK => ?_
        have hD : Dm st (st :: L) pr d y L[i] := ancD L[i] huN y (.step ey .refl)
        have hne : y ≠ L[i] := fun e => by rw [e] at hyd; lia
        exact (chain h.T h.lb (x := y) _ p hpK (Nat.le_refl _) (dm_pred huN hne hp hD)).1
      have a2 : Anc f y r := by
        have hne : r ≠ L[i] := fun e => by rw [e] at hrd; lia
        have hD : Dm st (st :: L) pr d r L[i] := by
          intro j hA
          have step : ∀ p j', p ∈ pr L[i] → Av st (st :: L) pr d r j' p → False := fun p j' hp h0 => by
            have hpN := h0.mem (.head _)
            exact ancD p hpN r (hr.anc p hp (by rw [hNK]; exact hpN)) j' h0
          generalize hgu : L[i] = u at hA
          cases hA with
          | base _ => exact hus hgu
          | adv h0 h1 h2 h3 h4 => subst hgu; exact step _ _ h2 h0
          | ret h0 h1 h2 h3 => subst hgu; exact step _ _ h2 h0
        exact ((chain h.T h.lb (x := r) _ L[i] huK (Nat.le_refl _) hD).1).up ey hne
      exact Anc.antisymm h.T hrK a1 a2
    subst hry
    simp [c1, huK, ey]
theorem Inv.done (b : Base0 st L pr d) (h : Inv st L pr d B k L.length f false) (hk : k = 1 → L = []) : keysAt st L k L.length = st :: L ∧ ∀ w ∈ st :: L, ∀ x, Anc f w x ↔ Dm st (st :: L) pr d x w := by
  have hK : keysAt st L k L.length = st :: L := by
    unfold keysAt
    split <;> simp
  refine ⟨hK, fun w hw x => ⟨fun hx j hA => ?_, fun hD => ?_⟩⟩
  · have key : ∀ j u, Av st (st :: L) pr d x j u → ¬ Anc f u x := by
      intro j u hA
      have step : ∀ p u, u ∈ st :: L → p ∈ pr u → p ∈ st :: L → u ≠ x → ¬ Anc f p x → ¬ Anc f u x := by
        intro p u hu hp hpN hne hn ha
        by_cases q : u = st
        · subst q; exact hne (ha.top h.T.top).symm
        · obtain ⟨y, hy, e, _⟩ := h.T.up u (by rw [hK]; exact hu) q
          have hy' := ha.up e fun e => hne e.symm
          refine hn ((h.fx rfl).2 u ?_ y e p hp hpN x hy')
          rw [List.take_length]
          exact (List.mem_cons.mp hu).resolve_left q
      induction hA with
      | base hne => exact fun ha => hne (ha.top h.T.top).symm
      | adv h0 h1 h2 h3 h4 ih => exact step _ _ h1 h2 (h0.mem (.head _)) h3 ih
      | ret h0 h1 h2 h3 ih => exact step _ _ h1 h2 (h0.mem (.head _)) h3 ih
    exact key j w hA hx
  · exact (chain h.T h.lb (x := x) _ w (by rw [hK]; exact hw) (Nat.le_refl _) hD).1
end
end
section
open PySem PySem.Calls PyProof.Rows PySem.W PySem.W.X
open Sem (wp)
noncomputable def kqAddrs : List Addr := [2, 249, 271, 580, 579, 578, 787, 786, 288, 287, 278, 631, 630, 629]
noncomputable def KQ (P : Params) : Frag := kqAddrs.filterMap fun a => ((hd.heap_1 P).lookup a).map (a, ·)
theorem KZ.fragQ {w : World} {Z : Addr → Option Obj} (hB : KZ w Z) {a : Addr} {o : Obj} (h : (KQ w.params).lookup a = some o) : Z a = some o := by
  obtain ⟨h1, h2⟩ := lookup_fm h
  refine hB.k a o h1 ((by decide : ∀ b ∈ kqAddrs, nd b = true) a h2) ?_
  · rintro rfl; revert h2; decide
noncomputable def o631 (P : Params) : Obj := ((hd.heap_1 P).lookup 631).getD emptyDict
noncomputable def o630 (P : Params) : Obj := ((hd.heap_1 P).lookup 630).getD emptyDict
theorem l631 (P : Params) : (hd.heap_1 P).lookup 631 = some (o631 P) := by kernel_rfl
theorem l630 (P : Params) : (hd.heap_1 P).lookup 630 = some (o630 P) := by kernel_rfl
theorem c631 (P : Params) : (o631 P).cls = .ref 288 := by kernel_rfl
theorem n631 (P : Params) : notCls (o631 P) = true := by kernel_rfl
theorem d631 (P : Params) : (o631 P).dict = some 630 := by kernel_rfl
theorem q_ga288 (P : Params) : findIn (KQ P) (.ref 288) "__getattribute__" = some (some (.builtin "object.__getattribute__")) := by kernel_rfl
theorem q_gat288 (P : Params) : findIn (KQ P) (.ref 288) "__getattr__" = some none := by kernel_rfl
theorem q_attrname (P : Params) : findObj (KQ P) 288 (some (o630 P)) "attrname" = some (.value (.str "pred" 1117)) := by kernel_rfl
theorem q_func (P : Params) : findObj (KQ P) 288 (some (o630 P)) "func" = some (.value (.ref 629)) := by kernel_rfl
theorem q_func0 (P : Params) : findIn (KQ P) (.ref 288) "func" = some none := by kernel_rfl
theorem q_ga (P : Params) : findIn (KQ P) (.ref 787) "__getattribute__" = some (some (.builtin "object.__getattribute__")) := by kernel_rfl
theorem q_gat (P : Params) : findIn (KQ P) (.ref 787) "__getattr__" = some none := by kernel_rfl
theorem q_pred (P : Params) : findIn (KQ P) (.ref 787) "pred" = some (some (.ref 631)) := by kernel_rfl
theorem q_get (P : Params) : specialIn (KQ P) (.ref 631) "__get__" = some (some (.ref 278)) := by kernel_rfl
theorem q_takes (P : Params) : takesIn (KQ P) (.ref 631) = some false := by kernel_rfl
theorem q_dict (P : Params) : findIn (KQ P) (.ref 787) "__dict__" = some (some (.ref 580)) := by kernel_rfl
theorem q_dget (P : Params) : specialIn (KQ P) (.ref 580) "__get__" = some (some (.builtin "getset_descriptor.__get__")) := by kernel_rfl
theorem q_dtakes (P : Params) : takesIn (KQ P) (.ref 580) = some true := by kernel_rfl
theorem q_hasdict (P : Params) : ((clsIn (KQ P) 787).any fun cd => cd.hasDict) = true := by kernel_rfl
section
variable {prog : Program} {w : World} {A : Around} {E : Value → Shared → Prop} {c : Cfg} {S S' F : List Ent} {s : Shared} {a x dx : Addr} {env : Env} {l : List (Str × Value)} {name : Str} {v : Value}
theorem St.kq (h : St c S s) (hB : KZ w c.Z) : (KQ w.params).In s.heap := fun _ _ e => h.keep _ _ (hB.fragQ e)
theorem at631 (h : St c S s) (hB : KZ w c.Z) : InstAt s.heap 631 (o631 w.params) 288 (some (o630 w.params)) :=
  ⟨h.keep _ _ (hB.k 631 _ (l631 _) (by decide) (by decide)), c631 _, n631 _, by rw [d631]; exact h.keep _ _ (hB.k 630 _ (l630 _) (by decide) (by decide))⟩
theorem get631 {Q : Value → Shared → Prop} {expr : Bool} (h : St c S s) (hB : KZ w c.Z) (hf : findObj (KQ w.params) 288 (some (o630 w.params)) name = some (.value v)) (hh : handedIn v = true) (hq : ∀ s', St c S s' → Q v s') : wpAny (model prog w) A (getAttr (.ref 631) name expr) Q E s :=
  get_value (h.kq hB) (at631 h hB) (q_ga288 _) hf hh (hq _ (h.tok _))
theorem idic_parts (h : St c S s) (hm : (a, IDicP prog w l) ∈ S) : ∃ o es ep, s.heap.get? a = some o ∧ o.cls = .type "dict" ∧ o.dict = none ∧ o.data = .dict es ep ∧ KeysOf (strKind prog w) es ∧ Pairs (strKind prog w) es.toList l ∧ (l.map (·.1)).Nodup := by
  obtain ⟨o, ho, es, ep, r⟩ := h.get hm
  exact ⟨o, es, ep, ho, r⟩
theorem str_none {es : Array DictEntry} (hp : Pairs (strKind prog w) es.toList l) (hv : valueAt l name = none) : (es.findIdx? fun e => (strKind prog w).is name e.key) = none := by
  have e := hp.find name
  rw [hv] at e
  rw [Array.findIdx?_eq_none_iff]
  intro x hx
  have : (es.toList.find? fun e => (strKind prog w).is name e.key) = none := by
    cases q : es.toList.find? fun e => (strKind prog w).is name e.key with
    | none => rfl
    | some y => rw [q] at e; cases e
  rw [List.find?_eq_none] at this
  have := this x (Array.mem_toList_iff.mpr hx)
  simpa using this
theorem idic_getd {Q : Value → Shared → Prop} {t : Tok} (h : St c S s) (hm : (a, IDicP prog w l) ∈ S) (hv : valueAt l name = none) (hq : ∀ s', St c S s' → Q v s') : wpAny (model prog w) A (call (.builtin "dict.get") [.ref a, .str name t, v]) Q E s := by
  obtain ⟨o, es, ep, ho, hc, hdi, hd, hk, hp, hn⟩ := idic_parts h hm
  have hT : s.TypeIs (.ref a) "dict" := ⟨o, ho, hc⟩
  refine wpAny_call_entry PySem.F.slot_dict_get hT PySem.F.entry_dict_get ?_ (PySem.F.args_dict_get_3 _ _ _)
  show wpAny _ _ (dictGet a (.str name t) >>= _) _ _ s
  refine wpAny_bind ?_
  unfold dictGet
  try with_reducible refine wpAny_holding ?_
  refine wpAny_bind ((strKind prog w).pyHash (strKind_is prog w name t) (wpAny_bind (wpAny_dictFind_of (s := { s with toks := s.toks + 1 }) (strKind_is prog w name t) ho hd hk ?_)))
  rw [str_none hp hv]
  refine wpAny_pure ?_
  show wpAny _ _ (Builtin.Dict.missed a _ >>= _) _ _ _
  exact wpAny_bind (wpAny_missed_other (own_ne h hm) (wpAny_pure ⟨_, rfl, hq _ (h.tok _)⟩))
theorem idic_set {Q : Unit → Shared → Prop} {t : Tok} (h : St c S s) (hm : (a, IDicP prog w l) ∈ S) (hv : valueAt l name = none) (hz : l.length ≤ 100) (u : Upd S a (IDicP prog w (l ++ [(name, v)])) S') (hq : ∀ s', St c S' s' → Q () s') : wpAny (model prog w) A (setItem (.ref a) (.str name t) v) Q E s := by
  obtain ⟨o, es, ep, ho, hc, hdi, hd, hk, hp, hn⟩ := idic_parts h hm
  have hT : s.TypeIs (.ref a) "dict" := ⟨o, ho, hc⟩
  have hlen := hp.length
  have hl : (1000 : Nat) ≤ sizeLine := by decide
  unfold setItem
  try with_reducible refine wpAny_holding ?_
  refine wpAny_bind (wpAny_sequenceKey hT (by decide) ?_)
  refine wpAny_bind (wpAny_callSpecial?_slot (name := Str.ofString "__setitem__") hT slot_dict_setitem
    (wpAny_call_entry slot_dict_setitem hT entry_dict_setitem ?_ (args_dict_setitem _ _ _)))
  show wpAny _ _ (Builtin.Dict.notOrdered "__setitem__" ⟨[.ref a, .str name t, v], []⟩ >>= _) _ _ s
  refine wpAny_bind (wpAny_notOrdered_dict hT ?_)
  show wpAny _ _ (dictSet a (.str name t) v >>= _) _ _ s
  refine wpAny_bind ?_
  unfold dictSet
  try with_reducible refine wpAny_holding ?_
  refine wpAny_bind ((strKind prog w).pyHash (strKind_is prog w name t) ?_)
  unfold dictSetHashed
  try with_reducible refine wpAny_holding ?_
  refine wpAny_bind (wpAny_dictFind_of (s := { s with toks := s.toks + 1 }) (strKind_is prog w name t) ho hd hk ?_)
  rw [str_none hp hv]
  refine wpAny_bind (wpAny_rule (wpAny_updateDictKeys (hz := by rw [← Array.length_toList]; lia) (s := { s with toks := s.toks + 1 }) ho hd ?_))
  refine wpAny_pure ⟨.none, rfl, wpAny_pure (hq _ (h.set (t := s.toks + 1) u (Heap.SameBut.update ..) ⟨_, Heap.get?_update_self _ ho (Obj.isFreed_of_dict (Obj.data_mapDictKeys hd _)), ?_⟩))⟩
  refine ⟨_, ep + 1, ?_, ?_, Obj.data_mapDictKeys hd _, hk.push (strKind_is prog w name t) _, ?_, ?_⟩
  · obtain ⟨c, d, dt, sl⟩ := o; cases dt <;> exact hc
  · obtain ⟨c, d, dt, sl⟩ := o; cases dt <;> exact hdi
  · have := hp.append (strKind_is prog w name t) ((strKind prog w).hash name) v
    obtain ⟨l⟩ := es
    simpa using this
  · rw [List.map_append, List.nodup_append]
    refine ⟨hn, by simp, ?_⟩
    intro y hy b hb e
    simp only [List.map_cons, List.map_nil, List.mem_singleton] at hb
    subst hb; subst e
    obtain ⟨p, hp', e⟩ := List.mem_map.mp hy
    unfold valueAt at hv
    rw [Option.map_eq_none_iff, List.find?_eq_none] at hv
    exact hv p hp' (by simp [e])
theorem pred_kept {Q : Value → Shared → Prop} {expr : Bool} {pa : Addr} (h : St c S s) (hB : KZ w c.Z) (hx : (x, InsP dx) ∈ S) (hd : (dx, IDicP prog w l) ∈ S) (hv : valueAt l "pred" = some (.ref pa)) (hq : ∀ s', St c S s' → Q (.ref pa) s') :
    wpAny (model prog w) A (getAttr (.ref x) "pred" expr) Q E s := by
  obtain ⟨od, hp, I⟩ := inst_atI h hx hd
  have hfo : findObj (KQ w.params) 787 (some od) "pred" = some (.value (.ref pa)) := by
    obtain ⟨cd, hc', hd'⟩ := any_some (q_hasdict w.params)
    unfold findObj
    have ho : W.ownOf cd (some od) "pred" = some (some (.ref pa)) := by
      unfold W.ownOf
      rw [if_pos hd']
      show lookIn _ od = _
      rw [idic_look hp, hv]
    rw [hc', Option.bind_some, q_pred, Option.bind_some]
    simp only [q_get, Option.bind_some, q_takes, ho]
  exact get_value (h.kq hB) I (q_ga _) hfo rfl (hq _ (h.tok _))
end
end
section
open PySem PySem.Calls PyProof.Rows PySem.W PySem.W.X
open Sem (wp)
theorem q_subG (P : Params) : subIn (KQ P) (.ref 787) (.ref 579) = some true := by kernel_rfl
theorem q_subS (P : Params) : subIn (KQ P) (.ref 787) (.type "staticmethod") = some false := by kernel_rfl
theorem q_subC (P : Params) : subIn (KQ P) (.ref 787) (.type "classmethod") = some false := by kernel_rfl
theorem entry_fdict : entryFor table "function.__dict__" = some Builtin.«function.__dict__» := entryFor_of_tree (by kernel_rfl)
noncomputable def o580 (P : Params) : Obj := ((hd.heap_1 P).lookup 580).getD emptyDict
theorem l580 (P : Params) : (hd.heap_1 P).lookup 580 = some (o580 P) := by kernel_rfl
theorem c580 (P : Params) : (o580 P).cls = .type "getset_descriptor" := by kernel_rfl
theorem d580 (P : Params) : (o580 P).data = .fields #[.str "__dict__" 1007, .ref 579, .builtin "function.__dict__", .builtin "function.__dict__#set"] := by kernel_rfl
noncomputable def o2 (P : Params) : Obj := ((hd.heap_1 P).lookup 2).getD emptyDict
theorem q_thread (P : Params) (S : Setting) : peek (KQ P) S (nsGet cStatics "_thread.count") = some none := by kernel_rfl
theorem q_cls787 (P : Params) (S : Setting) : ∃ cd, peek (KQ P) S (classData 787) = some cd ∧ cd.hasDict = true := ⟨_, by rfl, by rfl⟩
section
variable {prog : Program} {w : World} {A : Around} {E : Value → Shared → Prop} {c : Cfg} {S S' F : List Ent} {s : Shared} {a x dx : Addr} {env : Env} {l : List (Str × Value)} {name : Str} {v : Value}
theorem g_ite2 {α : Type} {M : Model} {p : Prop} [Decidable p] {m n : Sem α} {Q : α → Shared → Prop} (h1 : wpG M A m Q E s) (h2 : wpG M A n Q E s) : wpG M A (if p then m else n) Q E s := by split <;> assumption
theorem g_get_bind {K : Frag} {C : Addr} {ox : Obj} {od : Option Obj} {g a : Value} {expr : Bool} {Q : Value → Shared → Prop} (X : K.In s.heap) (I : InstAt s.heap x ox C od) (hga : findIn K (.ref C) "__getattribute__" = some (some (.builtin "object.__getattribute__")))
    (hf : findObj K C od name = some (.bind g a)) (hk : findIn K (.ref C) "__getattr__" = some none)
    (h : wpG (model prog w) A.in1 (call g [a, .ref x, .ref C]) (fun v s' => handedIn v = true ∧ Q v s') (fun _ _ => False) { s with toks := s.toks + 1 }) :
    wpG (model prog w) A (getAttr (.ref x) name expr) Q E s := by
  obtain ⟨hh, gg, d, t, os⟩ := s
  have L0 := I.type (M := model prog w)
  have L1 := looks_findIn (M := model prog w) X hga
  have L2 := looks_find (M := model prog w) X I hf
  have L3 := looks_findIn (M := model prog w) X hk
  unfold getAttr getAttrBy
  refine g_bind (g_any (wpAny_mkText (g_holding (g_bind (g_any (L0.at (g_bind (g_any (L1.at ?_)))))))))
  show wpG _ _ (getAttrEveryday _ _ _) _ _ _
  refine g_bind (g_onRaise (g_runValue (cg_builtin rfl F.plainObj_entry_getattr_hooked ?_)))
  refine g_bind (g_pure (g_bind (g_any (L0.at (g_bind (g_any (L2.at (g_bind (g_any (L3.at ?_))))))))))
  show wpG _ _ (holding [a] (call g [a, .ref x, .ref C]) >>= ret) _ _ _
  refine g_bind (g_holding (g_mono h (fun v s' z => g_pure ?_) fun _ _ z => z.elim))
  show wpG _ _ (handedOut v) _ _ _
  rw [handedOut_of z.1]; exact g_pure z.2
theorem handed_out {Q : Option Addr → Shared → Prop} (h : St c S s) (hB : KZ w c.Z) (hx : (x, InsP dx) ∈ S) (hd : (dx, IDicP prog w l) ∈ S) (u : Upd S dx (IDicP prog w l) S) (hq : ∀ s', St c S s' → Q (some dx) s') :
    wpG (model prog w) A (instanceDictHandedOut x) Q E s := by
  obtain ⟨od, hp, I⟩ := inst_atI h hx hd
  have X := h.kq hB
  obtain ⟨cd, hcd, hcdd⟩ := q_cls787 w.params ⟨prog, w.params⟩
  have Lc : Looks (model prog w) s.heap (classData 787) cd := Looks.of_peek X hcd
  have hox := I.at_
  obtain ⟨o, es, ep, ho, hcls, hdi, hda, hks, hpr, hnd⟩ := idic_parts h hd
  unfold instanceDictHandedOut
  refine g_bind ?_
  · unfold instanceDict
    refine g_bind (g_any (wpAny_loadPart hox ?_))
    show wpG _ _ (classData 787 >>= _) _ _ _
    refine g_bind (g_any (Lc.here ?_))
    rw [hcdd]
    refine g_pure ?_
    refine g_bind (g_any (wpAny_loadPart hox ?_))
    have tail : wpG (model prog w) A (update dx (fun o => if o.slots.isEmpty = true then { cls := o.cls, dict := o.dict, data := o.data, slots := #[none] } else o) >>= fun _ => pure (some dx)) Q E s := by
      have hfr : ((fun o : Obj => if o.slots.isEmpty = true then ({ cls := o.cls, dict := o.dict, data := o.data, slots := #[none] } : Obj) else o) o).isFreed = false := by
        dsimp only
        split
        · exact Obj.isFreed_of_dict (o := { cls := o.cls, dict := o.dict, data := o.data, slots := #[none] }) hda
        · exact Obj.isFreed_of_dict hda
      refine g_bind (g_any (wpAny_update ho (g_pure (hq _ (h.set (t := s.toks) u (Heap.SameBut.update ..) ⟨_, Heap.get?_update_self _ ho hfr, ?_⟩)))))
      split
      · exact ⟨es, ep, hcls, hdi, hda, hks, hpr, hnd⟩
      · exact ⟨es, ep, hcls, hdi, hda, hks, hpr, hnd⟩
    refine g_bind ?_
    show wpG _ _ (load dx >>= _) _ _ _
    refine g_bind (g_any (wpAny_load ho ?_))
    refine g_ite2 ?_ ?_
    · exact g_pure tail
    · refine g_bind (g_stack fun st hst => ?_)
      rw [show List.findSome? _ st = none from ?e]
      case e =>
        rw [List.findSome?_eq_none_iff]
        intro y hy
        have := hst y hy
        obtain ⟨c1, p1⟩ := y
        dsimp only
        split
        · simp [isFin] at this
        · rfl
      refine g_bind (g_any ((Looks.of_peek (M := model prog w) X (q_thread _ _)).here ?_))
      exact g_pure tail
theorem get_inst_dict {Q : Value → Shared → Prop} {expr : Bool} (h : St c S s) (hB : KZ w c.Z) (hx : (x, InsP dx) ∈ S) (hd : (dx, IDicP prog w l) ∈ S) (u : Upd S dx (IDicP prog w l) S) (hq : ∀ s', St c S s' → Q (.ref dx) s') :
    wpG (model prog w) A (getAttr (.ref x) "__dict__" expr) Q E s := by
  obtain ⟨od, hp, I⟩ := inst_atI h hx hd
  have X := h.kq hB
  have hfo : findObj (KQ w.params) 787 (some od) "__dict__" = some (.bind (.builtin "getset_descriptor.__get__") (.ref 580)) := by
    obtain ⟨cd, hc', hd'⟩ := any_some (q_hasdict w.params)
    unfold findObj
    rw [hc', Option.bind_some, q_dict, Option.bind_some]
    simp only [q_dget, Option.bind_some, q_dtakes]
  refine g_get_bind X I (q_ga _) hfo (q_gat _) ?_
  have h1 := h.tok (s.toks + 1)
  refine g_call ?_
  have h580 := h1.keep _ _ (hB.k 580 _ (l580 _) (by decide) (by decide))
  have hT5 : Shared.TypeIs { s with toks := s.toks + 1 } (.ref 580) "getset_descriptor" := ⟨_, h580, c580 _⟩
  refine cg_call_bi rfl F.slot_gs_get.plain F.entry_gs_get (F.slot_gs_get.check _ _ _ _ _ _ _ _ hT5 (F.args_gs_get _ _ _) ?_)
  have X1 := h1.kq hB
  obtain ⟨od', hp', I'⟩ := inst_atI h1 hx hd
  have LT := I'.type (M := model prog w)
  show wpG _ _ (Builtin.Getset_descriptor.descrGetter (.ref 580) (some (.ref x))) _ _ _
  unfold Builtin.Getset_descriptor.descrGetter
  refine g_bind ?_
  · unfold Builtin.Getset_descriptor.descrCheckInstance
    refine g_bind ?_
    unfold Builtin.Getset_descriptor.descrNameAndClass
    refine g_bind (g_any (wpAny_field h580 (d580 _) rfl ?_))
    refine g_bind (g_any (wpAny_field h580 (d580 _) rfl (g_pure ?_)))
    have LI : Looks (model prog w) _ (isInstance (.ref x) (.ref 579)) true := LT.andThen (looks_subIn X1 (q_subG _))
    refine g_bind (g_any (LI.here ?_))
    refine g_pure ?_
    refine g_bind (g_any (wpAny_field h580 (d580 _) rfl ?_))
    refine g_bind (g_any (wpAny_rule ?_))
    refine g_bind ?_
    unfold Builtin.Getset_descriptor.descrItself
    refine g_bind (g_any (wpAny_fieldsOf h580 (d580 _) (g_pure ?_)))
    refine g_pure ⟨Code.quiet_builtin _ (by decide +kernel), cg_builtin rfl entry_fdict ?_⟩
    have eu : A.in1.under (.builtin "function.__dict__" ⟨[.ref x], []⟩) = A.in1.in1 := Around.under_plainId (by decide +kernel) _
    show wpG _ (A.in1.under (.builtin "function.__dict__" ⟨[.ref x], []⟩)) _ _ _ _
    rw [eu]
    unfold Builtin.«function.__dict__»
    have LS : Looks (model prog w) _ (isInstance (.ref x) (.type "staticmethod")) false := LT.andThen (looks_subIn X1 (q_subS _))
    have LC : Looks (model prog w) _ (isInstance (.ref x) (.type "classmethod")) false := LT.andThen (looks_subIn X1 (q_subC _))
    have LO : Looks (model prog w) { s with toks := s.toks + 1 }.heap (isInstance (.ref x) (.type "staticmethod") <||> isInstance (.ref x) (.type "classmethod")) false := LS.andThen LC
    refine g_bind (g_any (LO.here ?_))
    show wpG _ _ (instanceDictHandedOut x >>= _) _ _ _
    refine g_bind (handed_out h1 hB hx hd u fun s' h' => ?_)
    exact g_pure ⟨rfl, hq s' h'⟩
end
end
section
open PySem PySem.Calls PyProof.Rows PySem.W PySem.W.X
open Sem (wp)
noncomputable def predAt (at' : List (Str × Value)) (pa : Addr) : List (Str × Value) := at' ++ ([("pred", .ref pa)] : List (Str × Value))
section
variable {prog : Program} {w : World} {A : Around} {E : Value → Shared → Prop} {c : Cfg} {S S' F : List Ent} {s : Shared} {a x dx : Addr} {env : Env} {l : List (Str × Value)} {name : Str} {v : Value}
theorem g_st {st : Stmt} {rest : List Stmt} {M : Model} {Q : Flow → Shared → Prop} (h : wpAny M A (exec st env) (fun f s' => match f with | .next => wpG M A (execs rest env) Q E s' | f => Q f s') E s) : wpG M A (execs (st :: rest) env) Q E s := g_cons_ (g_any h)
theorem enterG {R : Result → Shared → Prop} {a : Addr} {o : Obj} {fd : FuncData} {body : List Stmt} {args : Args} {binds : List (Str × Value)} {l : List (Str × Option Value)} {ns : List Str} {n : Nat}
    (h : St c S s) (hB : Base c.Z) (hA : Room A (n + 1)) (ho : c.Z a = some o) (hdata : o.data = .func fd) (hcd : ZCode c.Z fd.code fd.qualname)
    (hbody : fd.body = .stmts body) (hbind : BindsTo s fd args binds) (hcell : (fd.scope.names.all fun x => x.2 != .cell) = true) (hloc : (binds.all fun x => fd.scope.names.lookup x.1 == some .local) = true)
    (hns : l.map (·.1) = ns) (hok : namesOk fd.scope ns = true) (hl : l.map (·.2) = ns.map (fun x => binds.reverse.lookup x))
    (k : ∀ env s', (∃ L, env = callEnv fd L a) → Room (A.deeper env) n → St c ((env.locals, FrP env l) :: S) s' →
      wpG (model prog w) (A.deeper env) (execs body env) (fun f s' => R (.ok (.ret (match f with | .ret v => v | _ => .none))) s')
        (fun e s' => wpAny (model prog w) (A.deeper env) (leaving env e) (fun _ s'' => R (.error e) s'') (fun e' s'' => R (.error e') s'') s') s')
    (hco : fd.scope.isCoroutine = false) (hgen : fd.scope.isGenerator = false) (hk : fd.scope.kind = .function) :
    codeG (model prog w) A (.call (.ref a) args) R s := by
  refine cg_call_fn hA.deep (h.keep _ _ ho) hdata hco hgen hbody (hcd.cod h) (hbind _ _ _ _ ?_)
  refine wpAny_newFunctionEnv (fun x hx => by simpa using List.all_eq_true.mp hcell x hx) (fun x hx => by simpa using List.all_eq_true.mp hloc x hx) (fun h₀ hns₀ hsb₀ => ?_) hk
  have hk₀ : ∀ b o, s.heap.get? b = some o → h₀.get? b = some o := fun b o e => hsb₀.extBut b o (Nat.ne_of_lt (Heap.lt_size e)) (Heap.get?_push_of_some _ e)
  refine ⟨(h.nolim hB).fresh _ hsb₀, cg_func ?_⟩
  refine k (callEnv fd s.heap.objs.size a) _ ⟨_, rfl⟩ (hA.deeper _) (h.new hk₀ (Nat.le_refl _) ?_)
  refine frp_new (env := callEnv fd s.heap.objs.size a) hns₀ hns hok fun p hp => ?_
  have e : ∀ (l : List (Str × Option Value)) (f : Str → Option Value), l.map (·.2) = (l.map (·.1)).map f → ∀ p ∈ l, f p.1 = p.2 := by
    intro l f
    induction l with
    | nil => intro _ p hp; cases hp
    | cons q l ih =>
      intro e p hp
      simp only [List.map_cons, List.cons.injEq] at e
      rcases List.mem_cons.mp hp with rfl | hp
      · exact e.1.symm
      · exact ih e.2 p hp
  exact e l _ (by rw [hns]; exact hl) p hp
theorem pfun_spec {R : Result → Shared → Prop} {at' : List (Str × Value)} {pa nd sa : Addr} (h : St c S s) (hB : KZ w c.Z) (hA : Room A 4) (hx : (x, InsP dx) ∈ S) (hd : (dx, IDicP prog w at') ∈ S) (hat : GAt at' nd sa pa)
    (hR : ∀ s', St c S s' → R (.ok (.ret (.ref pa))) s') : codeAny (model prog w) A (.call (.ref 629) ⟨[.ref x], []⟩) R s := by
  refine enter (l := [("self", some (.ref x))]) (ns := ["self"]) (binds := [("self", .ref x)]) (n := 3) h hB.toBase hA (hB.k 629 _ rfl (by decide) (by decide)) rfl
    ⟨628, _, _, _, rfl, hB.k 628 _ rfl (by decide) (by decide), rfl, rfl⟩ rfl (BindsTo.of_eq rfl) (by rfl) (by rfl) rfl (by rfl) (by rfl) ?_ rfl rfl rfl
  rintro env s₁ ⟨L, hE⟩ hA₁ h₁
  clear h hE
  kd_p; kd_p
  refine attr_ rfl ?_
  refine ld h₁ (by lk) ?_
  refine get_attrI h₁ hB (mt hx) (mt hd) (by decide) hat.pred rfl fun s₂ h₂ => ?_
  exact hR _ h₂.tailOf
theorem call631 {o : Expr} {apos pos : Pos} {args : List Expr} {of' : Obj} {fd : FuncData} {Q : Value → Shared → Prop} (hB : KZ w c.Z) (hbase : attributeBase o "func" env (eval o env) = eval o env)
    (hfew : args.length < 9) (hline : (apos.endLine == pos.line) = true) (hs : (args.all fun e => match e with | .Starred .. => false | _ => true) = true) (hof : c.Z 629 = some of') (hfd : of'.data = .func fd)
    (k : wpAny (model prog w) A (eval o env) (fun ov s₁ => ov = .ref 631 ∧ ∃ S₁, St c S₁ s₁ ∧ ∀ s₁, St c S₁ s₁ →
      wpAny (model prog w) A (spl args env pos) (fun vs s₂ => (∃ S₂, St c S₂ s₂) ∧ wpAny (model prog w) A (call (.ref 629) vs) Q E s₂) E s₁) E s) :
    wpAny (model prog w) A (eval (.Call (.Attribute o "func" apos) args [] pos) env) Q E s := by
  have hall := back_all (env := env) (pos := pos) hs
  have hform : methodCallForm (args.length + ([] : List Keyword).length) (backTo pos (starEach args env)) (backToKw pos (keywordEach [] env)) = true := by
    show ((backTo pos (starEach args env)).all (fun x => !x.1) && (backToKw pos (keywordEach [] env)).all (fun x => x.1.isSome) && decide (args.length + ([] : List Keyword).length + (if ([] : List Keyword).isEmpty then 0 else 1) < 30)) = true
    simp only [Bool.and_eq_true, decide_eq_true_eq]
    refine ⟨⟨?_, rfl⟩, by simp; lia⟩
    rw [List.all_eq_true]
    intro x hx
    have := List.any_eq_false.mp hall x hx
    simpa using this
  have hpos : methodCallPos true o env apos pos = pure pos := by unfold methodCallPos; simp [hline]
  rw [arm_eval_Call, hbase]
  refine wpAny_bind (wpAny_mono k (fun ov s₁ h₁ => ?_) fun _ _ e => e)
  obtain ⟨rfl, S₁, h₂, k₂⟩ := h₁
  refine wpAny_bind (wpAny_standAt ?_)
  unfold methodCall
  rw [hform]
  refine wpAny_bind (wpAny_holding (method_usual (h₂.kq hB) (at631 h₂ hB) (q_ga288 _) (q_gat288 _) (q_func0 _) rfl (get631 h₂ hB (q_func _) rfl fun s₂ h₃ => ?_)))
  refine wpAny_bind (wpAny_of_eq hpos ?_)
  refine callWith_function (o := of') (fd := fd) (evalArgs_spl hs (wpAny_mono (k₂ s₂ h₃) (fun vs s₃ h₄ => ?_) fun _ _ e => e))
  obtain ⟨⟨S₂, h₅⟩, h₆⟩ := h₄
  exact ⟨⟨h₅.keep _ _ hof, hfd⟩, h₆⟩
theorem wpAny_try_ok {body : List Stmt} {h₀ : ExceptHandler} {hs : List ExceptHandler} {pos : Pos} {Q : Flow → Shared → Prop} (h : wpAny (model prog w) A (execs body env) Q (fun _ _ => False) s) : wpAny (model prog w) A (exec (.Try body (h₀ :: hs) [] [] pos) env) Q E s := by
  refine wpAny_Try_except (wpAny_mono h (fun f s' h' => ?_) fun _ _ q => q.elim)
  cases f <;> first | exact wpAny_execs_nil h' | exact h'
theorem binds_peekQ {fd : FuncData} {args : Args} {binds : List (Str × Value)} (X : (KQ w.params).In s.heap) (e : ∀ S, peek (KQ w.params) S (bindArgs fd args) = some binds) : BindsTo s fd args binds :=
  fun M A E Q hq => Looks.of_peek (M := M) X (e _) A Q E s (fun _ _ h => h) hq
theorem get278_spec {R : Result → Shared → Prop} {at' : List (Str × Value)} {pa nd sa : Addr} (h : St c ((x, InsP dx) :: (dx, IDicP prog w at') :: F) s) (hB : KZ w c.Z) (hA : Room A 8) (hat : GAt at' nd sa pa) (hno : valueAt at' "pred" = none) (hz : at'.length ≤ 100)
    (hR : ∀ s', St c ((x, InsP dx) :: (dx, IDicP prog w (predAt at' pa)) :: F) s' → R (.ok (.ret (.ref pa))) s') : codeG (model prog w) A (.call (.ref 278) ⟨[.ref 631, .ref x, .ref 787], []⟩) R s := by
  refine enterG (l := [("self", some (.ref 631)), ("instance", some (.ref x)), ("owner", some (.ref 787)), ("cache", none), ("kind", none), ("msg", none), ("val", none)]) (ns := ["self", "instance", "owner", "cache", "kind", "msg", "val"]) (binds := [("self", .ref 631), ("instance", .ref x), ("owner", .ref 787)]) (n := 7) h hB.toBase hA (hB.k 278 _ rfl (by decide) (by decide)) rfl
    ⟨277, _, _, _, rfl, hB.k 277 _ rfl (by decide) (by decide), rfl, rfl⟩ rfl (binds_peekQ (h.kq hB) (fun _ => by kernel_rfl)) (by rfl) (by rfl) rfl (by rfl) (by rfl) ?_ rfl rfl rfl
  rintro env s₁ ⟨L, hE⟩ hA₁ h₁
  have ge : GE env ["_NOT_FOUND"] := .of (by rw [hE]; rfl) (by rw [hE]; rfl) (by rw [hE]; rfl)
  clear h hE
  (refine letG ?_; intro Kq Ke; refine g_st ?_; refine letQ1 ?_; intro Kq)
  kd_p
  kd_p
  refine ld h₁ (by lk) ?_
  kd_p
  refine is_none ?_
  kd_p
  refine itf rfl ?_
  kd_p
  (refine letG ?_; intro Kq Ke; refine g_st ?_; refine letQ1 ?_; intro Kq)
  kd_p
  kd_p
  refine attr_ rfl ?_
  refine ld h₁ (by lk) ?_
  refine get631 h₁ hB (q_attrname _) rfl fun s₂ h₂ => ?_
  kd_p
  refine is_none ?_
  kd_p
  refine itf rfl ?_
  kd_p
  (refine letG ?_; intro Kq Ke; refine g_cons_ ?_; refine letG1 ?_; intro Kq)
  refine g_try_ok ?_
  (refine letG ?_; intro Kq Ke; refine g_cons_ ?_; refine letG1 ?_; intro Kq)
  refine g_AssignName ?_ rfl
  refine g_attr rfl ?_
  refine ld h₂ (by lk) ?_
  refine get_inst_dict h₂ hB (x := x) (dx := dx) (by lk) (by lk) (by kt_k) fun s₃ h₃ => ?_
  refine sto h₃ (by room) fun s₄ h₄ => ?_
  refine g_nil_ ?_
  refine g_any ?_
  kd_p
  kd_p
  refine call_meth rfl (by decide) rfl PySem.F.plainAttrs_dict PySem.F.slot_dict_get PySem.F.type_dict_get rfl ?_
  refine ld h₄ (by lk) ?_
  refine ⟨?_, ?_⟩
  · obtain ⟨o, ho, es, ep, hc, hdi, _⟩ := h₄.get (a := dx) (by lk)
    exact ⟨dx, o, rfl, ho, hc, hdi⟩
  refine spl_cons ?_ rfl
  refine attr_ rfl ?_
  refine ld h₄ (by lk) ?_
  refine get631 h₄ hB (q_attrname _) rfl fun s₅ h₅ => ?_
  refine spl_cons ?_ rfl
  refine ldg h₅ hB.toGB ge (by lk) (v := .ref 249) (by lk) ?_
  refine spl_nil ?_
  refine idic_getd h₅ (a := dx) (by lk) hno fun s₆ h₆ => ?_
  refine sto h₆ (by room) fun s₇ h₇ => ?_
  kd_p
  kd_p
  kd_p
  refine ld h₇ (by lk) ?_
  refine ldg h₇ hB.toGB ge (by lk) (v := .ref 249) (by lk) ?_
  refine wpAny_is_ref_self ?_
  kd_p
  refine itt rfl ?_
  kd_p
  kd_p
  refine call631 hB rfl (by decide) rfl rfl (hB.k 629 _ rfl (by decide) (by decide)) rfl ?_
  refine ld h₇ (by lk) ⟨rfl, _, h₇, fun s₈ h₈ => ?_⟩
  refine spl_cons ?_ rfl
  refine ld h₈ (by lk) ?_
  refine spl_nil ⟨⟨_, h₈⟩, ?_⟩
  refine wpAny_call (pfun_spec h₈ hB hA₁.less (x := x) (dx := dx) (by lk) (by lk) hat fun s₉ h₉ => ?_)
  refine sto h₉ (by room) fun s₁₀ h₁₀ => ?_
  kd_p
  refine wpAny_try_ok ?_
  kd_p
  kd_p
  refine ld h₁₀ (by lk) ?_
  refine ld h₁₀ (by lk) ?_
  refine attr_ rfl ?_
  refine ld h₁₀ (by lk) ?_
  refine get631 h₁₀ hB (q_attrname _) rfl fun s₁₁ h₁₁ => ?_
  refine idic_set (l := at') h₁₁ (a := dx) (by lk) hno hz (by kt_k) fun s₁₂ h₁₂ => ?_
  kd_p
  kd_p
  kd_p
  kd_p
  refine ld h₁₂ (by lk) ?_
  exact hR _ h₁₂.tailOf
theorem pred_first {Q : Value → Shared → Prop} {expr : Bool} {at' : List (Str × Value)} {pa nd sa : Addr} (h : St c ((x, InsP dx) :: (dx, IDicP prog w at') :: F) s) (hB : KZ w c.Z) (hA : Room A 9) (hat : GAt at' nd sa pa) (hno : valueAt at' "pred" = none) (hz : at'.length ≤ 100)
    (hq : ∀ s', St c ((x, InsP dx) :: (dx, IDicP prog w (predAt at' pa)) :: F) s' → Q (.ref pa) s') : wpG (model prog w) A (getAttr (.ref x) "pred" expr) Q E s := by
  obtain ⟨od, hp, I⟩ := inst_atI h (x := x) (dx := dx) (by lk) (by lk)
  have hfo : findObj (KQ w.params) 787 (some od) "pred" = some (.bind (.ref 278) (.ref 631)) := by
    obtain ⟨cd, hc', hd'⟩ := any_some (q_hasdict w.params)
    unfold findObj
    have ho : W.ownOf cd (some od) "pred" = some none := by
      unfold W.ownOf
      rw [if_pos hd']
      show lookIn _ od = _
      rw [idic_look hp, hno]
    rw [hc', Option.bind_some, q_pred, Option.bind_some]
    have hcp : copiedNames.contains "pred" = false := by decide +kernel
    simp only [q_get, Option.bind_some, q_takes, ho, hcp, Bool.false_and, Bool.false_eq_true, if_false]
  refine g_get_bind (h.kq hB) I (q_ga _) hfo (q_gat _) (g_call ?_)
  exact get278_spec (h.tok _) hB hA.in1 hat hno hz fun s' h' => ⟨rfl, hq s' h'⟩
theorem predAt_val {at' : List (Str × Value)} {pa : Addr} (hno : valueAt at' "pred" = none) : valueAt (predAt at' pa) "pred" = some (.ref pa) := by
  unfold valueAt at hno ⊢
  unfold predAt
  rw [List.find?_append]
  rw [Option.map_eq_none_iff] at hno
  rw [hno]; rfl
theorem predAt_gat {at' : List (Str × Value)} {pa nd sa : Addr} (hat : GAt at' nd sa pa) : GAt (predAt at' pa) nd sa pa := by
  have key : ∀ n v, valueAt at' n = some v → valueAt (predAt at' pa) n = some v := by
    intro n v h
    unfold valueAt at h ⊢
    unfold predAt
    rw [List.find?_append]
    obtain ⟨p, hp, e⟩ := Option.map_eq_some_iff.mp h
    rw [hp]; exact congrArg some e
  refine ⟨key _ _ hat.node, key _ _ hat.succ, key _ _ hat.pred, fun n hn => ?_⟩
  have h0 := hat.no n hn
  unfold valueAt at h0 ⊢
  unfold predAt
  rw [List.find?_append]
  rw [Option.map_eq_none_iff] at h0
  rw [h0]
  simp only [List.mem_cons, List.not_mem_nil, or_false] at hn
  rcases hn with rfl | rfl | rfl | rfl <;> rfl
inductive AtP (at0 : List (Str × Value)) (pa : Addr) : List (Str × Value) → Prop
  | no : AtP at0 pa at0
  | kept : AtP at0 pa (predAt at0 pa)
theorem pred_get {Q : Value → Shared → Prop} {expr : Bool} {at0 at' : List (Str × Value)} {pa nd sa : Addr} (h : St c ((x, InsP dx) :: (dx, IDicP prog w at') :: F) s) (hB : KZ w c.Z) (hA : Room A 9) (hat : GAt at0 nd sa pa) (hno : valueAt at0 "pred" = none) (hz : at0.length ≤ 100) (hp : AtP at0 pa at')
    (hq : ∀ s', St c ((x, InsP dx) :: (dx, IDicP prog w (predAt at0 pa)) :: F) s' → Q (.ref pa) s') : wpG (model prog w) A (getAttr (.ref x) "pred" expr) Q E s := by
  cases hp with
  | no => exact pred_first h hB hA hat hno hz hq
  | kept => exact g_any (pred_kept h hB (x := x) (dx := dx) (by lk) (by lk) (predAt_val hno) hq)
end
end
section
open PySem PySem.Calls PyProof.Rows PySem.W PySem.W.X
open Sem (wp)
noncomputable def asgVal : Stmt → Expr
  | .Assign _ v _ => v
  | _ => .Constant .none 0 ⟨0, 0, 0, 0⟩
noncomputable def callArg : Expr → Nat → Expr
  | .Call _ args _ _, i => args.getD i (.Constant .none 0 ⟨0, 0, 0, 0⟩)
  | e, _ => e
noncomputable abbrev rgx (P : Params) : Expr := callArg (asgVal (stmtAt (bodyOf (stmtAt (bodyOf (stmtAt (fnBody P 87) 8)) 1)) 0)) 1
noncomputable abbrev rgC (P : Params) (it : Value) (env : Env) : Code := gC (gElt (rgx P)) (gGen (rgx P)).target (gGen (rgx P)).iter (gGen (rgx P)).ifs (gScope (rgx P)) (gPos (rgx P)) it .none env
noncomputable abbrev rgS (P : Params) (it : Value) (env : Env) : Code := .compStart (.GeneratorExp (gElt (rgx P)) [⟨(gGen (rgx P)).target, (gGen (rgx P)).iter, (gGen (rgx P)).ifs, 0⟩] (gScope (rgx P)) (gPos (rgx P))) 0 it .none env
theorem rg_elt (P : Params) : ∃ p, gElt (rgx P) = .Name "v" p := ⟨_, by rfl⟩
theorem rg_tgt (P : Params) : ∃ p, (gGen (rgx P)).target = .Name "v" p := ⟨_, by rfl⟩
theorem rg_ifs (P : Params) : ∃ p1 p2 p3, (gGen (rgx P)).ifs = [.Compare (.Name "v" p1) [.In] [.Name "idom" p2] p3] := ⟨_, _, _, by rfl⟩
noncomputable def RHold (prog : Program) (w : World) (A : Around) (it : Value) (env : Env) (gs : GenState) : Prop :=
  gs = .fresh (rgS w.params it env) ∨ ∃ k ls p cl, gs = .suspended k ls (rgC w.params it env) p [] cl ∧
    ∀ s'' Q, Go prog w A (rgC w.params it env) ((model prog w).den (rgC w.params it env)) [] s'' Q → Go prog w A (rgC w.params it env) (k (.send .none)) [] s'' Q
section
variable {prog : Program} {w : World} {A : Around} {E : Value → Shared → Prop} {c : Cfg} {S S' F : List Ent} {s : Shared} {a : Addr} {env : Env} {ks : List Int} {f : Int → Option Int}
theorem letOwned_name {x : Str} {p : Pos} {it v : Value} {Q : Unit → Shared → Prop} (hq : Q () s) : wpAny (model prog w) A (letOwnedTupleGo (.Name x p) it v) Q E s := wpAny_pure hq
theorem rg_run {it d cI I : Addr} {kvs : List (Int × Value)} {ep : Nat} (hf : FDic prog w c.Z d kvs ep) (hA : Room (A.over (rgC w.params (.ref it) env) []) 2) (hco : env.scope.isCoroutine = false) (hI : Cel env "idom" cI) :
    ∀ (n i : Nat) (vv : Option Value) (s : Shared), kvs.length - i = n → i ≤ kvs.length →
      St c ((env.locals, FrP env [(".0", some (.ref it)), ("v", vv)]) :: (it, KItP d i kvs.length ep) :: (cI, CellP (some (.ref I))) :: (I, DI prog w ks f) :: F) s →
      Go prog w A (rgC w.params (.ref it) env) ((model prog w).den (rgC w.params (.ref it) env)) [] s (fun e s' => ∃ vv,
        ((∀ m p, i ≤ m → (kvs.map (·.1))[m]? = some p → p ∉ ks) ∧ e = .ret (.ok .next) ∧ St c ((env.locals, FrP env [(".0", some (.ref it)), ("v", vv)]) :: (cI, CellP (some (.ref I))) :: (I, DI prog w ks f) :: F) s') ∨
        (∃ j q t ls k p, i ≤ j ∧ (kvs.map (·.1))[j]? = some q ∧ q ∈ ks ∧ (∀ m p, i ≤ m → m < j → (kvs.map (·.1))[m]? = some p → p ∉ ks) ∧ e = .susp (.int q t) false ls k (rgC w.params (.ref it) env) p [] ∧
          (∀ s'' Q, Go prog w A (rgC w.params (.ref it) env) ((model prog w).den (rgC w.params (.ref it) env)) [] s'' Q → Go prog w A (rgC w.params (.ref it) env) (k (.send .none)) [] s'' Q) ∧
          St c ((env.locals, FrP env [(".0", some (.ref it)), ("v", vv)]) :: (it, KItP d (j + 1) kvs.length ep) :: (cI, CellP (some (.ref I))) :: (I, DI prog w ks f) :: F) s')) := by
  obtain ⟨pe, he⟩ := rg_elt w.params
  obtain ⟨pt, ht⟩ := rg_tgt w.params
  obtain ⟨p1, p2, p3, hifs⟩ := rg_ifs w.params
  intro n
  induction n with
  | zero =>
    intro i vv s hn hi h
    refine goLet ?_; intro fs' P'
    have hil : i = kvs.length := by lia
    refine go_genLoop hco fun E' => ?_
    refine fd_end hA.handled h (by w_up) hf (List.getElem?_eq_none (by lia)) fun s₁ h₁ => ?_
    refine ⟨vv, .inl ⟨fun m p hm hp => ?_, rfl, h₁⟩⟩
    rw [List.getElem?_eq_none (by simp; lia)] at hp; cases hp
  | succ n ih =>
    intro i vv s hn hi h
    refine goLet ?_; intro fs' P'
    have hlt : i < kvs.length := by lia
    refine go_genLoop hco fun E' => ?_
    refine fd_next (k := kvs[i].1) (v := kvs[i].2) h (by lk) hf (by simp [hlt]) (by kt_k) fun t s₁ h₁ => ?_
    rw [ht]
    refine letOwned_name ?_
    refine wpAny_assign_Name ?_
    refine sto h₁ (by room) fun s₂ h₂ => ?_
    rw [hifs]
    refine tests_one ?_
    refine wpAny_isTrue_Compare1 ?_ rfl
    refine ld h₂ (by lk) ?_
    refine ldc h₂ hI (by lk) ?_
    refine di_in h₂ (by lk) fun s₃ h₃ => ?_
    kd_p
    have hki : (kvs.map (·.1))[i]? = some kvs[i].1 := by simp [hlt]
    by_cases hin : kvs[i].1 ∈ ks
    · refine itt (by simp [hin]) ?_
      rw [he]
      refine ld h₃ (by lk) ?_
      intro ls k p hk
      refine ⟨_, .inr ⟨i, kvs[i].1, t, ls, k, p, Nat.le_refl _, hki, hin, fun m p hm hm' => absurd hm' (by lia), ?_, ?_, h₃⟩⟩
      · rw [← hifs, ← ht]
        conv => lhs; rw [← he]
      · rw [← hifs, ← ht, ← he] at hk
        exact hk
    · refine itf (by simp [hin]) ?_
      rw [← hifs, ← ht]
      refine (ih (i + 1) _ s₃ (by lia) hlt h₃).mono fun e s' hp' => ?_
      have skip : ∀ {m p}, i ≤ m → ¬ (i + 1 ≤ m) → (kvs.map (·.1))[m]? = some p → p ∉ ks := by
        intro m p hm hm' hp
        have : m = i := by lia
        subst this
        rw [hki] at hp; cases hp; exact hin
      obtain ⟨vv', ⟨q1, q2, q3⟩ | ⟨j, q, t, ls, k, p, r1, r2, r3, r4, r5, r6, r7⟩⟩ := hp'
      · refine ⟨vv', .inl ⟨fun m p hm hp => ?_, q2, q3⟩⟩
        by_cases hm' : i + 1 ≤ m
        · exact q1 m p hm' hp
        · exact skip hm hm' hp
      · refine ⟨vv', .inr ⟨j, q, t, ls, k, p, by lia, r2, r3, fun m p hm hmj hp => ?_, r5, r6, r7⟩⟩
        by_cases hm' : i + 1 ≤ m
        · exact r4 m p hm' hmj hp
        · exact skip hm hm' hp
theorem rg_next {it d cI I a2 : Addr} {kvs : List (Int × Value)} {ep g i : Nat} {y : GenState} {vv : Option Value} {Q : Option Value → Shared → Prop} (hB : Base c.Z) (hf : FDic prog w c.Z d kvs ep) (hA : Room A 4) (hco : env.scope.isCoroutine = false) (hI : Cel env "idom" cI) (hg : g < c.gens.size) (hi : i ≤ kvs.length)
    (hy : RHold prog w A.in1 (.ref it) env y)
    (h : St (setG c g y) ((env.locals, FrP env [(".0", some (.ref it)), ("v", vv)]) :: (it, KItP d i kvs.length ep) :: (cI, CellP (some (.ref I))) :: (I, DI prog w ks f) :: F) s) (hm : (a2, GenP g) ∈ F)
    (hq0 : ∀ vv s', (∀ m p, i ≤ m → (kvs.map (·.1))[m]? = some p → p ∉ ks) → St (setG c g .finished) ((env.locals, FrP env [(".0", some (.ref it)), ("v", vv)]) :: (cI, CellP (some (.ref I))) :: (I, DI prog w ks f) :: F) s' → Q none s')
    (hq1 : ∀ j q t y' vv s', i ≤ j → j < kvs.length → (kvs.map (·.1))[j]? = some q → q ∈ ks → (∀ m p, i ≤ m → m < j → (kvs.map (·.1))[m]? = some p → p ∉ ks) → RHold prog w A.in1 (.ref it) env y' →
      St (setG c g y') ((env.locals, FrP env [(".0", some (.ref it)), ("v", vv)]) :: (it, KItP d (j + 1) kvs.length ep) :: (cI, CellP (some (.ref I))) :: (I, DI prog w ks f) :: F) s' → Q (some (.int q t)) s') :
    wpAny (model prog w) A (pyNext (.ref a2)) Q E s := by
  have e2 : (setG c g y).gens[g]? = some y := by
    show (c.gens.setIfInBounds g y)[g]? = _
    simp [hg]
  refine gen_next hA.handled (h.nolim hB) hA.deep (gen_is h (a := a2) (mt (mt (mt (mt hm))))) (by rw [h.gens]; exact e2) ?_
  have h₁ := h.setG g .running
  rw [setG_setG] at h₁
  have hA1 : Room (A.in1.over (rgC w.params (.ref it) env) []) 2 := ⟨hA.handled, by have := hA.depth; show A.depth + 0 + (1 : Nat) + _ ≤ _; lia, by have := hA.units; show A.units + 1 + 0 + (3 : Nat) + _ ≤ _; lia⟩
  have run := (rg_run (A := A.in1) (c := setG c g .running) hf hA1 hco hI _ i vv _ rfl hi h₁).mono (P' := fun e s₁ => match e with
      | .ret (.ok (.ret .none)) | .ret (.ok .next) => ∀ h' tk, (∀ b o, s₁.heap.get? b = some o → h'.get? b = some o) → Q none { s₁.setGen g .finished with heap := h', toks := tk }
      | .susp v g₀ l k c p fs => Q (some v) (s₁.setGen g (.suspended k l c p fs (g₀ || fs.any Frame.guarded)))
      | _ => False) (by
    intro e s₁ hp
    obtain ⟨vv, ⟨q1, rfl, q3⟩ | ⟨j, q, t, ls, k, p, r1, r2, r3, r4, rfl, r6, r7⟩⟩ := hp
    · intro h' tk hkp
      have := (q3.setG g .finished).more (h' := h') (t := tk) hkp
      rw [setG_setG] at this
      exact hq0 vv _ q1 this
    · have := r7.setG g (.suspended k ls (rgC w.params (.ref it) env) p [] (false || List.any [] Frame.guarded))
      rw [setG_setG] at this
      have hj : j < kvs.length := by
        rcases Nat.lt_or_ge j kvs.length with z | z
        · exact z
        · rw [List.getElem?_eq_none (by simp; lia)] at r2; cases r2
      exact hq1 j q t _ vv _ r1 hj r2 r3 r4 (.inr ⟨k, ls, p, _, rfl, r6⟩) this)
  rcases hy with rfl | ⟨k, ls, p, cl, rfl, hk'⟩
  · refine .inl ⟨_, rfl, go_genStart (fun A' E' Q' hq' => ?_) run⟩
    exact kit_self h₁ (a := it) (by lk) hq'
  · exact .inr ⟨k, ls, _, p, [], cl, rfl, hk' _ _ run⟩
end
end
section
open PySem PySem.Calls PyProof.Rows PySem.W PySem.W.X
open Sem (wp)
theorem kind_reduce : builtinKind "_functools.reduce" = none := by decide +kernel
theorem plain_reduce : plainId "_functools.reduce" = true := by decide +kernel
theorem plain_redloop : plainId "_functools.reduce.loop" = true := by decide +kernel
theorem entry_reduce : entryFor table "_functools.reduce" = some Builtin.«_functools.reduce» := entryFor_of_tree (by kernel_rfl)
theorem entry_redloop : entryFor table "_functools.reduce.loop" = some Builtin.«_functools.reduce.loop» := entryFor_of_tree (by kernel_rfl)
theorem args_reduce2 (a b : Value) : argsOk "_functools.reduce" ⟨[a, b], []⟩ := by unfold argsOk; kernel_rfl
noncomputable def PairP (o : Obj) : Prop := ∃ vs n, o.data = .seq vs n ∧ vs.size = 2
noncomputable def accV : Option (Int × Tok) → List Value
  | none => []
  | some (r, t) => [.int r t]
noncomputable def AccOk (f : Int → Option Int) (ks ps : List Int) (i : Nat) : Option (Int × Tok) → Prop
  | none => ∀ (m : Nat) (q : Int), m < i → ps[m]? = some q → q ∉ ks
  | some (r, _) => r ∈ ks ∧ (∀ (m : Nat) (q : Int), m < i → ps[m]? = some q → q ∈ ks → Anc f q r) ∧ ∀ z, (∀ (m : Nat) (q : Int), m < i → ps[m]? = some q → q ∈ ks → Anc f q z) → Anc f r z
section
variable {prog : Program} {w : World} {A : Around} {E : Value → Shared → Prop} {c : Cfg} {S S' F : List Ent} {s : Shared} {a : Addr} {env : Env} {ks ds : List Int} {f d' : Int → Option Int}
theorem call_entry_code {id : String} {b : Builtin} {args : List Value} {Q : Value → Shared → Prop} (hk : builtinKind id = none) (hp : plainId id = true) (hb : entryFor table id = some b) (ha : argsOk id ⟨args, []⟩)
    (hc : wpAny (model prog w) A.in1 (b ⟨args, []⟩) (fun fin s' => match fin with
      | .done f => (match (Except.ok f : Result) with | .ok (.ret v) => Q v s' | .ok _ => False | .error e => E e s')
      | .again c' => c'.quiet = true ∧ codeAny (model prog w) A c' (fun r s' => match r with | .ok (.ret v) => Q v s' | .ok _ => False | .error e => E e s') s') E s) : wpAny (model prog w) A (call (.builtin id) args) Q E s := by
  refine wpAny_call (codeAny_call_builtin hp hb ?_)
  simp only [checkBuiltinCall, hk]
  cases hsig : Manifest.signature? id with
  | none => exact wpAny_pure hc
  | some sig =>
    simp only [argsOk, hsig] at ha
    have h2 : Bind.checkArgs id sig ⟨args, []⟩ = pure () := ha
    show wpAny _ A.in1 (Bind.checkArgs id sig ⟨args, []⟩) _ _ s
    rw [h2]; exact wpAny_pure hc
theorem pair_set {i : Nat} {v : Value} {Q : Unit → Shared → Prop} (h : St c S s) (hm : (a, PairP) ∈ S) (u : Upd S a PairP S) (hq : ∀ s', St c S s' → Q () s') : wpAny (model prog w) A (updateSeq a (·.setIfInBounds i v)) Q E s := by
  obtain ⟨o, ho, vs, n, hd, hz⟩ := h.get hm
  have hl : (1000 : Nat) ≤ sizeLine := by decide
  obtain ⟨n', hd'⟩ := Obj.data_mapSeq hd (·.setIfInBounds i v)
  refine wpAny_updateSeq ho hd (hq _ (h.set (t := s.toks) u (Heap.SameBut.update ..) ⟨_, Heap.get?_update_self _ ho (Obj.isFreed_of_seq hd'), _, n', hd', by simp [hz]⟩)) (by lia) (by simp; lia)
theorem red_loop {R : Result → Shared → Prop} {it d cI cD I D a2 fa kc p own : Addr} {ct pm : Value} {kvs : List (Int × Value)} {ep g : Nat} {dd : Int → Int} {st : Int} (hB : KZ w c.Z) (hf : FDic prog w c.Z d kvs ep) (hA : Room A 12) (hco : env.scope.isCoroutine = false) (hI : Cel env "idom" cI) (hg : g < c.gens.size)
    (T : Tree st ks dd f) (hds : ∀ x ∈ ks, x ∈ ds) (hd : ∀ x ∈ ks, d' x = some (dd x)) (hex : ∃ q ∈ kvs.map (·.1), q ∈ ks)
    (hR : ∀ r t vv s', NewDom f ks (kvs.map (·.1)) r → St (setG c g .finished) ((p, PairP) :: (own, fun o => o = { cls := .type "tuple", data := .seq [Value.ref fa, .ref a2].toArray }) :: (env.locals, FrP env [(".0", some (.ref it)), ("v", vv)]) :: (cI, CellP (some (.ref I))) :: (I, DI prog w ks f) :: (a2, GenP g) :: (fa, FnP (iFd w.params kc cD cI ct pm)) :: (kc, CodeP iQ) :: (cD, CellP (some (.ref D))) :: (D, DI prog w ds d') :: F) s' → R (.ok (.ret (.int r t))) s') :
    ∀ (n i : Nat) (acc : Option (Int × Tok)) (gs : GenState) (vv : Option Value) (s : Shared), kvs.length - i = n → i ≤ kvs.length → AccOk f ks (kvs.map (·.1)) i acc → RHold prog w A.in1.in1 (.ref it) env gs →
      St (setG c g gs) ((p, PairP) :: (own, fun o => o = { cls := .type "tuple", data := .seq [Value.ref fa, .ref a2].toArray }) :: (env.locals, FrP env [(".0", some (.ref it)), ("v", vv)]) :: (it, KItP d i kvs.length ep) :: (cI, CellP (some (.ref I))) :: (I, DI prog w ks f) :: (a2, GenP g) :: (fa, FnP (iFd w.params kc cD cI ct pm)) :: (kc, CodeP iQ) :: (cD, CellP (some (.ref D))) :: (D, DI prog w ds d') :: F) s →
      codeAny (model prog w) A (.builtin "_functools.reduce.loop" ⟨[.ref p, .ref a2, .ref own] ++ accV acc, []⟩) R s := by
  intro n
  induction n using Nat.strongRecOn with
  | ind n ih =>
  intro i acc gs vv s hn hi hacc hr h
  refine codeAny_builtin entry_redloop ?_
  rw [Around.under_plainId plain_redloop _]
  obtain ⟨oo, hoo, rfl⟩ := h.get (a := own) (by lk)
  have step : wpAny (model prog w) A.in1 (do
      let f := ((← seqItems? (.ref own)).getD #[]).getD 0 .none
      match ← pyNext (.ref a2), accV acc with
      | some x, [] => rule "_functools.reduce.first-item"; again (.builtin "_functools.reduce.loop" ⟨[.ref p, .ref a2, .ref own, x], []⟩)
      | some x, r :: _ =>
        let last := (← seqItems? (.ref p)).getD #[]
        updateSeq p (·.setIfInBounds 0 r)
        letGo [last.getD 0 .none] [x]
        updateSeq p (·.setIfInBounds 1 x)
        letGo [last.getD 1 .none]
        again (.builtin "_functools.reduce.loop" ⟨[.ref p, .ref a2, .ref own, ← call f [r, x]], []⟩)
      | none, r :: _ => ret r
      | none, [] => rule "_functools.reduce.empty"; raiseError "TypeError" "reduce() of empty iterable with no initial value")
      (fun fin s' => match fin with | .done f => R (.ok f) s' | .again c' => c'.quiet = true ∧ codeAny (model prog w) A c' R s') (fun e s' => R (.error e) s') s := by
    refine wpAny_bind (wpAny_seqItems hoo rfl ?_)
    have h' : St (setG c g gs) ((env.locals, FrP env [(".0", some (.ref it)), ("v", vv)]) :: (it, KItP d i kvs.length ep) :: (cI, CellP (some (.ref I))) :: (I, DI prog w ks f) :: (p, PairP) :: (own, fun o => o = { cls := .type "tuple", data := .seq [Value.ref fa, .ref a2].toArray }) :: (a2, GenP g) :: (fa, FnP (iFd w.params kc cD cI ct pm)) :: (kc, CodeP iQ) :: (cD, CellP (some (.ref D))) :: (D, DI prog w ds d') :: F) s := h.sub (by k_is)
    refine wpAny_bind (rg_next (A := A.in1) (a2 := a2) hB.toBase hf hA.in1.less hco hI hg hi hr h' (by lk) (fun vv' s' hnone h₁ => ?_) (fun j q t y' vv' s' hij hj hq hqk hskip hy' h₁ => ?_))
    · cases acc with
      | none =>
        obtain ⟨q, hq1, hq2⟩ := hex
        obtain ⟨m, hm⟩ := List.getElem?_of_mem hq1
        exfalso
        rcases Nat.lt_or_ge m i with hlt | hge
        · exact hacc m q hlt hm hq2
        · exact hnone m q hge hm hq2
      | some rt =>
        obtain ⟨r, t⟩ := rt
        obtain ⟨a1, a2', a3⟩ := hacc
        refine wpAny_pure (hR r t vv' s' ⟨a1, fun q hq hqk => ?_, fun z hz => a3 z fun m q _ hm hqk => hz q (List.mem_of_getElem? hm) hqk⟩ (h₁.sub (by k_is)))
        obtain ⟨m, hm⟩ := List.getElem?_of_mem hq
        rcases Nat.lt_or_ge m i with hlt | hge
        · exact a2' m q hlt hm hqk
        · exact absurd hqk (hnone m q hge hm)
    · have h₂ : St (setG c g y') ((p, PairP) :: (own, fun o => o = { cls := .type "tuple", data := .seq [Value.ref fa, .ref a2].toArray }) :: (env.locals, FrP env [(".0", some (.ref it)), ("v", vv')]) :: (it, KItP d (j + 1) kvs.length ep) :: (cI, CellP (some (.ref I))) :: (I, DI prog w ks f) :: (a2, GenP g) :: (fa, FnP (iFd w.params kc cD cI ct pm)) :: (kc, CodeP iQ) :: (cD, CellP (some (.ref D))) :: (D, DI prog w ds d') :: F) s' := h₁.sub (by k_is)
      cases acc with
      | none =>
        refine wpAny_bind (wpAny_rule (wpAny_pure ⟨plainId_quiet plain_redloop _, ?_⟩))
        refine ih (kvs.length - (j + 1)) (by lia) (j + 1) (some (q, t)) y' vv' s' rfl (by lia) ⟨hqk, fun m q' hm hq' hqk' => ?_, fun z hz => hz j q (Nat.lt_succ_self _) hq hqk⟩ hy' h₂
        rcases Nat.lt_trichotomy m j with z | z | z
        · rcases Nat.lt_or_ge m i with hlt | hge
          · exact absurd hqk' (hacc m q' hlt hq')
          · exact absurd hqk' (hskip m q' hge z hq')
        · subst z; rw [hq] at hq'; cases hq'; exact .refl
        · lia
      | some rt =>
        obtain ⟨r, tr⟩ := rt
        obtain ⟨b1, b2, b3⟩ := hacc
        obtain ⟨o, ho, vs, nn, hdp, hz⟩ := h₂.get (a := p) (by lk)
        refine wpAny_bind (wpAny_seqItems ho hdp ?_)
        refine wpAny_bind (pair_set h₂ (by lk) (by kt_k) fun s₃ h₃ => ?_)
        refine wpAny_bind (wpAny_letGo ?_)
        refine wpAny_bind (pair_set h₃ (by lk) (by kt_k) fun s₄ h₄ => ?_)
        refine wpAny_bind (wpAny_letGo ?_)
        refine wpAny_bind (wpAny_call ?_)
        have h₅ : St (setG c g y') ((fa, FnP (iFd w.params kc cD cI ct pm)) :: (kc, CodeP iQ) :: (cD, CellP (some (.ref D))) :: (cI, CellP (some (.ref I))) :: (D, DI prog w ds d') :: (I, DI prog w ks f) :: (p, PairP) :: (own, fun o => o = { cls := .type "tuple", data := .seq [Value.ref fa, .ref a2].toArray }) :: (env.locals, FrP env [(".0", some (.ref it)), ("v", vv')]) :: (it, KItP d (j + 1) kvs.length ep) :: (a2, GenP g) :: F) s₄ := h₄.sub (by k_is)
        refine isect_spec (prog := prog) (w := w) (A := A.in1) (T := T) h₅ hB hA.in1.less hds hd b1 hqk fun r' t' s₆ hnca hrk h₆ => ?_
        refine wpAny_pure ⟨plainId_quiet plain_redloop _, ?_⟩
        refine ih (kvs.length - (j + 1)) (by lia) (j + 1) (some (r', t')) y' vv' s₆ rfl (by lia) ⟨hrk, fun m q' hm hq' hqk' => ?_, fun z hz' => ?_⟩ hy' (h₆.sub (by k_is))
        · rcases Nat.lt_trichotomy m j with z | z | z
          · rcases Nat.lt_or_ge m i with hlt | hge
            · exact (b2 m q' hlt hq' hqk').trans hnca.1
            · exact absurd hqk' (hskip m q' hge z hq')
          · subst z; rw [hq] at hq'; cases hq'; exact hnca.2.1
          · lia
        · refine hnca.2.2 z (b3 z fun m q' hm hq' hqk' => hz' m q' (by lia) hq' hqk') (hz' j q (Nat.lt_succ_self _) hq hqk)
  cases acc with
  | none => exact step
  | some rt => exact step
end
end
section
open PySem PySem.Calls PyProof.Rows PySem.W PySem.W.X
open Sem (wp)
structure Cg (c c' : Cfg) : Prop where
  z : c'.Z = c.Z
  drawn : c'.drawn = c.drawn
  os : c'.os = c.os
  sz : c.gens.size ≤ c'.gens.size
  old : ∀ i, i < c.gens.size → c'.gens[i]? = c.gens[i]?
  new : ∀ i y, c.gens.size ≤ i → c'.gens[i]? = some y → y = .finished
theorem Cg.refl (c : Cfg) : Cg c c := ⟨rfl, rfl, rfl, Nat.le_refl _, fun _ _ => rfl, fun i y h e => by rw [Array.getElem?_eq_none h] at e; cases e⟩
theorem Cg.trans {a b c : Cfg} (x : Cg a b) (y : Cg b c) : Cg a c := by
  refine ⟨y.z.trans x.z, y.drawn.trans x.drawn, y.os.trans x.os, Nat.le_trans x.sz y.sz, fun i h => (y.old i (Nat.lt_of_lt_of_le h x.sz)).trans (x.old i h), fun i g h e => ?_⟩
  rcases Nat.lt_or_ge i b.gens.size with q | q
  · rw [y.old i q] at e; exact x.new i g h e
  · exact y.new i g q e
theorem setG_fresh {c : Cfg} {x : GenState} : setG (addGen c x) c.gens.size x = addGen c x := by
  unfold setG addGen
  dsimp only
  congr 1
  apply Array.ext_getElem?
  intro i
  simp only [Array.getElem?_setIfInBounds, Array.size_push]
  by_cases h : c.gens.size = i
  · subst h; simp
  · simp [h]
theorem cg_one {c : Cfg} {x : GenState} : Cg c (setG (addGen c x) c.gens.size .finished) := by
  refine ⟨rfl, rfl, rfl, by show _ ≤ ((c.gens.push x).setIfInBounds _ _).size; simp, fun i h => ?_, fun i y h e => ?_⟩
  · show ((c.gens.push x).setIfInBounds c.gens.size .finished)[i]? = _
    rw [Array.getElem?_setIfInBounds, if_neg (by lia), Array.getElem?_push, if_neg (by lia)]
  · have e : ((c.gens.push x).setIfInBounds c.gens.size .finished)[i]? = some y := e
    rw [Array.getElem?_setIfInBounds] at e
    by_cases q : c.gens.size = i
    · subst q; simp at e; exact e.symm
    · rw [if_neg q, Array.getElem?_push, if_neg (by lia), Array.getElem?_eq_none h] at e; cases e
theorem cg_two {c : Cfg} {x y : GenState} : Cg c (cfg2 (addGen (addGen c x) y) c.gens.size (c.gens.size + 1) .finished .finished) := by
  refine ⟨rfl, rfl, rfl, by show _ ≤ ((((c.gens.push x).push y).setIfInBounds _ _).setIfInBounds _ _).size; simp; lia, fun i h => ?_, fun i g h e => ?_⟩
  · show ((((c.gens.push x).push y).setIfInBounds c.gens.size .finished).setIfInBounds (c.gens.size + 1) .finished)[i]? = _
    rw [Array.getElem?_setIfInBounds, if_neg (by lia), Array.getElem?_setIfInBounds, if_neg (by lia), Array.getElem?_push, if_neg (by simp; lia), Array.getElem?_push, if_neg (by lia)]
  · have e : ((((c.gens.push x).push y).setIfInBounds c.gens.size .finished).setIfInBounds (c.gens.size + 1) .finished)[i]? = some g := e
    rw [Array.getElem?_setIfInBounds] at e
    by_cases q : c.gens.size + 1 = i
    · subst q; simp at e; exact e.symm
    · rw [if_neg q, Array.getElem?_setIfInBounds] at e
      by_cases q' : c.gens.size = i
      · subst q'; simp at e; exact e.2.symm
      · rw [if_neg q', Array.getElem?_push, if_neg (by simp; lia), Array.getElem?_push, if_neg (by lia), Array.getElem?_eq_none h] at e; cases e
section
variable {prog : Program} {w : World} {A : Around} {E : Value → Shared → Prop} {c : Cfg} {S S' F : List Ent} {s : Shared} {a : Addr} {env : Env} {ks ds : List Int} {f d' : Int → Option Int}
theorem reduce_call {it d cI cD I D a2 fa kc : Addr} {ct pm : Value} {kvs : List (Int × Value)} {ep : Nat} {dd : Int → Int} {st : Int} {vv : Option Value} {Q : Value → Shared → Prop} (hB : KZ w c.Z) (hf : FDic prog w c.Z d kvs ep) (hA : Room A 13) (hco : env.scope.isCoroutine = false) (hI : Cel env "idom" cI)
    (T : Tree st ks dd f) (hds : ∀ x ∈ ks, x ∈ ds) (hd : ∀ x ∈ ks, d' x = some (dd x)) (hex : ∃ q ∈ kvs.map (·.1), q ∈ ks)
    (h : St (addGen c (.fresh (rgS w.params (.ref it) env))) ((a2, GenP c.gens.size) :: (env.locals, FrP env [(".0", some (.ref it)), ("v", vv)]) :: (it, KItP d 0 kvs.length ep) :: (cI, CellP (some (.ref I))) :: (I, DI prog w ks f) :: (fa, FnP (iFd w.params kc cD cI ct pm)) :: (kc, CodeP iQ) :: (cD, CellP (some (.ref D))) :: (D, DI prog w ds d') :: F) s)
    (hq : ∀ r t c' s', NewDom f ks (kvs.map (·.1)) r → Cg c c' → St c' ((cI, CellP (some (.ref I))) :: (I, DI prog w ks f) :: (fa, FnP (iFd w.params kc cD cI ct pm)) :: (kc, CodeP iQ) :: (cD, CellP (some (.ref D))) :: (D, DI prog w ds d') :: F) s' → Q (.int r t) s') :
    wpAny (model prog w) A (call (.builtin "_functools.reduce") [.ref fa, .ref a2]) Q E s := by
  refine call_entry_code kind_reduce plain_reduce entry_reduce (args_reduce2 _ _) ?_
  unfold Builtin.«_functools.reduce»
  refine wpAny_bind (m := someArgs _ _ _ _) (wpAny_pure ?_)
  refine wpAny_bind (wpAny_tryCatch (wpAny_pyIter_gen (gen_is h (a := a2) (by lk)) ?_))
  refine wpAny_bind (wpAny_holding (wpAny_newTuple ?_))
  have h₁ := h.push (t := s.toks) (P := PairP) { cls := .type "tuple", data := .seq [rawInt 0, rawInt 0].toArray } rfl ⟨_, _, rfl, rfl⟩
  refine wpAny_bind (wpAny_holding (wpAny_newTuple ?_))
  have h₂ := h₁.push (t := s.toks) (P := fun o => o = { cls := .type "tuple", data := .seq [Value.ref fa, .ref a2].toArray }) { cls := .type "tuple", data := .seq [Value.ref fa, .ref a2].toArray } rfl rfl
  refine wpAny_pure ⟨plainId_quiet plain_redloop _, ?_⟩
  rw [← setG_fresh] at h₂
  refine red_loop (c := addGen c (.fresh (rgS w.params (.ref it) env))) (g := c.gens.size) (acc := none) (gs := .fresh (rgS w.params (.ref it) env)) (prog := prog) (w := w) (T := T) hB hf hA.less hco hI (by show _ < (c.gens.push _).size; simp) hds hd hex (fun r t vv s' hN h' => ?_) _ 0 vv _ rfl (Nat.zero_le _) (fun m q hm => absurd hm (Nat.not_lt_zero _)) (.inl rfl) (h₂.sub (by k_is))
  exact hq r t _ s' hN cg_one (h'.sub (by k_is))
theorem g_make {elt target iter : Expr} {ifs : List Expr} {scope : Scope} {pos : Pos} {cl : List (Str × Addr)} {cd P : Addr} {T : Array Value → Prop} {gs : List Str} {l : List (Str × Option Value)} {Q : Value → Shared → Prop} (hB : GB c.Z) (ge : GE env gs) (hA : A.depth < recursionLimit)
    (hc : env.code = .ref cd) (hz : CodeZ c.Z cd P) (hT : ∀ ps v, T ps → codeAmong pos ps.toList = none → T (ps ++ #[rawInt pos.line, rawInt pos.col, v]))
    (hco : scope.isCoroutine = false) (hclos : closureFor scope env = pure cl) (hcell : (scope.names.all fun x => x.2 != .cell) = true) (h0 : scope.names.lookup (".0" : Str) = some NameKind.local) (hns : namesOk scope (".0" :: l.map (·.1)) = true) (hl : (l.all fun p => p.2.isNone && p.1 != (".0" : Str)) = true)
    (hs : ∀ x, genFold iter env x = pure x)
    (h : wpG (model prog w) A (eval iter env) (fun xv s₁ => wpAny (model prog w) A (pyIter xv) (fun it s₂ => ∃ S₂, St c S₂ s₂ ∧ (P, TabP T) ∈ S₂ ∧
      ∀ cenv a2 s', cenv.globals = mainGlobals → cenv.builtins = builtinsNs → cenv.cells = cl → cenv.scope = scope →
        St (addGen c (.fresh (.compStart (.GeneratorExp elt [⟨target, iter, ifs, 0⟩] scope pos) 0 it .none cenv))) ((a2, GenP c.gens.size) :: (cenv.locals, FrP cenv ((".0", some it) :: l)) :: S₂) s' → Q (.ref a2) s') E s₁) E s) :
    wpG (model prog w) A (eval (.GeneratorExp elt [⟨target, iter, ifs, 0⟩] scope pos) env) Q E s := by
  have hk : scope.kind = .function := by simp only [namesOk, Bool.and_eq_true, decide_eq_true_eq] at hns; exact hns.2
  rw [eval_GeneratorExp1 _ _ _ _ _ _ _ hco, hclos]
  refine g_bind (g_mono h (fun xv s₁ h₁ => ?_) fun _ _ e => e)
  refine g_any ?_
  refine wpAny_bind (wpAny_standAt ?_)
  refine wpAny_bind (wpAny_of_eq (hs xv) ?_)
  refine wpAny_bind (wpAny_holding (wpAny_mono h₁ (fun it s₂ h₂ => ?_) fun _ _ e => e))
  obtain ⟨S₂, h₃, hm, k⟩ := h₂
  refine wpAny_bind (wpAny_enterFrame (h₃.nolim hB.toBase) hA ?_)
  refine wpAny_bind (wpAny_pure ?_)
  refine wpAny_bind (gx_code hc h₃ hz hm hT fun code s₃ h₄ => ?_)
  refine wpAny_bind (bi_for h₄ hB ge ?_)
  have hbinds : ∀ y ∈ ([((".0" : Str), it)] : List (Str × Value)), scope.names.lookup y.1 = some NameKind.local := by
    intro y hy
    rcases List.mem_cons.mp hy with rfl | hy
    · exact h0
    · cases hy
  refine wpAny_bind (wpAny_newFunctionEnv (fun x hx => by simpa using List.all_eq_true.mp hcell x hx) hbinds (fun h' hns' hsb => ?_) hk)
  have h₅ : St c ((s₃.heap.objs.size, FrP (genEnv scope cl s₃.heap.objs.size code builtinsNs env) ((".0", some it) :: l)) :: S₂) { s₃ with heap := h', toks := s₃.toks + 1 } := by
    refine h₄.new (fun b o e => hsb.extBut b o (Nat.ne_of_lt (Heap.lt_size e)) (Heap.get?_push_of_some _ e)) (Nat.le_refl _) ?_
    refine frp_new (env := genEnv scope cl s₃.heap.objs.size code builtinsNs env) hns' (by simp) hns fun p hp => ?_
    rcases List.mem_cons.mp hp with rfl | hp
    · simp
    · have := List.all_eq_true.mp hl p hp
      simp only [Bool.and_eq_true, bne_iff_ne] at this
      have hne : (p.1 == (".0" : Str)) = false := by simpa using this.2
      simp only [List.reverse_cons, List.reverse_nil, List.nil_append, List.lookup_cons, hne, List.lookup_nil]
      cases q : p.2 with
      | none => rfl
      | some _ => rw [q] at this; cases this.1
  simp only [newGenerator, newFields]
  refine wpAny_bind (wpAny_newGen (wpAny_bind (wpAny_mkText (wpAny_bind (wpAny_mkText (wpAny_newObj_type ?_ (by size_fits)))))))
  have h₆ := (h₅.push (P := GenP c.gens.size) (t := s₃.toks + 1 + 1 + 1) { cls := .type "generator", data := .fields #[.int s₃.gens.size 0, .str "<genexpr>" (s₃.toks + 1), .str (env.qual ++ "<genexpr>") (s₃.toks + 1 + 1)] } rfl ⟨rfl, ⟨_, _, by rw [h₄.gens]⟩, rfl⟩).addGen
    (.fresh (.compStart (.GeneratorExp elt [⟨target, iter, ifs, 0⟩] scope pos) 0 it .none (genEnv scope cl s₃.heap.objs.size code builtinsNs env)))
  exact k (genEnv scope cl s₃.heap.objs.size code builtinsNs env) _ _ ge.g rfl rfl rfl h₆
theorem enterCG {R : Result → Shared → Prop} {a : Addr} {o : Obj} {fd : FuncData} {body : List Stmt} {vals : List Value} {binds : List (Str × Value)} {l lc : List (Str × Option Value)} {ns : List Str} {n : Nat}
    (h : St c S s) (hB : Base c.Z) (hA : Room A (n + 1)) (ho : c.Z a = some o) (hdata : o.data = .func fd) (hcd : ZCode c.Z fd.code fd.qualname)
    (hbody : fd.body = .stmts body) (hbind : bindArgs fd ⟨vals, []⟩ = pure binds) (hclo : fd.closure = []) (hcell : cellsOk fd.scope binds = true)
    (hns : l.map (·.1) = ns) (hok : namesOk fd.scope ns = true)
    (hl : l.map (·.2) = ns.map (bindL (callEnvC fd 0 a).kindOf binds fun _ => none))
    (hlc : lc.map (·.1) = (cellsFrom 0 fd.scope.names []).map (·.1)) (hlc' : lc.map (·.2) = (lc.map (·.1)).map (bindC (callEnvC fd 0 a).kindOf binds fun _ => none)) (hnd : decide ((lc.map (·.1)).Nodup) = true)
    (k : ∀ L env s', env = callEnvC fd L a → Room (A.deeper env) n → St c ((env.locals, FrP env l) :: (List.zipWith (fun p q => (q.2, CellP p.2)) lc (cellsFrom (L + 1) fd.scope.names []) ++ S)) s' →
      wpG (model prog w) (A.deeper env) (execs body env) (fun f s' => R (.ok (.ret (match f with | .ret v => v | _ => .none))) s')
        (fun e s' => wpAny (model prog w) (A.deeper env) (leaving env e) (fun _ s'' => R (.error e) s'') (fun e' s'' => R (.error e') s'') s') s')
    (hco : fd.scope.isCoroutine = false) (hgen : fd.scope.isGenerator = false) (hk : fd.scope.kind = .function) :
    codeG (model prog w) A (.call (.ref a) ⟨vals, []⟩) R s := by
  have hnd := of_decide_eq_true hnd
  refine cg_call_fn hA.deep (h.keep _ _ ho) hdata hco hgen hbody (hcd.cod h) ?_
  rw [hbind, hclo]
  refine wpAny_pure (wpAny_newFunctionEnv_cells hk (fun x hx => ?_) fun env he s' x => ?_)
  · have := List.all_eq_true.mp hcell x hx
    simp only [Bool.or_eq_true, Bool.and_eq_true, beq_iff_eq] at this
    exact this.imp id fun e => ⟨e.1, cellsFrom_isSome _ _ _ _ _ id e.2⟩
  · subst he
    exact ⟨(h.nolim hB).keeps x.toInCall.keep, cg_func (k s.heap.objs.size _ _ rfl (hA.deeper _) (inC_st h hns hok hl hlc hlc' hnd x))⟩
end
end
section
open PySem PySem.Calls PyProof.Rows PySem.W PySem.W.X
open Sem (wp)
section
variable {prog : Program} {w : World} {A : Around} {E : Value → Shared → Prop} {c : Cfg} {S S' F : List Ent} {s : Shared} {a : Addr}
theorem notIn_ {M : Model} {K : Frag} {C f x : Addr} {v : Value} {ox : Obj} {od : Option Obj} {Q : Value → Shared → Prop} (X : K.In s.heap) (I : InstAt s.heap x ox C od) (hs : findIn K (.ref C) "__contains__" = some (some (.ref f))) (hf : isFn K (.ref f) = true)
    (h : wpAny M A (call (.ref f) [.ref x, v]) (fun r s' => wpAny M A (truthy r) (fun b => Q (.bool (!b))) E s') E s) : wpAny M A (compareOp .NotIn v (.ref x)) Q E s := by
  refine wpAny_bind ?_
  unfold contains
  refine wpAny_holding (wpAny_bind (wpAny_bind (I.type.here ((looks_findIn X hs).here ?_))))
  rw [if_neg (by simp)]
  refine wpAny_bind (unlessNone_K X I hs hf ?_)
  exact wpAny_mono h (fun _ _ z => wpAny_mono z (fun _ _ z => wpAny_pure z) fun _ _ z => z) fun _ _ z => z
noncomputable def idx (o : List Int) (x : Int) : Int := ((o.findIdx fun y => decide (y = x) : Nat) : Int)
theorem idx_get {o : List Int} (hn : o.Nodup) {i : Nat} (hi : i < o.length) : idx o o[i] = i := by
  unfold idx
  congr 1
  induction o generalizing i with
  | nil => simp at hi
  | cons y r ih =>
    rw [List.nodup_cons] at hn
    cases i with
    | zero => simp [List.findIdx_cons]
    | succ i =>
      have hi' : i < r.length := by simpa using hi
      have hne : ¬ y = r[i] := fun e => hn.1 (e ▸ List.getElem_mem hi')
      simp only [List.findIdx_cons, List.getElem_cons_succ, hne, decide_false, cond_false]
      rw [ih hn.2 hi']
theorem ints_snoc {n : Int} : ∀ {ns : List Int} {vs : List Value}, IntsAre vs (ns ++ [n]) → ∃ vs' t, vs = vs' ++ [.int n t] ∧ IntsAre vs' ns
  | [], vs, h => by
    cases h with
    | cons n t h => cases h; exact ⟨[], t, rfl, .nil⟩
  | m :: ns, vs, h => by
    cases h with
    | cons n t h =>
      obtain ⟨vs', t', rfl, h'⟩ := ints_snoc h
      exact ⟨.int m t :: vs', t', rfl, .cons _ _ h'⟩
theorem ints_rev {vs : List Value} {ns : List Int} (h : IntsAre vs ns) : IntsAre vs.reverse ns.reverse := by
  induction h with
  | nil => exact .nil
  | cons n t h ih => rw [List.reverse_cons, List.reverse_cons]; exact ih.append (.cons _ _ .nil)
theorem intlp_upd {ns : List Int} (h : St c S s) (hm : (a, IntLP ns) ∈ S) : ∃ vs, IntsAre vs ns ∧ ∀ S', Upd S a (LstP vs) S' → St c S' s := by
  obtain ⟨o, ho, vs, hl, hi⟩ := h.get hm
  exact ⟨vs, hi, fun S' u => h.at_ (P' := LstP vs) u ⟨o, ho, hl⟩⟩
theorem idom_head {Q : Flow → Shared → Prop} {env : Env} {rest : List Stmt} {L0 : Addr} {x dx nd sa pa : Addr} {at' : List (Str × Value)} {ks : List Int} {su pr : Int → List Int} {st : Int} {ts : Tok} {l : List (Int × Bool)} {L : List Int}
    (hB : KZ w c.Z) (hA : Room A 31) (hg : FGr prog w c.Z nd sa pa ks su pr) (hat : GAt at' nd sa pa) (hks : ks.Nodup) (hz : ks.length ≤ 50) (hsu : ∀ k ∈ ks, ∀ y ∈ su k, y ∈ ks) (hst : st ∈ ks) (hT : Tr su st [(st, 0)] [st] l)
    (hL : outL l = L.reverse ++ [st]) (hnd : (outL l).Nodup) (hlen : (outL l).length ≤ 50)
    (ge : GE env ["dfs_postorder_nodes", "NetworkXError", "list", "enumerate", "reduce"]) (hcs : env.cells = ([("idom", L0 + 2), ("dfn", L0 + 1)] : List (Str × Addr)))
    (kI : env.kindOf "idom" = some .cell) (kD : env.kindOf "dfn" = some .cell) (hint : interactive env = false)
    (h : St c ((env.locals, FrP env [("G", some (.ref x)), ("start", some (.int st ts)), ("order", none), ("u", none), ("intersect", none), ("changed", none), ("new_idom", none)]) :: (L0 + 2, CellP none) :: (L0 + 1, CellP none) :: (x, InsP dx) :: (dx, IDicP prog w at') :: (43, TabP TT) :: F) s)
    (k : ∀ ol I D c' s', Cg c c' → St c' ((env.locals, FrP env [("G", some (.ref x)), ("start", some (.int st ts)), ("order", some (.ref ol)), ("u", none), ("intersect", none), ("changed", none), ("new_idom", none)]) :: (ol, IntLP L) :: (L0 + 1, CellP (some (.ref D))) :: (L0 + 2, CellP (some (.ref I))) ::
        (D, DI prog w (outL l) (fun y => some (idx (outL l) y))) :: (I, DI prog w [st] (fun _ => none)) :: (x, InsP dx) :: (dx, IDicP prog w at') :: (43, TabP TT) :: F) s' → wpG (model prog w) A (execs rest env) Q E s') :
    wpG (model prog w) A (execs (stmtAt (fnBody w.params 87) 0 :: stmtAt (fnBody w.params 87) 1 :: stmtAt (fnBody w.params 87) 2 :: stmtAt (fnBody w.params 87) 3 :: stmtAt (fnBody w.params 87) 4 :: stmtAt (fnBody w.params 87) 5 :: rest) env) Q E s := by
  have hI : Cel env "idom" (L0 + 2) := .of hcs ge.kind (.inl kI) rfl (by decide)
  have hD : Cel env "dfn" (L0 + 1) := .of hcs ge.kind (.inl kD) rfl (by decide)
  (refine letG ?_; intro Kq Ke; refine g_st ?_; refine letQ1 ?_; intro Kq)
  show wpAny _ _ (exec (.If _ _ _ _) env) _ _ _
  kd_p
  kd_p
  refine ld h (by lk) ?_
  refine ld h (by lk) ?_
  obtain ⟨od, q1, q2⟩ := inst_atI h (x := x) (dx := dx) (by lk) (by lk)
  refine notIn_ (f := 374) (h.kk hB) q2 (by kernel_rfl) (by kernel_rfl) ?_
  refine wpAny_call (contains_spec h hB ⟨hA.handled, by have := hA.depth; lia, by have := hA.units; lia⟩ (x := x) (by lk) (by lk) hat hg fun s₂ h₂ => ?_)
  refine wpAny_truthy_bool ?_
  kd_p
  refine itf (by simp [hst]) ?_
  kd_p
  (refine letG ?_; intro Kq Ke; refine g_st ?_; refine letQ1 ?_; intro Kq)
  show wpAny _ _ (exec (.Assign [.Name _ _] (.Dict _ _ _) _) env) _ _ _
  kd_p
  refine wpAny_Dict_pairs (knd := intKind prog w) (pairs := [(_, _)]) (by exact rfl) (by simp) (by simp) ?_
  have h₃ := h₂.push (t := s₂.toks) (P := EmpP) emptyDict rfl rfl
  refine evalPairs_cons ?_
  refine ld (h₃.perm (.swap ..)) (by lk) ?_
  refine kw_at ?_
  kd_p
  refine evalPairs_nil ?_
  have h₄ := h₃.sub (.cons (a := s₂.heap.objs.size) .head (emp_dic (prog := prog) (w := w)) .refl)
  refine ⟨[(st, .none)], ⟨by simp [intKind, Value.isInt], rfl, trivial⟩, dic_of h₄ (by lk), fun h' hd hs => ?_⟩
  have h₅ := fun (tk : Nat) => h₄.set (t := tk) (P' := DI prog w [st] (fun _ => none)) (by kt_k) hs (by
    obtain ⟨o, ho, hp⟩ := dicP_of hd
    exact ⟨o, ho, _, hp, rfl, fun k v hm => by
      rcases List.mem_cons.mp hm with e | e
      · cases e; rfl
      · cases e⟩)
  generalize s₂.heap.objs.size = I at h₅
  refine stoc ((h₅ _).perm (.swap ..)) kI hI (by lk) (by kt_k) fun s₆ h₆ => ?_
  clear h₅ h₄ h₃ hd hs
  (refine letG ?_; intro Kq Ke; refine g_st ?_; refine letQ1 ?_; intro Kq)
  show wpAny _ _ (exec (.Assign [.Name _ _] (.Call (.Name _ _) [.Call (.Name _ _) _ _ _] _ _) _) env) _ _ _
  kd_p
  refine call_ty h₆ hB.toGB ge (by lk) (by lk) rfl ?_
  refine spl_cons ?_ rfl
  refine call_fn h₆ hB.toGB ge (by lk) (fa := 48) (by lk) (hB.k 48 _ rfl (by decide) (by decide)) rfl rfl ?_
  refine spl_cons (ld h₆ (by lk) ?_) rfl
  refine spl_cons (ld h₆ (by lk) ?_) rfl
  refine spl_nil ?_
  refine ⟨⟨_, h₆⟩, wpAny_call ?_⟩
  have h₇ := h₆.sub (S' := (x, InsP dx) :: (dx, IDicP prog w at') :: (43, TabP TT) :: _) (.cons (a := x) (by w_up) (fun _ q => q) (.cons (a := dx) (by w_up) (fun _ q => q) (.cons (a := 43) (by w_up) (fun _ q => q) .refl)))
  refine post_spec h₇ hB ⟨hA.handled, by have := hA.depth; lia, by have := hA.units; lia⟩ hg hat hks hz hsu hst hT fun e1 a2 cenv Gp gs1 gs2 s₈ hco hk hX hY h₈ => ?_
  rw [cfg2_start] at h₈
  refine spl_nil ?_
  refine list_gx (c₀ := addGen (addGen c gs1) gs2) hB ⟨hA.handled, by have := hA.depth; lia, by have := hA.units; lia⟩ hco hk (by lia) (by show _ < ((c.gens.push _).push _).size; simp; lia) (by show _ < ((c.gens.push _).push _).size; simp) (fun A' h => dhold_z (hX A' h) (fun _ _ e => e)) hY (by show (outL l).length ≤ 900; lia) h₈ fun b s₉ h₉ => ?_
  have hcg : Cg c (cfg2 (addGen (addGen c gs1) gs2) c.gens.size (c.gens.size + 1) .finished .finished) := cg_two
  generalize cfg2 (addGen (addGen c gs1) gs2) c.gens.size (c.gens.size + 1) .finished .finished = c₁ at h₉ hcg
  simp only [List.cons_append, List.nil_append] at h₉
  replace h₉ := h₉.sub (.cons (a := env.locals) (by w_up) (fun _ q => q) .refl)
  refine sto h₉ (by room) fun s₁₀ h₁₀ => ?_
  clear h₉ h₈ h₇ h₆
  have hB1 : KZ w c₁.Z := by rw [hcg.z]; exact hB
  have eo : outL ((st, false) :: l) = outL l := rfl
  rw [eo] at h₁₀
  (refine letG ?_; intro Kq Ke; refine g_st ?_; refine letQ1 ?_; intro Kq)
  show wpAny _ _ (exec (.Assign [.Name _ _] (.DictComp _ _ [⟨_, _, [], 0⟩] _ _) _) env) _ _ _
  refine wpAny_Assign_Name ?_ ?hs
  case hs =>
    unfold swapsWith
    dsimp only
    have hsw : ∀ b, (b && (some NameKind.cell == some NameKind.local)) = false := fun b => by cases b <;> rfl
    rw [kD, hsw]
    rfl
  refine dictcomp_st (c := c₁) (l := [("i", none), ("u", none)]) (cl := []) (fun _ => rfl) (closure_of hcs rfl) rfl rfl (by rfl) rfl ?_
  refine call_ty h₁₀ hB1.toGB ge (by lk) (by lk) rfl ?_
  refine spl_cons ?_ rfl
  refine ld h₁₀ (by lk) ?_
  refine spl_nil ?_
  obtain ⟨vs, hvl, hvi⟩ := intlp_list h₁₀ (a := b) (by lk)
  refine call_enum h₁₀ hvl fun e it s₁₁ h₁₁ => ?_
  refine enum_self h₁₁ (a := e) (by lk) ⟨_, h₁₁, fun cenv D s₁₂ hC h₁₂ => ?_⟩
  refine dictcomp_start (fun E' Q' hq => enum_self h₁₂ (a := e) (by lk) hq) ?_
  let T : List Ent := (env.locals, FrP env [("G", some (.ref x)), ("start", some (.int st ts)), ("order", some (.ref b)), ("u", none), ("intersect", none), ("changed", none), ("new_idom", none)]) :: (b, IntLP (outL l)) :: (L0 + 2, CellP (some (.ref I))) :: (L0 + 1, CellP none) :: (I, DI prog w [st] (fun _ => none)) :: (x, InsP dx) :: (dx, IDicP prog w at') :: (43, TabP TT) :: F
  refine dictcomp_loop (outL l).length (fun i s => ∃ vi vu, St c₁ ((e, EnuP it i) :: (it, LItP b i) :: (cenv.locals, FrP cenv [("i", vi), ("u", vu)]) :: (D, DI prog w ((outL l).take i) (fun y => some (idx (outL l) y))) :: T) s) ?_ ?_ ⟨none, none, ?_⟩
  · rintro E'' i s hi ⟨vi, vu, ha⟩
    obtain ⟨vs, hvl, hvi⟩ := intlp_list ha (a := b) (by lk)
    obtain ⟨t0, hx0⟩ := hvi.get i (outL l)[i] (by simp [hi])
    refine enum_next ha hvl (x := .int (outL l)[i] t0) (by simpa using hx0) fun t tk s₁ h₁ => ⟨_, rfl, ?_⟩
    refine enum_let h₁ (a := e) (by lk) (by kt_k) fun s₂ h₂ => ?_
    obtain ⟨o, ho, hp⟩ := h₂.get (a := t) (by lk)
    refine assign_tup2 hA.handled h₂ ⟨o, ho, by rw [hp]; exact ⟨rfl, 0, rfl⟩⟩ rfl fun s₃ h₃ => ?_
    replace h₃ := h₃.sub (.cons (a := cenv.locals) (by w_up) (fun _ q => q) .refl)
    refine wpAny_assign_Name ?_
    refine sto h₃ (by room) fun s₄ h₄ => ?_
    refine wpAny_assign_Name ?_
    refine sto h₄ (by room) fun s₅ h₅ => ?_
    refine tests_nil ?_
    refine itt rfl ?_
    refine ld h₅ (by lk) ?_
    refine ld h₅ (by lk) ?_
    refine di_put (ov := some (idx (outL l) (outL l)[i])) h₅ (a := D) (by lk) ⟨tk, by rw [idx_get hnd hi]⟩ (by rw [List.length_take]; lia) (by kt_k) fun s₆ h₆ => ?_
    have e1 : addk ((outL l).take i) (outL l)[i] = (outL l).take (i + 1) := by
      unfold addk
      rw [if_neg, List.take_append_getElem hi]
      intro hm
      obtain ⟨m, hm', e⟩ := List.mem_take_iff_getElem.mp hm
      have := (List.getElem_inj hnd).mp e
      lia
    have e2 : upf (fun y => some (idx (outL l) y)) (outL l)[i] (some (idx (outL l) (outL l)[i])) = fun y => some (idx (outL l) y) := by
      funext y
      unfold upf
      split
      · rename_i q; rw [q]
      · rfl
    rw [e1, e2] at h₆
    exact ⟨_, _, h₆.sub (by k_is)⟩
  · rintro E'' s ⟨vi, vu, ha⟩
    obtain ⟨vs, hvl, hvi⟩ := intlp_list ha (a := b) (by lk)
    have hlv := hvi.length
    rw [Array.length_toList] at hlv
    refine enum_end hA.handled ha hvl (Array.getElem?_eq_none (by lia)) fun s₁ h₁ => ⟨rfl, _, rfl, c₁, _, _, h₁, fun s₂ h₂ => ?_⟩
    rw [List.take_length] at h₂
    replace h₂ := h₂.perm (.swap ..)
    refine stoc h₂ kD hD (by lk) (by kt_k) fun s₃ h₃ => ?_
    (refine letG ?_; intro Kq Ke; refine g_st ?_; refine letQ1 ?_; intro Kq)
    show wpAny _ _ (exec (.Expr (.Call (.Attribute _ _ _) _ _ _) _) env) _ _ _
    kd_p
    refine call_meth rfl (by decide) rfl PySem.F.plainAttrs_list PySem.F.slot_list_pop PySem.F.type_list_pop rfl ?_
    refine ld h₃ (by lk) ?_
    refine ⟨intlp_meth h₃ (by lk), ?_⟩
    refine spl_nil ?_
    rw [hL] at h₃
    obtain ⟨vs3, hi3, u3⟩ := intlp_upd h₃ (a := b) (by lk)
    obtain ⟨vs4, t4, rfl, hi4⟩ := ints_snoc hi3
    replace h₃ := u3 _ (by kt_k)
    have hl4 := hi4.length
    have hLl : (outL l).length = L.length + 1 := by rw [hL]; simp
    rw [List.length_reverse] at hl4
    refine l_pop_last h₃ (a := b) (by lk) (by lia) (by kt_k) fun s₄ h₄ => ?_
    (refine letG ?_; intro Kq Ke; refine g_st ?_; refine letQ1 ?_; intro Kq)
    show wpAny _ _ (exec (.Expr (.Call (.Attribute _ _ _) _ _ _) _) env) _ _ _
    kd_p
    refine call_meth rfl (by decide) rfl PySem.F.plainAttrs_list PySem.F.slot_list_reverse PySem.F.type_list_reverse rfl ?_
    refine ld h₄ (by lk) ?_
    refine ⟨lst_meth h₄ (by lk), ?_⟩
    refine spl_nil ?_
    refine l_reverse h₄ (a := b) (by lk) (by lia) (by kt_k) fun s₅ h₅ => ?_
    have hi5 := ints_rev hi4
    rw [List.reverse_reverse] at hi5
    refine k b I D c₁ s₅ hcg ?_
    rw [hL]
    exact h₅.sub (.cons (a := env.locals) (by w_up) (fun _ q => q) (.cons (a := b) (by w_up) (intlp_of hi5) (by k_is)))
  · exact h₁₂.sub (.cons (a := e) (by w_up) (fun _ q => q) (.cons (a := it) (by w_up) (fun _ q => q) (.cons (a := cenv.locals) (by w_up) (fun _ q => q) (.cons (a := D) (by w_up) di_nil (by k_is)))))
end
end
section
open PySem PySem.Calls PyProof.Rows PySem.W PySem.W.X
open Sem (wp)
noncomputable abbrev niS (P : Params) : Stmt := stmtAt (bodyOf (stmtAt (bodyOf (stmtAt (fnBody P 87) 8)) 1)) 0
theorem ni_eq (P : Params) : ∃ p1 p2 p3 p4 p5, niS P = .Assign [.Name "new_idom" p1] (.Call (.Name "reduce" p2) [.Name "intersect" p3, rgx P] [] p4) p5 := ⟨_, _, _, _, _, by rfl⟩
theorem rgx_eq (P : Params) : rgx P = .GeneratorExp (gElt (rgx P)) [⟨(gGen (rgx P)).target, (gGen (rgx P)).iter, (gGen (rgx P)).ifs, 0⟩] (gScope (rgx P)) (gPos (rgx P)) := by rfl
theorem rg_iter (P : Params) : ∃ p1 p2 p3 p4, (gGen (rgx P)).iter = .Subscript (.Attribute (.Name "G" p1) "pred" p2) (.Name "u" p3) p4 := ⟨_, _, _, _, by rfl⟩
theorem rg_sc (P : Params) : gScope (rgx P) = { kind := .function, names := [(".0", .local), ("v", .local), ("idom", .free)], isGenerator := true, isCoroutine := false } := by rfl
section
variable {prog : Program} {w : World} {A : Around} {E : Value → Shared → Prop} {c : Cfg} {S S' F : List Ent} {s : Shared} {a : Addr} {env : Env} {ks ds : List Int} {f d' : Int → Option Int}
theorem g_spl_nil {pos : Pos} {Q : List Value → Shared → Prop} (h : Q [] s) : wpG (model prog w) A (spl [] env pos) Q E s := g_any (spl_nil h)
theorem g_spl_cons {e : Expr} {rest : List Expr} {pos : Pos} {Q : List Value → Shared → Prop}
    (h : wpG (model prog w) A (eval e env) (fun v s₁ => wpG (model prog w) A (spl rest env pos) (fun vs s₂ => Q (v :: vs) s₂) E s₁) E s)
    (he : starEach (e :: rest) env = (false, eval e env) :: starEach rest env) : wpG (model prog w) A (spl (e :: rest) env pos) Q E s := by
  unfold spl
  rw [back_cons he, spliced]
  refine g_bind (g_mono h (fun v s₁ h₁ => ?_) fun _ _ x => x)
  simp only [Bool.false_eq_true, if_false]
  exact g_bind (g_pure (g_bind (g_holding (g_mono h₁ (fun vs s₂ h₂ => g_pure h₂) fun _ _ x => x))))
theorem g_evalArgs {f : Value} {e : Expr} {es : List Expr} {pos : Pos} {Q : Args → Shared → Prop} (hs : ((e :: es).all fun e => match e with | .Starred .. => false | _ => true) = true)
    (h : wpG (model prog w) A (spl (e :: es) env pos) (fun vs s' => Q ⟨vs, []⟩ s') E s) : wpG (model prog w) A (evalArgs f true (backTo pos (starEach (e :: es) env)) []) Q E s := by
  rw [List.all_cons, Bool.and_eq_true] at hs
  have he : starEach (e :: es) env = (false, eval e env) :: starEach es env := by cases e <;> first | rfl | cases hs.1
  unfold spl at h
  rw [back_cons he] at h ⊢
  unfold evalArgs
  show wpG _ _ (spliced ((false, eval e env) :: backTo pos (starEach es env)) >>= _) _ _ _
  refine g_bind (g_mono h (fun vs s₁ h₁ => ?_) fun _ _ e => e)
  refine g_holding ?_
  exact g_bind (g_pure (g_bind (g_pure (g_pure h₁))))
theorem newidom_spec {gs : List Str} {x dx nd sa pa cI cD I D fa kc : Addr} {ct pm vc : Value} {at0 at' : List (Str × Value)} {gk : List Int} {su pr : Int → List Int} {dd : Int → Int} {st U : Int} {tu ts : Tok} {Q : Flow → Shared → Prop} {vn : Option Value} {ov : Value}
    (hB : KZ w c.Z) (hA : Room A 16) (hg : FGr prog w c.Z nd sa pa gk su pr) (hat : GAt at0 nd sa pa) (hno : valueAt at0 "pred" = none) (hz : at0.length ≤ 100) (hp : AtP at0 pa at') (hU : U ∈ gk)
    (ge : GE env gs) (hr : ("reduce" : Str) ∈ gs) (hcode : env.code = .ref 86) (hcs : env.cells = ([("idom", cI), ("dfn", cD)] : List (Str × Addr)))
    (T : Tree st ks dd f) (hds : ∀ x ∈ ks, x ∈ ds) (hd : ∀ x ∈ ks, d' x = some (dd x)) (hex : ∃ q ∈ pr U, q ∈ ks)
    (h : St c ((env.locals, FrP env [("G", some (.ref x)), ("start", some (.int st ts)), ("order", some ov), ("u", some (.int U tu)), ("intersect", some (.ref fa)), ("changed", some vc), ("new_idom", vn)]) :: (84, TabP (T84 w.params (some kc))) :: (x, InsP dx) :: (dx, IDicP prog w at') :: (cI, CellP (some (.ref I))) :: (I, DI prog w ks f) :: (fa, FnP (iFd w.params kc cD cI ct pm)) :: (kc, CodeP iQ) :: (cD, CellP (some (.ref D))) :: (D, DI prog w ds d') :: F) s)
    (hq : ∀ r t c' s', NewDom f ks (pr U) r → Cg c c' → St c' ((env.locals, FrP env [("G", some (.ref x)), ("start", some (.int st ts)), ("order", some ov), ("u", some (.int U tu)), ("intersect", some (.ref fa)), ("changed", some vc), ("new_idom", some (.int r t))]) :: (84, TabP (T84 w.params (some kc))) :: (x, InsP dx) :: (dx, IDicP prog w (predAt at0 pa)) :: (cI, CellP (some (.ref I))) :: (I, DI prog w ks f) :: (fa, FnP (iFd w.params kc cD cI ct pm)) :: (kc, CodeP iQ) :: (cD, CellP (some (.ref D))) :: (D, DI prog w ds d') :: F) s' → Q .next s') :
    wpG (model prog w) A (exec (niS w.params) env) Q E s := by
  obtain ⟨p1, p2, p3, p4, p5, e⟩ := ni_eq w.params
  rw [e]
  refine g_AssignName ?_ rfl
  refine g_CallName ?_
  refine ldg h hB.toGB ge hr (v := .builtin "_functools.reduce") (by lk) ?_
  have hs2 : ([Expr.Name "intersect" p3, rgx w.params].all fun e => match e with | .Starred .. => false | _ => true) = true := by rw [rgx_eq]; rfl
  have hs3 : starEach [rgx w.params] env = (false, eval (rgx w.params) env) :: starEach [] env := by rw [rgx_eq]; rfl
  refine g_callWith_bi (back_all hs2) ?_
  refine g_evalArgs hs2 ?_
  refine g_spl_cons (g_any (ld h (by lk) ?_)) rfl
  refine g_spl_cons ?_ hs3
  obtain ⟨q1, q2, q3, q4, ei⟩ := rg_iter w.params
  rw [rgx_eq]
  have esc := rg_sc w.params
  refine g_make (A := A) (P := 84) (T := T84 w.params (some kc)) (l := [("v", none)]) (cl := [("idom", cI)]) hB.toGB ge hA.deep hcode (code86 hB) ?_ (by rw [esc]) (closure_of hcs (by rw [esc]; rfl)) (by rw [esc]; rfl) (by rw [esc]; rfl) (by rw [esc]; rfl) (by rfl) (by rw [ei]; exact fun _ => rfl) ?_
  · intro ps v hk _
    show codeAmong _ _ = _
    have : codeAmong (dPos (iDef w.params)) ps.toList = some (.ref kc) := hk
    rw [show (ps ++ #[rawInt (gPos (rgx w.params)).line, rawInt (gPos (rgx w.params)).col, v]).toList = ps.toList ++ [rawInt (gPos (rgx w.params)).line, rawInt (gPos (rgx w.params)).col, v] by simp]
    exact among_app _ _ this
  rw [ei]
  refine g_Subscript ?_
  refine g_attr rfl ?_
  refine ld h (by lk) ?_
  refine pred_get (at' := at') (h.sub (S' := (x, InsP dx) :: (dx, IDicP prog w at') :: _) (.cons (a := x) (by w_up) (fun _ q => q) (.cons (a := dx) (by w_up) (fun _ q => q) .refl))) hB hA.less hat hno hz hp fun s₁ h₁ => ?_
  replace h₁ := h₁.sub (.cons (a := env.locals) (by w_up) (fun _ q => q) .refl)
  refine ld h₁ (by lk) ?_
  obtain ⟨kv, ep, f1, f2, f3⟩ := hg.p
  obtain ⟨b, kvs, epb, g1, g2, g3⟩ := f3 U hU
  refine fd_sub h₁ f1 g1 sc_name fun s₂ h₂ => ?_
  refine fd_iter h₂ g2 fun it s₃ h₃ => ⟨_, h₃, by lk, fun cenv a2 s₄ hc1 hc2 hc3 hc4 h₄ => ?_⟩
  refine g_spl_nil ?_
  refine g_any ?_
  rw [← ei] at h₄
  show wpAny _ _ (call (.builtin "_functools.reduce") [.ref fa, .ref a2]) _ _ _
  have hsc : cenv.scope = { kind := .function, names := [(".0", .local), ("v", .local), ("idom", .free)], isGenerator := true, isCoroutine := false } := hc4.trans esc
  have hI : Cel cenv "idom" cI := .of hc3 (by rw [hsc]) (.inr (by unfold Env.kindOf; rw [hsc]; rfl)) rfl (by decide)
  refine reduce_call (A := A) (d := b) (kvs := kvs) (ep := epb) (dd := dd) (st := st) (ks := ks) (ds := ds) (f := f) (d' := d') (vv := none) (cI := cI) (cD := cD) hB g2 hA.less (by rw [hsc]) hI T hds hd (by rw [g3]; exact hex) (h₄.sub (by k_is)) fun r t c' s₅ hN hcg h₅ => ?_
  rw [g3] at hN
  refine sto (h₅.sub (by k_is)) (by room) fun s₆ h₆ => ?_
  exact hq r t c' s₆ hN hcg (h₆.sub (by k_is))
end
end
section
open PySem PySem.Calls PyProof.Rows PySem.W PySem.W.X
open Sem (wp)
theorem Inv.ex {st : Int} {L : List Int} {pr : Int → List Int} {d : Int → Int} {k i : Nat} (b : Base0 st L pr d) (hi : i < L.length) : ∃ q ∈ pr L[i], q ∈ keysAt st L k i := by
  obtain ⟨p0, hp0, hp0N, hp0d⟩ := b.pre L[i] (List.getElem_mem hi)
  refine ⟨p0, hp0, ?_⟩
  rcases List.mem_cons.mp hp0N with rfl | hp
  · exact .head _
  · refine .tail _ ?_
    split
    · exact before b hi hp hp0d
    · exact hp
section
variable {prog : Program} {w : World} {A : Around} {E : Value → Shared → Prop} {c : Cfg} {S S' F : List Ent} {s : Shared} {a : Addr} {env : Env}
theorem idom_store {p1 p2 p3 p4 p5 p6 p8 p9 : Pos} {p7 : Tok} {Q : Flow → Shared → Prop} {cI I x fa ol : Addr} {st U r : Int} {ts tu tr : Tok} {ks : List Int} {f : Int → Option Int} {ch : Bool} (hI : Cel env "idom" cI) (hz : ks.length ≤ 900)
    (h : St c ((env.locals, FrP env [("G", some (.ref x)), ("start", some (.int st ts)), ("order", some (.ref ol)), ("u", some (.int U tu)), ("intersect", some (.ref fa)), ("changed", some (.bool ch)), ("new_idom", some (.int r tr))]) :: (cI, CellP (some (.ref I))) :: (I, DI prog w ks f) :: F) s)
    (k : ∀ s', St c ((env.locals, FrP env [("G", some (.ref x)), ("start", some (.int st ts)), ("order", some (.ref ol)), ("u", some (.int U tu)), ("intersect", some (.ref fa)), ("changed", some (.bool true)), ("new_idom", some (.int r tr))]) :: (cI, CellP (some (.ref I))) :: (I, DI prog w (addk ks U) (upf f U (some r))) :: F) s' → Q .next s') :
    wpAny (model prog w) A (execs [.Assign [.Subscript (.Name "idom" p1) (.Name "u" p2) p3] (.Name "new_idom" p4) p5, .Assign [.Name "changed" p6] (.Constant (.bool true) p7 p9) p8] env) Q E s := by
  kd_p
  kd_p
  refine ld h (by lk) ?_
  refine ldc h hI (by lk) ?_
  refine ld h (by lk) ?_
  refine di_set (ov := some r) h (a := I) (by lk) ⟨_, rfl⟩ hz (by kt_k) fun s₂ h₂ => ?_
  kd_p
  kd_p
  kd_p
  refine sto h₂ (by room) fun s₃ h₃ => ?_
  kd_p
  exact k _ h₃
theorem idom_tail {Q : Flow → Shared → Prop} {gs : List Str} {x dx nd sa pa cI cD I D ol : Addr} {at0 at' : List (Str × Value)} {gk ds : List Int} {su pr : Int → List Int} {dd : Int → Int} {st : Int} {ts : Tok} {L : List Int} {tb : Option Addr}
    (hB : KZ w c.Z) (hA : Room A 20) (hg : FGr prog w c.Z nd sa pa gk su pr) (hat : GAt at0 nd sa pa) (hno : valueAt at0 "pred" = none) (hz : at0.length ≤ 100) (hp : AtP at0 pa at')
    (ge : GE env gs) (hr : ("reduce" : Str) ∈ gs) (hcode : env.code = .ref 86) (hcs : env.cells = ([("idom", cI), ("dfn", cD)] : List (Str × Addr))) (hqn : env.qual = "immediate_dominators.<locals>.") (kN : env.kindOf "intersect" = some .local) (kI : env.kindOf "idom" = some .cell)
    (b0 : Base0 st L pr dd) (hL50 : L.length ≤ 50) (hLg : ∀ u ∈ L, u ∈ gk) (hds : ∀ u ∈ st :: L, u ∈ ds)
    (h : St c ((84, TabP (T84 w.params tb)) :: (codeE tb ++ ((env.locals, FrP env [("G", some (.ref x)), ("start", some (.int st ts)), ("order", some (.ref ol)), ("u", none), ("intersect", none), ("changed", none), ("new_idom", none)]) :: (ol, IntLP L) :: (cD, CellP (some (.ref D))) :: (cI, CellP (some (.ref I))) ::
      (D, DI prog w ds (fun y => some (dd y))) :: (I, DI prog w [st] (fun _ => none)) :: (x, InsP dx) :: (dx, IDicP prog w at') :: F))) s)
    (hQ : ∀ f k c' at₁ s', AtP at0 pa at₁ → Cg c c' → Tree st (st :: L) dd f → (∀ w ∈ st :: L, ∀ x, Anc f w x ↔ Dm st (st :: L) pr dd x w) →
      St c' ((I, DI prog w L f) :: (x, InsP dx) :: (dx, IDicP prog w at₁) :: (84, TabP (T84 w.params (some k))) :: (k, CodeP iQ) :: F) s' → Q (.ret (.ref I)) s') :
    wpG (model prog w) A (execs (iDef w.params :: stmtAt (fnBody w.params 87) 7 :: stmtAt (fnBody w.params 87) 8 :: stmtAt (fnBody w.params 87) 9 :: stmtAt (fnBody w.params 87) 10 :: []) env) Q E s := by
  have hI : Cel env "idom" cI := .of hcs ge.kind (.inl kI) rfl (by decide)
  (refine letG ?_; intro Kq Ke; refine g_st ?_; refine letQ1 ?_; intro Kq)
  refine idef_spec (tb := tb) (l := [("G", some (.ref x)), ("start", some (.int st ts)), ("order", some (.ref ol)), ("u", none), ("intersect", none), ("changed", none), ("new_idom", none)]) (l' := fun v => [("G", some (.ref x)), ("start", some (.int st ts)), ("order", some (.ref ol)), ("u", none), ("intersect", some (v)), ("changed", none), ("new_idom", none)]) hB ge hcode hqn hcs kN h (fun v => by room) fun fa kc ct pm s₁ h₁ => ?_
  clear h
  replace h₁ := h₁.sub (.cons (a := env.locals) (by w_up) (fun _ q => q) .refl)
  (refine letG ?_; intro Kq Ke; refine g_st ?_; refine letQ1 ?_; intro Kq)
  show wpAny _ _ (exec (.Assign [.Name _ _] (.Constant _ _ _) _) env) _ _ _
  kd_p
  kd_p
  refine sto h₁ (by room) fun s₂ h₂ => ?_
  clear h₁
  obtain ⟨B, hBB⟩ := bound_exists (fun x w j => Av st (st :: L) pr dd x j w) (fun x w j j' h hl => h.mono hl) (st :: L)
  have e1 : ([st] : List Int) = keysAt st L 1 0 := by simp [keysAt]
  rw [e1] at h₂
  (refine letG ?_; intro Kq Ke; refine g_cons_ ?_; refine letG1 ?_; intro Kq)
  show wpG _ _ (exec (.While _ _ _ _) env) _ _ _
  refine g_While ?_
  let T : List Ent := (84, TabP (T84 w.params (some kc))) :: (x, InsP dx) :: (fa, FnP (iFd w.params kc cD cI ct pm)) :: (kc, CodeP iQ) :: (cD, CellP (some (.ref D))) :: (D, DI prog w ds (fun y => some (dd y))) :: (ol, IntLP L) :: F
  refine cg_while (fun n s => (∃ c₁ at₁ k f vu vn, Cg c c₁ ∧ AtP at0 pa at₁ ∧ Inv st L pr dd B k 0 f false ∧ n = B + 3 - k ∧ k ≤ B + 2 ∧
      St c₁ ((env.locals, FrP env [("G", some (.ref x)), ("start", some (.int st ts)), ("order", some (.ref ol)), ("u", vu), ("intersect", some (.ref fa)), ("changed", some (.bool true)), ("new_idom", vn)]) :: (cI, CellP (some (.ref I))) :: (I, DI prog w (keysAt st L k 0) f) :: (dx, IDicP prog w at₁) :: T) s) ∨
    (∃ c₁ at₁ f vu vn, Cg c c₁ ∧ AtP at0 pa at₁ ∧ n = 0 ∧ Tree st (st :: L) dd f ∧ (∀ w ∈ st :: L, ∀ x, Anc f w x ↔ Dm st (st :: L) pr dd x w) ∧
      St c₁ ((env.locals, FrP env [("G", some (.ref x)), ("start", some (.int st ts)), ("order", some (.ref ol)), ("u", vu), ("intersect", some (.ref fa)), ("changed", some (.bool false)), ("new_idom", vn)]) :: (cI, CellP (some (.ref I))) :: (I, DI prog w (st :: L) f) :: (dx, IDicP prog w at₁) :: T) s))
    ?_ (B + 2) (.inl ⟨c, at', 1, fun _ => none, none, none, .refl c, hp, .start b0 trivial, by lia, by lia, h₂.sub (by k_is)⟩)
  clear h₂
  intro E' n s hJ
  intro Kq
  rcases hJ with ⟨c₁, at₁, k, f, vu, vn, hcg, hat₁, hInv, hn, hk, h₁⟩ | ⟨c₁, at₁, f, vu, vn, hcg, hat₁, hn, hT, hAnc, h₁⟩
  · refine g_any (wpAny_isTrue_value ?_)
    refine ld h₁ (by lk) ?_
    refine wpAny_truthy_bool ?_
    refine itt rfl ?_
    have hB1 : KZ w c₁.Z := by rw [hcg.z]; exact hB
    (refine letG ?_; intro Kq Ke; refine g_st ?_; refine letQ1 ?_; intro Kq)
    show wpAny _ _ (exec (.Assign [.Name _ _] (.Constant _ _ _) _) env) _ _ _
    kd_p
    kd_p
    refine sto h₁ (by room) fun s₂ h₂ => ?_
    (refine letG ?_; intro Kq Ke; refine g_cons_ ?_; refine letG1 ?_; intro Kq)
    show wpG _ _ (exec (.For _ (.Name _ _) [niS w.params, _] _ _) env) _ _ _
    refine g_For ?_ (fun _ => rfl)
    refine g_any (ld h₂ (by lk) ?_)
    obtain ⟨vs, hvl, hvi⟩ := intlp_list h₂ (a := ol) (by lk)
    refine iter_list h₂ hvl fun it s₃ h₃ => ?_
    refine cg_for L.length (fun i s => ∃ c₂ at₂ f ch vu vn, Cg c c₂ ∧ AtP at0 pa at₂ ∧ Inv st L pr dd B k i f ch ∧
      St c₂ ((it, LItP ol i) :: (env.locals, FrP env [("G", some (.ref x)), ("start", some (.int st ts)), ("order", some (.ref ol)), ("u", vu), ("intersect", some (.ref fa)), ("changed", some (.bool ch)), ("new_idom", vn)]) :: (cI, CellP (some (.ref I))) :: (I, DI prog w (keysAt st L k i) f) :: (dx, IDicP prog w at₂) :: T) s) ?_ ?_
      ⟨c₁, at₁, f, false, vu, vn, hcg, hat₁, hInv, h₃.sub (by k_is)⟩
    · clear h₁ h₂ h₃ hcg hat₁ hInv hvl hvi vs f vu vn s₂ s₃
      rintro E'' i s hi hE1
      refine ex6 hE1 fun c₂ at₂ f ch vu vn hE2 => ?_
      clear hE1
      refine an4 hE2 fun hcg hat₂ hInv h₁ => ?_
      clear hE2
      intro Kq
      have hB2 : KZ w c₂.Z := by rw [hcg.z]; exact hB
      have hg2 : FGr prog w c₂.Z nd sa pa gk su pr := by rw [hcg.z]; exact hg
      obtain ⟨vs, hvl, hvi⟩ := intlp_list h₁ (a := ol) (by lk)
      obtain ⟨t0, hx0⟩ := hvi.get i L[i] (by simp [hi])
      refine next_item h₁ (it := it) (by lk) hvl (x := .int L[i] t0) (by simpa using hx0) (by kt_k) fun s₂ h₂ => ⟨_, rfl, ?_⟩
      refine letOwned_name ?_
      refine wpAny_assign_Name ?_
      refine sto (h₂.sub (.cons (a := env.locals) (by w_up) (fun _ q => q) .refl)) (by room) fun s₃ h₃ => ?_
      (refine letG ?_; intro Kq Ke; refine g_cons_ ?_; refine letG1 ?_; intro Kq)
      have hkd : ∀ u ∈ keysAt st L k i, u ∈ ds := fun u hu => hds u (keys_sub hInv.k1 u hu)
      refine newidom_spec (F := (it, LItP ol (i + 1)) :: (ol, IntLP L) :: F) (gk := gk) (su := su) (pr := pr) (cI := cI) (cD := cD) (dd := dd) (ks := keysAt st L k i) (U := L[i]) (st := st) (ts := ts) (tu := t0) (vc := .bool ch) (vn := vn) (ov := .ref ol) (at' := at₂)
        hB2 hA.less hg2 hat hno hz hat₂ (hLg _ (List.getElem_mem hi)) ge hr hcode hcs hInv.T hkd (fun _ _ => rfl) (Inv.ex b0 hi) (h₃.sub (by k_is)) fun r tr c₃ s₄ hN hcg' h₄ => ?_
      have hstep := hInv.step b0 hBB hi hN
      have hB3 : KZ w c₃.Z := by rw [hcg'.z]; exact hB2
      (refine letG ?_; intro Kq Ke; refine g_st ?_; refine letQ1 ?_; intro Kq)
      show wpAny _ _ (exec (.If _ _ _ _) env) _ _ _
      kd_p
      kd_p
      kd_p
      kd_p
      refine ld h₄ (by lk) ?_
      refine ldc h₄ hI (by lk) ?_
      refine di_notin h₄ (a := I) (by lk) fun s₅ h₅ => ?_
      refine wpAny_truthy_bool ?_
      have hkl : (keysAt st L k i).length ≤ 900 := by
        unfold keysAt
        split <;> simp <;> lia
      have chg : ∀ s₆, ¬ (L[i] ∈ keysAt st L k i ∧ f L[i] = some r) → St c₃ ((env.locals, FrP env [("G", some (.ref x)), ("start", some (.int st ts)), ("order", some (.ref ol)), ("u", some (.int L[i] t0)), ("intersect", some (.ref fa)), ("changed", some (.bool true)), ("new_idom", some (.int r tr))]) :: (cI, CellP (some (.ref I))) :: (I, DI prog w (addk (keysAt st L k i) L[i]) (upf f L[i] (some r))) :: (dx, IDicP prog w (predAt at0 pa)) :: (it, LItP ol (i + 1)) :: T) s₆ →
          ∃ c₂ at₂ f ch vu vn, Cg c c₂ ∧ AtP at0 pa at₂ ∧ Inv st L pr dd B k (i + 1) f ch ∧
      St c₂ ((it, LItP ol (i + 1)) :: (env.locals, FrP env [("G", some (.ref x)), ("start", some (.int st ts)), ("order", some (.ref ol)), ("u", vu), ("intersect", some (.ref fa)), ("changed", some (.bool ch)), ("new_idom", vn)]) :: (cI, CellP (some (.ref I))) :: (I, DI prog w (keysAt st L k (i + 1)) f) :: (dx, IDicP prog w at₂) :: T) s₆ := by
        intro s₆ hne h₆
        have ec : (ch || !decide (L[i] ∈ keysAt st L k i ∧ f L[i] = some r)) = true := by simp only [hne, decide_false, Bool.not_false, Bool.or_true]
        rw [ec] at hstep
        have ek : addk (keysAt st L k i) L[i] = keysAt st L k (i + 1) := keys_add b0 hi hInv.k1
        have eu : upf f L[i] (some r) = fun x => if x = L[i] then some r else f x := rfl
        rw [ek, eu] at h₆
        exact ⟨c₃, _, _, true, _, _, hcg.trans hcg', .kept, hstep, h₆.sub (by k_is)⟩
      by_cases hm : L[i] ∈ keysAt st L k i
      · rw [if_neg (by simp [hm])]
        kd_p
        kd_p
        kd_p
        refine ldc h₅ hI (by lk) ?_
        refine ld h₅ (by lk) ?_
        refine di_sub h₅ (by lk) hm sc_name fun vy s₆ hvy h₆ => ?_
        obtain ⟨y, hy⟩ : ∃ y, f L[i] = some y := by
          obtain ⟨y, _, e, _⟩ := hInv.T.up L[i] hm (fun e => b0.ns (e ▸ List.getElem_mem hi))
          exact ⟨y, e⟩
        rw [hy] at hvy
        obtain ⟨ty, rfl⟩ := hvy
        refine ld h₆ (by lk) ?_
        k_in
        kd_p
        (with_reducible first | refine ite_dec (fun hif => ?_) (fun hif => ?_) | refine ite_beq (fun hif => ?_) (fun hif => ?_) | refine ite_bne (fun hif => ?_) (fun hif => ?_))
        · refine itt rfl ?_
          refine idom_store hI hkl (h₆.sub (by k_is)) fun s₇ h₇ => g_nil_ (chg _ (fun q => hif (by rw [hy] at q; exact Option.some.inj q.2)) (h₇.sub (by k_is)))
        · kd_p
          refine itf rfl ?_
          refine wpAny_execs_nil (g_nil_ ?_)
          subst hif
          have ec : (ch || !decide (L[i] ∈ keysAt st L k i ∧ f L[i] = some y)) = ch := by simp [hm, hy]
          have eu : (fun x => if x = L[i] then some y else f x) = f := by
            funext x
            split
            · rename_i q; rw [q, hy]
            · rfl
          have ek : addk (keysAt st L k i) L[i] = keysAt st L k (i + 1) := keys_add b0 hi hInv.k1
          rw [addk, if_pos hm] at ek
          rw [ec, eu] at hstep
          rw [ek] at h₆
          exact ⟨c₃, _, _, ch, _, _, hcg.trans hcg', .kept, hstep, h₆.sub (by k_is)⟩
      · rw [if_pos (by simp [hm])]
        refine itt rfl ?_
        refine idom_store hI hkl (h₅.sub (by k_is)) fun s₇ h₇ => g_nil_ (chg _ (fun q => hm q.1) (h₇.sub (by k_is)))
    · clear h₁ h₂ h₃ hvl hvi vs hcg hat₁ hInv f vu vn
      rintro E'' s hE1
      refine ex6 hE1 fun c₂ at₂ f ch vu vn hE2 => ?_
      clear hE1
      refine an4 hE2 fun hcg hat₂ hInv h₁ => ?_
      clear hE2
      obtain ⟨vs, hvl, hvi⟩ := intlp_list h₁ (a := ol) (by lk)
      have hlv := hvi.length
      rw [Array.length_toList] at hlv
      refine next_end hA.handled h₁ (it := it) (by w_up) hvl (Array.getElem?_eq_none (by lia)) fun s₂ h₂ => ⟨rfl, ?_⟩
      refine g_nil_ (g_nil_ ?_)
      have ek : keysAt st L (k + 1) 0 = keysAt st L k L.length := by
        have := hInv.k1
        unfold keysAt
        rw [if_neg (by lia)]
        split <;> simp
      cases ch with
      | true =>
        have hlt : k < B + 2 := by
          rcases Nat.lt_or_ge k (B + 2) with q | q
          · exact q
          · exact absurd (hInv.big q) (by decide)
        refine ⟨B + 3 - (k + 1), by lia, .inl ⟨c₂, at₂, k + 1, f, vu, vn, hcg, hat₂, hInv.next b0, rfl, by lia, ?_⟩⟩
        rw [ek]
        exact h₂.sub (by k_is)
      | false =>
        obtain ⟨hK, hAnc⟩ := hInv.done b0 (fun q => List.eq_nil_of_length_eq_zero ((hInv.fx rfl).1 q))
        have hT := hInv.T
        rw [hK] at hT h₂
        exact ⟨0, by lia, .inr ⟨c₂, at₂, f, vu, vn, hcg, hat₂, rfl, hT, hAnc, h₂.sub (by k_is)⟩⟩
  · refine g_any (wpAny_isTrue_value ?_)
    refine ld h₁ (by lk) ?_
    refine wpAny_truthy_bool ?_
    refine itf rfl ?_
    refine g_nil_ ?_
    (refine letG ?_; intro Kq Ke; refine g_st ?_; refine letQ1 ?_; intro Kq)
    show wpAny _ _ (exec (.Delete [.Subscript _ _ _] _) env) _ _ _
    have hB1 : KZ w c₁.Z := by rw [hcg.z]; exact hB
    refine wpAny_Delete (wpAny_deleteEach_cons (wpAny_delete_Subscript ?_))
    refine ldc h₁ hI (by lk) ?_
    refine ld h₁ (by lk) ?_
    refine di_del h₁ (a := I) (by lk) (.head _) (by simp; lia) (by kt_k) fun s₂ h₂ => ?_
    refine wpAny_deleteEach_nil ?_
    (refine letG ?_; intro Kq Ke; refine g_st ?_; refine letQ1 ?_; intro Kq)
    show wpAny _ _ (exec (.Return (some _) _) env) _ _ _
    kd_p
    refine ldc h₂ hI (by lk) ?_
    have e : (st :: L).filter (fun x => decide (x ≠ st)) = L := by
      rw [List.filter_cons_of_neg (by simp), List.filter_eq_self]
      intro y hy
      have : y ≠ st := fun e => b0.ns (e ▸ hy)
      simpa using this
    rw [e] at h₂
    exact hQ f kc c₁ at₁ _ hat₁ hcg hT hAnc (h₂.sub (by k_is))
end
end
section
open PySem PySem.Calls PyProof.Rows PySem.W PySem.W.X
open Sem (wp)
section
variable {prog : Program} {w : World} {A : Around} {E : Value → Shared → Prop} {c : Cfg} {S S' F : List Ent} {s : Shared} {a : Addr} {env : Env}
theorem perm_mid {α : Type} (A C F : List α) (y : α) : (A ++ y :: (C ++ F)).Perm (y :: (C ++ (A ++ F))) := by
  refine List.perm_middle.trans (.cons _ ?_)
  rw [← List.append_assoc, ← List.append_assoc]
  exact List.perm_append_comm.append_right F
theorem fn87_body (P : Params) : fnBody P 87 = stmtAt (fnBody P 87) 0 :: stmtAt (fnBody P 87) 1 :: stmtAt (fnBody P 87) 2 :: stmtAt (fnBody P 87) 3 :: stmtAt (fnBody P 87) 4 :: stmtAt (fnBody P 87) 5 :: (iDef P :: stmtAt (fnBody P 87) 7 :: stmtAt (fnBody P 87) 8 :: stmtAt (fnBody P 87) 9 :: stmtAt (fnBody P 87) 10 :: []) := by rfl
theorem idom_spec {R : Result → Shared → Prop} {x dx nd sa pa : Addr} {at0 at' : List (Str × Value)} {ks : List Int} {su pr : Int → List Int} {st : Int} {ts : Tok} {l : List (Int × Bool)} {L : List Int} {tb : Option Addr}
    (h : St c ((x, InsP dx) :: (dx, IDicP prog w at') :: (43, TabP TT) :: (84, TabP (T84 w.params tb)) :: (codeE tb ++ F)) s) (hB : KZ w c.Z) (hA : Room A 33) (hg : FGr prog w c.Z nd sa pa ks su pr) (hat : GAt at0 nd sa pa) (hno : valueAt at0 "pred" = none) (hz : at0.length ≤ 100) (hp : AtP at0 pa at')
    (hks : ks.Nodup) (hkz : ks.length ≤ 50) (hsu : ∀ k ∈ ks, ∀ y ∈ su k, y ∈ ks) (hst : st ∈ ks) (hT : Tr su st [(st, 0)] [st] l)
    (hL : outL l = L.reverse ++ [st]) (hnd : (outL l).Nodup) (hlen : (outL l).length ≤ 50) (b0 : Base0 st L pr (idx (outL l))) (hLg : ∀ u ∈ L, u ∈ ks)
    (hR : ∀ I f k c' at₁ s', AtP at0 pa at₁ → Cg c c' → Tree st (st :: L) (idx (outL l)) f → (∀ w ∈ st :: L, ∀ x, Anc f w x ↔ Dm st (st :: L) pr (idx (outL l)) x w) →
      St c' ((I, DI prog w L f) :: (x, InsP dx) :: (dx, IDicP prog w at₁) :: (43, TabP TT) :: (84, TabP (T84 w.params (some k))) :: (k, CodeP iQ) :: F) s' → R (.ok (.ret (.ref I))) s') :
    codeG (model prog w) A (.call (.ref 87) ⟨[.ref x, .int st ts], []⟩) R s := by
  refine enterCG (l := [("G", some (.ref x)), ("start", some (.int st ts)), ("order", none), ("u", none), ("intersect", none), ("changed", none), ("new_idom", none)]) (ns := ["G", "start", "order", "u", "intersect", "changed", "new_idom"])
    (lc := [("idom", none), ("dfn", none)]) (binds := [("G", .ref x), ("start", .int st ts)]) (n := 32) h hB.toBase hA.less (hB.k 87 _ rfl (by decide) (by decide)) rfl
    ⟨86, _, _, _, rfl, hB.k 86 _ rfl (by decide) (by decide), rfl, rfl⟩ rfl rfl rfl (by rfl) (by rfl) (by rfl) (by rfl) (by rfl) (by rfl) (by rfl) ?_ rfl rfl rfl
  intro L0 env s₁ hE hA₁ h₁
  have ge : GE env ["dfs_postorder_nodes", "NetworkXError", "list", "enumerate", "reduce"] := .of (by rw [hE]; rfl) (by rw [hE]; rfl) (by rw [hE]; rfl)
  have hcode : env.code = .ref 86 := by rw [hE]; rfl
  have hqn : env.qual = "immediate_dominators.<locals>." := by rw [hE]; rfl
  have hcs : env.cells = ([("idom", L0 + 2), ("dfn", L0 + 1)] : List (Str × Addr)) := by rw [hE]; rfl
  have kI : env.kindOf "idom" = some .cell := by rw [hE]; rfl
  have kD : env.kindOf "dfn" = some .cell := by rw [hE]; rfl
  have kN : env.kindOf "intersect" = some .local := by rw [hE]; rfl
  have hint : interactive env = false := by rw [hE]; rfl
  clear hE h
  replace h₁ : St c ((env.locals, FrP env [("G", some (.ref x)), ("start", some (.int st ts)), ("order", none), ("u", none), ("intersect", none), ("changed", none), ("new_idom", none)]) :: (L0 + 2, CellP none) :: (L0 + 1, CellP none) :: (x, InsP dx) :: (dx, IDicP prog w at') :: (43, TabP TT) :: (84, TabP (T84 w.params tb)) :: (codeE tb ++ F)) s₁ := h₁
  have hat' : GAt at' nd sa pa := by
    cases hp with
    | no => exact hat
    | kept => exact predAt_gat hat
  show wpG _ _ (execs (fnBody w.params 87) env) _ _ _
  rw [fn87_body]
  refine idom_head hB hA₁.less hg hat' hks hkz hsu hst hT hL hnd hlen ge hcs kI kD hint h₁ fun ol I D c' s₂ hcg h₂ => ?_
  have hB1 : KZ w c'.Z := by rw [hcg.z]; exact hB
  have hg1 : FGr prog w c'.Z nd sa pa ks su pr := by rw [hcg.z]; exact hg
  have hll : L.length + 1 = (outL l).length := by rw [hL]; simp
  refine idom_tail (F := (43, TabP TT) :: F) (x := x) (dx := dx) (gk := ks) (su := su) (pr := pr) (dd := idx (outL l)) (tb := tb) (ol := ol) (cD := L0 + 1) (cI := L0 + 2) (ts := ts) hB1 hA₁.less hg1 hat hno hz hp ge (by lk) hcode hcs hqn kN kI b0 (by lia) hLg (ds := outL l) (D := D) (I := I) ?_ ?_ fun f k c'' at₁ s₃ hat₁ hcg' hTr hAnc h₃ => ?_
  · intro u hu
    rw [hL]
    rcases List.mem_cons.mp hu with rfl | hu
    · simp
    · simp [hu]
  · exact h₂.perm <| perm_mid [_, _, _, _, _, _, _, _, _] (codeE tb) F _
  · exact hR I f k c'' at₁ s₃ hat₁ (hcg.trans hcg') hTr hAnc (h₃.sub (by k_is))
end
end
section
open PySem PySem.Calls PyProof.Rows PySem.W PySem.W.X
noncomputable def addFull (t : SetTable) (es : Array (Int × Value)) (h : Int) (x : Value) : Array (Int × Value) × SetTable :=
  if (!(layNew t es h x).2.2.1 && (layNew t es h x).2.1.tooFull) = true then
    ((relayAll (layNew t es h x).2.1 (layNew t es h x).1 (SetTable.grown (layNew t es h x).1.size)).1, (relayAll (layNew t es h x).2.1 (layNew t es h x).1 (SetTable.grown (layNew t es h x).1.size)).2.1)
  else ((layNew t es h x).1, (layNew t es h x).2.1)
noncomputable def Sim (es es' : Array (Int × Value)) : Prop := es.toList.map (·.1) = es'.toList.map (·.1)
theorem Sim.size {es es' : Array (Int × Value)} (h : Sim es es') : es.size = es'.size := by
  have := congrArg List.length h
  simpa using this
theorem sim_layNew {t : SetTable} {es es' : Array (Int × Value)} {h : Int} {x x' : Value} (e : Sim es es') :
    Sim (layNew t es h x).1 (layNew t es' h x').1 ∧ (layNew t es h x).2 = (layNew t es' h x').2 := by
  have hs := e.size
  unfold layNew
  cases t.freeSlot h with
  | none => exact ⟨by unfold Sim at *; simp [e], by simp [hs]⟩
  | some q =>
    obtain ⟨slot, wd⟩ := q
    have hi : ∀ p, Sim (SetTable.insertAt es p (h, x)) (SetTable.insertAt es' p (h, x')) := by
      intro p
      unfold Sim at *
      rw [SetTable.toList_insertAt, SetTable.toList_insertAt, List.map_append, List.map_append, List.map_cons, List.map_cons, List.map_take, List.map_take, List.map_drop, List.map_drop, e]
    have h1 := hi (t.put slot).2
    have h2 := h1.size
    exact ⟨h1, by simp only [h2]⟩
theorem sim_pick {es es' : Array (Int × Value)} (e : Sim es es') (o : Array Nat) : Sim (o.filterMap (es[·]?)) (o.filterMap (es'[·]?)) := by
  unfold Sim at *
  rw [Array.toList_filterMap, Array.toList_filterMap, List.map_filterMap, List.map_filterMap]
  congr 1
  funext i
  rw [← Array.getElem?_toList, ← Array.getElem?_toList, ← List.getElem?_map, ← List.getElem?_map, e]
theorem sim_relay {t : SetTable} {es es' : Array (Int × Value)} {n : Nat} (e : Sim es es') :
    Sim (relayAll t es n).1 (relayAll t es' n).1 ∧ (relayAll t es n).2 = (relayAll t es' n).2 := by
  have hs := e.size
  have hm : es.map (·.1) = es'.map (·.1) := by
    apply Array.toList_inj.mp
    rw [Array.toList_map, Array.toList_map]; exact e
  unfold relayAll
  rw [hm]
  cases t.relaid (es'.map (·.1)) n with
  | none => exact ⟨e, by simp [hs]⟩
  | some q =>
    obtain ⟨t', o⟩ := q
    have h1 := sim_pick e o
    have h2 := h1.size
    dsimp only
    rw [h2, hs]
    split
    · exact ⟨h1, rfl⟩
    · exact ⟨e, rfl⟩
theorem sim_add {t : SetTable} {es es' : Array (Int × Value)} {h : Int} {x x' : Value} (e : Sim es es') :
    Sim (addFull t es h x).1 (addFull t es' h x').1 ∧ (addFull t es h x).2 = (addFull t es' h x').2 := by
  obtain ⟨h1, h2⟩ := sim_layNew (t := t) (h := h) (x := x) (x' := x') e
  have h3 := h1.size
  unfold addFull
  rw [h2, h3]
  obtain ⟨h4, h5⟩ := sim_relay (t := (layNew t es' h x').2.1) (n := SetTable.grown (layNew t es' h x').1.size) h1
  split
  · exact ⟨h4, congrArg (·.1) h5⟩
  · exact ⟨h1, rfl⟩
noncomputable def absTab (led : Bool) (l : List Int) : Array (Int × Value) × SetTable := l.foldl (fun p k => addFull p.2 p.1 (hashInt k) .none) (#[], .fresh 0 0 led)
noncomputable def slotAt (place : Array Nat) : Nat → Nat
  | 0 => 0
  | i + 1 => place.getD i 0 + 1
noncomputable def goodTab (led : Bool) (p : Array (Int × Value) × SetTable) : Bool :=
  p.2.plain && (p.2.led == led) && (List.range (p.1.size + 1)).all fun i => SetTable.below p.2.place (slotAt p.2.place i) == i
noncomputable def names5 : List Int := [4, 15, 26, 37, 48]
noncomputable def subsOf : List Int → List (List Int)
  | [] => [[]]
  | x :: l => subsOf l ++ (subsOf l).map (x :: ·)
theorem mem_subs (p : Int → Bool) : ∀ l : List Int, l.filter p ∈ subsOf l
  | [] => .head _
  | x :: l => by
    rw [List.filter_cons]
    split
    · exact List.mem_append_right _ (List.mem_map.mpr ⟨_, mem_subs p l, rfl⟩)
    · exact List.mem_append_left _ (mem_subs p l)
noncomputable def addTo (led : Bool) (S : List Int) (x : Int) : Array (Int × Value) × SetTable := addFull (absTab led S).2 (absTab led S).1 (hashInt x) .none
noncomputable def sameTab (p q : Array (Int × Value) × SetTable) : Bool := decide (p.1.toList.map (·.1) = q.1.toList.map (·.1)) && decide (p.2 = q.2)
noncomputable def stepOk (led : Bool) (S : List Int) : Bool := goodTab led (absTab led S) && names5.all fun x => S.contains x || sameTab (addTo led S x) (absTab led (names5.filter fun y => S.contains y || y == x))
theorem steps_t : (subsOf names5).all (stepOk true) = true := by decide +kernel
theorem steps_f : (subsOf names5).all (stepOk false) = true := by decide +kernel
theorem steps_ok {led : Bool} {S : List Int} (h : S ∈ subsOf names5) : stepOk led S = true := by
  cases led
  · exact List.all_eq_true.mp steps_f S h
  · exact List.all_eq_true.mp steps_t S h
theorem names5_len (l : List Int) (hn : l.Nodup) (hs : ∀ x ∈ l, x ∈ names5) : l.length ≤ 5 := by
  exact nodup_len hn hs
theorem absTab_snoc {led : Bool} {l : List Int} {k : Int} : absTab led (l ++ [k]) = addFull (absTab led l).2 (absTab led l).1 (hashInt k) .none := by
  unfold absTab; rw [List.foldl_append]; rfl
theorem canon_tab {led : Bool} : ∀ (n : Nat) (l : List Int), l.length ≤ n → l.Nodup → (∀ x ∈ l, x ∈ names5) →
    Sim (absTab led l).1 (absTab led (names5.filter fun y => l.contains y)).1 ∧ (absTab led l).2 = (absTab led (names5.filter fun y => l.contains y)).2 := by
  have nil : (names5.filter fun y => ([] : List Int).contains y) = [] := rfl
  intro n
  induction n with
  | zero =>
    intro l h _ _
    have e : l = [] := List.eq_nil_of_length_eq_zero (by lia)
    subst e
    rw [nil]
    exact ⟨rfl, rfl⟩
  | succ n ih =>
    intro l h hn hs
    rcases List.eq_nil_or_concat l with rfl | ⟨i, x, rfl⟩
    · rw [nil]
      exact ⟨rfl, rfl⟩
    · rw [List.concat_eq_append] at h hn hs ⊢
      rw [List.nodup_append] at hn
      have hx : x ∉ i := fun hm => hn.2.2 x hm x (by simp) rfl
      obtain ⟨h1, h2⟩ := ih i (by simp at h; lia) hn.1 fun y hy => hs y (by simp [hy])
      have hS := steps_ok (led := led) (mem_subs (fun y => i.contains y) names5)
      unfold stepOk at hS
      rw [Bool.and_eq_true, List.all_eq_true] at hS
      have h3 := hS.2 x (hs x (by simp))
      have hc : (names5.filter fun y => i.contains y).contains x = false := by
        rw [Bool.eq_false_iff]
        intro q
        rw [List.contains_iff_mem, List.mem_filter, List.contains_iff_mem] at q
        exact hx q.2
      rw [hc, Bool.false_or] at h3
      unfold sameTab at h3
      rw [Bool.and_eq_true, decide_eq_true_eq, decide_eq_true_eq] at h3
      have e : (names5.filter fun y => (names5.filter fun y => i.contains y).contains y || y == x) = names5.filter fun y => (i ++ [x]).contains y := by
        refine List.filter_congr fun y hy => ?_
        rw [Bool.eq_iff_iff, Bool.or_eq_true, List.contains_iff_mem, List.mem_filter, List.contains_iff_mem, List.contains_iff_mem, beq_iff_eq, List.mem_append, List.mem_singleton]
        exact ⟨fun q => q.imp (·.2) id, fun q => q.imp (⟨hy, ·⟩) id⟩
      rw [e] at h3
      obtain ⟨h4, h5⟩ := sim_add (t := (absTab led i).2) (h := hashInt x) (x := .none) (x' := .none) h1
      rw [absTab_snoc]
      unfold addTo at h3
      rw [h2] at h4 h5 ⊢
      exact ⟨h4.trans h3.1, h5.trans h3.2⟩
theorem good_of {led : Bool} {l : List Int} (hn : l.Nodup) (hs : ∀ x ∈ l, x ∈ names5) : goodTab led (absTab led l) = true := by
  obtain ⟨h1, h2⟩ := canon_tab (led := led) l.length l (Nat.le_refl _) hn hs
  have hS := steps_ok (led := led) (mem_subs (fun y => l.contains y) names5)
  unfold stepOk at hS
  rw [Bool.and_eq_true] at hS
  have hg := hS.1
  unfold goodTab at hg ⊢
  rw [h2, h1.size]
  exact hg
end
section
open PySem PySem.Calls PyProof.Rows PySem.W PySem.W.X
open Sem (wp)
noncomputable def SetQ (prog : Program) (w : World) (l : List Int) (o : Obj) : Prop :=
  ∃ es ep t, o.ExactSet ∧ o.data = .set es ep t ∧ ElemsOf (intKind prog w) es.toList ∧ (∀ k, k ∈ l ↔ ∃ e ∈ es.toList, (intKind prog w).is k e.2 = true) ∧ es.size < scanBound ∧ t.fits es.size = true ∧ es.size = l.length ∧
    l.Nodup ∧ (∀ x ∈ l, x ∈ names5) ∧ Sim es (absTab (!w.params.followText "set-order") l).1 ∧ t = (absTab (!w.params.followText "set-order") l).2
theorem addFull_perm (t : SetTable) (es : Array (Int × Value)) (h : Int) (x : Value) : List.Perm (addFull t es h x).1.toList (es.toList ++ [(h, x)]) := by
  have h1 := layNew_perm t es h x
  rw [Array.toList_push] at h1
  unfold addFull
  split
  · exact (relayAll_perm _ _ _).trans h1
  · exact h1
theorem addFull_fits (t : SetTable) (es : Array (Int × Value)) (h : Int) (x : Value) : (addFull t es h x).2.fits (addFull t es h x).1.size = true := by
  unfold addFull
  split
  · exact relayAll_fits _ _ _
  · exact layNew_fits _ _ _ _
section
variable {prog : Program} {w : World} {A : Around} {E : Value → Shared → Prop} {c : Cfg} {S S' F : List Ent} {s : Shared} {a : Addr} {l : List Int} {k : Int} {tk : Tok}
theorem addTail_q {g : Bool → Sem Unit} (hg : ∀ (b : Bool) (s₁ : Shared) (Q' : Unit → Shared → Prop), Q' () s₁ → wpAny (model prog w) A (g b) Q' E s₁)
    {o : Obj} {es : Array (Int × Value)} {ep : Nat} {t : SetTable} (ho : s.heap.get? a = some o) (hd : o.data = .set es ep t)
    {es1 : Array (Int × Value)} {t2 : SetTable} (hb1 : es1.size < scanBound) {wasDummy : Bool} {R : Option Bool → Shared → Prop}
    (hq : ∀ h' es2 t3, (es2, t3) = (if (!wasDummy && t2.tooFull) = true then ((relayAll t2 es1 (SetTable.grown es1.size)).1, (relayAll t2 es1 (SetTable.grown es1.size)).2.1) else (es1, t2)) →
      Heap.SameBut a s.heap h' → (∃ ep', h'.get? a = some { o with data := .set es2 ep' t3 }) → R (some true) { s with heap := h' }) :
    wpAny (model prog w) A (do
        storeSet a es1 t2
        if (!wasDummy && t2.tooFull) = true then do
            g (relayAll t2 es1 (SetTable.grown es1.size)).2.2
            storeSet a (relayAll t2 es1 (SetTable.grown es1.size)).1 (relayAll t2 es1 (SetTable.grown es1.size)).2.1
            pure (some true)
          else pure (some true)) R E s := by
  refine wpAny_bind (wpAny_storeSet_of ho hd ?_ (fits_of_scanBound hb1))
  have ho1 : (s.heap.update a (Obj.putSet es1 t2)).get? a = some { o with data := .set es1 (ep + 1) t2 } := by
    have := Heap.get?_update_self (Obj.putSet es1 t2) ho (by rw [putSet_of es1 t2 hd]; rfl)
    rw [putSet_of es1 t2 hd] at this; exact this
  have hsb1 := Heap.SameBut.update s.heap a (Obj.putSet es1 t2)
  by_cases hc : (!wasDummy && t2.tooFull) = true
  · rw [if_pos hc]
    have hp := relayAll_perm t2 es1 (SetTable.grown es1.size)
    have hb2 : (relayAll t2 es1 (SetTable.grown es1.size)).1.size < scanBound := by
      rw [← Array.length_toList, hp.length_eq, Array.length_toList]; exact hb1
    refine wpAny_bind (hg _ _ _ ?_)
    refine wpAny_bind (wpAny_storeSet_of ho1 rfl ?_ (fits_of_scanBound hb2))
    refine wpAny_pure (hq _ _ _ (by rw [if_pos hc]) (hsb1.trans (Heap.SameBut.update _ a _)) ⟨ep + 1 + 1, ?_⟩)
    have := Heap.get?_update_self (Obj.putSet (relayAll t2 es1 (SetTable.grown es1.size)).1 (relayAll t2 es1 (SetTable.grown es1.size)).2.1) ho1 (by rw [putSet_of _ _ rfl]; rfl)
    rw [putSet_of _ _ rfl] at this; exact this
  · rw [if_neg hc]
    exact wpAny_pure (hq _ _ _ (by rw [if_neg hc]) hsb1 ⟨_, ho1⟩)
theorem setq_addHashed {x : Value} {Q : Bool → Shared → Prop} (hkey : (intKind prog w).is k x = true) (h : St c S s) (hm : (a, SetQ prog w l) ∈ S) (hk : k ∈ names5)
    (hq : ∀ h' b, Heap.SameBut a s.heap h' → (∃ o, h'.get? a = some o ∧ SetQ prog w (addk l k) o) → Q b { s with heap := h' }) :
    wpAny (model prog w) A (setAddHashed a x (hashInt k)) Q E s := by
  obtain ⟨o, ho, es, ep, t, hex, hd, hel, hmem, hb, hf, hn, hnd, hsub, hsim, ht⟩ := h.get hm
  have hsc : x.scannable = true := by obtain ⟨t, rfl⟩ := Value.isInt_shape hkey; rfl
  have hl5 := names5_len l hnd hsub
  have hb1 : es.size + 1 < scanBound := by show _ < 4096; lia
  unfold setAddHashed setAddHashedIn
  refine wpAny_holding (wpAny_bind (wpAny_setState_of ho hd hf ?_))
  dsimp only
  rw [byScan_of hsc hb hel]
  simp only [↓reduceIte]
  unfold setAddByScan
  refine wpAny_bind ?_
  refine wpAny_bind (wpAny_rule ?_)
  refine wpAny_bind (wpAny_setScan_of (knd := intKind prog w) (k := k) hkey ho hd hf hel ?_)
  cases hr : List.findIdx? (fun e => (intKind prog w).is k e.2) es.toList with
  | some j =>
    dsimp only
    obtain ⟨hj, hpj, _⟩ := List.findIdx?_eq_some_iff_getElem.mp hr
    have hSk : k ∈ l := (hmem k).mpr ⟨es.toList[j], List.getElem_mem hj, hpj⟩
    refine wpAny_pure (wpAny_pure ?_)
    have e : s = { s with heap := s.heap } := by cases s; rfl
    rw [e]
    refine hq _ _ (Heap.SameBut.refl ..) ⟨o, ho, ?_⟩
    rw [addk, if_pos hSk]
    exact ⟨es, ep, t, hex, hd, hel, hmem, hb, hf, hn, hnd, hsub, hsim, ht⟩
  | none =>
    dsimp only
    have hSk : k ∉ l := by
      intro hk'
      obtain ⟨e, he, hp⟩ := (hmem k).mp hk'; have := List.findIdx?_eq_none_iff.mp hr e he; rw [hp] at this; exact Bool.noConfusion this
    have hgw : ∀ (b : Bool) {s₁ : Shared} {Q' : Unit → Shared → Prop}, Q' () s₁ → wpAny (model prog w) A (match b with | true => rule "set.scan.the-table-gave-way" | false => pure ()) Q' E s₁ :=
      fun b s₁ Q' hq => by cases b <;> first | exact wpAny_pure hq | exact wpAny_rule hq
    generalize hL : layNew t es (hashInt k) x = L
    obtain ⟨es1, t1, wasDummy, gave⟩ := L
    have hperm := layNew_perm t es (hashInt k) x
    rw [hL, Array.toList_push] at hperm
    have hb1' : es1.size < scanBound := by rw [← Array.length_toList, hperm.length_eq, List.length_append, Array.length_toList]; simpa using hb1
    dsimp only
    refine wpAny_bind (hgw _ ?_)
    have fin : ∀ (h' : Heap) (es2 : Array (Int × Value)) (t3 : SetTable), (es2, t3) = (if (!wasDummy && t1.tooFull) = true then ((relayAll t1 es1 (SetTable.grown es1.size)).1, (relayAll t1 es1 (SetTable.grown es1.size)).2.1) else (es1, t1)) →
        Heap.SameBut a s.heap h' → (∃ ep', h'.get? a = some { o with data := .set es2 ep' t3 }) → Q true { s with heap := h' } := by
      intro h' es2 t3 he hsb ⟨ep', ho'⟩
      have he2 : (es2, t3) = addFull t es (hashInt k) x := by rw [he, addFull, hL]
      have hp2 := addFull_perm t es (hashInt k) x
      have hf2 := addFull_fits t es (hashInt k) x
      obtain ⟨hs1, hs2⟩ := sim_add (t := t) (h := hashInt k) (x := x) (x' := .none) hsim
      rw [← he2] at hp2 hf2 hs1 hs2
      have hnd' : (l ++ [k]).Nodup := by
        rw [List.nodup_append]
        exact ⟨hnd, by simp, fun y hy z hz => by rw [List.mem_singleton] at hz; rw [hz]; exact fun e => hSk (e ▸ hy)⟩
      have hsub' : ∀ y ∈ l ++ [k], y ∈ names5 := fun y hy => (List.mem_append.mp hy).elim (hsub y) fun hy => by rw [List.mem_singleton] at hy; rw [hy]; exact hk
      have hsz : es2.size = l.length + 1 := by
        have := hp2.length_eq
        rw [Array.length_toList, List.length_append, Array.length_toList, hn] at this
        simpa using this
      refine hq h' true hsb ⟨_, ho', ?_⟩
      rw [addk, if_neg hSk]
      refine ⟨es2, ep', t3, hex, rfl, (hel.push hkey hsc).perm hp2, fun k' => ?_, by rw [hsz]; show _ < 4096; lia, hf2, by rw [hsz]; simp, hnd', hsub', ?_, ?_⟩
      · have := mem_push_iff (knd := intKind prog w) (S := fun k => decide (k ∈ l)) hkey (fun k' => by rw [decide_eq_true_eq]; exact hmem k') hp2 k'
        rw [← this]
        simp [List.mem_append, or_comm]
      · rw [absTab_snoc, ← ht]; exact hs1
      · rw [absTab_snoc, ← ht]; exact hs2
    split
    · refine wpAny_bind ?_
      rw [hashByValue_scannable 8 hsc]
      have hpk : plainKind x = true := by obtain ⟨t, rfl⟩ := Value.isInt_shape hkey; rfl
      rw [hpk]
      refine wpAny_pure ?_
      simp only [↓reduceIte]
      refine addTail_q ?_ ho hd hb1' fun h' es2 t3 he hsb hg => wpAny_pure (fin h' es2 t3 he hsb hg)
      intro b s₁ Q' hq; cases b <;> first | exact wpAny_pure hq | exact wpAny_rule hq
    · refine wpAny_bind (wpAny_pure ?_)
      simp only [↓reduceIte]
      refine addTail_q ?_ ho hd hb1' fun h' es2 t3 he hsb hg => wpAny_pure (fin h' es2 t3 he hsb hg)
      intro b s₁ Q' hq; cases b <;> first | exact wpAny_pure hq | exact wpAny_rule hq
theorem setq_of (h : St c S s) (hm : (a, SetQ prog w l) ∈ S) : s.heap.SetOf (intKind prog w) a (fun k => decide (k ∈ l)) l.length := by
  obtain ⟨o, ho, es, ep, t, hex, hd, hel, hmem, hb, hf, hn, _⟩ := h.get hm
  exact ⟨o, es, ep, t, ho, hex, hd, hel, fun k => by rw [decide_eq_true_eq]; exact hmem k, hb, hf, hn⟩
theorem setq_meth (h : St c S s) (hm : (a, SetQ prog w l) ∈ S) : ∃ b ob, Value.ref a = .ref b ∧ s.heap.get? b = some ob ∧ ob.cls = .type "set" ∧ ob.dict = none := by
  obtain ⟨o, ho, es, ep, t, hx, _⟩ := h.get hm
  exact ⟨a, o, rfl, ho, hx.1, hx.2.1⟩
theorem setq_add {Q : Value → Shared → Prop} (h : St c S s) (hm : (a, SetQ prog w l) ∈ S) (hk : k ∈ names5) (u : Upd S a (SetQ prog w (addk l k)) S') (hq : ∀ s', St c S' s' → Q .none s') :
    wpAny (model prog w) A (call (.builtin "set.add") [.ref a, .int k tk]) Q E s := by
  have hS := setq_of h hm
  refine wpAny_call_entry PySem.F.slot_set_add hS.typeIs PySem.F.entry_set_add ?_ (PySem.F.args_set_add_2 _ _)
  unfold Builtin.«set.add» Builtin.Frozenset.oneOther
  simp only [List.isEmpty_nil, bind_assoc]
  unfold Builtin.Frozenset.addrOf setAdd
  refine wpAny_bind (wpAny_pure ?_)
  try dsimp only
  refine wpAny_bind (wpAny_pure ?_)
  try dsimp only
  refine wpAny_bind ?_
  refine wpAny_holding ?_
  refine wpAny_bind ((intKind prog w).pyHash (k := k) (by simp [intKind, Value.isInt]) ?_)
  refine setq_addHashed (s := { s with toks := s.toks + 1 }) (k := k) (by simp [intKind, Value.isInt]) (h.tok _) hm hk fun h' b hsb ho => ?_
  show wpAny _ _ (ret Value.none) _ _ _
  exact wpAny_pure ⟨_, rfl, hq _ (h.set (t := s.toks + 1) u hsb ho)⟩
theorem setq_made {Q₁ : Value → Shared → Prop} (h : Q₁ (.ref s.heap.objs.size) { s with heap := s.heap.push { cls := .type "set", dict := none, data := .set #[] 0 (.fresh 0 0 (!w.params.followText "set-order")) } }) :
    codeAny (model prog w) A (.call (.builtin "set.__new__") ⟨[.type "set"], []⟩) (wants Q₁ E) s := by
  refine codeAny_call_builtin PySem.F.plain_set_new PySem.F.entry_set_new (wpAny_of_eq PySem.F.newCall_set_0 ?_)
  show wpAny _ A.in1 (Builtin.Frozenset.newClass "set" ⟨[.type "set"], []⟩ >>= fun p => newSet p.1 >>= fun v => ret v) _ _ s
  refine wpAny_bind (m := Builtin.Frozenset.newClass "set" _) ?_
  unfold Builtin.Frozenset.newClass
  have hsub := sub_set_self
  obtain ⟨hp, g, d, tk, os⟩ := s
  dsimp only
  wp_walk
  refine wpAny_askSetting (wpAny_pure ?_)
  dsimp only
  simp only [newObj]
  refine wpAny_bind (wpAny_alloc (wpAny_pure ?_))
  exact wpAny_pure h
set_option maxHeartbeats 1000000 in
theorem call_setq {Q : Value → Shared → Prop} (h : Q (.ref s.heap.objs.size) { s with heap := s.heap.push { cls := .type "set", dict := none, data := .set #[] 0 (.fresh 0 0 (!w.params.followText "set-order")) } }) :
    wpAny (model prog w) A (call (.type "set") []) Q E s := by
  obtain ⟨led, hled⟩ : ∃ led, led = !w.params.followText "set-order" := ⟨_, rfl⟩
  rw [← hled] at h
  obtain ⟨c, tl, hmro⟩ := PySem.F.called_set.mro
  have hmade := PySem.F.called_set.made
  have hsub := PySem.F.called_set.sub
  refine wpAny_call (codeAny_of_tree ?_)
  show wpAny _ _ (callAny (.type "set") _) _ _ _
  refine wpAny_pure ⟨Code.quiet_builtin _ (by decide +kernel), codeAny_builtin PySem.F.entry_type_call ?_⟩
  rw [Around.under_plain (weight_type_call_type "set" [] []) rfl]
  have h1 := PySem.F.called_set.notType
  have h2 := PySem.F.called_set.canCreate
  have hct := PySem.F.typeCall_set_0
  repeat (any_goals (first | assumption | wp_step))
  refine codeAny_mono (setq_made (E := E) (Q₁ := fun obj s₁ => obj = .ref s.heap.objs.size ∧ s₁ = { s with heap := s.heap.push { cls := .type "set", dict := none, data := .set #[] 0 (.fresh 0 0 led) } }) (by rw [← hled]; exact ⟨rfl, rfl⟩)) fun r s₁ hr => ?_
  rcases r with e | (v | _ | _ | _) <;> first | exact hr | exact hr.elim | skip
  obtain ⟨rfl, rfl⟩ := hr
  have hS : (s.heap.push { cls := .type "set", dict := none, data := .set #[] 0 (.fresh 0 0 led) }).get? s.heap.objs.size = some { cls := .type "set", dict := none, data := .set #[] 0 (.fresh 0 0 led) } := Heap.get?_push_size _ rfl
  have hT : Shared.TypeIs { s with heap := s.heap.push { cls := .type "set", dict := none, data := .set #[] 0 (.fresh 0 0 led) } } (.ref s.heap.objs.size) "set" := ⟨_, hS, rfl⟩
  have hli := PySem.F.called_set.init.lookup
  have hbi := PySem.F.called_set.init.bind (.ref s.heap.objs.size)
  repeat (any_goals (first | assumption | wp_step))
  refine codeAny_mono (codeAny_call_builtin (R := wants (fun r s₂ => r = .none ∧ Q (.ref s.heap.objs.size) s₂) E) PySem.F.called_set.init.plain PySem.F.entry_set_init (check_set_init hT ?_)) fun r₂ s₂ hr₂ => ?_
  · unfold Builtin.«set.__init__» noKeywords
    wp_walk
    exact ⟨rfl, h⟩
  · rcases r₂ with e | (v | _ | _ | _) <;> first | exact hr₂ | exact hr₂.elim | skip
    obtain ⟨rfl, hq⟩ := hr₂
    repeat (any_goals (first | assumption | wp_step))
theorem new_setq {Q : Value → Shared → Prop} (h : St c S s) (hq : ∀ b s', St c ((b, SetQ prog w []) :: S) s' → Q (.ref b) s') : wpAny (model prog w) A (call (.type "set") []) Q E s := by
  refine call_setq (hq _ _ (h.push (t := s.toks) _ rfl ⟨#[], 0, _, ⟨rfl, rfl, rfl⟩, rfl, fun _ he => by simp at he, fun k => by simp, by decide, ?_, rfl, .nil, (fun _ h => nomatch h), rfl, rfl⟩))
  cases w.params.followText "set-order" <;> decide +kernel
end
end
section
open PySem PySem.Calls PyProof.Rows PySem.W PySem.W.X
open Sem (wp)
theorem pick_go {α : Type} (next : Nat → Nat) : ∀ (n k : Nat) (l : List α) (out : Array α), l.length ≤ n → List.Perm (pickOrder.go next n k l out).toList (out.toList ++ l) := by
  intro n
  induction n with
  | zero =>
    intro k l out h
    have : l = [] := List.eq_nil_of_length_eq_zero (by lia)
    subst this
    simp [pickOrder.go]
  | succ n ih =>
    intro k l out h
    unfold pickOrder.go
    cases hx : l[next k % l.length]? with
    | none =>
      have : l.length ≤ next k % l.length := List.getElem?_eq_none_iff.mp hx
      have hl : l = [] := by
        cases l with
        | nil => rfl
        | cons a r => exact absurd (Nat.mod_lt (next k) (by simp : 0 < (a :: r).length)) (by lia)
      subst hl; simp
    | some x =>
      dsimp only
      obtain ⟨hi, hxe⟩ := List.getElem?_eq_some_iff.mp hx
      refine (ih (k + 1) _ _ (by rw [List.length_eraseIdx_of_lt hi]; lia)).trans ?_
      rw [Array.toList_push, List.append_assoc]
      refine List.Perm.append_left _ ?_
      have e : l = l.take (next k % l.length) ++ x :: l.drop (next k % l.length + 1) := by rw [← hxe, List.getElem_cons_drop hi, List.take_append_drop]
      conv => rhs; rw [e]
      rw [List.eraseIdx_eq_take_drop_succ]
      rw [List.singleton_append]
      exact List.perm_middle.symm
theorem pick_perm {α : Type} (next : Nat → Nat) (xs : Array α) : List.Perm (pickOrder next xs).toList xs.toList := by
  have := pick_go next xs.size 0 xs.toList #[] (by simp)
  simpa [pickOrder] using this
theorem perm_of_sub : ∀ (l m : List Int), l.Nodup → (∀ x ∈ l, x ∈ m) → m.length ≤ l.length → l.Perm m
  | [], m, _, _, h => by
    have e : m = [] := List.eq_nil_of_length_eq_zero (by simpa using h)
    subst e; exact .nil
  | x :: r, m, hn, hs, h => by
    rw [List.nodup_cons] at hn
    have hx := hs x (.head _)
    refine (List.Perm.cons x (perm_of_sub r (m.erase x) hn.2 (fun y hy => ?_) ?_)).trans (List.perm_cons_erase hx).symm
    · have hne : y ≠ x := fun e => hn.1 (e ▸ hy)
      exact (List.mem_erase_of_ne hne).mpr (hs y (.tail _ hy))
    · rw [List.length_erase_of_mem hx]; simp only [List.length_cons] at h; lia
theorem slot_set_iterator_next : Slot "set_iterator" "__next__" "set_iterator.__next__" :=
  .of (owner := "set_iterator") (n := "__next__") (by rw [typeLookup_type, builtinLookup_eq_fast]; kernel_rfl) (by decide +kernel) (by decide +kernel) (by decide +kernel)
    (by first | exact .inl (by decide +kernel) | exact .inr (by decide +kernel)) (by rw [isSubtype_type]; kernel_rfl)
theorem entry_set_iterator_next : entryFor table "set_iterator.__next__" = some Builtin.«set_iterator.__next__» := entryFor_of_tree (by kernel_rfl)
theorem args_set_iterator_next (a : Value) : argsOk "set_iterator.__next__" ⟨[a], []⟩ := by unfold argsOk; kernel_rfl
theorem entry_set_iter : entryFor table "set.__iter__" = some Builtin.«frozenset.__iter__» :=
  entryFor_alias (id' := "frozenset.__iter__") (by kernel_rfl) rfl (by decide +kernel) (by kernel_rfl)
noncomputable def slotQ (byText : Bool) (t : SetTable) (i : Nat) : Nat := if byText then 0 else slotAt t.place i
noncomputable def SItP (byText : Bool) (t : SetTable) (a : Addr) (n ep i : Nat) (o : Obj) : Prop := o.cls = .type "set_iterator" ∧ o.data = .fields #[.int (slotQ byText t i) 0, .int i 0, .ref a, .int n 0, .int ep 0]
section
variable {prog : Program} {w : World} {A : Around} {E : Value → Shared → Prop} {c : Cfg} {S S' F : List Ent} {s : Shared} {a : Addr} {l : List Int} {k : Int} {tk : Tok}
structure SeesQ (prog : Program) (w : World) (a : Addr) (l : List Int) (o : Obj) (es : Array (Int × Value)) (ep : Nat) (t : SetTable) (ws : Array (Int × Value)) : Prop where
  ex : o.ExactSet
  dat : o.data = .set es ep t
  fits : t.fits es.size = true
  n : es.size = l.length
  five : l.length ≤ 5
  perm : List.Perm ws.toList es.toList
  vals : ∃ ns, IntsAre (ws.toList.map (·.2)) ns ∧ ns.Perm l
  way : ws = if w.params.followText "set-order" then pickOrder (w.params.setOrder a ep) es else es
  plain : t.plain = true
  led : w.params.followText "set-order" = false → t.led = true
  walk : ∀ i, i ≤ es.size → SetTable.below t.place (slotAt t.place i) = i
theorem sees_q (h : St c S s) (hm : (a, SetQ prog w l) ∈ S) : ∃ o es ep t ws, s.heap.get? a = some o ∧ SeesQ prog w a l o es ep t ws := by
  obtain ⟨o, ho, es, ep, t, hex, hd, hel, hmem, hb, hf, hn, hnd, hsub, hsim, ht⟩ := h.get hm
  have hg := good_of (led := !w.params.followText "set-order") hnd hsub
  unfold goodTab at hg
  simp only [Bool.and_eq_true, beq_iff_eq, List.all_eq_true, List.mem_range] at hg
  rw [← ht, ← hsim.size] at hg
  have hp : List.Perm (if w.params.followText "set-order" then pickOrder (w.params.setOrder a ep) es else es).toList es.toList := by
    split
    · exact pick_perm _ _
    · exact .refl _
  refine ⟨o, es, ep, t, _, ho, hex, hd, hf, hn, names5_len l hnd hsub, hp, ?_, rfl, hg.1.1, fun e => by rw [hg.1.2, e]; rfl, fun i hi => hg.2 i (by lia)⟩
  generalize (if w.params.followText "set-order" then pickOrder (w.params.setOrder a ep) es else es) = ws at hp
  have hel2 : ElemsOf (intKind prog w) ws.toList := hel.perm hp
  have hmem2 : ∀ k, k ∈ l ↔ ∃ e ∈ ws.toList, (intKind prog w).is k e.2 = true := fun k => (hmem k).trans ⟨fun ⟨e, he, q⟩ => ⟨e, hp.mem_iff.mpr he, q⟩, fun ⟨e, he, q⟩ => ⟨e, hp.mem_iff.mp he, q⟩⟩
  have hlen : ws.toList.length = l.length := by rw [hp.length_eq, Array.length_toList, hn]
  have mk : ∀ L : List (Int × Value), ElemsOf (intKind prog w) L → ∃ ns, IntsAre (L.map (·.2)) ns ∧ ∀ k, k ∈ ns ↔ ∃ e ∈ L, (intKind prog w).is k e.2 = true := by
    intro L
    induction L with
    | nil => intro _; exact ⟨[], .nil, fun k => by simp⟩
    | cons e L ih =>
      intro hE
      obtain ⟨ns, h1, h2⟩ := ih hE.tail
      obtain ⟨⟨k, hk, _⟩, _⟩ := hE.head
      obtain ⟨t, ht⟩ := Value.isInt_shape hk
      refine ⟨k :: ns, by rw [List.map_cons, ht]; exact .cons _ _ h1, fun k' => ?_⟩
      rw [List.mem_cons, h2]
      constructor
      · rintro (rfl | ⟨e', he', q⟩)
        · exact ⟨e, .head _, hk⟩
        · exact ⟨e', .tail _ he', q⟩
      · rintro ⟨e', he', q⟩
        rcases List.mem_cons.mp he' with rfl | he'
        · exact .inl ((intKind prog w).inj _ _ _ q hk)
        · exact .inr ⟨e', he', q⟩
  obtain ⟨ns, h1, h2⟩ := mk _ hel2
  refine ⟨ns, h1, ?_⟩
  have hl : ns.length = l.length := by rw [← h1.length, List.length_map, hlen]
  exact (perm_of_sub l ns hnd (fun x hx => (h2 x).mpr ((hmem2 x).mp hx)) (by lia)).symm
theorem q_iter {o : Obj} {es : Array (Int × Value)} {ep : Nat} {t : SetTable} {ws : Array (Int × Value)} {Q : Value → Shared → Prop} (h : St c S s) (ho : s.heap.get? a = some o) (V : SeesQ prog w a l o es ep t ws)
    (hq : ∀ s', St c ((s.heap.objs.size, SItP (w.params.followText "set-order") t a es.size ep 0) :: S) s' → Q (.ref s.heap.objs.size) s') : wpAny (model prog w) A (pyIter (.ref a)) Q E s := by
  have hT : s.TypeIs (.ref a) "set" := ⟨o, ho, V.ex.1⟩
  refine wpAny_pyIter_slot hT PySem.F.slot_set_iter (wpAny_call_entry PySem.F.slot_set_iter hT entry_set_iter ?_ (PySem.F.args_set_iter_1 _))
  unfold Builtin.«frozenset.__iter__» Builtin.Frozenset.slot0 slotArgs
  simp only [List.isEmpty_nil, Bool.not_true, Bool.false_eq_true, ↓reduceIte, bind_assoc, List.length_nil, bne_self_eq_false]
  unfold Builtin.Frozenset.addrOf Builtin.Frozenset.sizeOf
  refine wpAny_bind (wpAny_pure ?_)
  try dsimp only
  refine wpAny_bind (wpAny_pure ?_)
  refine wpAny_bind (wpAny_bind (wpAny_setEntries_of ho V.dat V.fits (wpAny_pure ?_)))
  have hdr : ∀ b : Bool, (!b && (!t.plain && decide (es.size > 1))) = false := fun b => by rw [V.plain]; simp
  refine wpAny_bind ?_
  unfold setDrawn setsByText
  refine wpAny_bind (wpAny_setState_of ho V.dat V.fits ?_)
  refine wpAny_bind (wpAny_bind (wpAny_askSetting (wpAny_pure ?_)))
  refine wpAny_pure ?_
  show wpAny _ _ (if (!(w.params.followText "set-order") && (!t.plain && decide (es.size > 1))) = true then _ else _) _ _ _
  rw [if_neg (by rw [hdr]; simp)]
  refine wpAny_bind (wpAny_pure ?_)
  refine wpAny_bind (wpAny_setEpoch_of ho V.dat V.fits ?_)
  refine wpAny_bind (wpAny_newObj_type ?_)
  refine wpAny_pure ⟨_, rfl, "set_iterator", _, ⟨_, Heap.get?_push_size _ rfl, rfl⟩, slot_set_iterator_next.lookup, ?_⟩
  refine hq _ (h.push (t := s.toks) _ rfl ⟨rfl, ?_⟩)
  have e0 : slotQ (w.params.followText "set-order") t 0 = 0 := by unfold slotQ; split <;> rfl
  rw [e0]
  rfl
theorem q_setNext {o : Obj} {es : Array (Int × Value)} {ep i : Nat} {t : SetTable} {ws : Array (Int × Value)} {Q : Option (Value × Nat) → Shared → Prop} (ho : s.heap.get? a = some o) (V : SeesQ prog w a l o es ep t ws) (hi : i ≤ es.size)
    (hq : ∀ r, r = (ws[i]?).map (fun e => (e.2, slotQ (w.params.followText "set-order") t (i + 1))) → Q r s) : wpAny (model prog w) A (setNext a (slotQ (w.params.followText "set-order") t i) i ep) Q E s := by
  unfold setNext setsByText
  refine wpAny_bind (wpAny_setState_of ho V.dat V.fits ?_)
  refine wpAny_bind (wpAny_bind (wpAny_askSetting (wpAny_pure ?_)))
  have hw := V.way
  cases hb : w.params.followText "set-order" with
  | true =>
    rw [hb] at hw hq
    show wpAny _ _ (if w.params.followText "set-order" = true then _ else _) _ _ _
    rw [if_pos hb]
    show wpAny _ _ (if (ep != ep) = true then _ else _) _ _ _
    rw [if_neg (by simp)]
    unfold setWalk setsByText
    refine wpAny_bind (wpAny_bind (wpAny_setState_of ho V.dat V.fits ?_))
    refine wpAny_bind (wpAny_bind (wpAny_askSetting (wpAny_pure ?_)))
    show wpAny _ _ (if w.params.followText "set-order" = true then _ else _) _ _ _
    rw [if_pos hb]
    refine wpAny_bind (wpAny_askSetting (wpAny_pure (wpAny_pure (hq _ ?_))))
    rw [hw]; rfl
  | false =>
    rw [hb] at hw hq
    show wpAny _ _ (if w.params.followText "set-order" = true then _ else _) _ _ _
    rw [if_neg (by rw [hb]; simp)]
    show wpAny _ _ (if (!t.plain && decide (es.size > 1)) = true then _ else _) _ _ _
    rw [if_neg (by rw [V.plain]; simp)]
    show wpAny _ _ ((if (!t.led && !es.isEmpty) = true then unsupported "set:maker-not-led" else pure ()) >>= fun _ => _) _ _ _
    rw [if_neg (by rw [V.led hb]; simp)]
    refine wpAny_bind (wpAny_pure ?_)
    have e1 : slotQ false t i = slotAt t.place i := rfl
    have e2 : slotQ false t (i + 1) = t.place.getD i 0 + 1 := rfl
    rw [e1]
    dsimp only
    rw [V.walk i hi]
    have hw : ws = es := hw
    subst hw
    have hpl : t.place.size = ws.size := by
      have := V.fits
      simp only [SetTable.fits, Bool.and_eq_true, beq_iff_eq] at this
      exact this.1
    rw [e2] at hq
    rcases Nat.lt_or_ge i ws.size with hlt | hge
    · have hlt' : i < t.place.size := by lia
      rw [Array.getElem?_eq_getElem hlt, Array.getElem?_eq_getElem hlt']
      rw [Array.getElem?_eq_getElem hlt] at hq
      exact wpAny_pure (hq _ (by simp [Array.getD_eq_getD_getElem?, Array.getElem?_eq_getElem hlt']))
    · rw [Array.getElem?_eq_none hge]
      rw [Array.getElem?_eq_none hge] at hq
      exact wpAny_pure (hq _ rfl)
theorem q_next_item {it : Addr} {o : Obj} {es : Array (Int × Value)} {ep i : Nat} {t : SetTable} {ws : Array (Int × Value)} {Q : Option Value → Shared → Prop} (h : St c S s) (hit : (it, SItP (w.params.followText "set-order") t a es.size ep i) ∈ S) (ho : s.heap.get? a = some o) (V : SeesQ prog w a l o es ep t ws)
    {e : Int × Value} (he : ws[i]? = some e) (u : Upd S it (SItP (w.params.followText "set-order") t a es.size ep (i + 1)) S') (hq : ∀ s', St c S' s' → Q (some e.2) s') : wpAny (model prog w) A (pyNext (.ref it)) Q E s := by
  obtain ⟨oi, hoi, hc, hd⟩ := h.get hit
  have hT : s.TypeIs (.ref it) "set_iterator" := ⟨oi, hoi, hc⟩
  have hws : ws.size = es.size := by rw [← Array.length_toList, V.perm.length_eq, Array.length_toList]
  have hi : i < ws.size := by
    rcases Nat.lt_or_ge i ws.size with q | q
    · exact q
    · rw [Array.getElem?_eq_none q] at he; cases he
  unfold pyNext
  refine wpAny_bind (wpAny_attempt (wpAny_callSpecial?_slot (name := Str.ofString "__next__") hT slot_set_iterator_next
    (wpAny_call_entry slot_set_iterator_next hT entry_set_iterator_next ?_ (args_set_iterator_next _))))
  unfold Builtin.«set_iterator.__next__»
  refine wpAny_bind (m := slotArgs "__next__" 0 _) (wpAny_pure ?_)
  refine wpAny_bind (wpAny_fieldsOf hoi hd ?_)
  refine wpAny_bind (wpAny_setEntries_of ho V.dat V.fits ?_)
  show wpAny _ _ (if (((es.size : Nat) : Int) != ((es.size : Nat) : Int)) = true then _ else _) _ _ _
  rw [if_neg (by simp)]
  refine wpAny_bind (m := setNext a _ _ _) ?_
  simp only [Int.toNat_natCast]
  refine q_setNext ho V (by lia) fun r hr => ?_
  rw [he] at hr
  subst hr
  show wpAny _ _ (setField (.ref it) 0 (rawInt _) >>= fun _ => setField (.ref it) 1 (rawInt ((i : Int) + 1)) >>= fun _ => ret e.2) _ _ _
  refine wpAny_bind (wpAny_setField hoi hd (by simp) ?_)
  have ho1 : (s.heap.update it (Obj.mapFields (·.setIfInBounds 0 (rawInt (slotQ (w.params.followText "set-order") t (i + 1) : Nat))))).get? it = some (Obj.mapFields (·.setIfInBounds 0 (rawInt (slotQ (w.params.followText "set-order") t (i + 1) : Nat))) oi) :=
    Heap.get?_update_self _ hoi (Obj.isFreed_of_fields (Obj.data_mapFields hd _))
  have hd1 := Obj.data_mapFields hd (·.setIfInBounds 0 (rawInt (slotQ (w.params.followText "set-order") t (i + 1) : Nat)))
  refine wpAny_bind (wpAny_setField ho1 hd1 (by simp) ?_)
  refine wpAny_pure ⟨_, rfl, wpAny_pure (hq _ (h.set (t := s.toks) u ((Heap.SameBut.update ..).trans (Heap.SameBut.update ..)) ⟨_, Heap.get?_update_self _ ho1 (Obj.isFreed_of_fields (Obj.data_mapFields hd1 _)), ?_, ?_⟩))⟩
  · rw [Obj.cls_mapFields, Obj.cls_mapFields]; exact hc
  · rw [Obj.data_mapFields hd1]; simp [rawInt]
theorem q_next_end {it : Addr} {o : Obj} {es : Array (Int × Value)} {ep i : Nat} {t : SetTable} {ws : Array (Int × Value)} {Q : Option Value → Shared → Prop} (hh : A.handled = none) (h : St c S s) (tk : Take S (it, SItP (w.params.followText "set-order") t a es.size ep i) S') (ho : s.heap.get? a = some o) (V : SeesQ prog w a l o es ep t ws)
    (hi : i = ws.size) (hq : ∀ s', St c S' s' → Q none s') : wpAny (model prog w) A (pyNext (.ref it)) Q E s := by
  obtain ⟨oi, hoi, hc, hd⟩ := h.get tk.mem.1
  have hT : s.TypeIs (.ref it) "set_iterator" := ⟨oi, hoi, hc⟩
  have hws : ws.size = es.size := by rw [← Array.length_toList, V.perm.length_eq, Array.length_toList]
  unfold pyNext
  refine wpAny_bind (wpAny_attempt (wpAny_callSpecial?_slot (name := Str.ofString "__next__") hT slot_set_iterator_next
    (wpAny_call_entry slot_set_iterator_next hT entry_set_iterator_next ?_ (args_set_iterator_next _))))
  unfold Builtin.«set_iterator.__next__»
  refine wpAny_bind (m := slotArgs "__next__" 0 _) (wpAny_pure ?_)
  refine wpAny_bind (wpAny_fieldsOf hoi hd ?_)
  refine wpAny_bind (wpAny_setEntries_of ho V.dat V.fits ?_)
  show wpAny _ _ (if (((es.size : Nat) : Int) != ((es.size : Nat) : Int)) = true then _ else _) _ _ _
  rw [if_neg (by simp)]
  refine wpAny_bind (m := setNext a _ _ _) ?_
  simp only [Int.toNat_natCast]
  refine q_setNext ho V (by lia) fun r hr => ?_
  rw [Array.getElem?_eq_none (by lia)] at hr
  subst hr
  show wpAny _ _ (setField (.ref it) 2 .none >>= _) _ _ _
  refine wpAny_bind (wpAny_setField hoi hd (by simp) ?_)
  show wpAny _ _ (newExc (.type "StopIteration") [] >>= _) _ _ _
  refine wpAny_bind ?_
  simp only [newExc, newTuple]
  refine wpAny_bind (wpAny_newObj_type ?_ (by size_fits))
  refine wpAny_bind (m := firstArgMember _ _) (wpAny_of_eq (a := Value.none) (by first | rfl | (simp only [firstArgMember]; rfl)) ?_)
  refine wpAny_newObj_type ?_ (by size_fits)
  simp only [raiseNew]
  refine wpAny_bind (wpAny_handled ?_)
  rw [show A.in1.handled = none from hh]
  refine wpAny_bind (wpAny_pure (wpAny_throw ?_))
  refine wpAny_bind (wpAny_isInstance (T := "StopIteration") (b := true) ⟨_, Heap.get?_push_size _ rfl, rfl⟩ isSubtype_stop ?_)
  exact wpAny_pure (hq _ (h.ext (tk := s.toks) tk (((Heap.SameBut.update ..).extBut.push _).push _)))
end
end
section
open PySem PySem.Calls PyProof.Rows PySem.W PySem.W.X
open Sem (wp)
noncomputable def IsObj (o x : Obj) : Prop := x = o
section
variable {prog : Program} {w : World} {A : Around} {E : Value → Shared → Prop} {c : Cfg} {S S' F : List Ent} {s : Shared} {a : Addr} {l : List Int} {k : Int} {tk : Tok}
theorem collect_ext {x : Addr} {Q : List Value → Shared → Prop} (h : St c S s)
    (hx : ∀ (L : Addr) (s₁ : Shared) (R : Result → Shared → Prop), St c ((L, LstP []) :: S) s₁ → (∀ c' F acc s', St c' ((L, LstP acc) :: F) s' → Q acc s' → R (.ok (.ret (.ref L))) s') →
      wpAny (model prog w) A.in1 (Builtin.List.listExtendWith (.ref L) (.ref x) (.ref L)) (fun fin s' => match fin with | .done f => R (.ok f) s' | .again c' => c'.quiet = true ∧ codeAny (model prog w) A c' R s') (fun e s' => R (.error e) s') s₁) :
    wpAny (model prog w) A (collect (.ref x)) Q E s := by
  have key : ∀ R : Result → Shared → Prop, (∀ c' F acc L s', St c' ((L, LstP acc) :: F) s' → Q acc s' → R (.ok (.ret (.ref L))) s') → codeAny (model prog w) A (.builtin "proto.collect" ⟨[.ref x], []⟩) R s := by
    intro R hR
    refine codeAny_builtin PySem.F.entry_proto_collect ?_
    rw [Around.under_plainId PySem.F.plain_proto_collect _]
    show wpAny _ A.in1 (newList [] >>= fun l => again (.builtin "list.__iadd__" ⟨[l, .ref x], []⟩)) _ _ s
    refine wpAny_bind (wpAny_newObj_type ?_)
    refine wpAny_pure ⟨plainId_quiet PySem.F.plain_list_iadd _, codeAny_builtin PySem.F.entry_list_iadd ?_⟩
    rw [Around.under_plainId PySem.F.plain_list_iadd _]
    have h₂ := h.push (t := s.toks) (P := LstP []) { cls := .type "list", data := .seq ([] : List Value).toArray } rfl ⟨rfl, rfl, _, rfl⟩
    exact hx s.heap.objs.size _ R h₂ fun c' F acc s' h' hq => hR c' F acc _ s' h' hq
  unfold collect
  refine wpAny_bind (wpAny_runValue (key _ fun c' F acc L s' h' hq => ?_))
  obtain ⟨o, ho, hc, hdi, m, hd⟩ := h'.get (.head _)
  show wpAny _ _ (load L >>= _) _ _ _
  refine wpAny_bind (wpAny_load ho ?_)
  rw [hd]
  exact wpAny_pure hq
theorem hint_set {Q : Bool → Shared → Prop} (hT : s.TypeIs (.ref a) "set") (hq : Q false s) : wpAny (model prog w) A (Builtin.List.listLengthHint (.ref a)) Q E s := by
  unfold Builtin.List.listLengthHint
  refine wpAny_bind (wpAny_specialOf hT PySem.F.slot_set_len.lookup ?_)
  have e : splitId "set.__len__" = some ("set", "__len__") := by kernel_rfl
  dsimp only
  rw [e]
  dsimp only
  refine wpAny_bind (wpAny_isInstance hT sub_set_self ?_)
  show wpAny _ _ (typeOf (.ref a) >>= _) _ _ _
  exact wpAny_bind (wpAny_typeOf hT (wpAny_pure hq))
theorem sub_dict_self : isSubtype (.type "dict") (.type "dict") = pure true := by rw [isSubtype_type]; kernel_rfl
theorem hint_dict {Q : Bool → Shared → Prop} (hT : s.TypeIs (.ref a) "dict") (hq : Q false s) : wpAny (model prog w) A (Builtin.List.listLengthHint (.ref a)) Q E s := by
  unfold Builtin.List.listLengthHint
  refine wpAny_bind (wpAny_specialOf hT PySem.F.slot_dict_len.lookup ?_)
  have e : splitId "dict.__len__" = some ("dict", "__len__") := by kernel_rfl
  dsimp only
  rw [e]
  dsimp only
  refine wpAny_bind (wpAny_isInstance hT sub_dict_self ?_)
  show wpAny _ _ (typeOf (.ref a) >>= _) _ _ _
  exact wpAny_bind (wpAny_typeOf hT (wpAny_pure hq))
theorem q_collect {Q : List Value → Shared → Prop} (hA : Room A 3) (h : St c S s) (tk : Take S (a, SetQ prog w l) F)
    (hq : ∀ vs ns s', IntsAre vs ns → ns.Perm l → St c S s' → Q vs s') : wpAny (model prog w) A (collect (.ref a)) Q E s := by
  have h0 := h.perm tk.perm
  refine collect_ext h0 fun L s₁ R h₁ hR => ?_
  obtain ⟨o, es, ep, t, ws, ho, V⟩ := sees_q h₁ (a := a) (by lk)
  obtain ⟨o', ho', hS⟩ := h₁.get (a := a) (P := SetQ prog w l) (by lk)
  have eo : o' = o := by rw [ho] at ho'; exact (Option.some.inj ho').symm
  rw [eo] at hS
  clear eo ho'
  have h₂ := h₁.at_ (S' := (L, LstP []) :: (a, IsObj o) :: F) (P' := IsObj o) (.tail .head) ⟨o, ho, (rfl : IsObj o o)⟩
  have at_ : ∀ {c' : Cfg} {T : List Ent} {s' : Shared}, St c' T s' → (a, IsObj o) ∈ T → s'.heap.get? a = some o := fun h' hm => by
    obtain ⟨x, hx, e⟩ := h'.get hm
    have e : x = o := e
    rw [hx, e]
  have hT : ∀ {c' : Cfg} {T : List Ent} {s' : Shared}, St c' T s' → (a, IsObj o) ∈ T → s'.TypeIs (.ref a) "set" := fun h' hm => ⟨_, at_ h' hm, V.ex.1⟩
  have hws : ws.size = es.size := by rw [← Array.length_toList, V.perm.length_eq, Array.length_toList]
  have h5 := V.five
  have hn := V.n
  generalize hI : s₁.heap.objs.size = I
  have W : Fills prog w A.in1 I ws.size
      (fun i c' F' acc => c' = c ∧ F' = (I, SItP (w.params.followText "set-order") t a es.size ep i) :: (a, IsObj o) :: F ∧ acc = (ws.toList.map (·.2)).take i ∧ i ≤ ws.size)
      (fun c' F' acc => c' = c ∧ F' = (a, IsObj o) :: F ∧ acc = ws.toList.map (·.2)) := by
    refine ⟨?_, ?_, ?_⟩
    · rintro i c' F' acc T s Q E hi ⟨rfl, rfl, rfl, _⟩ h hq
      have h' := h.perm List.perm_middle
      have ho' := at_ h' (.tail _ (List.mem_append_right _ (.head _)))
      refine q_next_item h' (.head _) ho' V (Array.getElem?_eq_getElem hi) .head fun s' h'' => hq _ _ _ _ ⟨rfl, rfl, ?_, hi⟩ (h''.perm List.perm_middle.symm)
      rw [List.take_succ_eq_append_getElem (by simpa using hi)]
      simp
    · rintro c' F' acc T s Q E ⟨rfl, rfl, rfl, _⟩ h hq
      have h' := h.perm List.perm_middle
      have ho' := at_ h' (.tail _ (List.mem_append_right _ (.head _)))
      refine q_next_end hA.in1.handled h' .head ho' V rfl fun s' h'' => hq _ _ _ ⟨rfl, rfl, ?_⟩ h''
      rw [List.take_of_length_le (by simp)]
    · rintro i c' F' acc ⟨_, _, rfl, hi⟩
      simp; lia
  refine extend_it (T := "set") W (by lia) h₂ (hT h₂ (by lk)) rfl rfl (h₂.ne .head (by lk)) (fun {Q' E'} hq' => ?_) (fun {Q' E' c' F' s'} hJ h' hq' => ?_) (fun c' F' acc s' hD h' => ?_)
  · refine q_iter h₂ ho V fun s' h' => ?_
    rw [hI] at h' ⊢
    exact hq' _ _ _ ⟨rfl, rfl, rfl, Nat.zero_le _⟩ (h'.perm (.swap ..))
  · obtain ⟨rfl, rfl, _, _⟩ := hJ
    exact hint_set (hT h' (by lk)) (hq' _ _ h')
  · obtain ⟨rfl, rfl, rfl⟩ := hD
    obtain ⟨ns, hv1, hv2⟩ := V.vals
    refine hR _ _ _ _ h' (hq _ _ _ hv1 hv2 ?_)
    exact ((h'.tailOf).sub (.cons .head (fun x (e : x = o) => by rw [e]; exact hS) .refl)).perm tk.perm.symm
theorem fdic_collect {kvs : List (Int × Value)} {ep : Nat} {Q : List Value → Shared → Prop} (hA : Room A 3) (h : St c S s) (hf : FDic prog w c.Z a kvs ep) (hz : kvs.length ≤ 900)
    (hq : ∀ vs s', IntsAre vs (kvs.map (·.1)) → St c S s' → Q vs s') : wpAny (model prog w) A (collect (.ref a)) Q E s := by
  refine collect_ext h fun L s₁ R h₁ hR => ?_
  have hT : ∀ {T : List Ent} {s' : Shared}, St c T s' → s'.TypeIs (.ref a) "dict" := fun h' => (fdic_at h' hf).dictOf.typeIs
  generalize hI : s₁.heap.objs.size = I
  have W : Fills prog w A.in1 I kvs.length
      (fun i c' F' acc => c' = c ∧ F' = (I, KItP a i kvs.length ep) :: S ∧ IntsAre acc ((kvs.map (·.1)).take i) ∧ i ≤ kvs.length)
      (fun c' F' acc => c' = c ∧ F' = S ∧ IntsAre acc (kvs.map (·.1))) := by
    refine ⟨?_, ?_, ?_⟩
    · rintro i c' F' acc T s Q E hi ⟨rfl, rfl, hacc, _⟩ h hq
      have h' := h.perm List.perm_middle
      refine fd_next h' (.head _) hf (List.getElem?_eq_getElem hi) .head fun t s' h'' => hq _ _ _ _ ⟨rfl, rfl, ?_, hi⟩ (h''.perm List.perm_middle.symm)
      rw [List.take_succ_eq_append_getElem (by simpa using hi)]
      refine hacc.append ?_
      rw [List.getElem_map]
      exact .cons _ _ .nil
    · rintro c' F' acc T s Q E ⟨rfl, rfl, hacc, _⟩ h hq
      have h' := h.perm List.perm_middle
      refine fd_end hA.in1.handled h' .head hf (List.getElem?_eq_none (Nat.le_refl _)) fun s' h'' => hq _ _ _ ⟨rfl, rfl, ?_⟩ h''
      rw [List.take_of_length_le (by simp)] at hacc
      exact hacc
    · rintro i c' F' acc ⟨_, _, hacc, hi⟩
      have := hacc.length
      simp at this; lia
  have hne : L ≠ a := fun e => by
    obtain ⟨o, ho, hc, _⟩ := h₁.get (.head _)
    obtain ⟨o', ho', hc'⟩ := hT h₁
    rw [e, ho'] at ho
    obtain rfl := Option.some.inj ho
    rw [hc] at hc'
    revert hc'; decide
  refine extend_it (T := "dict") W hz h₁ (hT h₁) rfl rfl hne (fun {Q' E'} hq' => ?_) (fun {Q' E' c' F' s'} hJ h' hq' => ?_) (fun c' F' acc s' hD h' => ?_)
  · refine wpAny_pyIter_dict (fd_ne hf) (fdic_at h₁ hf) ?_
    rw [hI]
    have := h₁.push (t := s₁.toks) (P := KItP a 0 kvs.length ep) { cls := .type "dict_keyiterator", data := .fields #[.ref a, .int 0 0, .int kvs.length 0, .int ep 0] } rfl ⟨rfl, rfl⟩
    rw [hI] at this
    exact hq' _ _ _ ⟨rfl, rfl, .nil, Nat.zero_le _⟩ (this.perm (.swap ..))
  · obtain ⟨rfl, rfl, _, _⟩ := hJ
    exact hint_dict (hT h') (hq' _ _ h')
  · obtain ⟨rfl, rfl, hacc⟩ := hD
    exact hR _ _ _ _ h' (hq _ _ hacc h'.tailOf)
theorem sorted_st {x : Addr} {Q : Value → Shared → Prop} (hA : Room A 4)
    (hc : ∀ {Q' : List Value → Shared → Prop} {E' : Value → Shared → Prop}, (∀ vs ns s', IntsAre vs ns → ns.Perm l → St c S s' → Q' vs s') → wpAny (model prog w) A.in1 (collect (.ref x)) Q' E' s) (hn : l.length ≤ 60)
    (hq : ∀ b ns s', ns.Perm l → ns.Pairwise (· ≤ ·) → St c ((b, IntLP ns) :: S) s' → Q (.ref b) s') : wpAny (model prog w) A (call (.builtin "sorted") [.ref x]) Q E s := by
  refine Calls.call_function_entry kind_sorted plain_sorted entry_sorted (args_sorted1 _) ?_
  unfold Builtin.«sorted»
  refine wpAny_bind (m := checkCount "sorted" 1 1 _) (wpAny_pure ?_)
  refine wpAny_bind (m := collect _) (hc fun vs ns s₁ hI hp h₁ => ?_)
  have hl : vs.length < 64 := by
    have e1 := hI.length
    have e2 := hp.length_eq
    lia
  refine wpAny_bind (wpAny_newList ?_ (by rw [sizeLine_eq]; lia))
  have hoL : (s₁.heap.push (seqObj "list" vs.toArray 0)).get? s₁.heap.objs.size = some (seqObj "list" vs.toArray 0) := Heap.get?_push_size _ rfl
  refine wpAny_bind (wpAny_holding (wpAny_call_entry slot_list_sort ⟨_, hoL, rfl⟩ entry_list_sort (list_sort_tree (s := { s₁ with heap := s₁.heap.push (seqObj "list" vs.toArray 0) }) hoL hI hl fun out ns' a1 a2 a3 => ⟨_, rfl, ?_⟩) (args_list_sort _)))
  refine wpAny_pure ⟨_, rfl, hq _ _ _ (a2.trans hp) a3 (h₁.new (t := s₁.toks) (fun b o e => ?_) (Nat.le_refl _) ?_)⟩
  · have hlt := Heap.lt_size e
    rw [sortedHeap_old (Nat.ne_of_lt hlt) (by rw [size_push']; exact Nat.lt_succ_of_lt hlt)]
    exact Heap.get?_push_of_some _ e
  · obtain ⟨e, he⟩ := sortedHeap_at (out := out) hoL
    exact ⟨_, he, _, ⟨rfl, rfl, e, by simp [seqObj]⟩, a1⟩
end
end
section
noncomputable def above (f : Int → Option Int) : Option Int → Int → Prop
  | none, _ => False
  | some c, v => Anc f c v
noncomputable def DF (f : Int → Option Int) (N : List Int) (pr : Int → List Int) (v u : Int) : Prop := ∃ p ∈ pr u, p ∈ N ∧ Anc f p v ∧ ¬ above f (f u) v
section
variable {st : Int} {L : List Int} {pr : Int → List Int} {d : Int → Int} {f : Int → Option Int} {u v p c : Int}
theorem df_up (b0 : Base0 st L pr d) (T : Tree st (st :: L) d f) (hA : ∀ w ∈ st :: L, ∀ x, Anc f w x ↔ Dm st (st :: L) pr d x w) (hu : u ∈ st :: L) (hp : p ∈ pr u) (hpN : p ∈ st :: L) : ∀ v, above f (f u) v → Anc f p v := by
  intro v h
  cases e : f u with
  | none => rw [e] at h; exact h.elim
  | some y =>
    rw [e] at h
    have h : Anc f y v := h
    obtain ⟨hy, hd⟩ := up_of T hu e
    have h2 := (T.anc h hy).2
    have hne : v ≠ u := fun q => by subst q; lia
    exact (hA p hpN v).mpr (dm_pred hu hne hp ((hA u hu v).mp (.step e h)))
theorem df_skip (b0 : Base0 st L pr d) (T : Tree st (st :: L) d f) (hA : ∀ w ∈ st :: L, ∀ x, Anc f w x ↔ Dm st (st :: L) pr d x w) (hu : u ∈ L) (hl : (pr u).length < 2) : ∀ v, ¬ DF f (st :: L) pr v u := by
  rintro v ⟨p, hp, hpN, hpv, hno⟩
  obtain ⟨p0, hp0, hp0N, hp0d⟩ := b0.pre u hu
  have only : ∀ q ∈ pr u, q = p0 := by
    intro q hq
    obtain ⟨i, hi, rfl⟩ := List.getElem_of_mem hq
    obtain ⟨j, hj, e⟩ := List.getElem_of_mem hp0
    have : i = j := by lia
    subst this; exact e
  have ep := only p hp
  subst ep
  have hd := (T.anc hpv hpN).2
  have huN : u ∈ st :: L := .tail _ hu
  have hne : v ≠ u := fun q => by subst q; lia
  have hDm := (hA p hpN v).mp hpv
  have : Dm st (st :: L) pr d v u := by
    intro j h
    cases h with
    | base _ => exact b0.ns hu
    | adv h' _ h1 _ _ => rw [only _ h1] at h'; exact hDm _ h'
    | ret h' _ h1 _ => rw [only _ h1] at h'; exact hDm _ h'
  have := (hA u huN v).mpr this
  cases this with
  | refl => exact hne rfl
  | step e h' => exact hno (by rw [e]; exact h')
theorem walk_step {K : List Int} {tgt : Option Int} (T : Tree st K d f) (hp : p ∈ K) (hc : Anc f p c) (hne : tgt ≠ some c) (hab : ∀ v, above f tgt v → Anc f c v) :
    (∀ v, above f tgt v → above f (f c) v) ∧ ∀ v, (Anc f p v ∧ ¬ above f (f c) v) ↔ (v = c ∨ (Anc f p v ∧ ¬ Anc f c v)) := by
  have hcK := (T.anc hc hp).1
  have split : ∀ v, Anc f c v → v = c ∨ above f (f c) v := by
    intro v h
    cases h with
    | refl => exact .inl rfl
    | step e h' => exact .inr (by rw [e]; exact h')
  have self : ¬ above f (f c) c := by
    intro h
    cases e : f c with
    | none => rw [e] at h; exact h
    | some y =>
      rw [e] at h
      obtain ⟨hy, hd⟩ := up_of T hcK e
      have := (T.anc h hy).2
      lia
  have up : ∀ v, above f (f c) v → Anc f c v := by
    intro v h
    cases e : f c with
    | none => rw [e] at h; exact h.elim
    | some y => rw [e] at h; exact .step e h
  refine ⟨fun v h => ?_, fun v => ⟨fun ⟨h1, h2⟩ => ?_, ?_⟩⟩
  · rcases split v (hab v h) with rfl | q
    · cases et : tgt with
      | none => rw [et] at h; exact h.elim
      | some y =>
        rw [et] at h hab hne
        have h : Anc f y v := h
        have h' := hab y .refl
        have hy := (T.anc h' hcK).1
        exact absurd (by rw [Anc.antisymm T hy h h']) hne
    · exact q
  · by_cases q : v = c
    · exact .inl q
    · exact .inr ⟨h1, fun h => (split v h).elim q h2⟩
  · rintro (rfl | ⟨h1, h2⟩)
    · exact ⟨hc, self⟩
    · exact ⟨h1, fun h => h2 (up v h)⟩
end
end
section
open PySem PySem.Calls PyProof.Rows PySem.W PySem.W.X
open Sem (wp)
noncomputable def setsE (prog : Program) (w : World) (us : List Int) (ad : Int → Addr) (ls : Int → List Int) : List Ent := us.map fun u => (ad u, SetQ prog w (ls u))
theorem Upd.back {S S' : List Ent} {a : Addr} {P' : Obj → Prop} (T : List Ent) (u : Upd S a P' S') : Upd (S ++ T) a P' (S' ++ T) := by
  induction u with
  | head => exact .head
  | tail _ ih => exact .tail ih
theorem setsE_upd {prog : Program} {w : World} {ad : Int → Addr} {ls : Int → List Int} {u : Int} {new : List Int} : ∀ {us : List Int}, us.Nodup → u ∈ us →
    Upd (setsE prog w us ad ls) (ad u) (SetQ prog w new) (setsE prog w us ad (fun x => if x = u then new else ls x))
  | [], _, h => nomatch h
  | y :: r, hn, h => by
    rw [List.nodup_cons] at hn
    unfold setsE
    rw [List.map_cons, List.map_cons]
    by_cases e : y = u
    · subst e
      have e2 : (r.map fun x => ((ad x, SetQ prog w (if x = y then new else ls x)) : Ent)) = r.map fun x => (ad x, SetQ prog w (ls x)) := by
        apply List.map_congr_left
        intro x hx
        have hne : x ≠ y := fun q => hn.1 (q ▸ hx)
        rw [if_neg hne]
      dsimp only
      rw [e2, if_pos rfl]
      exact .head
    · dsimp only
      rw [if_neg e]
      exact .tail (setsE_upd hn.2 ((List.mem_cons.mp h).resolve_left fun q => e q.symm))
theorem setsE_mem {prog : Program} {w : World} {us : List Int} {ad : Int → Addr} {ls : Int → List Int} {u : Int} (h : u ∈ us) : (ad u, SetQ prog w (ls u)) ∈ setsE prog w us ad ls := List.mem_map.mpr ⟨u, h, rfl⟩
theorem mem_addk {l : List Int} {k y : Int} : y ∈ addk l k ↔ y ∈ l ∨ y = k := by
  unfold addk
  split
  · rename_i h
    exact ⟨.inl, fun q => q.elim id fun q => q ▸ h⟩
  · simp
theorem valueAt_map {K : List Int} {g : Int → Value} {k : Int} (hn : K.Nodup) (hk : k ∈ K) : valueAt (K.map fun y => (y, g y)) k = some (g k) := by
  induction K with
  | nil => cases hk
  | cons y r ih =>
    rw [List.nodup_cons] at hn
    unfold valueAt at *
    rw [List.map_cons, List.find?_cons]
    by_cases e : y = k
    · subst e; simp
    · have : (decide (k = y)) = false := by simp [Ne.symm e]
      simp [e, Ne.symm e]
      have := ih hn.2 ((List.mem_cons.mp hk).resolve_left fun q => e q.symm)
      simpa using this
section
variable {prog : Program} {w : World} {A : Around} {E : Value → Shared → Prop} {c : Cfg} {S S' F : List Ent} {s : Shared} {a : Addr} {env : Env}
theorem ne_opt {x y : Option Int} {vx vy : Value} {Q : Value → Shared → Prop} (hx : IsV vx x) (hy : IsV vy y) (hq : Q (.bool (decide (x ≠ y))) s) : wpAny (model prog w) A (compareOp .NotEq vx vy) Q E s := by
  cases x with
  | none =>
    have hx : vx = .none := hx
    subst hx
    cases y with
    | none =>
      have hy : vy = .none := hy
      subst hy
      exact PySem.EqNone.ne_none_none (by simpa using hq)
    | some n =>
      obtain ⟨t, rfl⟩ := hy
      exact PySem.EqNone.ne_none_int (by simpa using hq)
  | some m =>
    obtain ⟨t, rfl⟩ := hx
    cases y with
    | none =>
      have hy : vy = .none := hy
      subst hy
      exact PySem.EqNone.ne_int_none (by simpa using hq)
    | some n =>
      obtain ⟨t', rfl⟩ := hy
      refine P.ne_int ?_
      have e : (m != n) = decide (some m ≠ some n) := by
        by_cases q : m = n
        · subst q; simp
        · simp [q]
      rw [e]
      exact hq
theorem die_get {ks : List Int} {f : Int → Option Int} {ep : Nat} {k : Int} {t : Tok} {Q : Value → Shared → Prop} (h : St c S s) (hm : (a, DIE prog w ks f ep) ∈ S) (hk : k ∈ ks) (hq : ∀ v s', IsV v (f k) → St c S s' → Q v s') : wpAny (model prog w) A (getItem (.ref a) (.int k t)) Q E s := by
  obtain ⟨kvs, rfl, hv, hd⟩ := die_at h hm
  obtain ⟨v, hval⟩ := valueAt_of_key hk
  exact wpAny_getItem_of (intKind_is prog w k t) hd.dictOf.mapOf hval (hq _ _ (hv _ _ (mem_of_valueAt hval)) (h.tok _))
theorem die_sub {ks : List Int} {f : Int → Option Int} {ep : Nat} {k : Int} {t : Tok} {value slice : Expr} {Q : Value → Shared → Prop} (h : St c S s) (hm : (a, DIE prog w ks f ep) ∈ S) (hk : k ∈ ks)
    (hs : subscripted slice false (.ref a) (.int k t) = operate [.ref a, .int k t] (getItem (.ref a) (.int k t))) (hq : ∀ v s', IsV v (f k) → St c S s' → Q v s') : wpAny (model prog w) A (subscriptTail value slice (.ref a) (.int k t)) Q E s := by
  obtain ⟨kvs, _, hv, hd⟩ := die_at h hm
  exact sub_tail hd.dictOf.typeIs slot_dict_getitem.lookup hs (die_get h hm hk hq)
theorem die_in {ks : List Int} {f : Int → Option Int} {ep : Nat} {k : Int} {t : Tok} {Q : Value → Shared → Prop} (h : St c S s) (hm : (a, DIE prog w ks f ep) ∈ S) (hq : ∀ s', St c S s' → Q (.bool (decide (k ∈ ks))) s') : wpAny (model prog w) A (compareOp .In (.int k t) (.ref a)) Q E s := by
  obtain ⟨kvs, rfl, hvs, hd⟩ := die_at h hm
  refine wpAny_in_of (intKind_is prog w k t) (own_ne h hm) hd.dictOf.mapOf ?_
  rw [isSome_valueAt]; exact hq _ (h.tok _)
theorem df_walk {Q : Flow → Shared → Prop} {x I D : Addr} {ts tu : Tok} {st u p : Int} {tp : Tok} {L K : List Int} {d : Int → Int} {f : Int → Option Int} {ad : Int → Addr} {ls : Int → List Int} {ep epI : Nat} (hint : interactive env = false) (hf : FDic prog w c.Z D (K.map fun y => (y, .ref (ad y))) ep) (hKn : K.Nodup) (hK : ∀ y, y ∈ K ↔ y ∈ st :: L)
    (T : Tree st (st :: L) d f) (hu : u ∈ K) (hp : p ∈ K) (hn5 : u ∈ names5) (hup : ∀ v, above f (f u) v → Anc f p v)
    (h : St c ((env.locals, FrP env [("G", some (.ref x)), ("start", some (.int st ts)), ("idom", some (.ref I)), ("df", some (.ref D)), ("u", some (.int u tu)), ("v", some (.int p tp))]) :: (I, DIE prog w K f epI) :: (setsE prog w K ad ls ++ F)) s)
    (hq : ∀ vv ls' s', (∀ v ∈ K, ∀ y, y ∈ ls' v ↔ (y ∈ ls v ∨ (y = u ∧ Anc f p v ∧ ¬ above f (f u) v))) → St c ((env.locals, FrP env [("G", some (.ref x)), ("start", some (.int st ts)), ("idom", some (.ref I)), ("df", some (.ref D)), ("u", some (.int u tu)), ("v", vv)]) :: (I, DIE prog w K f epI) :: (setsE prog w K ad ls' ++ F)) s' → Q .next s') :
    wpAny (model prog w) A (exec (stmtAt (bodyOf (stmtAt (bodyOf (stmtAt (bodyOf (stmtAt (bodyOf (stmtAt (fnBody w.params 92) 3)) 0)) 0)) 0)) 0) env) Q E s := by
  show wpAny _ _ (exec (.While _ _ _ _) env) _ _ _
  kd_p
  refine while_loop (fun n s => ∃ cur vv ls', IsV vv cur ∧ n = (match cur with | none => 0 | some c => (d st - d c).toNat + 1) ∧ (∀ c, cur = some c → Anc f p c) ∧ (∀ v, above f (f u) v → above f cur v) ∧
    (∀ v ∈ K, ∀ y, y ∈ ls' v ↔ (y ∈ ls v ∨ (y = u ∧ Anc f p v ∧ ¬ above f cur v))) ∧
    St c ((env.locals, FrP env [("G", some (.ref x)), ("start", some (.int st ts)), ("idom", some (.ref I)), ("df", some (.ref D)), ("u", some (.int u tu)), ("v", some (vv))]) :: (I, DIE prog w K f epI) :: (setsE prog w K ad ls' ++ F)) s) ?_ _ ⟨some p, .int p tp, ls, ⟨_, rfl⟩, rfl, fun c e => by cases e; exact .refl, hup, fun v hv y => ⟨.inl, ?_⟩, h⟩
  · clear h
    rintro E' n s hE1
    refine ex3 hE1 fun cur vv ls' hE2 => ?_
    clear hE1
    refine an6 hE2 fun hV hn hcur hab hls h => ?_
    clear hE2
    intro Kq
    kd_p
    refine ld h (by lk) ?_
    kd_p
    refine ld h (by lk) ?_
    refine ld h (by lk) ?_
    refine die_sub h (by lk) hu sc_name fun vy s₁ hvy h₁ => ?_
    refine ne_opt hV hvy ?_
    kd_p
    by_cases hc : cur = f u
    · refine itf (by simp [hc]) ?_
      kd_p
      subst hc
      exact hq (some vv) ls' _ hls h₁
    · refine itt (by simp [hc]) ?_
      obtain ⟨c₀, rfl⟩ : ∃ c₀, cur = some c₀ := by
        cases cur with
        | some c₀ => exact ⟨c₀, rfl⟩
        | none =>
          exfalso
          cases e : f u with
          | none => exact hc e.symm
          | some y =>
            have := hab y (by rw [e]; exact .refl)
            exact this
      obtain ⟨tc, rfl⟩ := hV
      have hpc := hcur c₀ rfl
      have hpN := (hK p).mp hp
      obtain ⟨hcN, _⟩ := T.anc hpc hpN
      have hcK := (hK c₀).mpr hcN
      obtain ⟨w1, w2⟩ := walk_step T hpN hpc (fun e => hc e.symm) hab
      kd_p
      kd_p
      refine call_meth rfl (by decide) rfl PySem.F.plainAttrs_set PySem.F.slot_set_add PySem.F.type_set_add rfl ?_
      kd_p
      refine ld h₁ (by lk) ?_
      refine ld h₁ (by lk) ?_
      refine fd_sub h₁ hf (valueAt_map hKn hcK) sc_name fun s₂ h₂ => ?_
      have hm2 : ∀ {ls'' : Int → List Int} {e1 e2 : Ent}, (ad c₀, SetQ prog w (ls'' c₀)) ∈ e1 :: e2 :: (setsE prog w K ad ls'' ++ F) := fun {ls'' e1 e2} => .tail _ (.tail _ (List.mem_append_left _ (setsE_mem hcK)))
      refine ⟨setq_meth h₂ hm2, ?_⟩
      refine spl_cons ?_ rfl
      refine ld h₂ (by lk) ?_
      refine spl_nil ?_
      refine setq_add h₂ hm2 hn5 (.tail (.tail ((setsE_upd hKn hcK).back F))) fun s₃ h₃ => ?_
      kd_p
      kd_p
      kd_p
      refine ld h₃ (by lk) ?_
      refine ld h₃ (by lk) ?_
      refine die_sub h₃ (by lk) hcK sc_name fun vz s₄ hvz h₄ => ?_
      refine sto h₄ (by room) fun s₅ h₅ => ?_
      kd_p
      refine ⟨_, ?_, f c₀, vz, _, hvz, rfl, ?_, w1, ?_, h₅⟩
      · rw [hn]
        cases e : f c₀ with
        | none => simp
        | some y =>
          obtain ⟨hy, hd⟩ := up_of T hcN e
          have := T.le y hy
          dsimp only
          lia
      · exact fun c e => hpc.trans (.step e .refl)
      · intro v hv y
        have h1 := hls v hv y
        have h2 := w2 v
        by_cases q : v = c₀
        · subst q
          simp only [if_true]
          rw [mem_addk, h1]
          have h3 : Anc f p v ∧ ¬ above f (f v) v := h2.mpr (.inl rfl)
          constructor
          · rintro ((r | ⟨r, r1, r2⟩) | r)
            · exact .inl r
            · exact absurd .refl r2
            · exact .inr ⟨r, h3⟩
          · rintro (r | ⟨r, _⟩)
            · exact .inl (.inl r)
            · exact .inr r
        · simp only [q, if_false]
          rw [h1]
          simp only [q, false_or] at h2
          rw [h2]
          exact .rfl
  · rintro (q | ⟨_, q1, q2⟩)
    · exact q
    · exact absurd q1 q2
end
end
section
open PySem PySem.Calls PyProof.Rows PySem.W PySem.W.X
open Sem (wp)
section
variable {prog : Program} {w : World} {A : Around} {E : Value → Shared → Prop} {c : Cfg} {S S' F : List Ent} {s : Shared} {a : Addr} {env : Env}
theorem g_isTrue_or {e1 e2 : Expr} {pos : Pos} {whole : Sem Value} {M : Model} {Q : Bool → Shared → Prop} (h : wpAny M A (isTrue e1 env (eval e1 env)) (fun b s₁ => if b then Q true s₁ else wpG M A (isTrue e2 env (eval e2 env)) Q E s₁) E s) :
    wpG M A (isTrue (.BoolOp .Or [e1, e2] pos) env whole) Q E s := by
  show wpG M A (do match BoolOp.Or, ← isTrue e1 env (eval e1 env) with | .And, false => pure false | .Or, true => pure true | _, _ => (do match BoolOp.Or, ← isTrue e2 env (eval e2 env) with | .And, false => pure false | .Or, true => pure true | _, _ => pure (BoolOp.Or == .And))) Q E s
  refine g_bind (g_mono (g_any h) (fun b s₁ h₁ => ?_) fun _ _ x => x)
  cases b
  · refine g_bind (g_mono h₁ (fun b s₂ h₂ => ?_) fun _ _ x => x)
    cases b <;> exact g_pure h₂
  · exact g_pure h₁
noncomputable abbrev dfIf (P : Params) : Stmt := stmtAt (bodyOf (stmtAt (fnBody P 92) 3)) 0
noncomputable abbrev dfFor (P : Params) : Stmt := stmtAt (bodyOf (dfIf P)) 0
theorem df_for {Q : Flow → Shared → Prop} {x dx I D nd sa pa : Addr} {at0 at' : List (Str × Value)} {gk : List Int} {su pr : Int → List Int} {ts tu : Tok} {st u : Int} {L K : List Int} {d : Int → Int} {f : Int → Option Int} {ad : Int → Addr} {ls : Int → List Int} {ep epI : Nat} {vv : Option Value}
    (hB : KZ w c.Z) (hA : Room A 16) (hg : FGr prog w c.Z nd sa pa gk su pr) (hat : GAt at0 nd sa pa) (hno : valueAt at0 "pred" = none) (hz : at0.length ≤ 100) (hp : AtP at0 pa at') (hint : interactive env = false) (hf : FDic prog w c.Z D (K.map fun y => (y, .ref (ad y))) ep) (hKn : K.Nodup) (hK : ∀ y, y ∈ K ↔ y ∈ st :: L)
    (b0 : Base0 st L pr d) (T : Tree st (st :: L) d f) (hAn : ∀ w ∈ st :: L, ∀ x, Anc f w x ↔ Dm st (st :: L) pr d x w) (hu : u ∈ K) (hug : u ∈ gk) (hn5 : u ∈ names5)
    (h : St c ((env.locals, FrP env [("G", some (.ref x)), ("start", some (.int st ts)), ("idom", some (.ref I)), ("df", some (.ref D)), ("u", some (.int u tu)), ("v", vv)]) :: (x, InsP dx) :: (dx, IDicP prog w at') :: (I, DIE prog w K f epI) :: (setsE prog w K ad ls ++ F)) s)
    (hq : ∀ vv ls' s', (∀ v ∈ K, ∀ y, y ∈ ls' v ↔ (y ∈ ls v ∨ (y = u ∧ DF f (st :: L) pr v u))) → St c ((env.locals, FrP env [("G", some (.ref x)), ("start", some (.int st ts)), ("idom", some (.ref I)), ("df", some (.ref D)), ("u", some (.int u tu)), ("v", vv)]) :: (x, InsP dx) :: (dx, IDicP prog w (predAt at0 pa)) :: (I, DIE prog w K f epI) :: (setsE prog w K ad ls' ++ F)) s' → Q .next s') :
    wpG (model prog w) A (exec (dfFor w.params) env) Q E s := by
  show wpG _ _ (exec (.For _ (.Subscript (.Attribute _ _ _) _ _) _ _ _) env) _ _ _
  refine g_For ?_ (fun _ => rfl)
  refine g_Subscript ?_
  refine g_attr rfl ?_
  refine ld h (by lk) ?_
  refine pred_get (at' := at') (h.sub (S' := (x, InsP dx) :: (dx, IDicP prog w at') :: _) (.cons (a := x) (by w_up) (fun _ q => q) (.cons (a := dx) (by w_up) (fun _ q => q) .refl))) hB hA.less hat hno hz hp fun s₁ h₁ => ?_
  replace h₁ := h₁.sub (.cons (a := env.locals) (by w_up) (fun _ q => q) .refl)
  refine ld h₁ (by lk) ?_
  obtain ⟨kv, ep1, f1, f2, f3⟩ := hg.p
  obtain ⟨b, kvs, epb, g1, g2, g3⟩ := f3 u hug
  refine fd_sub h₁ f1 g1 sc_name fun s₂ h₂ => ?_
  refine fd_iter h₂ g2 fun it s₃ h₃ => cg_any ?_
  have huN := (hK u).mp hu
  refine for_loop kvs.length (fun i s => ∃ vv ls', (∀ v ∈ K, ∀ y, y ∈ ls' v ↔ (y ∈ ls v ∨ (y = u ∧ ∃ p ∈ (kvs.map (·.1)).take i, p ∈ st :: L ∧ Anc f p v ∧ ¬ above f (f u) v))) ∧
    St c ((it, KItP b i kvs.length epb) :: (env.locals, FrP env [("G", some (.ref x)), ("start", some (.int st ts)), ("idom", some (.ref I)), ("df", some (.ref D)), ("u", some (.int u tu)), ("v", vv)]) :: (x, InsP dx) :: (dx, IDicP prog w (predAt at0 pa)) :: (I, DIE prog w K f epI) :: (setsE prog w K ad ls' ++ F)) s) ?_ ?_ ⟨vv, ls, fun v hv y => by simp, h₃⟩
  · clear h h₁ h₂ h₃
    rintro E' i s hi ⟨vv, ls', hls, h⟩
    intro Kq
    refine fd_next h (.head _) g2 (List.getElem?_eq_getElem hi) .head fun t s₁ h₁ => ⟨_, rfl, ?_⟩
    refine letOwned_name ?_
    refine wpAny_assign_Name ?_
    refine sto (h₁.perm (.swap ..)) (by room) fun s₂ h₂ => ?_
    generalize hpe : kvs[i].1 = p at h₂
    have htk : (kvs.map (·.1)).take (i + 1) = (kvs.map (·.1)).take i ++ [p] := by
      rw [List.take_succ_eq_append_getElem (by simpa using hi), List.getElem_map, hpe]
    have hpp : p ∈ pr u := by rw [← g3, ← hpe]; exact List.mem_map_of_mem (List.getElem_mem hi)
    kd_p
    kd_p
    kd_p
    refine ld h₂ (by lk) ?_
    refine ld h₂ (by lk) ?_
    refine die_in h₂ (by lk) fun s₃ h₃ => ?_
    refine wpAny_truthy_bool ?_
    by_cases hpK : p ∈ K
    · refine itt (by simp [hpK]) ?_
      have hpN := (hK p).mp hpK
      kd_p
      have h₄ : St c ((env.locals, FrP env [("G", some (.ref x)), ("start", some (.int st ts)), ("idom", some (.ref I)), ("df", some (.ref D)), ("u", some (.int u tu)), ("v", some (.int p t))]) :: (I, DIE prog w K f epI) :: (setsE prog w K ad ls' ++ ([(it, KItP b (i + 1) kvs.length epb), (x, InsP dx), (dx, IDicP prog w (predAt at0 pa))] ++ F))) s₃ :=
        (h₃.sub (S' := (env.locals, FrP env [("G", some (.ref x)), ("start", some (.int st ts)), ("idom", some (.ref I)), ("df", some (.ref D)), ("u", some (.int u tu)), ("v", some (.int p t))]) :: (I, DIE prog w K f epI) :: (it, KItP b (i + 1) kvs.length epb) :: (x, InsP dx) :: (dx, IDicP prog w (predAt at0 pa)) :: (setsE prog w K ad ls' ++ F)) (by k_is)).perm (.cons _ (.cons _ (List.perm_append_comm_assoc [_, _, _] _ _)))
      refine df_walk (d := d) (L := L) (st := st) (ts := ts) (p := p) hint hf hKn hK T hu hpK hn5 (df_up b0 T hAn huN hpp hpN) h₄ fun vv ls'' s₅ hls2 h₅ => ?_
      refine wpAny_execs_nil (wpAny_execs_nil ?_)
      refine ⟨vv, ls'', fun v hv y => ?_, ?_⟩
      · rw [hls2 v hv y, hls v hv y, htk]
        constructor
        · rintro ((r | ⟨r, p', r1, r2⟩) | ⟨r, r1⟩)
          · exact .inl r
          · exact .inr ⟨r, p', List.mem_append_left _ r1, r2⟩
          · exact .inr ⟨r, p, List.mem_append_right _ (.head _), hpN, r1⟩
        · rintro (r | ⟨r, p', r1, r2⟩)
          · exact .inl (.inl r)
          · rcases List.mem_append.mp r1 with r1 | r1
            · exact .inl (.inr ⟨r, p', r1, r2⟩)
            · rw [List.mem_singleton] at r1
              subst r1
              exact .inr ⟨r, r2.2⟩
      · have h₆ : St c ((env.locals, FrP env [("G", some (.ref x)), ("start", some (.int st ts)), ("idom", some (.ref I)), ("df", some (.ref D)), ("u", some (.int u tu)), ("v", vv)]) :: (I, DIE prog w K f epI) :: (it, KItP b (i + 1) kvs.length epb) :: (x, InsP dx) :: (dx, IDicP prog w (predAt at0 pa)) :: (setsE prog w K ad ls'' ++ F)) s₅ := h₅.perm (.cons _ (.cons _ (List.perm_append_comm_assoc _ [_, _, _] _)))
        exact h₆.sub (S' := (it, KItP b (i + 1) kvs.length epb) :: (env.locals, FrP env [("G", some (.ref x)), ("start", some (.int st ts)), ("idom", some (.ref I)), ("df", some (.ref D)), ("u", some (.int u tu)), ("v", vv)]) :: (x, InsP dx) :: (dx, IDicP prog w (predAt at0 pa)) :: (I, DIE prog w K f epI) :: (setsE prog w K ad ls'' ++ F)) (by k_is)
    · refine itf (by simp [hpK]) ?_
      kd_p
      refine wpAny_execs_nil ?_
      refine ⟨_, ls', fun v hv y => ?_, h₃.perm (.swap ..)⟩
      rw [hls v hv y, htk]
      constructor
      · rintro (r | ⟨r, p', r1, r2⟩)
        · exact .inl r
        · exact .inr ⟨r, p', List.mem_append_left _ r1, r2⟩
      · rintro (r | ⟨r, p', r1, r2⟩)
        · exact .inl r
        · rcases List.mem_append.mp r1 with r1 | r1
          · exact .inr ⟨r, p', r1, r2⟩
          · rw [List.mem_singleton] at r1
            subst r1
            exact absurd ((hK _).mpr r2.1) hpK
  · rintro E' s ⟨vv, ls', hls, h⟩
    refine fd_end hA.handled h .head g2 (List.getElem?_eq_none (Nat.le_refl _)) fun s₁ h₁ => ⟨rfl, ?_⟩
    kd_p
    refine hq vv ls' s₁ (fun v hv y => ?_) h₁
    rw [hls v hv y, List.take_of_length_le (by simp), g3]
    exact .rfl
end
end
section
open PySem PySem.Calls PyProof.Rows PySem.W PySem.W.X
open Sem (wp)
section
variable {prog : Program} {w : World} {A : Around} {E : Value → Shared → Prop} {c : Cfg} {S S' F : List Ent} {s : Shared} {a : Addr} {env : Env}
theorem df_node {Q : Flow → Shared → Prop} {gs : List Str} {x dx I D nd sa pa : Addr} {at0 at' : List (Str × Value)} {gk : List Int} {su pr : Int → List Int} {ts tu : Tok} {st u : Int} {L K : List Int} {d : Int → Int} {f : Int → Option Int} {ad : Int → Addr} {ls : Int → List Int} {ep epI : Nat} {vv : Option Value}
    (hB : KZ w c.Z) (hA : Room A 16) (hg : FGr prog w c.Z nd sa pa gk su pr) (hat : GAt at0 nd sa pa) (hno : valueAt at0 "pred" = none) (hz : at0.length ≤ 100) (hp : AtP at0 pa at') (ge : GE env gs) (hgl : ("len" : Str) ∈ gs) (hint : interactive env = false) (hf : FDic prog w c.Z D (K.map fun y => (y, .ref (ad y))) ep) (hKn : K.Nodup) (hK : ∀ y, y ∈ K ↔ y ∈ st :: L)
    (b0 : Base0 st L pr d) (T : Tree st (st :: L) d f) (hAn : ∀ w ∈ st :: L, ∀ x, Anc f w x ↔ Dm st (st :: L) pr d x w) (hu : u ∈ K) (hug : u ∈ gk) (hn5 : u ∈ names5) (hpl : (pr u).length ≤ 100)
    (h : St c ((env.locals, FrP env [("G", some (.ref x)), ("start", some (.int st ts)), ("idom", some (.ref I)), ("df", some (.ref D)), ("u", some (.int u tu)), ("v", vv)]) :: (x, InsP dx) :: (dx, IDicP prog w at') :: (I, DIE prog w K f epI) :: (setsE prog w K ad ls ++ F)) s)
    (hq : ∀ vv ls' at₁ s', AtP at0 pa at₁ → (∀ v ∈ K, ∀ y, y ∈ ls' v ↔ (y ∈ ls v ∨ (y = u ∧ DF f (st :: L) pr v u))) → St c ((env.locals, FrP env [("G", some (.ref x)), ("start", some (.int st ts)), ("idom", some (.ref I)), ("df", some (.ref D)), ("u", some (.int u tu)), ("v", vv)]) :: (x, InsP dx) :: (dx, IDicP prog w at₁) :: (I, DIE prog w K f epI) :: (setsE prog w K ad ls' ++ F)) s' → Q .next s') :
    wpG (model prog w) A (exec (dfIf w.params) env) Q E s := by
  have fin : ∀ at₁ s₁, AtP at0 pa at₁ → St c ((env.locals, FrP env [("G", some (.ref x)), ("start", some (.int st ts)), ("idom", some (.ref I)), ("df", some (.ref D)), ("u", some (.int u tu)), ("v", vv)]) :: (x, InsP dx) :: (dx, IDicP prog w at₁) :: (I, DIE prog w K f epI) :: (setsE prog w K ad ls ++ F)) s₁ → wpG (model prog w) A (execs [dfFor w.params] env) Q E s₁ := fun at₁ s₁ hp₁ h₁ => by
    refine g_cons_ (df_for hB hA hg hat hno hz hp₁ hint hf hKn hK b0 T hAn hu hug hn5 h₁ fun vv ls' s' h2 h3 => ?_)
    exact g_nil_ (hq vv ls' _ s' .kept h2 h3)
  show wpG _ _ (exec (.If (.BoolOp _ [_, _] _) _ _ _) env) _ _ _
  refine g_If (g_isTrue_or ?_)
  kd_p
  refine ld h (by lk) ?_
  refine ld h (by lk) ?_
  k_in
  kd_p
  (with_reducible first | refine ite_dec (fun hif => ?_) (fun hif => ?_) | refine ite_beq (fun hif => ?_) (fun hif => ?_) | refine ite_bne (fun hif => ?_) (fun hif => ?_))
  · refine itt rfl ?_
    exact fin _ _ hp h
  · refine g_isTrue_cmp ?_ rfl
    refine g_CallName ?_
    refine ldb h hB.toGB ge hgl (v := .builtin "len") (by lk) ?_
    refine g_callWith_bi rfl ?_
    refine g_evalArgs rfl ?_
    refine g_spl_cons ?_ rfl
    refine g_Subscript ?_
    refine g_attr rfl ?_
    refine ld h (by lk) ?_
    refine pred_get (at' := at') (h.sub (S' := (x, InsP dx) :: (dx, IDicP prog w at') :: _) (.cons (a := x) (by w_up) (fun _ q => q) (.cons (a := dx) (by w_up) (fun _ q => q) .refl))) hB hA.less hat hno hz hp fun s₁ h₁ => ?_
    replace h₁ := h₁.sub (.cons (a := env.locals) (by w_up) (fun _ q => q) .refl)
    refine ld h₁ (by lk) ?_
    obtain ⟨kv, ep1, f1, f2, f3⟩ := hg.p
    obtain ⟨b, kvs, epb, g1, g2, g3⟩ := f3 u hug
    refine fd_sub h₁ f1 g1 sc_name fun s₂ h₂ => ?_
    refine g_spl_nil ?_
    have hkl : kvs.length = (pr u).length := by rw [← g3, List.length_map]
    refine g_any ?_
    show wpAny _ _ (call (.builtin "len") [.ref b]) _ _ _
    refine fd_len h₂ g2 (by lia) fun t s₃ h₃ => ?_
    kd_p
    k_in
    kd_p
    (with_reducible first | refine ite_dec (fun hif => ?_) (fun hif => ?_) | refine ite_beq (fun hif => ?_) (fun hif => ?_) | refine ite_bne (fun hif => ?_) (fun hif => ?_))
    · exact fin _ _ .kept (h₃.tok _)
    · refine g_nil_ (hq vv ls _ _ .kept (fun v hv y => ⟨.inl, ?_⟩) (h₃.tok _))
      rintro (r | ⟨r, r1⟩)
      · exact r
      · have hne : u ∈ L := ((List.mem_cons.mp ((hK u).mp hu)).resolve_left (by assumption))
        exact absurd r1 (df_skip b0 T hAn hne (by lia) v)
theorem g_call_fn {f : Str} {p pos : Pos} {args : List Expr} {gs : List Str} {fa : Addr} {o : Obj} {fd : FuncData} {Q : Value → Shared → Prop} (h : St c S s) (hB : GB c.Z) (ge : GE env gs) (hx : f ∈ gs) (hp : (f, .ref fa) ∈ gtab) (ho : c.Z fa = some o) (hd : o.data = .func fd)
    (hs : (args.all fun e => match e with | .Starred .. => false | _ => true) = true)
    (k : wpAny (model prog w) A (spl args env pos) (fun vs s₁ => (∃ S₁, St c S₁ s₁) ∧ wpG (model prog w) A (call (.ref fa) vs) Q E s₁) E s) :
    wpG (model prog w) A (eval (.Call (.Name f p) args [] pos) env) Q E s := by
  refine g_CallName (ldg h hB ge hx hp ?_)
  refine g_callWith_fn (o := o) (fd := fd) (evalArgs_spl hs (wpAny_mono k (fun vs s₁ h₁ => ?_) fun _ _ e => e))
  obtain ⟨⟨S₁, h₁⟩, h₂⟩ := h₁
  exact ⟨⟨h₁.keep _ _ ho, hd⟩, h₂⟩
theorem fn92_body (P : Params) : fnBody P 92 = stmtAt (fnBody P 92) 0 :: stmtAt (fnBody P 92) 1 :: stmtAt (fnBody P 92) 2 :: stmtAt (fnBody P 92) 3 :: stmtAt (fnBody P 92) 4 :: [] := by rfl
theorem df_spec {R : Result → Shared → Prop} {x dx nd sa pa : Addr} {at0 at' : List (Str × Value)} {ks : List Int} {su pr : Int → List Int} {st : Int} {ts : Tok} {l : List (Int × Bool)} {L : List Int} {tb : Option Addr}
    (h : St c ((x, InsP dx) :: (dx, IDicP prog w at') :: (43, TabP TT) :: (84, TabP (T84 w.params tb)) :: (codeE tb ++ F)) s) (hB : KZ w c.Z) (hA : Room A 35) (hg : FGr prog w c.Z nd sa pa ks su pr) (hat : GAt at0 nd sa pa) (hno : valueAt at0 "pred" = none) (hz : at0.length ≤ 100) (hp : AtP at0 pa at')
    (hks : ks.Nodup) (hkz : ks.length ≤ 50) (hsu : ∀ k ∈ ks, ∀ y ∈ su k, y ∈ ks) (hst : st ∈ ks) (hT : Tr su st [(st, 0)] [st] l)
    (hL : outL l = L.reverse ++ [st]) (hnd : (outL l).Nodup) (hlen : (outL l).length ≤ 50) (b0 : Base0 st L pr (idx (outL l))) (hLg : ∀ u ∈ L, u ∈ ks) (h5 : ∀ u ∈ ks, u ∈ names5) (hpl : ∀ u ∈ ks, (pr u).length ≤ 100)
    (hR : ∀ D ad ls k c' c'' at₁ f ep s', AtP at0 pa at₁ → Cg c c' → Ext c' c'' → (∀ w ∈ st :: L, ∀ x, Anc f w x ↔ Dm st (st :: L) pr (idx (outL l)) x w) → Tree st (st :: L) (idx (outL l)) f → FDic prog w c''.Z D ((L ++ [st]).map fun y => (y, .ref (ad y))) ep →
      (∀ v ∈ L ++ [st], ∀ y, y ∈ ls v ↔ (y ∈ L ++ [st] ∧ DF f (st :: L) pr v y)) →
      St c'' ((x, InsP dx) :: (dx, IDicP prog w at₁) :: (43, TabP TT) :: (84, TabP (T84 w.params (some k))) :: (k, CodeP iQ) :: (setsE prog w (L ++ [st]) ad ls ++ F)) s' → R (.ok (.ret (.ref D))) s') :
    codeG (model prog w) A (.call (.ref 92) ⟨[.ref x, .int st ts], []⟩) R s := by
  refine enterG (l := [("G", some (.ref x)), ("start", some (.int st ts)), ("idom", none), ("df", none), ("u", none), ("v", none)]) (ns := ["G", "start", "idom", "df", "u", "v"]) (binds := [("G", .ref x), ("start", .int st ts)]) (n := 34) h hB.toBase hA.less (hB.k 92 _ rfl (by decide) (by decide)) rfl
    ⟨91, _, _, _, rfl, hB.k 91 _ rfl (by decide) (by decide), rfl, rfl⟩ rfl (BindsTo.of_eq rfl) (by rfl) (by rfl) rfl (by rfl) (by rfl) ?_ rfl rfl rfl
  rintro env s₁ ⟨L0, hE⟩ hA₁ h₁
  have ge : GE env ["immediate_dominators", "len"] := .of (by rw [hE]; rfl) (by rw [hE]; rfl) (by rw [hE]; rfl)
  have hint : interactive env = false := by rw [hE]; rfl
  have hcl : env.cells = [] := by rw [hE]; rfl
  have kdf : env.kindOf "df" = some .local := by rw [hE]; rfl
  have hbk : env.blockKind = .function := by rw [hE]; rfl
  clear h hE
  show wpG _ _ (execs (fnBody w.params 92) env) _ _ _
  rw [fn92_body]
  (refine letG ?_; intro Kq Ke; refine g_cons_ ?_; refine letG1 ?_; intro Kq)
  show wpG _ _ (exec (.Assign [.Name _ _] (.Call (.Name _ _) [_, _] _ _) _) env) _ _ _
  refine g_AssignName ?_ rfl
  refine g_call_fn h₁ hB.toGB ge (by lk) (fa := 87) (by lk) (hB.k 87 _ rfl (by decide) (by decide)) rfl rfl ?_
  refine spl_cons (ld h₁ (by lk) ?_) rfl
  refine spl_cons (ld h₁ (by lk) ?_) rfl
  refine spl_nil ?_
  refine ⟨⟨_, h₁⟩, g_call ?_⟩
  have h₂ : St c ((x, InsP dx) :: (dx, IDicP prog w at') :: (43, TabP TT) :: (84, TabP (T84 w.params tb)) :: (codeE tb ++ ((env.locals, FrP env [("G", some (.ref x)), ("start", some (.int st ts)), ("idom", none), ("df", none), ("u", none), ("v", none)]) :: F))) s₁ :=
    h₁.perm (List.perm_middle (l₁ := (x, InsP dx) :: (dx, _) :: (43, _) :: (84, _) :: codeE tb)).symm
  refine idom_spec (tb := tb) h₂ hB hA₁.less hg hat hno hz hp hks hkz hsu hst hT hL hnd hlen b0 hLg fun I f k c' at₁ s₃ hp₁ hcg hTr hAn h₃ => ?_
  have hB1 : KZ w c'.Z := by rw [hcg.z]; exact hB
  have hg1 : FGr prog w c'.Z nd sa pa ks su pr := by rw [hcg.z]; exact hg
  have hll : L.length + 1 = (outL l).length := by rw [hL]; simp
  show wpAny _ _ (storeName env _ _) _ _ _
  refine sto (h₃.sub (.cons (a := env.locals) (by w_up) (fun _ q => q) .refl)) (by room) fun s₄ h₄ => ?_
  clear h₁ h₂ h₃
  (refine letG ?_; intro Kq Ke; refine g_st ?_; refine letQ1 ?_; intro Kq)
  show wpAny _ _ (exec (.Assign [.Subscript _ _ _] _ _) env) _ _ _
  kd_p
  kd_p
  refine ld h₄ (by lk) ?_
  refine ld h₄ (by lk) ?_
  refine di_set (ov := none) h₄ (a := I) (by lk) rfl (by lia) (by kt_k) fun s₅ h₅ => ?_
  have ek : addk L st = L ++ [st] := by unfold addk; rw [if_neg b0.ns]
  have ef : upf f st none = f := by
    funext y
    unfold upf
    split
    · rename_i q; rw [q, hTr.top]
    · rfl
  rw [ek, ef] at h₅
  clear h₄
  have hKn : (L ++ [st]).Nodup := by
    rw [List.nodup_append]
    exact ⟨b0.nd, by simp, fun y hy z hz => by rw [List.mem_singleton] at hz; rw [hz]; exact fun e => b0.ns (e ▸ hy)⟩
  have hK : ∀ y, y ∈ L ++ [st] ↔ y ∈ st :: L := fun y => by simp [or_comm]
  generalize hKe : L ++ [st] = K at *
  have hKl : K.length ≤ 50 := by rw [← hKe]; simp; lia
  obtain ⟨ep, uI⟩ := die_open h₅ (a := I) (by lk)
  replace h₅ := uI _ (by kt_k)
  (refine letG ?_; intro Kq Ke; refine g_st ?_; refine letQ1 ?_; intro Kq)
  show wpAny _ _ (exec (.Assign [.Name _ _] (.DictComp _ _ [⟨_, _, [], 0⟩] _ _) _) env) _ _ _
  refine used_assign ?hs ?_
  case hs =>
    unfold swapsWith
    dsimp only
    rw [kdf, hbk]
    rfl
  refine dictcomp_use (c := c') (l := [("u", none)]) (cl := []) (fun _ => rfl) (closure_of hcl rfl) rfl rfl (by rfl) rfl ?_
  refine ld h₅ (by lk) ?_
  refine die_iter h₅ (a := I) (by lk) fun it s₆ h₆ => ⟨_, h₆, fun cenv D s₇ hC h₇ => ?_⟩
  have gec : GE cenv ["set"] := hC.ge ge (by rfl)
  refine dictcomp_start (fun E' Q' hq => kit_self h₇ (a := it) (by lk) hq) ?_
  refine dictcomp_loop K.length (fun i s => ∃ vu ad, St c' ((it, KItP I i K.length ep) :: (cenv.locals, FrP cenv [("u", vu)]) :: (D, DicP prog w ((K.take i).map fun y => (y, .ref (ad y)))) :: (env.locals, FrP env [("G", some (.ref x)), ("start", some (.int st ts)), ("idom", some (.ref I)), ("df", none), ("u", none), ("v", none)]) :: (I, DIE prog w K f ep) :: (x, InsP dx) :: (dx, IDicP prog w at₁) ::
    (43, TabP TT) :: (84, TabP (T84 w.params (some k))) :: (k, CodeP iQ) :: (setsE prog w (K.take i) ad (fun _ => []) ++ F)) s) ?_ ?_ ⟨none, fun _ => 0, ?_⟩
  · clear h₅ h₆ h₇
    rintro E'' i s hi ⟨vu, ad, h⟩
    refine die_next h (a := it) (d := I) (.head _) (by lk) (List.getElem?_eq_getElem hi) .head fun t s₁ h₁ => ⟨_, rfl, ?_⟩
    refine letOwned_name ?_
    refine wpAny_assign_Name ?_
    refine sto (h₁.perm (.swap ..)) (by room) fun s₂ h₂ => ?_
    refine tests_nil ?_
    refine itt rfl ?_
    refine ld h₂ (by lk) ?_
    refine call_ty h₂ hB1.toGB gec (by lk) (by lk) rfl ?_
    refine spl_nil ?_
    refine new_setq h₂ fun b s₃ h₃ => ?_
    refine dic_put h₃ (a := D) (by lk) (by simp; lia) (by kt_k) fun s₄ h₄ => ?_
    refine ⟨some (.int K[i] t), fun y => if y = K[i] then b else ad y, ?_⟩
    have hni : K[i] ∉ K.take i := by
      intro hm
      obtain ⟨m, hm', e⟩ := List.mem_take_iff_getElem.mp hm
      have := (List.getElem_inj hKn).mp e
      lia
    have hne : ∀ y ∈ K.take i, y ≠ K[i] := fun y hy e => hni (e ▸ hy)
    have hm : ((K.take i).map fun y => ((y, .ref (ad y)) : Int × Value)) = (K.take i).map fun y => (y, .ref (if y = K[i] then b else ad y)) := List.map_congr_left fun y hy => by rw [if_neg (hne y hy)]
    have e1 : stored ((K.take i).map fun y => ((y, .ref (ad y)) : Int × Value)) K[i] (.ref b) = (K.take (i + 1)).map fun y => (y, .ref (if y = K[i] then b else ad y)) := by
      unfold stored
      rw [if_neg (by
        rw [List.any_map, List.any_eq_true]
        rintro ⟨y, hy, e⟩
        exact hne y hy (by simpa using e)), hm, List.take_succ_eq_append_getElem hi, List.map_append]
      simp
    have e2 : setsE prog w (K.take (i + 1)) (fun y => if y = K[i] then b else ad y) (fun _ => []) = setsE prog w (K.take i) ad (fun _ => []) ++ [(b, SetQ prog w [])] := by
      unfold setsE
      rw [List.take_succ_eq_append_getElem hi, List.map_append]
      congr 1
      · exact List.map_congr_left fun y hy => by dsimp only; rw [if_neg (hne y hy)]
      · simp
    rw [e1] at h₄
    rw [e2, List.append_assoc]
    have h₅ := h₄.sub (S' := (b, SetQ prog w []) :: (it, KItP I (i + 1) K.length ep) :: (cenv.locals, FrP cenv [("u", some (.int K[i] t))]) :: (D, DicP prog w ((K.take (i + 1)).map fun y => (y, .ref (if y = K[i] then b else ad y)))) :: (env.locals, FrP env [("G", some (.ref x)), ("start", some (.int st ts)), ("idom", some (.ref I)), ("df", none), ("u", none), ("v", none)]) :: (I, DIE prog w K f ep) :: (x, InsP dx) :: (dx, IDicP prog w at₁) ::
      (43, TabP TT) :: (84, TabP (T84 w.params (some k))) :: (k, CodeP iQ) :: (setsE prog w (K.take i) ad (fun _ => []) ++ F)) (by k_is)
    exact h₅.perm (List.perm_middle (l₁ := (it, _) :: (cenv.locals, _) :: (D, _) :: (env.locals, _) :: (I, _) :: (x, _) :: (dx, _) :: (43, _) :: (84, _) :: (k, _) :: setsE prog w (K.take i) ad (fun _ => []))).symm
  · clear h₅ h₆ h₇
    rintro E'' s ⟨vu, ad, h⟩
    rw [List.take_length] at h
    refine die_end hA₁.handled h .head (d := I) (by lk) (List.getElem?_eq_none (Nat.le_refl _)) fun s₁ h₁ => ⟨rfl, _, rfl, ?_⟩
    refine wpAny_assign_Name ?_
    refine sto (h₁.sub (.cons (a := env.locals) (by w_up) (fun _ q => q) .refl)) (by room) fun s₂ h₂ => ⟨c', _, _, h₂.perm (.swap ..), fun s₃ h₃ => ?_⟩
    obtain ⟨c₂, ep2, hx, hfd, h₄⟩ := freeze_dic h₃ (.tail .head)
    clear h h₁ h₂ h₃
    have hB2 : KZ w c₂.Z := hB1.ext hx.z
    have hg2 := hg1.ext hx
    (refine letG ?_; intro Kq Ke; refine g_cons_ ?_; refine letG1 ?_; intro Kq)
    show wpG _ _ (exec (.For _ (.Name _ _) [dfIf w.params] _ _) env) _ _ _
    refine g_For ?_ (fun _ => rfl)
    refine g_any (ld h₄ (by lk) ?_)
    refine die_iter h₄ (a := I) (by lk) fun it2 s₅ h₅ => ?_
    refine cg_for K.length (fun i s => ∃ vu vv ls at₂, AtP at0 pa at₂ ∧ (∀ v ∈ K, ∀ y, y ∈ ls v ↔ (y ∈ K.take i ∧ DF f (st :: L) pr v y)) ∧
      St c₂ ((it2, KItP I i K.length ep) :: (env.locals, FrP env [("G", some (.ref x)), ("start", some (.int st ts)), ("idom", some (.ref I)), ("df", some (.ref D)), ("u", vu), ("v", vv)]) :: (x, InsP dx) :: (dx, IDicP prog w at₂) :: (I, DIE prog w K f ep) :: (setsE prog w K ad ls ++ ((43, TabP TT) :: (84, TabP (T84 w.params (some k))) :: (k, CodeP iQ) :: F))) s) ?_ ?_ ⟨none, none, fun _ => [], at₁, hp₁, fun v hv y => by simp, ?_⟩
    · clear h₄ h₅
      rintro E3 i s hi hE1
      refine ex4 hE1 fun vu vv ls at₂ hE2 => ?_
      clear hE1
      refine an3 hE2 fun hp₂ hls h => ?_
      clear hE2
      intro Kq
      refine die_next h (a := it2) (d := I) (.head _) (by lk) (List.getElem?_eq_getElem hi) .head fun t s₁ h₁ => ⟨_, rfl, ?_⟩
      refine letOwned_name ?_
      refine wpAny_assign_Name ?_
      refine sto (h₁.perm (.swap ..)) (by room) fun s₂ h₂ => ?_
      have huK : K[i] ∈ K := List.getElem_mem hi
      have hug : K[i] ∈ ks := by
        rcases List.mem_cons.mp ((hK _).mp huK) with e | e
        · rw [e]; exact hst
        · exact hLg _ e
      have h₃ := h₂.perm (.cons _ (List.perm_middle (l₁ := (x, _) :: (dx, _) :: (I, _) :: setsE prog w K ad ls)).symm)
      refine g_cons_ (df_node (L := L) (st := st) (ts := ts) hB2 hA₁.less hg2 hat hno hz hp₂ ge (by lk) hint hfd hKn hK b0 hTr hAn huK hug (h5 _ hug) (hpl _ hug) h₃ fun vv' ls' at₃ s₄ hp₃ hls' h₄ => ?_)
      refine g_nil_ ⟨some (.int K[i] t), vv', ls', at₃, hp₃, fun v hv y => ?_, ?_⟩
      · rw [hls' v hv y, hls v hv y, List.take_succ_eq_append_getElem hi, List.mem_append, List.mem_singleton]
        constructor
        · rintro (⟨r, r1⟩ | ⟨r, r1⟩)
          · exact ⟨.inl r, r1⟩
          · exact ⟨.inr r, r ▸ r1⟩
        · rintro ⟨r | r, r1⟩
          · exact .inl ⟨r, r1⟩
          · exact .inr ⟨r, r ▸ r1⟩
      · exact (h₄.perm (.cons _ (List.perm_middle (l₁ := (x, _) :: (dx, _) :: (I, _) :: setsE prog w K ad ls')))).perm (.swap ..)
    · clear h₄ h₅
      rintro E3 s hE1
      refine ex4 hE1 fun vu vv ls at₂ hE2 => ?_
      clear hE1
      refine an3 hE2 fun hp₂ hls h => ?_
      clear hE2
      refine die_end hA₁.handled h .head (d := I) (by lk) (List.getElem?_eq_none (Nat.le_refl _)) fun s₁ h₁ => ⟨rfl, ?_⟩
      refine g_nil_ ?_
      (refine letG ?_; intro Kq Ke; refine g_st ?_; refine letQ1 ?_; intro Kq)
      show wpAny _ _ (exec (.Return (some _) _) env) _ _ _
      kd_p
      refine ld h₁ (by lk) ?_
      refine hR D ad ls k c' c₂ at₂ f _ _ hp₂ hcg hx hAn hTr hfd (fun v hv y => ?_) ?_
      · rw [hls v hv y, List.take_length]
      · exact (h₁.sub (S' := (x, InsP dx) :: (dx, IDicP prog w at₂) :: (setsE prog w K ad ls ++ ((43, TabP TT) :: (84, TabP (T84 w.params (some k))) :: (k, CodeP iQ) :: F))) (by k_is)).perm (.cons _ (.cons _ (List.perm_append_comm_assoc _ [_, _, _] _)))
    · exact (h₅.sub (S' := (it2, KItP I 0 K.length ep) :: (env.locals, FrP env [("G", some (.ref x)), ("start", some (.int st ts)), ("idom", some (.ref I)), ("df", some (.ref D)), ("u", none), ("v", none)]) :: (x, InsP dx) :: (dx, IDicP prog w at₁) :: (I, DIE prog w K f ep) :: (43, TabP TT) :: (84, TabP (T84 w.params (some k))) :: (k, CodeP iQ) :: (setsE prog w K ad (fun _ => []) ++ F)) (by k_is)).perm
        (.cons _ (.cons _ (.cons _ (.cons _ (.cons _ (List.perm_append_comm_assoc [_, _, _] _ _))))))
  · have e0 : List.take 0 K = [] := rfl
    simp only [e0, List.map_nil, setsE, List.nil_append]
    exact h₇.sub (by k_is)
end
end
section
open PySem PySem.Calls PyProof.Rows PySem.W PySem.W.X
open Sem (wp)
noncomputable def defOfW {q : Program} {loose : List Str} {XP : (Str → Option Value) → Heap → Prop} {YP : World → Heap → Prop} {r : RowW} {d : DefRec} {kwd : List (Str × Expr)} {P : Prop} (_ : WalkG q loose XP YP r d kwd → P) : DefRec := d
noncomputable abbrev lawD : DefRec := defOfW hd
noncomputable abbrev lawS (i : Nat) : Stmt := stmtAt lawD.body i
structure LawE (env : Env) (c1 c2 c3 c4 c5 : Addr) : Prop where
  ge : GE env ["_law_seed", "_law_next", "range", "DiGraph", "list", "len", "immediate_dominators", "NetworkXError", "dominance_frontiers", "_law_reached", "_law_strict", "sorted"]
  cs : env.cells = ([("strict", c5), ("names", c4), ("u", c3), ("many", c2), ("s", c1)] : List (Str × Addr))
  k1 : env.kindOf "s" = some .cell
  k2 : env.kindOf "many" = some .cell
  k3 : env.kindOf "u" = some .cell
  k4 : env.kindOf "names" = some .cell
  k5 : env.kindOf "strict" = some .cell
  hint : interactive env = false
  bk : env.blockKind = .function
namespace LawE
variable {env : Env} {c1 c2 c3 c4 c5 : Addr} (e : LawE env c1 c2 c3 c4 c5)
theorem s (e : LawE env c1 c2 c3 c4 c5) : Cel env "s" c1 := .of e.cs e.ge.kind (.inl e.k1) rfl (by decide)
theorem many (e : LawE env c1 c2 c3 c4 c5) : Cel env "many" c2 := .of e.cs e.ge.kind (.inl e.k2) rfl (by decide)
theorem u (e : LawE env c1 c2 c3 c4 c5) : Cel env "u" c3 := .of e.cs e.ge.kind (.inl e.k3) rfl (by decide)
theorem names (e : LawE env c1 c2 c3 c4 c5) : Cel env "names" c4 := .of e.cs e.ge.kind (.inl e.k4) rfl (by decide)
theorem strict (e : LawE env c1 c2 c3 c4 c5) : Cel env "strict" c5 := .of e.cs e.ge.kind (.inl e.k5) rfl (by decide)
end LawE
structure ArrOk (n : Int) (as : List (Int × Int)) (i j : Int) : Prop where
  nd : as.Nodup
  bd : ∀ p ∈ as, 0 ≤ p.1 ∧ p.1 < n ∧ 0 ≤ p.2 ∧ p.2 < n
  lt : ∀ p ∈ as, p.1 < i ∨ (p.1 = i ∧ p.2 < j)
  len : (as.length : Int) ≤ i * 5 + j
theorem ArrOk.put {n i j : Int} {as : List (Int × Int)} (h : ArrOk n as i j) (hi0 : 0 ≤ i) (hi : i < n) (hj0 : 0 ≤ j) (hj : j < n) : ArrOk n (as ++ [(i, j)]) i (j + 1) where
  nd := by
    rw [List.nodup_append]
    refine ⟨h.nd, by simp, fun p hp q hq => ?_⟩
    rw [List.mem_singleton] at hq
    subst hq
    rintro rfl
    rcases h.lt _ hp with z | z
    · exact absurd z (by simp)
    · exact absurd z.2 (by simp)
  bd p hp := by
    rcases List.mem_append.mp hp with z | z
    · exact h.bd p z
    · rw [List.mem_singleton] at z; subst z; exact ⟨hi0, hi, hj0, hj⟩
  lt p hp := by
    rcases List.mem_append.mp hp with z | z
    · rcases h.lt p z with q | q
      · exact .inl q
      · exact .inr ⟨q.1, by lia⟩
    · rw [List.mem_singleton] at z; subst z; exact .inr ⟨rfl, by show j < j + 1; lia⟩
  len := by have := h.len; simp; lia
theorem ArrOk.skip {n i j : Int} {as : List (Int × Int)} (h : ArrOk n as i j) : ArrOk n as i (j + 1) :=
  ⟨h.nd, h.bd, fun p hp => (h.lt p hp).imp id fun q => ⟨q.1, by lia⟩, by have := h.len; lia⟩
theorem ArrOk.next {n i m : Int} {as : List (Int × Int)} (h : ArrOk n as i m) (hm : m ≤ 5) : ArrOk n as (i + 1) 0 :=
  ⟨h.nd, h.bd, fun p hp => .inl (by rcases h.lt p hp with q | q <;> lia), by have := h.len; lia⟩
theorem Tups.snoc {Z : Addr → Option Obj} {vs : List Value} {as : List (Int × Int)} {a : Addr} {o : Obj} {u v : Int} {tu tv : Tok} (h : Tups Z vs as) (hz : Z a = some o) (ho : TupP [.int u tu, .int v tv] o) : Tups Z (vs ++ [.ref a]) (as ++ [(u, v)]) := by
  induction h with
  | nil => exact .cons hz ho .nil
  | cons h1 h2 _ ih => exact .cons h1 h2 ih
section
variable {prog : Program} {w : World} {A : Around} {E : Value → Shared → Prop} {c : Cfg} {S S' F : List Ent} {s : Shared} {a : Addr} {env : Env}
theorem law_01 {Q : Flow → Shared → Prop} {sl c1 c2 c3 c4 c5 : Addr} {ns : List Int} (hB : KZ w c.Z) (hA : Room A 20) (le : LawE env c1 c2 c3 c4 c5) (hl : FInts c.Z sl ns) (hn : ns.length ≤ 63)
    (h : St c ((env.locals, FrP env [("script", some (.ref sl)), ("v", none), ("arrows", none), ("graph", none), ("left", none), ("rest", none), ("start", none), ("refused", none), ("reach", none), ("due", none), ("told", none), ("ends", none), ("p", none)]) :: (c5, CellP none) :: (c4, CellP none) :: (c3, CellP none) :: (c2, CellP none) :: (c1, CellP none) :: F) s)
    (k : ∀ n tn sa x s', 1 ≤ n → n ≤ 5 → 0 ≤ x → x < 2147483647 → St c ((env.locals, FrP env [("script", some (.ref sl)), ("v", none), ("arrows", none), ("graph", none), ("left", none), ("rest", none), ("start", none), ("refused", none), ("reach", none), ("due", none), ("told", none), ("ends", none), ("p", none)]) :: (c5, CellP none) :: (c4, CellP none) :: (c3, CellP none) :: (c2, CellP (some (.int n tn))) :: (c1, CellP (some (.ref sa))) :: (sa, IntL [x]) :: F) s' → Q .next s') :
    wpAny (model prog w) A (exec (lawS 0) env) (fun f s' => match f with | .next => wpAny (model prog w) A (exec (lawS 1) env) Q E s' | f => Q f s') E s := by
  have ge := le.ge
  show wpAny _ _ (exec (.Assign [.Name _ _] (.Call (.Name _ _) _ _ _) _) env) _ _ _
  refine wpAny_Assign_Name ?_ ?hs
  case hs => (unfold swapsWith; rfl)
  refine call_fn h hB.toGB ge (by lk) (by lk) (hB.k 803 _ rfl (by decide) (by decide)) rfl rfl ?_
  refine spl_cons (ld h (by lk) ?_) rfl
  refine spl_nil ⟨⟨_, h⟩, wpAny_call ?_⟩
  refine seed_spec h hB hA.less hl hn fun x sa s₁ hx0 hx1 h₁ => ?_
  refine stoc h₁ le.k1 le.s (by lk) (by kt_k) fun s₂ h₂ => ?_
  show wpAny _ _ (exec (.Assign [.Name _ _] (.BinOp _ _ _ _) _) env) _ _ _
  refine wpAny_Assign_Name ?_ ?hs
  case hs => (unfold swapsWith; rfl)
  kd_p
  kd_p
  replace h₂ := h₂.tok (s₂.toks + 1)
  refine call_fn h₂ hB.toGB ge (by lk) (by lk) (hB.k 810 _ rfl (by decide) (by decide)) rfl rfl ?_
  refine spl_cons (ldc h₂ le.s (by lk) ?_) rfl
  refine spl_cons ?_ rfl
  kd_p
  refine spl_nil ⟨⟨_, h₂.tok _⟩, wpAny_call ?_⟩
  refine next_spec (a := sa) ((h₂.tok _).sub (.cons (a := sa) (by w_up) (fun _ q => q) .refl)) hB hA.less ⟨hx0, hx1⟩ (by decide) fun x' r t s₃ hx0' hx1' hr0 hr1 h₃ => ?_
  k_in
  refine stoc (h₃.tok _) le.k2 le.many (by lk) (by kt_k) fun s₄ h₄ => ?_
  exact k (1 + r) _ sa x' s₄ (by lia) (by lia) hx0' hx1' (h₄.sub (by k_is))
theorem law_2 {Q : Flow → Shared → Prop} {sl c1 c2 c3 c4 c5 sa : Addr} {n x : Int} {tn : Tok} (hB : KZ w c.Z) (hA : Room A 20) (le : LawE env c1 c2 c3 c4 c5) (n1 : 1 ≤ n) (n5 : n ≤ 5) (hx0 : 0 ≤ x) (hx1 : x < 2147483647)
    (h : St c ((env.locals, FrP env [("script", some (.ref sl)), ("v", none), ("arrows", none), ("graph", none), ("left", none), ("rest", none), ("start", none), ("refused", none), ("reach", none), ("due", none), ("told", none), ("ends", none), ("p", none)]) :: (c5, CellP none) :: (c4, CellP none) :: (c3, CellP none) :: (c2, CellP (some (.int n tn))) :: (c1, CellP (some (.ref sa))) :: (sa, IntL [x]) :: F) s)
    (k : ∀ as al x c' s', Ext c c' → 0 ≤ x → x < 2147483647 → ArrOk n as n 0 → FArr c'.Z al as → St c' ((env.locals, FrP env [("script", some (.ref sl)), ("v", none), ("arrows", some (.ref al)), ("graph", none), ("left", none), ("rest", none), ("start", none), ("refused", none), ("reach", none), ("due", none), ("told", none), ("ends", none), ("p", none)]) :: (c5, CellP none) :: (c4, CellP none) :: (c3, CellP none) :: (c2, CellP (some (.int n tn))) :: (c1, CellP (some (.ref sa))) :: (sa, IntL [x]) :: F) s' → Q .next s') :
    wpAny (model prog w) A (exec (lawS 2) env) Q E s := by
  have ge := le.ge
  have klo : env.kindOf "arrows" = some .local := ((fr_facts h).2.1 ("arrows", none) (by lk)).1
  show wpAny _ _ (exec (.Assign [.Name _ _] (.ListComp _ [⟨_, _, _, 0⟩, ⟨_, _, _, 0⟩] _ _) _) env) _ _ _
  refine used_assign ?hs ?_
  case hs =>
    unfold swapsWith
    dsimp only
    rw [klo, le.bk]
    rfl
  refine listcomp_use (c := c) (l := [("u", none), ("v", none)]) (cl := [("s", c1), ("many", c2)]) (fun _ => rfl) (closure_of le.cs rfl) rfl rfl (by rfl) rfl ?_
  refine call_ty h hB.toGB ge (by lk) (by lk) rfl ?_
  refine spl_cons (ldc h le.many (by lk) ?_) rfl
  refine spl_nil ?_
  refine call_range h fun r1 s₁ h₁ => ?_
  refine iter_range h₁ (a := r1) (by lk) (by lia) (by lia) fun it s₂ h₂ => ⟨_, h₂, fun cenv b s₃ hC h₃ => ?_⟩
  have gc : GE cenv ["range", "_law_next"] := hC.ge ge (by rfl)
  have hs' : Cel cenv "s" c1 := hC.free (by rfl) (by rfl) (by rfl) (by decide)
  have hm' : Cel cenv "many" c2 := hC.free (by rfl) (by rfl) (by rfl) (by decide)
  refine listcomp_start (by rfl) (fun E' Q' hq => range_self h₃ (a := it) (by lk) hq) ?_
  obtain ⟨m, rfl⟩ : ∃ m : Nat, n = m := ⟨n.toNat, by lia⟩
  let T : List Ent := (env.locals, FrP env [("script", some (.ref sl)), ("v", none), ("arrows", none), ("graph", none), ("left", none), ("rest", none), ("start", none), ("refused", none), ("reach", none), ("due", none), ("told", none), ("ends", none), ("p", none)]) :: (c5, CellP none) :: (c4, CellP none) :: (c3, CellP none) :: (c2, CellP (some (.int m tn))) :: (c1, CellP (some (.ref sa))) :: F
  refine listcomp_more m (fun i s => ∃ c' as vs x vu vv, Ext c c' ∧ 0 ≤ x ∧ x < 2147483647 ∧ ArrOk m as i 0 ∧ Tups c'.Z vs as ∧ St c' ((it, RItP i (m - i)) :: (cenv.locals, FrP cenv [("u", vu), ("v", vv)]) :: (b, LstP vs) :: (sa, IntL [x]) :: T) s)
    (by rfl) (by rfl) (fun _ => rfl) ?_ ?_ ⟨c, [], [], x, none, none, .refl c, hx0, hx1, ⟨.nil, (fun _ q => nomatch q), (fun _ q => nomatch q), by simp⟩, .nil, ?_⟩
  · clear h h₁ h₂ h₃
    rintro E' RE i s hi hE1
    refine ex6 hE1 fun c' as vs x vu vv hE2 => ?_
    clear hE1
    refine an6 hE2 fun hX hx0 hx1 hok htu h => ?_
    clear hE2
    have hB1 : KZ w c'.Z := hB.ext hX.z
    refine range_item h (a := it) (by lk) (by lia) (by kt_k) fun t s₁ h₁ => ⟨_, rfl, ?_⟩
    refine letOwned_name ?_
    refine wpAny_assign_Name ?_
    refine sto (h₁.perm (.swap ..)) (by room) fun s₂ h₂ => ?_
    refine tests_nil ?_
    refine itt rfl ?_
    refine call_ty h₂ hB1.toGB gc (by lk) (by lk) rfl ?_
    refine spl_cons (ldc h₂ hm' (by lk) ?_) rfl
    refine spl_nil ?_
    refine call_range h₂ fun r2 s₃ h₃ => ?_
    refine iter_range h₃ (a := r2) (by lk) (by lia) (by lia) fun it2 s₄ h₄ => ?_
    refine listcomp_start (by rfl) (fun E' Q' hq => range_self h₄ (a := it2) (by lk) hq) ?_
    refine listcomp_loop m (fun j s => ∃ c' as vs x vv, Ext c c' ∧ 0 ≤ x ∧ x < 2147483647 ∧ ArrOk m as i j ∧ Tups c'.Z vs as ∧ St c' ((it2, RItP j (m - j)) :: (cenv.locals, FrP cenv [("u", some (.int i t)), ("v", vv)]) :: (b, LstP vs) :: (it, RItP (i + 1) (m - i - 1)) :: (sa, IntL [x]) :: T) s)
      (by rfl) (by rfl) ?_ ?_ ⟨c', as, vs, x, vv, hX, hx0, hx1, hok, htu, ?_⟩
    · clear h h₁ h₂ h₃ h₄ hok htu hX hx0 hx1 hB1
      rintro E'' j s hj hE1
      refine ex5 hE1 fun c' as vs x vv hE2 => ?_
      clear hE1
      refine an6 hE2 fun hX hx0 hx1 hok htu h => ?_
      clear hE2
      have hB1 : KZ w c'.Z := hB.ext hX.z
      refine range_item h (a := it2) (by lk) (by lia) (by kt_k) fun t' s₁ h₁ => ⟨_, rfl, ?_⟩
      refine letOwned_name ?_
      refine wpAny_assign_Name ?_
      refine sto (h₁.perm (.swap ..)) (by room) fun s₂ h₂ => ?_
      have hvl : vs.length ≤ 30 := by
        have e1 := htu.length
        have e2 := hok.len
        lia
      refine tests_one ?_
      kd_p
      refine call_fn h₂ hB1.toGB gc (by lk) (by lk) (hB1.k 810 _ rfl (by decide) (by decide)) rfl rfl ?_
      refine spl_cons (ldc h₂ hs' (by lk) ?_) rfl
      refine spl_cons ?_ rfl
      kd_p
      refine spl_nil ⟨⟨_, h₂.tok _⟩, wpAny_call ?_⟩
      refine next_spec (a := sa) ((h₂.tok _).sub (.cons (a := sa) (by w_up) (fun _ q => q) .refl)) hB1 hA.less ⟨hx0, hx1⟩ (by decide) fun x' r tr s₃ hx0' hx1' hr0 hr1 h₃ => ?_
      replace h₃ := h₃.sub (.cons (a := cenv.locals) (by w_up) (fun _ q => q) .refl)
      have fin : ∀ (p1 p2 p3 : Pos) (kk : Nat) (bb : Bool) s₄, St c' ((cenv.locals, FrP cenv [("u", some (.int i t)), ("v", some (.int j t'))]) :: (sa, IntL [x']) :: (it2, RItP (j + 1) (m - j - 1)) :: (b, LstP vs) :: (it, RItP (i + 1) (m - i - 1)) :: T) s₄ →
          if bb = true then wpAny (model prog w) A (eval (.Tuple [.Name "u" p1, .Name "v" p2] kk p3) cenv) (fun x s₄ => wpAny (model prog w) A (call (.builtin "list.append") [.ref b, x]) (fun _ s₅ => ∃ c' as vs x vv, Ext c c' ∧ 0 ≤ x ∧ x < 2147483647 ∧ ArrOk m as i ((j + 1 : Nat) : Int) ∧ Tups c'.Z vs as ∧ St c' ((it2, RItP ((j + 1 : Nat) : Int) (m - ((j + 1 : Nat) : Int))) :: (cenv.locals, FrP cenv [("u", some (.int i t)), ("v", vv)]) :: (b, LstP vs) :: (it, RItP (i + 1) (m - i - 1)) :: (sa, IntL [x]) :: T) s₅) E'' s₄) E'' s₄
          else ∃ c' as vs x vv, Ext c c' ∧ 0 ≤ x ∧ x < 2147483647 ∧ ArrOk m as i ((j + 1 : Nat) : Int) ∧ Tups c'.Z vs as ∧ St c' ((it2, RItP ((j + 1 : Nat) : Int) (m - ((j + 1 : Nat) : Int))) :: (cenv.locals, FrP cenv [("u", some (.int i t)), ("v", vv)]) :: (b, LstP vs) :: (it, RItP (i + 1) (m - i - 1)) :: (sa, IntL [x]) :: T) s₄ := by
        intro p1 p2 p3 kk bb s₄ h₄
        have ej : ((j + 1 : Nat) : Int) = (j : Int) + 1 := by lia
        have em : (m : Int) - ((j + 1 : Nat) : Int) = m - j - 1 := by lia
        rw [em, ej]
        cases bb with
        | false =>
          rw [if_neg Bool.false_ne_true]
          exact ⟨c', as, vs, x', _, hX, hx0', hx1', hok.skip, htu, h₄.sub (by k_is)⟩
        | true =>
          rw [if_pos rfl]
          refine tup_disp (c := c') ?_
          refine spl_cons (ld h₄ (by lk) ?_) rfl
          refine spl_cons (ld h₄ (by lk) ?_) rfl
          refine spl_nil ⟨_, h₄, by simp, fun tp s₅ h₅ => ?_⟩
          refine l_append h₅ (a := b) (by lk) (by lia) (by kt_k) fun s₆ h₆ => ?_
          obtain ⟨c'', o, hX', hz, ho, h₇⟩ := h₆.freeze (a := tp) .head
          have ho : o = _ := ho
          refine ⟨c'', as ++ [((i : Int), (j : Int))], vs ++ [.ref tp], x', _, hX.trans hX', hx0', hx1', hok.put (by lia) (by lia) (by lia) (by lia), (htu.ext hX').snoc hz (by rw [ho]; exact ⟨rfl, 0, rfl⟩), h₇.sub (by k_is)⟩
      kd_p
      kd_p
      refine ld h₃ (by lk) ?_
      refine ld h₃ (by lk) ?_
      k_in
      kd_p
      have two : ∀ (q : Int), wpAny (model prog w) A (compareOp .Lt (.int r tr) (.int q s₃.toks)) (fun v s₄ => wpAny (model prog w) A (truthy v) (fun ok s₃ => if ok = true then wpAny (model prog w) A (eval (.Tuple [.Name "u" ⟨577, 15, 577, 16⟩, .Name "v" ⟨577, 18, 577, 19⟩] 0 ⟨577, 14, 577, 20⟩) cenv) (fun x s₄ => wpAny (model prog w) A (call (.builtin "list.append") [.ref b, x]) (fun _ s₅ => ∃ c' as vs x vv, Ext c c' ∧ 0 ≤ x ∧ x < 2147483647 ∧ ArrOk m as i ((j + 1 : Nat) : Int) ∧ Tups c'.Z vs as ∧ St c' ((it2, RItP ((j + 1 : Nat) : Int) (m - ((j + 1 : Nat) : Int))) :: (cenv.locals, FrP cenv [("u", some (.int i t)), ("v", vv)]) :: (b, LstP vs) :: (it, RItP (i + 1) (m - i - 1)) :: (sa, IntL [x]) :: T) s₅) E'' s₄) E'' s₃
          else ∃ c' as vs x vv, Ext c c' ∧ 0 ≤ x ∧ x < 2147483647 ∧ ArrOk m as i ((j + 1 : Nat) : Int) ∧ Tups c'.Z vs as ∧ St c' ((it2, RItP ((j + 1 : Nat) : Int) (m - ((j + 1 : Nat) : Int))) :: (cenv.locals, FrP cenv [("u", some (.int i t)), ("v", vv)]) :: (b, LstP vs) :: (it, RItP (i + 1) (m - i - 1)) :: (sa, IntL [x]) :: T) s₃) E'' s₄) E'' { s₃ with toks := s₃.toks + 1 } := by
        intro q
        k_in
        kd_p
        exact fin _ _ _ _ _ _ ((h₃.tok _).sub (by k_is))
      (with_reducible first | refine ite_dec (fun hif => ?_) (fun hif => ?_) | refine ite_beq (fun hif => ?_) (fun hif => ?_) | refine ite_bne (fun hif => ?_) (fun hif => ?_))
      · kd_p
        exact two 1
      · kd_p
        exact two 3
    · clear h h₁ h₂ h₃ h₄ hok htu hX hx0 hx1 hB1
      rintro E'' s hE1
      refine ex5 hE1 fun c' as vs x vv hE2 => ?_
      clear hE1
      refine an6 hE2 fun hX hx0 hx1 hok htu h => ?_
      clear hE2
      refine range_end hA.handled h (a := it2) .head (by lia) fun s₁ h₁ => ⟨rfl, ?_⟩
      have ej : ((i + 1 : Nat) : Int) = (i : Int) + 1 := by lia
      have em : (m : Int) - ((i + 1 : Nat) : Int) = m - i - 1 := by lia
      refine ⟨c', as, vs, x, some (.int i t), vv, hX, hx0, hx1, by rw [ej]; exact hok.next (by lia), htu, ?_⟩
      rw [em, ej]
      exact h₁.sub (by k_is)
    · have e0 : (m : Int) - ((0 : Nat) : Int) = m := by lia
      have z0 : ((0 : Nat) : Int) = 0 := rfl
      rw [e0, z0]
      exact h₄.sub (by k_is)
  · clear h h₁ h₂ h₃
    rintro E' s hE1
    refine ex6 hE1 fun c' as vs x vu vv hE2 => ?_
    clear hE1
    refine an6 hE2 fun hX hx0 hx1 hok htu h => ?_
    clear hE2
    refine range_end hA.handled h (a := it) .head (by lia) fun s₁ h₁ => ⟨rfl, ?_⟩
    refine ⟨_, rfl, ?_⟩
    refine wpAny_assign_Name ?_
    refine sto (h₁.sub (.cons (a := env.locals) (by w_up) (fun _ q => q) .refl)) (by room) fun s₂ h₂ => ⟨c', _, _, h₂.perm (.swap ..), fun s₃ h₃ => ?_⟩
    obtain ⟨c'', o, hX', hz, ⟨hcl, hdi, nn, hdt⟩, h₄⟩ := h₃.freeze (a := b) (.tail .head)
    refine k as b x c'' s₃ (hX.trans hX') hx0 hx1 hok ⟨o, _, nn, hz, hcl, hdt, ?_⟩ (h₄.sub (by k_is))
    exact htu.ext hX'
  · have e0 : (m : Int) - ((0 : Nat) : Int) = m := by lia
    have z0 : ((0 : Nat) : Int) = 0 := rfl
    rw [e0, z0]
    exact h₃.sub (by k_is)
theorem n5_take : ∀ {i : Nat}, i < 5 → names5.take (i + 1) = names5.take i ++ [11 * (i : Int) + 4]
  | 0, _ | 1, _ | 2, _ | 3, _ | 4, _ => rfl
  | _ + 5, h => absurd h (by lia)
theorem law_3 {Q : Flow → Shared → Prop} {sl c1 c2 c3 c4 c5 sa al : Addr} {n x : Int} {tn : Tok} (hB : KZ w c.Z) (hA : Room A 20) (le : LawE env c1 c2 c3 c4 c5) (n1 : 1 ≤ n) (n5 : n ≤ 5)
    (h : St c ((env.locals, FrP env [("script", some (.ref sl)), ("v", none), ("arrows", some (.ref al)), ("graph", none), ("left", none), ("rest", none), ("start", none), ("refused", none), ("reach", none), ("due", none), ("told", none), ("ends", none), ("p", none)]) :: (c5, CellP none) :: (c4, CellP none) :: (c3, CellP none) :: (c2, CellP (some (.int n tn))) :: (c1, CellP (some (.ref sa))) :: (sa, IntL [x]) :: F) s)
    (k : ∀ nl c' s', Ext c c' → FInts c'.Z nl (names5.take n.toNat) → St c' ((env.locals, FrP env [("script", some (.ref sl)), ("v", none), ("arrows", some (.ref al)), ("graph", none), ("left", none), ("rest", none), ("start", none), ("refused", none), ("reach", none), ("due", none), ("told", none), ("ends", none), ("p", none)]) :: (c5, CellP none) :: (c4, CellP (some (.ref nl))) :: (c3, CellP none) :: (c2, CellP (some (.int n tn))) :: (c1, CellP (some (.ref sa))) :: (sa, IntL [x]) :: F) s' → Q .next s') :
    wpAny (model prog w) A (exec (lawS 3) env) Q E s := by
  have ge := le.ge
  show wpAny _ _ (exec (.Assign [.Name _ _] (.ListComp _ [⟨_, _, _, 0⟩] _ _) _) env) _ _ _
  refine wpAny_Assign_Name ?_ ?hs
  case hs =>
    unfold swapsWith
    dsimp only
    have hsw : ∀ b, (b && (some NameKind.cell == some NameKind.local)) = false := fun b => by cases b <;> rfl
    rw [le.k4, hsw]
    rfl
  refine listcomp_st (c := c) (l := [("k", none)]) (cl := []) (fun _ => rfl) (closure_of le.cs rfl) rfl rfl (by rfl) rfl ?_
  refine call_ty h hB.toGB ge (by lk) (by lk) rfl ?_
  refine spl_cons (ldc h le.many (by lk) ?_) rfl
  refine spl_nil ?_
  refine call_range h fun r1 s₁ h₁ => ?_
  refine iter_range h₁ (a := r1) (by lk) (by lia) (by lia) fun it s₂ h₂ => ⟨_, h₂, fun cenv b s₃ hC h₃ => ?_⟩
  refine listcomp_start (by rfl) (fun E' Q' hq => range_self h₃ (a := it) (by lk) hq) ?_
  obtain ⟨m, rfl⟩ : ∃ m : Nat, n = m := ⟨n.toNat, by lia⟩
  let T : List Ent := (env.locals, FrP env [("script", some (.ref sl)), ("v", none), ("arrows", some (.ref al)), ("graph", none), ("left", none), ("rest", none), ("start", none), ("refused", none), ("reach", none), ("due", none), ("told", none), ("ends", none), ("p", none)]) :: (c5, CellP none) :: (c4, CellP none) :: (c3, CellP none) :: (c2, CellP (some (.int m tn))) :: (c1, CellP (some (.ref sa))) :: (sa, IntL [x]) :: F
  refine listcomp_loop m (fun i s => ∃ vu, St c ((it, RItP i (m - i)) :: (cenv.locals, FrP cenv [("k", vu)]) :: (b, IntLP (names5.take i)) :: T) s)
    (by rfl) (by rfl) ?_ ?_ ⟨none, ?_⟩
  · clear h h₁ h₂ h₃
    rintro E' i s hi ⟨vu, h⟩
    refine range_item h (a := it) (by lk) (by lia) (by kt_k) fun t s₁ h₁ => ⟨_, rfl, ?_⟩
    refine letOwned_name ?_
    refine wpAny_assign_Name ?_
    refine sto (h₁.perm (.swap ..)) (by room) fun s₂ h₂ => ?_
    refine tests_nil ?_
    refine itt rfl ?_
    kd_p
    kd_p
    kd_p
    refine ld (h₂.tok _) (by lk) ?_
    refine mul_int ?_ (IntMulOk.of_left (by decide +kernel))
    kd_p
    k_in
    refine append_intlp (h₂.tok _) (a := b) (by lk) (by simp; lia) (by kt_k) fun s₃ h₃ => ?_
    have ej : ((i + 1 : Nat) : Int) = (i : Int) + 1 := by lia
    have em : (m : Int) - ((i + 1 : Nat) : Int) = m - i - 1 := by lia
    have en := n5_take (i := i) (by lia)
    rw [em, ej, en]
    exact ⟨_, h₃.sub (by k_is)⟩
  · clear h h₁ h₂ h₃
    rintro E' s ⟨vu, h⟩
    refine range_end hA.handled h (a := it) .head (by lia) fun s₁ h₁ => ⟨rfl, _, rfl, c, _, _, h₁, fun s₂ h₂ => ?_⟩
    refine stoc h₂ le.k4 le.names (by lk) (by kt_k) fun s₃ h₃ => ?_
    obtain ⟨c', o, hX, hz, hp, h₄⟩ := h₃.freeze (a := b) .head
    exact k b c' s₃ hX (fints_of hz hp) (h₄.sub (by k_is))
  · have e0 : (m : Int) - ((0 : Nat) : Int) = m := by lia
    have z0 : ((0 : Nat) : Int) = 0 := rfl
    rw [e0, z0]
    exact h₃.sub (.cons (a := it) (by w_up) (fun _ q => q) (.cons (a := cenv.locals) (by w_up) (fun _ q => q) (.cons (a := b) (by w_up) (intlp_of .nil) (by k_is))))
end
end
section
open PySem PySem.Calls PyProof.Rows PySem.W PySem.W.X
open Sem (wp)
noncomputable def gE (prog : Program) (w : World) (x dx g0 nd sa pa : Addr) (nk skv pkv : List (Int × Value)) (sl pl : Inn) : List Ent :=
  (x, InsP dx) :: (dx, SDicP prog w (gAttrs g0 nd sa pa)) :: (nd, DicP prog w nk) :: (sa, DicP prog w skv) :: (pa, DicP prog w pkv) :: (inn prog w sl ++ inn prog w pl)
theorem gst_eq {prog : Program} {w : World} {x dx g0 nd sa pa : Addr} {nk skv pkv : List (Int × Value)} {sl pl : Inn} {F : List Ent} : gst prog w x dx g0 nd sa pa nk skv pkv sl pl F = gE prog w x dx g0 nd sa pa nk skv pkv sl pl ++ F := by
  show _ :: _ :: _ :: _ :: _ :: (inn prog w sl ++ (inn prog w pl ++ F)) = _ :: _ :: _ :: _ :: _ :: ((inn prog w sl ++ inn prog w pl) ++ F)
  rw [List.append_assoc]
theorem gE_x {prog : Program} {w : World} {x dx g0 nd sa pa : Addr} {nk skv pkv : List (Int × Value)} {sl pl : Inn} : (x, InsP dx) ∈ gE prog w x dx g0 nd sa pa nk skv pkv sl pl := .head _
theorem gE_dx {prog : Program} {w : World} {x dx g0 nd sa pa : Addr} {nk skv pkv : List (Int × Value)} {sl pl : Inn} : (dx, SDicP prog w (gAttrs g0 nd sa pa)) ∈ gE prog w x dx g0 nd sa pa nk skv pkv sl pl := .tail _ (.head _)
theorem St.back {c : Cfg} {s : Shared} {F : List Ent} (T G : List Ent) (h : St c (T ++ (G ++ F)) s) : St c (G ++ (T ++ F)) s := h.perm (List.perm_append_comm_assoc _ _ _)
section
variable {prog : Program} {w : World} {A : Around} {E : Value → Shared → Prop} {c : Cfg} {S S' F : List Ent} {s : Shared} {a : Addr} {env : Env} {ns : List Int}
theorem tru_ints {Q : Bool → Shared → Prop} (h : St c S s) (hm : (a, IntLP ns) ∈ S) (hz : ns.length ≤ 900) (hq : ∀ s', St c S s' → Q (!ns.isEmpty) s') : wpAny (model prog w) A (truthy (.ref a)) Q E s := by
  obtain ⟨vs, hl, hi⟩ := intlp_list h hm
  have hlen := hi.length
  rw [Array.length_toList] at hlen
  refine wpAny_truthy_list hl (by lia) ?_
  have : (!vs.isEmpty) = !ns.isEmpty := by
    rw [Bool.eq_iff_iff]
    have e1 : vs = #[] ↔ ns = [] := by rw [← Array.size_eq_zero_iff, hlen, List.length_eq_zero_iff]
    simp [e1]
  first | (rw [this]; exact hq _ (h.tok _)) | exact hq _ (h.tok _)
theorem ints_erase {vs : List Value} {ns : List Int} (h : IntsAre vs ns) : ∀ i, IntsAre (vs.eraseIdx i) (ns.eraseIdx i) := by
  induction h with
  | nil => intro i; exact .nil
  | cons n t h ih =>
    intro i
    cases i with
    | zero => exact h
    | succ i => exact .cons _ _ (ih i)
theorem pop_ints {k : Int} {t : Tok} {x : Int} {Q : Value → Shared → Prop} (h : St c ((a, IntLP ns) :: F) s) (hz : ns.length ≤ 900) (h0 : 0 ≤ k) (hk : k < ns.length) (hx : ns[k.toNat]? = some x)
    (hq : ∀ t s', St c ((a, IntLP (ns.eraseIdx k.toNat)) :: F) s' → Q (.int x t) s') : wpAny (model prog w) A (call (.builtin "list.pop") [.ref a, .int k t]) Q E s := by
  obtain ⟨vs, hi, u⟩ := intlp_upd h (a := a) (.head _)
  have hlen := hi.length
  obtain ⟨t', ht⟩ := hi.get k.toNat x hx
  refine l_pop_at (u _ .head) (.head _) (by lia) h0 (by lia) ht .head fun s' h' => hq t' s' ?_
  exact h'.sub (.cons .head (intlp_of (ints_erase hi _)) .refl)
theorem list_ints {l : Addr} {Q : Value → Shared → Prop} (h : St c S s) (hf : FInts c.Z l ns) (hz : ns.length ≤ 900) (hq : ∀ b s', St c ((b, IntLP ns) :: S) s' → Q (.ref b) s') : wpAny (model prog w) A (call (.type "list") [.ref l]) Q E s := by
  refine ex3 hf fun o vs n hE2 => ?_
  clear hf
  refine an4 hE2 fun hz' hc hd hi => ?_
  clear hE2
  have hlen := hi.length
  rw [Array.length_toList] at hlen
  have hb : (1000 : Nat) ≤ sizeLine := by decide
  refine call_list_seq l (.inl rfl) (h.keep _ _ hz') hc hd (fun h' c' hk hg => hq _ _ (h.new (t := s.toks) hk (Nat.le_refl _) ⟨_, hg, vs.toList, ⟨rfl, rfl, c', by simp⟩, hi⟩)) (by lia)
theorem list_arr {l : Addr} {as : List (Int × Int)} {Q : Value → Shared → Prop} (h : St c S s) (hf : FArr c.Z l as) (hz : as.length ≤ 900) (hq : ∀ b vs s', Tups c.Z vs as → St c ((b, LstP vs) :: S) s' → Q (.ref b) s') : wpAny (model prog w) A (call (.type "list") [.ref l]) Q E s := by
  refine ex3 hf fun o vs n hE2 => ?_
  clear hf
  refine an4 hE2 fun hz' hc hd hi => ?_
  clear hE2
  have hlen := hi.length
  rw [Array.length_toList] at hlen
  have hb : (1000 : Nat) ≤ sizeLine := by decide
  refine call_list_seq l (.inl rfl) (h.keep _ _ hz') hc hd (fun h' c' hk hg => hq _ _ _ hi (h.new (t := s.toks) hk (Nat.le_refl _) ⟨_, hg, rfl, rfl, c', by simp⟩)) (by lia)
theorem law_45 {Q : Flow → Shared → Prop} {sl c1 c2 c3 c4 c5 sq al nl : Addr} {n y : Int} {tn : Tok} {nm : List Int} (hB : KZ w c.Z) (hA : Room A 20) (le : LawE env c1 c2 c3 c4 c5) (hnl : FInts c.Z nl nm) (hnm : nm.length ≤ 5)
    (h : St c ((env.locals, FrP env [("script", some (.ref sl)), ("v", none), ("arrows", some (.ref al)), ("graph", none), ("left", none), ("rest", none), ("start", none), ("refused", none), ("reach", none), ("due", none), ("told", none), ("ends", none), ("p", none)]) :: (c5, CellP none) :: (c4, CellP (some (.ref nl))) :: (c3, CellP none) :: (c2, CellP (some (.int n tn))) :: (c1, CellP (some (.ref sq))) :: (sq, IntL [y]) :: F) s)
    (k : ∀ x dx g0 nd sa pa lf s', St c ((env.locals, FrP env [("script", some (.ref sl)), ("v", none), ("arrows", some (.ref al)), ("graph", some (.ref x)), ("left", some (.ref lf)), ("rest", none), ("start", none), ("refused", none), ("reach", none), ("due", none), ("told", none), ("ends", none), ("p", none)]) :: (lf, IntLP nm) :: (c5, CellP none) :: (c4, CellP (some (.ref nl))) :: (c3, CellP none) :: (c2, CellP (some (.int n tn))) :: (c1, CellP (some (.ref sq))) :: (sq, IntL [y]) :: (gE prog w x dx g0 nd sa pa [] [] [] [] [] ++ F)) s' → Q .next s') :
    wpAny (model prog w) A (exec (lawS 4) env) (fun f s' => match f with | .next => wpAny (model prog w) A (exec (lawS 5) env) Q E s' | f => Q f s') E s := by
  have ge := le.ge
  show wpAny _ _ (exec (.Assign [.Name _ _] (.Call (.Name _ _) _ _ _) _) env) _ _ _
  refine wpAny_Assign_Name ?_ ?hs
  case hs => (unfold swapsWith; rfl)
  refine new_graph h hB hA.less ge (by lk) fun x dx g0 nd sa pa s₁ h₁ => ?_
  refine sto (h₁.sub (.cons (a := env.locals) (by w_up) (fun _ q => q) .refl)) (by room) fun s₂ h₂ => ?_
  show wpAny _ _ (exec (.Assign [.Name _ _] (.Call (.Name _ _) _ _ _) _) env) _ _ _
  refine wpAny_Assign_Name ?_ ?hs
  case hs => (unfold swapsWith; rfl)
  refine call_ty h₂ hB.toGB ge (by lk) (by lk) rfl ?_
  refine spl_cons (ldc h₂ le.names (by lk) ?_) rfl
  refine spl_nil ?_
  refine list_ints h₂ hnl (by lia) fun lf s₃ h₃ => ?_
  refine sto (h₃.perm (.swap ..)) (by room) fun s₄ h₄ => ?_
  exact k x dx g0 nd sa pa lf s₄ (h₄.sub (S' := (env.locals, FrP env [("script", some (.ref sl)), ("v", none), ("arrows", some (.ref al)), ("graph", some (.ref x)), ("left", some (.ref lf)), ("rest", none), ("start", none), ("refused", none), ("reach", none), ("due", none), ("told", none), ("ends", none), ("p", none)]) :: (lf, IntLP nm) :: (c5, CellP none) :: (c4, CellP (some (.ref nl))) :: (c3, CellP none) :: (c2, CellP (some (.int n tn))) :: (c1, CellP (some (.ref sq))) :: (sq, IntL [y]) ::
    (x, InsP dx) :: (dx, SDicP prog w (gAttrs g0 nd sa pa)) :: (nd, DicP prog w []) :: (sa, DicP prog w []) :: (pa, DicP prog w []) :: F) (by k_is))
theorem eraseIdx_perm {α : Type} : ∀ (l : List α) (i : Nat) (x : α), l[i]? = some x → l.Perm (x :: l.eraseIdx i)
  | [], i, x, h => by simp at h
  | y :: r, 0, x, h => by simp at h; subst h; exact .refl _
  | y :: r, i + 1, x, h => by
    simp only [List.getElem?_cons_succ] at h
    exact ((eraseIdx_perm r i x h).cons y).trans (.swap ..)
theorem law_6 {Q : Flow → Shared → Prop} {sl c1 c2 c3 c4 c5 sq al nl x dx g0 nd sa pa lf : Addr} {n y : Int} {tn : Tok} {nm : List Int} (hB : KZ w c.Z) (hA : Room A 20) (le : LawE env c1 c2 c3 c4 c5) (hnm : nm.length ≤ 5) (hnd : nm.Nodup) (hy0 : 0 ≤ y) (hy1 : y < 2147483647)
    (h : St c ((env.locals, FrP env [("script", some (.ref sl)), ("v", none), ("arrows", some (.ref al)), ("graph", some (.ref x)), ("left", some (.ref lf)), ("rest", none), ("start", none), ("refused", none), ("reach", none), ("due", none), ("told", none), ("ends", none), ("p", none)]) :: (lf, IntLP nm) :: (c5, CellP none) :: (c4, CellP (some (.ref nl))) :: (c3, CellP none) :: (c2, CellP (some (.int n tn))) :: (c1, CellP (some (.ref sq))) :: (sq, IntL [y]) :: (gE prog w x dx g0 nd sa pa [] [] [] [] [] ++ F)) s)
    (k : ∀ ks nk skv pkv sl' pl y s', ks.Perm nm → 0 ≤ y → y < 2147483647 → GInv ks [] nk skv pkv sl' pl → St c ((env.locals, FrP env [("script", some (.ref sl)), ("v", none), ("arrows", some (.ref al)), ("graph", some (.ref x)), ("left", some (.ref lf)), ("rest", none), ("start", none), ("refused", none), ("reach", none), ("due", none), ("told", none), ("ends", none), ("p", none)]) :: (c5, CellP none) :: (c4, CellP (some (.ref nl))) :: (c3, CellP none) :: (c2, CellP (some (.int n tn))) :: (c1, CellP (some (.ref sq))) :: (sq, IntL [y]) :: (gE prog w x dx g0 nd sa pa nk skv pkv sl' pl ++ F)) s' → Q .next s') :
    wpAny (model prog w) A (exec (lawS 6) env) Q E s := by
  have ge := le.ge
  have hint := le.hint
  show wpAny _ _ (exec (.While _ _ _ _) env) _ _ _
  kd_p
  refine while_loop (fun m s => ∃ ns ks nk skv pkv sl' pl y, m = ns.length ∧ (ks ++ ns).Perm nm ∧ 0 ≤ y ∧ y < 2147483647 ∧ GInv ks [] nk skv pkv sl' pl ∧
    St c ((env.locals, FrP env [("script", some (.ref sl)), ("v", none), ("arrows", some (.ref al)), ("graph", some (.ref x)), ("left", some (.ref lf)), ("rest", none), ("start", none), ("refused", none), ("reach", none), ("due", none), ("told", none), ("ends", none), ("p", none)]) :: (lf, IntLP ns) :: (c5, CellP none) :: (c4, CellP (some (.ref nl))) :: (c3, CellP none) :: (c2, CellP (some (.int n tn))) :: (c1, CellP (some (.ref sq))) :: (sq, IntL [y]) :: (gE prog w x dx g0 nd sa pa nk skv pkv sl' pl ++ F)) s) ?_ _ ⟨nm, [], [], [], [], [], [], y, rfl, .refl _, hy0, hy1, .nil, h⟩
  clear h hy0 hy1 y
  rintro E' m s hE1
  refine ex8 hE1 fun ns ks nk skv pkv sl' pl y hE2 => ?_
  clear hE1
  refine an6 hE2 fun hm hp hy0 hy1 hG h => ?_
  clear hE2
  intro Kq
  have hlen := hp.length_eq
  rw [List.length_append] at hlen
  refine tru ?_ rfl
  refine ld h (by lk) ?_
  refine tru_ints h (a := lf) (by lk) (by lia) fun s₁ h₁ => ?_
  cases hns : ns with
  | nil =>
    refine itf (by rfl) ?_
    kd_p
    subst hns
    rw [List.append_nil] at hp
    exact k ks nk skv pkv sl' pl y _ hp hy0 hy1 hG (h₁.sub (by k_is))
  | cons z0 zr =>
    refine itt (by rfl) ?_
    have hpos : 0 < ns.length := by rw [hns]; simp
    kd_p
    kd_p
    refine call_inst (f := 639) hB rfl (by decide) rfl rfl (k_addnode _) (by kernel_rfl) (hB.k 639 _ rfl (by decide) (by decide)) rfl ?_
    refine ld h₁ (by lk) ?_
    refine ⟨x, dx, gAttrs g0 nd sa pa, _, rfl, h₁, List.mem_append_right [_, _, _, _, _, _, _, _] (List.mem_append_left _ gE_x), List.mem_append_right [_, _, _, _, _, _, _, _] (List.mem_append_left _ gE_dx), by rfl, ?_⟩
    refine spl_cons ?_ rfl
    refine call_meth rfl (by decide) rfl PySem.F.plainAttrs_list PySem.F.slot_list_pop PySem.F.type_list_pop rfl ?_
    refine ld h₁ (by lk) ?_
    refine ⟨intlp_meth h₁ (by lk), ?_⟩
    refine spl_cons ?_ rfl
    refine call_fn h₁ hB.toGB ge (by lk) (by lk) (hB.k 810 _ rfl (by decide) (by decide)) rfl rfl ?_
    refine spl_cons (ldc h₁ le.s (by lk) ?_) rfl
    refine spl_cons ?_ rfl
    refine call_bi h₁ hB.toGB ge (by lk) (by lk) rfl ?_
    refine spl_cons (ld h₁ (by lk) ?_) rfl
    refine spl_nil ?_
    refine len_intlp h₁ (a := lf) (by lk) (by lia) fun tl s₂ h₂ => ?_
    refine spl_nil ⟨⟨_, h₂⟩, wpAny_call ?_⟩
    refine next_spec (a := sq) (h₂.sub (.cons (a := sq) (by w_up) (fun _ q => q) .refl)) hB hA.less ⟨hy0, hy1⟩ (by lia) fun y' r tr s₃ hy0' hy1' hr0 hr1 h₃ => ?_
    refine spl_nil ?_
    obtain ⟨z, hz⟩ : ∃ z, ns[r.toNat]? = some z := ⟨_, List.getElem?_eq_getElem (by lia)⟩
    refine pop_ints (h₃.sub (.cons (a := lf) (by w_up) (fun _ q => q) .refl)) (by lia) hr0 hr1 hz fun tz s₄ h₄ => ?_
    refine spl_nil ⟨⟨_, h₄⟩, wpAny_call ?_⟩
    have hpe := eraseIdx_perm ns r.toNat z hz
    have hnd2 := (hp.nodup_iff).mpr hnd
    have hzk : z ∉ ks := by
      rw [List.nodup_append] at hnd2
      intro hzk
      exact hnd2.2.2 z hzk z (hpe.mem_iff.mpr (.head _)) rfl
    have h₅ : St c (gE prog w x dx g0 nd sa pa nk skv pkv sl' pl ++ ([(env.locals, FrP env [("script", some (.ref sl)), ("v", none), ("arrows", some (.ref al)), ("graph", some (.ref x)), ("left", some (.ref lf)), ("rest", none), ("start", none), ("refused", none), ("reach", none), ("due", none), ("told", none), ("ends", none), ("p", none)]), (lf, IntLP (ns.eraseIdx r.toNat)), (c5, CellP none), (c4, CellP (some (.ref nl))), (c3, CellP none), (c2, CellP (some (.int n tn))), (c1, CellP (some (.ref sq))), (sq, IntL [y'])] ++ F)) s₄ :=
      St.back [(env.locals, FrP env [("script", some (.ref sl)), ("v", none), ("arrows", some (.ref al)), ("graph", some (.ref x)), ("left", some (.ref lf)), ("rest", none), ("start", none), ("refused", none), ("reach", none), ("due", none), ("told", none), ("ends", none), ("p", none)]), (lf, IntLP (ns.eraseIdx r.toNat)), (c5, CellP none), (c4, CellP (some (.ref nl))), (c3, CellP none), (c2, CellP (some (.int n tn))), (c1, CellP (some (.ref sq))), (sq, IntL [y'])] (gE prog w x dx g0 nd sa pa nk skv pkv sl' pl) (h₄.sub (S' := (env.locals, FrP env [("script", some (.ref sl)), ("v", none), ("arrows", some (.ref al)), ("graph", some (.ref x)), ("left", some (.ref lf)), ("rest", none), ("start", none), ("refused", none), ("reach", none), ("due", none), ("told", none), ("ends", none), ("p", none)]) :: (lf, IntLP (ns.eraseIdx r.toNat)) :: (c5, CellP none) :: (c4, CellP (some (.ref nl))) :: (c3, CellP none) :: (c2, CellP (some (.int n tn))) :: (c1, CellP (some (.ref sq))) :: (sq, IntL [y']) :: (gE prog w x dx g0 nd sa pa nk skv pkv sl' pl ++ F)) (by k_is))
    rw [← gst_eq] at h₅
    refine addnode_spec h₅ hB hA.less hG hzk (fun _ q => nomatch q) (by lia) fun nk' skv' pkv' sl'' pl' s₅ h₆ hG' => ?_
    rw [gst_eq] at h₆
    have h₇ := St.back (gE prog w x dx g0 nd sa pa nk' skv' pkv' sl'' pl') [_, _, _, _, _, _, _, _] h₆
    refine wpAny_execs_nil ?_
    refine ⟨_, ?_, ns.eraseIdx r.toNat, ks ++ [z], nk', skv', pkv', sl'', pl', y', rfl, ?_, hy0', hy1', hG', h₇⟩
    · rw [List.length_eraseIdx_of_lt (by lia)]; lia
    · rw [List.append_assoc]
      exact (List.Perm.append_left ks hpe.symm).trans hp
end
end
section
open PySem PySem.Calls PyProof.Rows PySem.W PySem.W.X
open Sem (wp)
noncomputable def nm (k : Int) : Int := 11 * k + 4
noncomputable def nm2 (p : Int × Int) : Int × Int := (nm p.1, nm p.2)
theorem nm_inj {a b : Int} (h : nm a = nm b) : a = b := by unfold nm at h; lia
theorem nm2_inj {a b : Int × Int} (h : nm2 a = nm2 b) : a = b := by
  unfold nm2 at h
  rw [Prod.mk.injEq] at h
  exact Prod.ext (nm_inj h.1) (nm_inj h.2)
theorem names_get {n k : Int} (h0 : 0 ≤ k) (h1 : k < n) (h5 : n ≤ 5) : (names5.take n.toNat)[k.toNat]? = some (nm k) := by
  rw [List.getElem?_take_of_lt (by lia)]
  have : k = 0 ∨ k = 1 ∨ k = 2 ∨ k = 3 ∨ k = 4 := by lia
  rcases this with rfl | rfl | rfl | rfl | rfl <;> rfl
theorem names_mem {n k : Int} (h0 : 0 ≤ k) (h1 : k < n) (h5 : n ≤ 5) : nm k ∈ names5.take n.toNat := List.mem_of_getElem? (names_get h0 h1 h5)
section
variable {prog : Program} {w : World} {A : Around} {E : Value → Shared → Prop} {c : Cfg} {S S' F : List Ent} {s : Shared} {a : Addr} {env : Env} {ns : List Int}
theorem sub_f {value slice : Expr} {k : Int} {t : Tok} {Q : Value → Shared → Prop} (h : St c S s) (hf : FInts c.Z a ns) {y : Int} (h0 : 0 ≤ k) (hk : k < 2 ^ 63) (hx : ns[k.toNat]? = some y)
    (hs : subscripted slice false (.ref a) (.int k t) = operate [.ref a, .int k t] (getItem (.ref a) (.int k t))) (hq : ∀ t', Q (.int y t') s) : wpAny (model prog w) A (subscriptTail value slice (.ref a) (.int k t)) Q E s := by
  obtain ⟨vs, hl, hi⟩ := fints_list h hf
  obtain ⟨t', e⟩ := hi.get _ _ hx
  exact sub_tail hl.typeIs slot_list_getitem.lookup hs (wpAny_getItem_list hl h0 hk (x := .int y t') (by simpa using e) (hq t'))
theorem tups_erase {Z : Addr → Option Obj} {vs : List Value} {as : List (Int × Int)} (h : Tups Z vs as) : ∀ i, Tups Z (vs.eraseIdx i) (as.eraseIdx i) := by
  induction h with
  | nil => intro i; exact .nil
  | cons h1 h2 h3 ih =>
    intro i
    cases i with
    | zero => exact h3
    | succ i => exact .cons h1 h2 (ih i)
theorem tru_lst {vs : List Value} {Q : Bool → Shared → Prop} (h : St c S s) (hm : (a, LstP vs) ∈ S) (hz : vs.length ≤ 900) (hq : ∀ s', St c S s' → Q (!vs.isEmpty) s') : wpAny (model prog w) A (truthy (.ref a)) Q E s := tru_list h hm hz hq
theorem len_lst {vs : List Value} {Q : Value → Shared → Prop} (h : St c S s) (hm : (a, LstP vs) ∈ S) (hz : vs.length ≤ 900) (hq : ∀ t s', St c S s' → Q (.int vs.length t) s') : wpAny (model prog w) A (call (.builtin "len") [.ref a]) Q E s := by
  refine call_len_list (lst_is h hm) (by simp; lia) ?_
  rw [List.size_toArray]
  exact hq _ _ (h.tok _)
theorem law_78 {Q : Flow → Shared → Prop} {sl c1 c2 c3 c4 c5 sq al nl x dx g0 nd sa pa lf : Addr} {n y : Int} {tn : Tok} {as : List (Int × Int)} {ks : List Int} {nk skv pkv : List (Int × Value)} {sl' pl : Inn} (hB : KZ w c.Z) (hA : Room A 20) (le : LawE env c1 c2 c3 c4 c5) (n1 : 1 ≤ n) (n5 : n ≤ 5)
    (has : ArrOk n as n 0) (hal : FArr c.Z al as) (hnl : FInts c.Z nl (names5.take n.toNat)) (hks : ks.Perm (names5.take n.toNat)) (hy0 : 0 ≤ y) (hy1 : y < 2147483647) (hG : GInv ks [] nk skv pkv sl' pl)
    (h : St c ((env.locals, FrP env [("script", some (.ref sl)), ("v", none), ("arrows", some (.ref al)), ("graph", some (.ref x)), ("left", some (.ref lf)), ("rest", none), ("start", none), ("refused", none), ("reach", none), ("due", none), ("told", none), ("ends", none), ("p", none)]) :: (c5, CellP none) :: (c4, CellP (some (.ref nl))) :: (c3, CellP none) :: (c2, CellP (some (.int n tn))) :: (c1, CellP (some (.ref sq))) :: (sq, IntL [y]) :: (gE prog w x dx g0 nd sa pa nk skv pkv sl' pl ++ F)) s)
    (k : ∀ rs vv vu (Ed : List (Int × Int)) nk skv pkv sl' pl y s', Ed.Perm as → 0 ≤ y → y < 2147483647 → GInv ks (Ed.map nm2) nk skv pkv sl' pl → St c ((env.locals, FrP env [("script", some (.ref sl)), ("v", vv), ("arrows", some (.ref al)), ("graph", some (.ref x)), ("left", some (.ref lf)), ("rest", some (.ref rs)), ("start", none), ("refused", none), ("reach", none), ("due", none), ("told", none), ("ends", none), ("p", none)]) :: (c5, CellP none) :: (c4, CellP (some (.ref nl))) :: (c3, CellP vu) :: (c2, CellP (some (.int n tn))) :: (c1, CellP (some (.ref sq))) :: (sq, IntL [y]) :: (gE prog w x dx g0 nd sa pa nk skv pkv sl' pl ++ F)) s' → Q .next s') :
    wpAny (model prog w) A (exec (lawS 7) env) (fun f s' => match f with | .next => wpAny (model prog w) A (exec (lawS 8) env) Q E s' | f => Q f s') E s := by
  have ge := le.ge
  have hint := le.hint
  have hasl : as.length ≤ 25 := by have := has.len; lia
  show wpAny _ _ (exec (.Assign [.Name _ _] (.Call (.Name _ _) _ _ _) _) env) _ _ _
  refine wpAny_Assign_Name ?_ ?hs
  case hs => (unfold swapsWith; rfl)
  refine call_ty h hB.toGB ge (by lk) (by lk) rfl ?_
  refine spl_cons (ld h (by lk) ?_) rfl
  refine spl_nil ?_
  refine list_arr h hal (by lia) fun rs vs s₁ htu h₁ => ?_
  refine sto (h₁.perm (.swap ..)) (by room) fun s₂ h₂ => ?_
  show wpAny _ _ (exec (.While _ _ _ _) env) _ _ _
  kd_p
  refine while_loop (fun m s => ∃ vs rem Ed vv vu nk skv pkv sl' pl y, m = rem.length ∧ Tups c.Z vs rem ∧ (Ed ++ rem).Perm as ∧ 0 ≤ y ∧ y < 2147483647 ∧ GInv ks (Ed.map nm2) nk skv pkv sl' pl ∧
    St c ((env.locals, FrP env [("script", some (.ref sl)), ("v", vv), ("arrows", some (.ref al)), ("graph", some (.ref x)), ("left", some (.ref lf)), ("rest", some (.ref rs)), ("start", none), ("refused", none), ("reach", none), ("due", none), ("told", none), ("ends", none), ("p", none)]) :: (rs, LstP vs) :: (c5, CellP none) :: (c4, CellP (some (.ref nl))) :: (c3, CellP vu) :: (c2, CellP (some (.int n tn))) :: (c1, CellP (some (.ref sq))) :: (sq, IntL [y]) :: (gE prog w x dx g0 nd sa pa nk skv pkv sl' pl ++ F)) s) ?_ _ ⟨vs, as, [], none, none, nk, skv, pkv, sl', pl, y, rfl, htu, .refl _, hy0, hy1, hG, h₂⟩
  clear h₁ h₂ htu vs
  rintro E' m s hE1
  refine ex11 hE1 fun vs rem Ed vv vu nk skv pkv sl' pl y hE2 => ?_
  clear hE1
  refine an7 hE2 fun hm htu hp hy0 hy1 hG h => ?_
  clear hE2
  intro Kq
  have hlen := hp.length_eq
  rw [List.length_append] at hlen
  have hvl := htu.length
  refine tru ?_ rfl
  refine ld h (by lk) ?_
  refine tru_lst h (a := rs) (by lk) (by lia) fun s₁ h₁ => ?_
  cases hvs : vs with
  | nil =>
    refine itf (by rfl) ?_
    kd_p
    have : rem = [] := List.eq_nil_of_length_eq_zero (by rw [← hvl, hvs]; rfl)
    subst this
    rw [List.append_nil] at hp
    exact k rs vv vu Ed nk skv pkv sl' pl y _ hp hy0 hy1 hG (h₁.sub (by k_is))
  | cons z0 zr =>
    refine itt (by rfl) ?_
    have hpos : 0 < vs.length := by rw [hvs]; simp
    kd_p
    refine assign_one (t := .Tuple _ _ _) ?_ rfl rfl rfl
    refine call_meth rfl (by decide) rfl PySem.F.plainAttrs_list PySem.F.slot_list_pop PySem.F.type_list_pop rfl ?_
    refine ld h₁ (by lk) ?_
    refine ⟨lst_meth h₁ (a := rs) (vs := vs) (by lk), ?_⟩
    refine spl_cons ?_ rfl
    refine call_fn h₁ hB.toGB ge (by lk) (by lk) (hB.k 810 _ rfl (by decide) (by decide)) rfl rfl ?_
    refine spl_cons (ldc h₁ le.s (by lk) ?_) rfl
    refine spl_cons ?_ rfl
    refine call_bi h₁ hB.toGB ge (by lk) (by lk) rfl ?_
    refine spl_cons (ld h₁ (by lk) ?_) rfl
    refine spl_nil ?_
    refine len_lst h₁ (a := rs) (by lk) (by lia) fun tl s₂ h₂ => ?_
    refine spl_nil ⟨⟨_, h₂⟩, wpAny_call ?_⟩
    refine next_spec (a := sq) (h₂.sub (.cons (a := sq) (by w_up) (fun _ q => q) .refl)) hB hA.less ⟨hy0, hy1⟩ (by lia) fun y' r tr s₃ hy0' hy1' hr0 hr1 h₃ => ?_
    refine spl_nil ?_
    obtain ⟨q, hq⟩ : ∃ q, rem[r.toNat]? = some q := ⟨_, List.getElem?_eq_getElem (by lia)⟩
    obtain ⟨ta, to, tu, tv, hv1, hv2, hv3⟩ := htu.get _ _ hq
    refine l_pop_at h₃ (a := rs) (by lk) (by lia) hr0 hr1 hv1 (by kt_k) fun s₄ h₄ => ?_
    refine assign_tup2 hA.handled h₄ ⟨to, h₄.keep _ _ hv2, hv3⟩ rfl fun s₅ h₅ => ?_
    refine wpAny_assign_Name ?_
    refine stoc h₅ le.k3 le.u (by lk) (by kt_k) fun s₆ h₆ => ?_
    refine wpAny_assign_Name ?_
    refine sto (h₆.sub (.cons (a := env.locals) (by w_up) (fun _ q => q) .refl)) (by room) fun s₇ h₇ => ?_
    have hpe := eraseIdx_perm rem r.toNat q hq
    have hqas : q ∈ as := hp.mem_iff.mp (List.mem_append_right _ (hpe.mem_iff.mpr (.head _)))
    obtain ⟨b1, b2, b3, b4⟩ := has.bd q hqas
    have hnd2 := (hp.nodup_iff).mpr has.nd
    have hqE : nm2 q ∉ Ed.map nm2 := by
      intro hm
      obtain ⟨q', hq', e⟩ := List.mem_map.mp hm
      rw [List.nodup_append] at hnd2
      exact hnd2.2.2 q' hq' q (hpe.mem_iff.mpr (.head _)) (nm2_inj e)
    kd_p
    kd_p
    refine call_inst (f := 667) hB rfl (by decide) rfl rfl (k_addedge _) (by kernel_rfl) (hB.k 667 _ rfl (by decide) (by decide)) rfl ?_
    refine ld h₇ (by lk) ?_
    refine ⟨x, dx, gAttrs g0 nd sa pa, _, rfl, h₇, List.mem_append_right [_, _, _, _, _, _, _, _] (List.mem_append_left _ gE_x), List.mem_append_right [_, _, _, _, _, _, _, _] (List.mem_append_left _ gE_dx), by rfl, ?_⟩
    refine spl_cons ?_ rfl
    kd_p
    refine ldc h₇ le.names (by lk) ?_
    refine ldc h₇ le.u (by lk) ?_
    refine sub_f h₇ hnl b1 (by lia) (names_get b1 b2 n5) sc_name fun t1 => ?_
    refine spl_cons ?_ rfl
    kd_p
    refine ldc h₇ le.names (by lk) ?_
    refine ld h₇ (by lk) ?_
    refine sub_f h₇ hnl b3 (by lia) (names_get b3 b4 n5) sc_name fun t2 => ?_
    refine spl_nil ⟨⟨_, h₇⟩, wpAny_call ?_⟩
    have h₈ : St c (gE prog w x dx g0 nd sa pa nk skv pkv sl' pl ++ ([(env.locals, FrP env [("script", some (.ref sl)), ("v", some (.int q.2 tv)), ("arrows", some (.ref al)), ("graph", some (.ref x)), ("left", some (.ref lf)), ("rest", some (.ref rs)), ("start", none), ("refused", none), ("reach", none), ("due", none), ("told", none), ("ends", none), ("p", none)]), (rs, LstP (vs.eraseIdx r.toNat)), (c5, CellP none), (c4, CellP (some (.ref nl))), (c3, CellP (some (.int q.1 tu))), (c2, CellP (some (.int n tn))), (c1, CellP (some (.ref sq))), (sq, IntL [y'])] ++ F)) s₇ :=
      St.back [(env.locals, FrP env [("script", some (.ref sl)), ("v", some (.int q.2 tv)), ("arrows", some (.ref al)), ("graph", some (.ref x)), ("left", some (.ref lf)), ("rest", some (.ref rs)), ("start", none), ("refused", none), ("reach", none), ("due", none), ("told", none), ("ends", none), ("p", none)]), (rs, LstP (vs.eraseIdx r.toNat)), (c5, CellP none), (c4, CellP (some (.ref nl))), (c3, CellP (some (.int q.1 tu))), (c2, CellP (some (.int n tn))), (c1, CellP (some (.ref sq))), (sq, IntL [y'])] (gE prog w x dx g0 nd sa pa nk skv pkv sl' pl)
        (h₇.sub (S' := (env.locals, FrP env [("script", some (.ref sl)), ("v", some (.int q.2 tv)), ("arrows", some (.ref al)), ("graph", some (.ref x)), ("left", some (.ref lf)), ("rest", some (.ref rs)), ("start", none), ("refused", none), ("reach", none), ("due", none), ("told", none), ("ends", none), ("p", none)]) :: (rs, LstP (vs.eraseIdx r.toNat)) :: (c5, CellP none) :: (c4, CellP (some (.ref nl))) :: (c3, CellP (some (.int q.1 tu))) :: (c2, CellP (some (.int n tn))) :: (c1, CellP (some (.ref sq))) :: (sq, IntL [y']) :: (gE prog w x dx g0 nd sa pa nk skv pkv sl' pl ++ F)) (by k_is))
    rw [← gst_eq] at h₈
    refine addedge_spec h₈ hB hA.less hG (hks.mem_iff.mpr (names_mem b1 b2 n5)) (hks.mem_iff.mpr (names_mem b3 b4 n5)) hqE (by rw [List.length_map]; lia) fun nk' skv' pkv' sl'' pl' s₈ h₉ hG' => ?_
    rw [gst_eq] at h₉
    have hX := St.back (gE prog w x dx g0 nd sa pa nk' skv' pkv' sl'' pl') [_, _, _, _, _, _, _, _] h₉
    refine wpAny_execs_nil ?_
    refine ⟨_, ?_, vs.eraseIdx r.toNat, rem.eraseIdx r.toNat, q :: Ed, _, _, nk', skv', pkv', sl'', pl', y', rfl, tups_erase htu _, ?_, hy0', hy1', hG', hX⟩
    · rw [List.length_eraseIdx_of_lt (by lia)]; lia
    · exact (List.perm_middle.symm.trans (List.Perm.append_left Ed hpe.symm)).trans hp
end
end
section
open PySem PySem.Calls PyProof.Rows PySem.W PySem.W.X
open Sem (wp)
noncomputable def innKeys (sl : Inn) (k : Int) : List Int := match sl.find? fun e => decide (e.1 = k) with
  | some e => e.2.2.map (·.1)
  | none => []
theorem innKeys_of {sl : Inn} (hn : (sl.map (·.1)).Nodup) {k : Int} {a : Addr} {kvs : List (Int × Value)} (h : (k, a, kvs) ∈ sl) : innKeys sl k = kvs.map (·.1) := by
  unfold innKeys
  cases e : sl.find? fun e => decide (e.1 = k) with
  | none =>
    have := List.find?_eq_none.mp e _ h
    simp at this
  | some q =>
    have h1 := List.mem_of_find?_eq_some e
    have h2 := List.find?_some e
    obtain ⟨k', a', kvs'⟩ := q
    have : k' = k := by simpa using h2
    subst this
    rw [(inn_uniq hn h1 h).2]
section
variable {prog : Program} {w : World} {A : Around} {E : Value → Shared → Prop} {c : Cfg} {S S' F : List Ent} {s : Shared} {a : Addr} {env : Env} {ns : List Int}
theorem freeze_inn : ∀ (sl : Inn) {c : Cfg}, St c (inn prog w sl ++ F) s → ∃ c', Ext c c' ∧ (∀ k a kvs, (k, a, kvs) ∈ sl → ∃ ep, FDic prog w c'.Z a kvs ep) ∧ St c' F s
  | [], c, h => ⟨c, .refl c, (fun _ _ _ q => nomatch q), h⟩
  | (k, a, kvs) :: r, c, h => by
    obtain ⟨c1, ep, x1, f1, h1⟩ := freeze_dic (a := a) (kvs := kvs) h .head
    obtain ⟨c2, x2, f2, h2⟩ := freeze_inn r h1
    refine ⟨c2, x1.trans x2, fun k' a' kvs' hm => ?_, h2⟩
    rcases List.mem_cons.mp hm with e | hm
    · cases e; exact ⟨ep, f1.ext x2⟩
    · exact f2 _ _ _ hm
theorem freeze_graph {x dx g0 nd sa pa : Addr} {nk skv pkv : List (Int × Value)} {sl pl : Inn} {ks : List Int} {Ed : List (Int × Int)} (hG : GInv ks Ed nk skv pkv sl pl) (h : St c (gE prog w x dx g0 nd sa pa nk skv pkv sl pl ++ F) s) :
    ∃ c' su pr, Ext c c' ∧ FGr prog w c'.Z nd sa pa ks su pr ∧ (∀ k ∈ ks, ∀ y, y ∈ su k ↔ (k, y) ∈ Ed) ∧ (∀ k ∈ ks, ∀ y, y ∈ pr k ↔ (y, k) ∈ Ed) ∧ (∀ k ∈ ks, (pr k).Nodup) ∧ St c' ((x, InsP dx) :: (dx, SDicP prog w (gAttrs g0 nd sa pa)) :: F) s := by
  rw [← gst_eq] at h
  have h0 : St c ((nd, DicP prog w nk) :: (sa, DicP prog w skv) :: (pa, DicP prog w pkv) :: (inn prog w sl ++ (inn prog w pl ++ ((x, InsP dx) :: (dx, SDicP prog w (gAttrs g0 nd sa pa)) :: F)))) s := by
    refine h.perm ?_
    have := List.perm_append_comm_assoc [((x, InsP dx) : Ent), (dx, SDicP prog w (gAttrs g0 nd sa pa))] ((nd, DicP prog w nk) :: (sa, DicP prog w skv) :: (pa, DicP prog w pkv) :: (inn prog w sl ++ inn prog w pl)) F
    simpa [List.append_assoc] using this
  obtain ⟨c1, e1, x1, f1, h1⟩ := freeze_dic h0 .head
  obtain ⟨c2, e2, x2, f2, h2⟩ := freeze_dic h1 .head
  obtain ⟨c3, e3, x3, f3, h3⟩ := freeze_dic h2 .head
  obtain ⟨c4, x4, f4, h4⟩ := freeze_inn sl h3
  obtain ⟨c5, x5, f5, h5⟩ := freeze_inn pl h4
  have x35 := x4.trans x5
  have x25 := x3.trans x35
  have x15 := x2.trans x25
  have hn1 : ((outD sl).map (·.1)).Nodup := by rw [keys_outD]; exact hG.keyS
  have hn2 : ((outD pl).map (·.1)).Nodup := by rw [keys_outD]; exact hG.keyP
  refine ⟨c5, innKeys sl, innKeys pl, x1.trans x15, ⟨⟨nk, e1, f1.ext x15, hG.kn⟩, ⟨skv, e2, f2.ext x25, hG.kS, fun k hk => ?_⟩, ⟨pkv, e3, f3.ext x35, hG.kP, fun k hk => ?_⟩⟩, fun k hk y => ?_, fun k hk y => ?_, fun k hk => ?_, h5⟩
  · obtain ⟨a, kvs, m1, m2⟩ := mem_of_key hG.hs (k := k) (by rw [hG.kS]; exact hk)
    obtain ⟨ep, f⟩ := f4 _ _ _ m1
    exact ⟨a, kvs, ep, valueAt_mem (by rw [hG.kS]; exact hG.nd) m2, f.ext x5, (innKeys_of hG.keyS m1).symm⟩
  · obtain ⟨a, kvs, m1, m2⟩ := mem_of_key hG.hp (k := k) (by rw [hG.kP]; exact hk)
    obtain ⟨ep, f⟩ := f5 _ _ _ m1
    exact ⟨a, kvs, ep, valueAt_mem (by rw [hG.kP]; exact hG.nd) m2, f, (innKeys_of hG.keyP m1).symm⟩
  · obtain ⟨a, kvs, m1, m2⟩ := mem_of_key hG.hs (k := k) (by rw [hG.kS]; exact hk)
    rw [innKeys_of hG.keyS m1]; exact hG.es _ _ _ m1 y
  · obtain ⟨a, kvs, m1, m2⟩ := mem_of_key hG.hp (k := k) (by rw [hG.kP]; exact hk)
    rw [innKeys_of hG.keyP m1]; exact hG.ep _ _ _ m1 y
  · obtain ⟨a, kvs, m1, m2⟩ := mem_of_key hG.hp (k := k) (by rw [hG.kP]; exact hk)
    obtain ⟨ep, f⟩ := f5 _ _ _ m1
    rw [innKeys_of hG.keyP m1]; exact fd_nodup f
theorem law_9 {Q : Flow → Shared → Prop} {sl c1 c2 c3 c4 c5 sq al nl x lf rs : Addr} {n y : Int} {tn : Tok} {vv vu : Option Value} (hB : KZ w c.Z) (hA : Room A 20) (le : LawE env c1 c2 c3 c4 c5) (n1 : 1 ≤ n) (n5 : n ≤ 5)
    (hy0 : 0 ≤ y) (hy1 : y < 2147483647)
    (h : St c ((env.locals, FrP env [("script", some (.ref sl)), ("v", vv), ("arrows", some (.ref al)), ("graph", some (.ref x)), ("left", some (.ref lf)), ("rest", some (.ref rs)), ("start", none), ("refused", none), ("reach", none), ("due", none), ("told", none), ("ends", none), ("p", none)]) :: (c5, CellP none) :: (c4, CellP (some (.ref nl))) :: (c3, CellP vu) :: (c2, CellP (some (.int n tn))) :: (c1, CellP (some (.ref sq))) :: (sq, IntL [y]) :: F) s)
    (k : ∀ st ts s', 0 ≤ st → st ≤ n → St c ((env.locals, FrP env [("script", some (.ref sl)), ("v", vv), ("arrows", some (.ref al)), ("graph", some (.ref x)), ("left", some (.ref lf)), ("rest", some (.ref rs)), ("start", some (.int st ts)), ("refused", none), ("reach", none), ("due", none), ("told", none), ("ends", none), ("p", none)]) :: (c5, CellP none) :: (c4, CellP (some (.ref nl))) :: (c3, CellP vu) :: (c2, CellP (some (.int n tn))) :: F) s' → Q .next s') :
    wpAny (model prog w) A (exec (lawS 9) env) Q E s := by
  have ge := le.ge
  show wpAny _ _ (exec (.Assign [.Name _ _] (.IfExp _ _ _ _) _) env) _ _ _
  refine wpAny_Assign_Name ?_ ?hs
  case hs => (unfold swapsWith; rfl)
  kd_p
  kd_p
  refine call_fn h hB.toGB ge (by lk) (by lk) (hB.k 810 _ rfl (by decide) (by decide)) rfl rfl ?_
  refine spl_cons (ldc h le.s (by lk) ?_) rfl
  refine spl_cons ?_ rfl
  kd_p
  refine spl_nil ⟨⟨_, h.tok _⟩, wpAny_call ?_⟩
  refine next_spec (a := sq) ((h.tok _).sub (.cons (a := sq) (by w_up) (fun _ q => q) .refl)) hB hA.less ⟨hy0, hy1⟩ (by decide) fun y' r t s₁ hy0' hy1' hr0 hr1 h₁ => ?_
  kd_p
  k_in
  kd_p
  replace h₁ := (h₁.tok (s₁.toks + 1)).sub (.cons (a := env.locals) (by w_up) (fun _ q => q) .refl)
  (with_reducible first | refine ite_dec (fun hif => ?_) (fun hif => ?_) | refine ite_beq (fun hif => ?_) (fun hif => ?_) | refine ite_bne (fun hif => ?_) (fun hif => ?_))
  · refine ldc h₁ le.many (by lk) ?_
    refine sto h₁ (by room) fun s₂ h₂ => ?_
    exact k n tn s₂ (by lia) (by lia) (h₂.sub (by k_is))
  · refine call_fn h₁ hB.toGB ge (by lk) (by lk) (hB.k 810 _ rfl (by decide) (by decide)) rfl rfl ?_
    refine spl_cons (ldc h₁ le.s (by lk) ?_) rfl
    refine spl_cons (ldc h₁ le.many (by lk) ?_) rfl
    refine spl_nil ⟨⟨_, h₁⟩, wpAny_call ?_⟩
    refine next_spec (a := sq) (h₁.sub (.cons (a := sq) (by w_up) (fun _ q => q) .refl)) hB hA.less ⟨hy0', hy1'⟩ (by lia) fun y'' r' t' s₂ _ _ hr0' hr1' h₂ => ?_
    refine sto (h₂.sub (.cons (a := env.locals) (by w_up) (fun _ q => q) .refl)) (by room) fun s₃ h₃ => ?_
    exact k r' t' s₃ hr0' (by lia) (h₃.sub (by k_is))
end
end
section
open PySem PySem.Calls PyProof.Rows PySem.W PySem.W.X
open Sem (wp)
noncomputable def hide (h : Heap) : List Addr → Heap
  | [] => h
  | L :: r => (hide h r).update L fun _ => { cls := .none, data := .freed }
theorem hide_self (h : Heap) (L : Addr) : (h.update L fun _ => { cls := .none, data := .freed }).get? L = none := by
  obtain ⟨objs, l⟩ := h
  unfold Heap.update Heap.get?
  dsimp only
  rw [Array.getElem?_modify]
  simp only [if_true]
  cases objs[L]? <;> rfl
theorem hide_in {h : Heap} : ∀ {Ls : List Addr} {b : Addr}, b ∈ Ls → (hide h Ls).get? b = none
  | L :: r, b, hb => by
    by_cases e : L = b
    · subst e; exact hide_self _ _
    · show ((hide h r).update L _).get? b = none
      rw [Heap.get?_update_other _ _ e]
      exact hide_in ((List.mem_cons.mp hb).resolve_left fun q => e q.symm)
theorem hide_out {h : Heap} : ∀ {Ls : List Addr} {b : Addr}, b ∉ Ls → (hide h Ls).get? b = h.get? b
  | [], b, _ => rfl
  | L :: r, b, hb => by
    show ((hide h r).update L _).get? b = _
    have hne : L ≠ b := fun q => hb (by rw [q]; exact .head _)
    rw [Heap.get?_update_other _ _ hne]
    exact hide_out fun q => hb (.tail _ q)
noncomputable def FrsIn (S : List Ent) (l : List Env) : Prop := ∀ env ∈ l, env.frame = some env.locals ∧ env.scope.kind = .function ∧ ∃ lv, (env.locals, FrP env lv) ∈ S
noncomputable def lcs (l : List Env) : List Addr := l.map (·.locals)
theorem FrsIn.fun {S : List Ent} {c : Cfg} {s : Shared} {base h : Heap} {Ls : List Addr} : ∀ {l : List Env}, FrsIn S l → St c S s → (∀ b ∈ lcs l, base.get? b = none) → s.heap.UpToSlots h → h.FunFrames base l
  | [], _, _, _, _ => trivial
  | env :: r, hl, hS, hb, hu => by
    obtain ⟨hf, hk, lv, hm⟩ := hl env (.head _)
    obtain ⟨o, ho, hp⟩ := hS.get hm
    have hnf : ∀ vs, o.data ≠ .fields vs := by
      intro vs q
      obtain ⟨⟨es, ep, hd, _⟩, _⟩ := hp
      rw [hd] at q; cases q
    obtain ⟨sl, hs⟩ := hu _ _ ho hnf
    exact ⟨by rw [hk]; decide, ⟨env.locals, _, hf, hb _ (.head _), hs, hnf⟩, FrsIn.fun (Ls := Ls) (fun e he => hl e (.tail _ he)) hS (fun b hb' => hb b (.tail _ hb')) hu⟩
structure Fly (c : Cfg) (S : List Ent) (l₀ l : List Env) (e : Addr) (s : Shared) : Prop where
  ex : ∃ s₀ base a0, St c S s₀ ∧ FrsIn S l₀ ∧ (∀ b o, s₀.heap.get? b = some o → b ∉ lcs l₀ → base.get? b = some o) ∧ s.gens = s₀.gens ∧ s.drawn = s₀.drawn ∧ s.os = s₀.os ∧ Heap.FlyingW base l e (.ref 80) a0 s.heap ∧ s₀.heap.UpToSlots s.heap
theorem back_st {c : Cfg} {S : List Ent} {l₀ : List Env} {s₀ s : Shared} {base : Heap} (hS : St c S s₀) (hl : FrsIn S l₀) (hb : ∀ b o, s₀.heap.get? b = some o → b ∉ lcs l₀ → base.get? b = some o)
    (h1 : s.gens = s₀.gens) (h2 : s.drawn = s₀.drawn) (h3 : s.os = s₀.os) (hk : base.StaysIn s.heap) (hu : s₀.heap.UpToSlots s.heap) : St c S s := by
  have hfr : ∀ {b : Addr}, b ∈ lcs l₀ → ∃ env lv, env.locals = b ∧ (b, FrP env lv) ∈ S := by
    intro b hb
    obtain ⟨env, he, rfl⟩ := List.mem_map.mp hb
    obtain ⟨_, _, lv, hm⟩ := hl env he
    exact ⟨env, lv, rfl, hm⟩
  refine ⟨fun b o hz => ?_, fun p hp => ?_, hS.nd, hS.one, h1.trans hS.gens, h2.trans hS.drawn, h3.trans hS.os⟩
  · refine hk _ _ (hb _ _ (hS.keep _ _ hz) fun hm => ?_)
    obtain ⟨env, lv, _, hm'⟩ := hfr hm
    have := (hS.own _ hm').1
    rw [hz] at this; cases this
  · obtain ⟨hz, o, ho, hP⟩ := hS.own p hp
    refine ⟨hz, ?_⟩
    by_cases hm : p.1 ∈ lcs l₀
    · obtain ⟨env, lv, _, hm'⟩ := hfr hm
      have hpe : p = (p.1, FrP env lv) := by
        have key : ∀ {L : List Ent}, (L.map (·.1)).Nodup → ∀ {x y : Ent}, x ∈ L → y ∈ L → x.1 = y.1 → x = y := by
          intro L
          induction L with
          | nil => intro _ x y hx; cases hx
          | cons z r ih =>
            intro hn x y hx hy e
            rw [List.map_cons, List.nodup_cons] at hn
            rcases List.mem_cons.mp hx with rfl | hx
            · rcases List.mem_cons.mp hy with rfl | hy
              · rfl
              · exact absurd (List.mem_map.mpr ⟨y, hy, e.symm⟩) hn.1
            · rcases List.mem_cons.mp hy with rfl | hy
              · exact absurd (List.mem_map.mpr (⟨x, by assumption, e⟩ : ∃ a, a ∈ r ∧ a.1 = y.1)) hn.1
              · exact ih hn.2 hx hy e
        exact key hS.nd hp hm' rfl
      have hP' : FrP env lv o := by rw [hpe] at hP; exact hP
      have hnf : ∀ vs, o.data ≠ .fields vs := by
        intro vs q
        obtain ⟨⟨es, ep, hd, _⟩, _⟩ := hP'
        rw [hd] at q; cases q
      obtain ⟨sl, hs⟩ := hu _ _ ho hnf
      refine ⟨_, hs, ?_⟩
      rw [hpe]
      exact hP'
    · exact ⟨o, hk _ _ (hb _ _ ho hm), hP⟩
theorem Fly.st {c : Cfg} {S : List Ent} {l₀ l : List Env} {e : Addr} {s : Shared} (h : Fly c S l₀ l e s) : St c S s := by
  obtain ⟨s₀, base, a0, hS, hl, hb, h1, h2, h3, ⟨k1, _⟩, hu⟩ := h.ex
  exact back_st hS hl hb h1 h2 h3 k1 hu
section
variable {prog : Program} {w : World} {A : Around} {E : Value → Shared → Prop} {c : Cfg} {S S' F : List Ent} {s : Shared} {a : Addr} {env : Env}
theorem Fly.leave {l₀ outer : List Env} {e : Addr} {Q : Unit → Shared → Prop} (h : Fly c S l₀ (env :: outer) e s) (hfr : A.frames = some (env :: outer)) (hf : env.frame = some env.locals) (hq : ∀ s', Fly c S l₀ outer e s' → Q () s') :
    wpAny (model prog w) A (leaving env (.ref e)) Q E s := by
  obtain ⟨s₀, base, a0, hS, hl, hb, h1, h2, h3, hfl, hu⟩ := h.ex
  exact wpAny_leaves_onW hfr hf hfl fun h' hfl' hu' => hq _ ⟨s₀, base, a0, hS, hl, hb, h1, h2, h3, hfl', hu.trans hu'⟩
theorem fly_first {outer : List Env} {e : Addr} {h' : Heap} {vs : List Value} {Q : Unit → Shared → Prop} (hS : St c S s) (hl : FrsIn S (env :: outer)) (hm : Heap.MadeExcOf s.heap h' e (.ref 80) vs) (hfr : A.frames = some (env :: outer)) (hf : env.frame = some env.locals)
    (hq : ∀ s', Fly c S (env :: outer) outer e s' → Q () s') : wpAny (model prog w) A (leaving env (.ref e)) Q E { s with heap := h' } := by
  obtain ⟨t, ht, _, _⟩ := hm.there
  have hb : ∀ b o, s.heap.get? b = some o → b ∉ lcs (env :: outer) → (hide s.heap (lcs (env :: outer))).get? b = some o := fun b o ho hn => by rw [hide_out hn]; exact ho
  have hu := Heap.UpToSlots.of_keeps hm.keeps
  refine wpAny_leaving_firstW (s := { s with heap := h' }) (base := hide s.heap (lcs (env :: outer))) (a0 := .ref t) hfr (hl.fun (Ls := []) hS (fun b hb => hide_in hb) hu) hf ht (fun b o hbo => ?_) ?_ rfl rfl rfl fun h'' hL => ?_
  · by_cases hm' : b ∈ lcs (env :: outer)
    · rw [hide_in hm'] at hbo; cases hbo
    · rw [hide_out hm'] at hbo; exact hm.keeps _ _ hbo
  · by_cases hm' : e ∈ lcs (env :: outer)
    · exact hide_in hm'
    · rw [hide_out hm']; exact hm.new
  · obtain ⟨k1, ⟨_, _, k2⟩, k3, k4⟩ := hL
    refine hq _ ⟨s, _, _, hS, hl, hb, rfl, rfl, rfl, ⟨k1, ?_, k2, k3⟩, hu.trans k4⟩
    by_cases hm' : e ∈ lcs (env :: outer)
    · exact hide_in hm'
    · rw [hide_out hm']; exact hm.new
end
end
section
open PySem PySem.Calls PyProof.Rows PySem.W PySem.W.X
open Sem (wp)
section
variable {prog : Program} {w : World} {A : Around} {E : Value → Shared → Prop} {c : Cfg} {S S' F : List Ent} {s : Shared} {a : Addr} {env : Env}
theorem look80 (P : Params) : (hd.heap_1 P).lookup 80 = some (excClassObj "NetworkXError" "NetworkXError" 80 79 [.ref 67] [.ref 67, .type "Exception", .type "BaseException", .type "object"] true [] [] false none none (some (.ref 71)) none (some (.str "NetworkXError" 342)) (some (.str "NetworkXError" 350)) (some (.bool true)) "Exception.__new__") := by rfl
theorem strKeys_of {es : Array DictEntry} (h : es.toList.all (fun e => match e.key with | .str _ _ => true | _ => false) = true) : StrKeys es := by
  intro e he
  have := List.all_eq_true.mp h e (Array.mem_toList_iff.mpr he)
  revert this
  cases e.key <;> simp
theorem ns_z {b : Addr} {ob : Obj} {es : Array DictEntry} {ep : Nat} (h : St c S s) (hz : c.Z b = some ob) (hd : ob.data = .dict es ep) (hk : es.toList.all (fun e => match e.key with | .str _ _ => true | _ => false) = true) : s.heap.Ns b (nsFind es) :=
  ⟨ob, es, ep, h.keep _ _ hz, hd, strKeys_of hk, fun _ => rfl⟩
theorem own80 (h : St c S s) (hB : KZ w c.Z) : ∃ mN, s.heap.Ns 79 mN ∧ mN "__init__" = none ∧ OwnTail s.heap [.type "Exception", .type "BaseException", .type "object"] [.ref 67, .type "Exception", .type "BaseException", .type "object"] :=
  ⟨_, ns_z h (hB.k 79 _ rfl (by decide) (by decide)) rfl (by rfl), by rfl, .own (h.keep _ _ (hB.k 67 _ rfl (by decide) (by decide))) (ns_z h (hB.k 66 _ rfl (by decide) (by decide)) rfl (by rfl)) (by rfl) .base⟩
theorem nx_raise {p1 p2 p3 p4 : Pos} {k : Nat} {x : Str} {gs : List Str} {Q : Flow → Shared → Prop} (h : St c S s) (hB : KZ w c.Z) (hA : A.handled = none) (ge : GE env gs) (hg : ("NetworkXError" : Str) ∈ gs)
    (hE : ∀ s' h' e vs, St c S s' → Heap.MadeExcOf s'.heap h' e (.ref 80) vs → E (.ref e) { s' with heap := h' }) :
    wpAny (model prog w) A (exec (.Raise (some (.Call (.Name "NetworkXError" p1) [.Constant (.str x) k p2] [] p3)) none p4) env) Q E s := by
  have z80 := hB.k 80 _ (look80 w.params) (by decide) (by decide)
  obtain ⟨mN, n1, n2, n3⟩ := own80 h hB
  refine wpAny_Raise_call_subT (nm := "NetworkXError") (q := "NetworkXError") (N := 79) (bs := [.ref 67]) (hdct := true) (sn := []) (sub := []) (ab := false) (col := none) (dd := none) (k0 := some (.ref 71)) (k1 := none) (k2 := some (.str "NetworkXError" 342)) (k3 := some (.str "NetworkXError" 350)) (k5 := some (.bool true)) (bm := [.ref 67, .type "Exception", .type "BaseException", .type "object"]) (mN := mN) PySem.F.excBase_Exception (by rfl) hA rfl n2 (ldg h hB.toGB ge hg (v := .ref 80) (by lk) ⟨rfl, ?_⟩)
  refine evalArgs_spl rfl ?_
  refine spl_cons (wpAny_Constant_str ?_) rfl
  refine spl_nil ?_
  have h₁ := h.tok (s.toks + 1)
  refine ⟨rfl, Nat.le_trans (by decide : 1 ≤ 1000) (by decide), h₁.keep _ _ z80, n1, n3, fun h' e hm => hE _ h' e _ h₁ hm⟩
theorem raise_87 {R : Result → Shared → Prop} {x dx nd sa pa : Addr} {at' : List (Str × Value)} {ks : List Int} {su pr : Int → List Int} {st : Int} {ts : Tok} {l : List Env}
    (h : St c S s) (hx : (x, InsP dx) ∈ S) (hdx : (dx, IDicP prog w at') ∈ S) (hB : KZ w c.Z) (hA : Room A 20) (hg : FGr prog w c.Z nd sa pa ks su pr) (hat : GAt at' nd sa pa) (hst : st ∉ ks) (hfr : A.frames = some l) (hl : FrsIn S l)
    (hR : ∀ e S' l₀ s', (∀ p ∈ S, p ∈ S') → Fly c S' l₀ l e s' → R (.error (.ref e)) s') :
    codeAny (model prog w) A (.call (.ref 87) ⟨[.ref x, .int st ts], []⟩) R s := by
  refine enterC (l := [("G", some (.ref x)), ("start", some (.int st ts)), ("order", none), ("u", none), ("intersect", none), ("changed", none), ("new_idom", none)]) (ns := ["G", "start", "order", "u", "intersect", "changed", "new_idom"])
    (lc := [("idom", none), ("dfn", none)]) (binds := [("G", .ref x), ("start", .int st ts)]) (n := 15) h hB.toBase hA.less (hB.k 87 _ rfl (by decide) (by decide)) rfl
    ⟨86, _, _, _, rfl, hB.k 86 _ rfl (by decide) (by decide), rfl, rfl⟩ rfl rfl rfl (by rfl) (by rfl) (by rfl) (by rfl) (by rfl) (by rfl) (by rfl) ?_ rfl rfl rfl
  intro L0 env s₁ hE hA₁ h₁
  have ge : GE env ["NetworkXError"] := .of (by rw [hE]; rfl) (by rw [hE]; rfl) (by rw [hE]; rfl)
  have hf : env.frame = some env.locals := by rw [hE]; rfl
  clear hE
  replace h₁ : St c ((env.locals, FrP env [("G", some (.ref x)), ("start", some (.int st ts)), ("order", none), ("u", none), ("intersect", none), ("changed", none), ("new_idom", none)]) :: (L0 + 2, CellP none) :: (L0 + 1, CellP none) :: S) s₁ := h₁
  show wpAny _ _ (execs (_ :: _) env) _ _ _
  kd_p
  show wpAny _ _ (exec (.If _ _ _ _) env) _ _ _
  kd_p
  kd_p
  refine ld h₁ (by lk) ?_
  refine ld h₁ (by lk) ?_
  obtain ⟨od, q1, q2⟩ := inst_atI h₁ (x := x) (dx := dx) (mt (mt (mt hx))) (mt (mt (mt hdx)))
  refine notIn_ (f := 374) (h₁.kk hB) q2 (by kernel_rfl) (by kernel_rfl) ?_
  refine wpAny_call (contains_spec h₁ hB ⟨hA₁.handled, by have := hA₁.depth; lia, by have := hA₁.units; lia⟩ (x := x) (mt (mt (mt hx))) (mt (mt (mt hdx))) hat hg fun s₂ h₂ => ?_)
  refine wpAny_truthy_bool ?_
  kd_p
  refine itt (by simp [hst]) ?_
  kd_p
  refine nx_raise h₂ hB hA₁.handled ge (by lk) fun s₃ h' e vs h₃ hm => ?_
  refine fly_first (outer := l) h₃ ?_ hm ?_ hf fun s₄ hF => hR e _ _ s₄ (fun p hp => mt (mt (mt hp))) hF
  · intro env' he
    rcases List.mem_cons.mp he with rfl | he
    · exact ⟨hf, ge.kind, _, .head _⟩
    · obtain ⟨a1, a2, lv, a3⟩ := hl env' he
      exact ⟨a1, a2, lv, mt (mt (mt a3))⟩
  · show Option.map _ A.frames = _
    rw [hfr]; rfl
end
end
section
open PySem PySem.Calls PyProof.Rows PySem.W PySem.W.X
open Sem (wp)
section
variable {prog : Program} {w : World} {A : Around} {E : Value → Shared → Prop} {c : Cfg} {S S' F : List Ent} {s : Shared} {a : Addr} {env : Env}
theorem raise_92 {R : Result → Shared → Prop} {x dx nd sa pa : Addr} {at' : List (Str × Value)} {ks : List Int} {su pr : Int → List Int} {st : Int} {ts : Tok} {l : List Env}
    (h : St c S s) (hx : (x, InsP dx) ∈ S) (hdx : (dx, IDicP prog w at') ∈ S) (hB : KZ w c.Z) (hA : Room A 25) (hg : FGr prog w c.Z nd sa pa ks su pr) (hat : GAt at' nd sa pa) (hst : st ∉ ks) (hfr : A.frames = some l) (hl : FrsIn S l)
    (hR : ∀ e S' l₀ s', (∀ p ∈ S, p ∈ S') → Fly c S' l₀ l e s' → R (.error (.ref e)) s') :
    codeAny (model prog w) A (.call (.ref 92) ⟨[.ref x, .int st ts], []⟩) R s := by
  refine enter (l := [("G", some (.ref x)), ("start", some (.int st ts)), ("idom", none), ("df", none), ("u", none), ("v", none)]) (ns := ["G", "start", "idom", "df", "u", "v"]) (binds := [("G", .ref x), ("start", .int st ts)]) (n := 20) h hB.toBase hA.less (hB.k 92 _ rfl (by decide) (by decide)) rfl
    ⟨91, _, _, _, rfl, hB.k 91 _ rfl (by decide) (by decide), rfl, rfl⟩ rfl (BindsTo.of_eq rfl) (by rfl) (by rfl) rfl (by rfl) (by rfl) ?_ rfl rfl rfl
  rintro env s₁ ⟨L0, hE⟩ hA₁ h₁
  have ge : GE env ["immediate_dominators"] := .of (by rw [hE]; rfl) (by rw [hE]; rfl) (by rw [hE]; rfl)
  have hf : env.frame = some env.locals := by rw [hE]; rfl
  clear hE
  show wpAny _ _ (execs (_ :: _) env) _ _ _
  kd_p
  show wpAny _ _ (exec (.Assign [.Name _ _] (.Call (.Name _ _) [_, _] _ _) _) env) _ _ _
  refine wpAny_Assign_Name ?_ ?hs
  case hs => rfl
  refine call_fn h₁ hB.toGB ge (by lk) (fa := 87) (by lk) (hB.k 87 _ rfl (by decide) (by decide)) rfl rfl ?_
  refine spl_cons (ld h₁ (by lk) ?_) rfl
  refine spl_cons (ld h₁ (by lk) ?_) rfl
  refine spl_nil ⟨⟨_, h₁⟩, wpAny_call ?_⟩
  have hfr' : (A.deeper env).frames = some (env :: l) := by
    show Option.map _ A.frames = _
    rw [hfr]; rfl
  refine raise_87 (l := env :: l) h₁ (mt hx) (mt hdx) hB hA₁ hg hat hst hfr' ?_ fun e S' l₀ s' hsub hF => ?_
  · intro env' he
    rcases List.mem_cons.mp he with rfl | he
    · exact ⟨hf, ge.kind, _, .head _⟩
    · obtain ⟨a1, a2, lv, a3⟩ := hl env' he
      exact ⟨a1, a2, lv, mt a3⟩
  · exact hF.leave hfr' hf fun s'' hF' => hR e S' l₀ s'' (fun p hp => hsub p (mt hp)) hF'
theorem St.pick (h : St c S' s) (hs : ∀ p ∈ S, p ∈ S') (hn : (S.map (·.1)).Nodup) : St c S s := ⟨h.keep, fun p hp => h.own p (hs p hp), hn, fun p hp => h.one p (hs p hp), h.gens, h.drawn, h.os⟩
theorem law_try {f : Str} {fa sl al x lf rs : Addr} {o : Obj} {fd : FuncData} {gs : List Str} {st r : Int} {ts tr : Tok} {vv : Option Value} {p1 p2 p3 p4 p5 p6 p7 p8 p9 p10 p11 p12 p13 : Pos} {k k2 : Nat} {Q : Flow → Shared → Prop} (hB : KZ w c.Z) (ge : GE env gs) (hg : ("NetworkXError" : Str) ∈ gs) (hfx : f ∈ gs) (hfp : (f, .ref fa) ∈ gtab) (hfo : c.Z fa = some o) (hfd : o.data = .func fd)
    (hint : interactive env = false) (hf : env.frame = some env.locals) (hfr : A.frames = some [env])
    (hcall : ∀ tk R s, St c ((env.locals, FrP env [("script", some (.ref sl)), ("v", vv), ("arrows", some (.ref al)), ("graph", some (.ref x)), ("left", some (.ref lf)), ("rest", some (.ref rs)), ("start", some (.int st ts)), ("refused", some (.int r tr)), ("reach", none), ("due", none), ("told", none), ("ends", none), ("p", none)]) :: S) s → (∀ e S' l₀ s', (∀ p ∈ (env.locals, FrP env [("script", some (.ref sl)), ("v", vv), ("arrows", some (.ref al)), ("graph", some (.ref x)), ("left", some (.ref lf)), ("rest", some (.ref rs)), ("start", some (.int st ts)), ("refused", some (.int r tr)), ("reach", none), ("due", none), ("told", none), ("ends", none), ("p", none)]) :: S, p ∈ S') → Fly c S' l₀ [env] e s' → R (.error (.ref e)) s') → codeAny (model prog w) A (.call (.ref fa) ⟨[.ref x, .int 5 tk], []⟩) R s)
    (h : St c ((env.locals, FrP env [("script", some (.ref sl)), ("v", vv), ("arrows", some (.ref al)), ("graph", some (.ref x)), ("left", some (.ref lf)), ("rest", some (.ref rs)), ("start", some (.int st ts)), ("refused", some (.int r tr)), ("reach", none), ("due", none), ("told", none), ("ends", none), ("p", none)]) :: S) s)
    (hq : ∀ tr s', St c ((env.locals, FrP env [("script", some (.ref sl)), ("v", vv), ("arrows", some (.ref al)), ("graph", some (.ref x)), ("left", some (.ref lf)), ("rest", some (.ref rs)), ("start", some (.int st ts)), ("refused", some (.int (r + 1) tr)), ("reach", none), ("due", none), ("told", none), ("ends", none), ("p", none)]) :: S) s' → Q .next s') :
    wpAny (model prog w) A (exec (.Try [.Expr (.Call (.Name f p1) [.Name "graph" p2, .Constant (.int 5) k p3] [] p4) p5] [.ExceptHandler (some (.Name "NetworkXError" p6)) none [.Assign [.Name "refused" p7] (.BinOp (.Name "refused" p8) .Add (.Constant (.int 1) k2 p9) p10) p11] p12] [] [] p13) env) Q E s := by
  refine wpAny_Try_except ?_
  kd_p
  kd_p
  refine call_fn h hB.toGB ge hfx hfp hfo hfd rfl ?_
  refine spl_cons (ld h (by lk) ?_) rfl
  refine spl_cons ?_ rfl
  kd_p
  refine spl_nil ⟨⟨_, h.tok _⟩, wpAny_call ?_⟩
  refine hcall _ _ _ (h.tok _) fun e S' l₀ s₁ hsub hF => ?_
  obtain ⟨s₀, base, a0, hS, hl, hb, g1, g2, g3, hfl, hu⟩ := hF.ex
  refine wpAny_looks_onW hfr hf hfl fun h1 hheld hu1 => ?_
  refine wpAny_landsW (s := { s₁ with heap := h1 }) hheld fun h2 hfl2 hu2 => ?_
  have hF2 : Fly c S' l₀ [env] e { s₁ with heap := h2 } := ⟨s₀, base, a0, hS, hl, hb, g1, g2, g3, hfl2, (hu.trans hu1).trans hu2⟩
  refine wpAny_handleBy_cons (codeAny_handlers_test ?_) (by intro q; cases q)
  refine ldg hF2.st hB.toGB ge hg (v := .ref 80) (by lk) ?_
  obtain ⟨ob, hob, hoc⟩ := hfl2.there
  have z80 := hF2.st.keep _ _ (hB.k 80 _ (look80 w.params) (by decide) (by decide))
  refine wpAny_excMatches_sub_self (h := h2) (g := s₁.gens) (d := s₁.drawn) (t := s₁.toks) (os := s₁.os) z80 hob hoc (by rfl) ?_
  refine codeAny_handlers_suite ?_
  obtain ⟨k1, k2', k3, k4⟩ := hfl2
  refine wpAny_setFlight_noneW (s := { s₁ with heap := h2 }) k1 k3 k4.at fun h3 m1 m2 m3 m4 => ?_
  have hF3 : Fly c S' l₀ [env] e { s₁ with heap := h3 } := ⟨s₀, base, a0, hS, hl, hb, g1, g2, g3, ⟨m1, k2', m2, m3⟩, ((hu.trans hu1).trans hu2).trans fun b o q hn => ⟨o.slots, m4 b o q hn⟩⟩
  have h₄ : St c ((env.locals, FrP env [("script", some (.ref sl)), ("v", vv), ("arrows", some (.ref al)), ("graph", some (.ref x)), ("left", some (.ref lf)), ("rest", some (.ref rs)), ("start", some (.int st ts)), ("refused", some (.int r tr)), ("reach", none), ("due", none), ("told", none), ("ends", none), ("p", none)]) :: S) { s₁ with heap := h3 } := hF3.st.pick hsub h.nd
  kd_p
  kd_p
  kd_p
  refine ld h₄ (by lk) ?_
  kd_p
  k_in
  refine sto (h₄.tok _) (by room) fun s₅ h₅ => ?_
  kd_p
  exact hq _ _ h₅
end
end
section
open PySem PySem.Calls PyProof.Rows PySem.W PySem.W.X
open Sem (wp)
section
variable {prog : Program} {w : World} {A : Around} {E : Value → Shared → Prop} {c : Cfg} {S S' F : List Ent} {s : Shared} {a : Addr} {env : Env}
theorem law_10 {Q : Flow → Shared → Prop} {sl c1 c2 c3 c4 c5 al nl x dx nd sa pa lf rs : Addr} {at' : List (Str × Value)} {ks : List Int} {su pr : Int → List Int} {n st : Int} {tn ts : Tok} {vv vu : Option Value} (hB : KZ w c.Z) (hA : Room A 30) (le : LawE env c1 c2 c3 c4 c5)
    (hg : FGr prog w c.Z nd sa pa ks su pr) (hat : GAt at' nd sa pa) (h5 : (5 : Int) ∉ ks) (hf : env.frame = some env.locals) (hfr : A.frames = some [env])
    (h : St c ((env.locals, FrP env [("script", some (.ref sl)), ("v", vv), ("arrows", some (.ref al)), ("graph", some (.ref x)), ("left", some (.ref lf)), ("rest", some (.ref rs)), ("start", some (.int st ts)), ("refused", none), ("reach", none), ("due", none), ("told", none), ("ends", none), ("p", none)]) :: (c5, CellP none) :: (c4, CellP (some (.ref nl))) :: (c3, CellP vu) :: (c2, CellP (some (.int n tn))) :: (x, InsP dx) :: (dx, IDicP prog w at') :: F) s)
    (k1 : ∀ s', st = n → (∃ S₁, St c (S₁ ++ F) s') → Q (.ret (.bool true)) s')
    (k2 : ∀ s', st ≠ n → St c ((env.locals, FrP env [("script", some (.ref sl)), ("v", vv), ("arrows", some (.ref al)), ("graph", some (.ref x)), ("left", some (.ref lf)), ("rest", some (.ref rs)), ("start", some (.int st ts)), ("refused", none), ("reach", none), ("due", none), ("told", none), ("ends", none), ("p", none)]) :: (c5, CellP none) :: (c4, CellP (some (.ref nl))) :: (c3, CellP vu) :: (c2, CellP (some (.int n tn))) :: (x, InsP dx) :: (dx, IDicP prog w at') :: F) s' → Q .next s') :
    wpAny (model prog w) A (exec (lawS 10) env) Q E s := by
  have ge := le.ge
  have hint := le.hint
  show wpAny _ _ (exec (.If _ [_, _, _, _] _ _) env) _ _ _
  kd_p
  kd_p
  refine ld h (by lk) ?_
  refine ldc h le.many (by lk) ?_
  k_in
  kd_p
  (with_reducible first | refine ite_dec (fun hif => ?_) (fun hif => ?_) | refine ite_beq (fun hif => ?_) (fun hif => ?_) | refine ite_bne (fun hif => ?_) (fun hif => ?_))
  · kd_p
    kd_p
    kd_p
    refine sto (h.tok _) (by room) fun s₁ h₁ => ?_
    kd_p
    refine law_try (f := "immediate_dominators") (fa := 87) hB ge (by lk) (by lk) (by lk) (hB.k 87 _ rfl (by decide) (by decide)) rfl hint hf hfr (fun tk R s h hR => ?_) h₁ fun t₂ s₂ h₂ => ?_
    · refine raise_87 h (x := x) (dx := dx) (by lk) (by lk) hB hA.less hg hat h5 hfr ?_ hR
      intro env' he
      rw [List.mem_singleton] at he
      subst he
      exact ⟨hf, ge.kind, _, .head _⟩
    · kd_p
      refine law_try (f := "dominance_frontiers") (fa := 92) hB ge (by lk) (by lk) (by lk) (hB.k 92 _ rfl (by decide) (by decide)) rfl hint hf hfr (fun tk R s h hR => ?_) h₂ fun t₃ s₃ h₃ => ?_
      · refine raise_92 h (x := x) (dx := dx) (by lk) (by lk) hB hA.less hg hat h5 hfr ?_ hR
        intro env' he
        rw [List.mem_singleton] at he
        subst he
        exact ⟨hf, ge.kind, _, .head _⟩
      · kd_p
        kd_p
        kd_p
        refine ld h₃ (by lk) ?_
        kd_p
        k_in
        exact k1 _ hif ⟨[_, _, _, _, _, _, _], h₃.tok _⟩
  · kd_p
    exact k2 _ hif h
end
end
section
open PySem PySem.Calls PyProof.Rows PySem.W PySem.W.X
open Sem (wp)
section
variable {prog : Program} {w : World} {A : Around} {E : Value → Shared → Prop} {c : Cfg} {S S' F : List Ent} {s : Shared} {a : Addr} {env : Env}
theorem law_1113 {Q : Flow → Shared → Prop} {sl c1 c2 c3 c4 c5 al nl x lf rs : Addr} {n st : Int} {tn ts : Tok} {as : List (Int × Int)} {vv vu : Option Value} (hB : KZ w c.Z) (hA : Room A 30) (le : LawE env c1 c2 c3 c4 c5)
    (hal : FArr c.Z al as) (has : ∀ p ∈ as, 0 ≤ p.2 ∧ p.2 < 5) (hst : 0 ≤ st ∧ st < 5)
    (h : St c ((env.locals, FrP env [("script", some (.ref sl)), ("v", vv), ("arrows", some (.ref al)), ("graph", some (.ref x)), ("left", some (.ref lf)), ("rest", some (.ref rs)), ("start", some (.int st ts)), ("refused", none), ("reach", none), ("due", none), ("told", none), ("ends", none), ("p", none)]) :: (c5, CellP none) :: (c4, CellP (some (.ref nl))) :: (c3, CellP vu) :: (c2, CellP (some (.int n tn))) :: F) s)
    (k : ∀ rl dl sd kvs ep rr c' s', Ext c c' → rr.Nodup → (∀ x, x ∈ rr ↔ ReachA as none st x) → FInts c'.Z rl rr → FDic prog w c'.Z sd kvs ep → StrictOf c'.Z as st rr rr kvs →
      St c' ((env.locals, FrP env [("script", some (.ref sl)), ("v", vv), ("arrows", some (.ref al)), ("graph", some (.ref x)), ("left", some (.ref lf)), ("rest", some (.ref rs)), ("start", some (.int st ts)), ("refused", none), ("reach", some (.ref rl)), ("due", some (.ref dl)), ("told", none), ("ends", none), ("p", none)]) :: (dl, DicP prog w []) :: (c5, CellP (some (.ref sd))) :: (c4, CellP (some (.ref nl))) :: (c3, CellP vu) :: (c2, CellP (some (.int n tn))) :: F) s' → Q .next s') :
    wpAny (model prog w) A (exec (lawS 11) env) (fun f s' => match f with | .next => wpAny (model prog w) A (exec (lawS 12) env) (fun f s' => match f with | .next => wpAny (model prog w) A (exec (lawS 13) env) Q E s' | f => Q f s') E s' | f => Q f s') E s := by
  have ge := le.ge
  show wpAny _ _ (exec (.Assign [.Name _ _] (.Call (.Name _ _) _ _ _) _) env) _ _ _
  refine wpAny_Assign_Name ?_ ?hs
  case hs => (unfold swapsWith; rfl)
  refine call_fn h hB.toGB ge (by lk) (by lk) (hB.k 817 _ rfl (by decide) (by decide)) rfl rfl ?_
  refine spl_cons (ldc h le.many (by lk) ?_) rfl
  refine spl_cons (ld h (by lk) ?_) rfl
  refine spl_cons (ld h (by lk) ?_) rfl
  refine spl_cons (wpAny_Constant_none ?_) rfl
  refine spl_nil ⟨⟨_, h⟩, wpAny_call ?_⟩
  refine reached_spec (wo := none) h hB hA.less hal rfl has hst fun rr rl s₁ hrn hrr h₁ => ?_
  refine sto (h₁.perm (.swap ..)) (by room) fun s₂ h₂ => ?_
  obtain ⟨c', o, hX, hz, hp, h₃⟩ := h₂.freeze (a := rl) (.tail .head)
  have hB1 : KZ w c'.Z := hB.ext hX.z
  have hrl := fints_of hz hp
  have hlen : rr.length ≤ 5 := reach_len hrn (fun x hx => (hrr x).mp hx) has hst
  show wpAny _ _ (exec (.Assign [.Name _ _] (.Call (.Name _ _) _ _ _) _) env) _ _ _
  refine wpAny_Assign_Name ?_ ?hs
  case hs => (unfold swapsWith; rfl)
  refine call_fn h₃ hB1.toGB ge (by lk) (by lk) (hB1.k 822 _ rfl (by decide) (by decide)) rfl rfl ?_
  refine spl_cons (ldc h₃ le.many (by lk) ?_) rfl
  refine spl_cons (ld h₃ (by lk) ?_) rfl
  refine spl_cons (ld h₃ (by lk) ?_) rfl
  refine spl_cons (ld h₃ (by lk) ?_) rfl
  refine spl_nil ⟨⟨_, h₃⟩, wpAny_call ?_⟩
  refine strict_spec h₃ hB1 hA.less (hal.ext hX) hrl has hst hrn hlen fun c'' sd kvs s₄ hX' h₄ hS => ?_
  obtain ⟨c3', ep, hX2, hfd, h₅⟩ := freeze_dic h₄ .head
  refine stoc h₅ le.k5 le.strict (by lk) (by kt_k) fun s₆ h₆ => ?_
  show wpAny _ _ (exec (.Assign [.Name _ _] (.Dict _ _ _) _) env) _ _ _
  refine wpAny_Assign_Name ?_ ?hs
  case hs => (unfold swapsWith; rfl)
  refine dic_empty h₆ fun dl s₇ h₇ => ?_
  refine sto (h₇.perm (.swap ..)) (by room) fun s₈ h₈ => ?_
  refine k rl dl sd kvs ep rr c3' s₈ (hX.trans (hX'.trans hX2)) hrn hrr (hrl.ext (hX'.trans hX2)) hfd ⟨hS.1, fun v hv => ?_⟩ h₈
  obtain ⟨a, e1, e2⟩ := hS.2 v hv
  exact ⟨a, e1, e2.ext hX2⟩
end
end
section
open PySem PySem.Calls PyProof.Rows PySem.W PySem.W.X
open Sem (wp)
noncomputable def Last (S : Int → List Int) (v u : Int) : Prop := ∀ one ∈ S v, one ≠ u → one ∈ S u
structure DueOk (S : Int → List Int) (done : List Int) (v0 : Int) (part : List Int) (dk : List Int) (g : Int → Option Int) : Prop where
  has : ∀ v ∈ done, ∀ u ∈ S v, Last S v u → nm v ∈ dk
  hasP : ∀ u ∈ part, Last S v0 u → nm v0 ∈ dk
  of : ∀ k ∈ dk, (∃ v ∈ done, ∃ u ∈ S v, Last S v u ∧ k = nm v ∧ g k = some (nm u)) ∨ ∃ u ∈ part, Last S v0 u ∧ k = nm v0 ∧ g k = some (nm u)
theorem DueOk.put {S : Int → List Int} {done : List Int} {v0 u : Int} {part dk : List Int} {g : Int → Option Int} (h : DueOk S done v0 part dk g) (hl : Last S v0 u) : DueOk S done v0 (part ++ [u]) (addk dk (nm v0)) (upf g (nm v0) (some (nm u))) where
  has v hv u' hu' hl' := mem_addk.mpr (.inl (h.has v hv u' hu' hl'))
  hasP _ _ _ := mem_addk.mpr (.inr rfl)
  of k hk := by
    by_cases e : k = nm v0
    · exact .inr ⟨u, by simp, hl, e, by unfold upf; rw [if_pos e]⟩
    · have hk' : k ∈ dk := (mem_addk.mp hk).resolve_right e
      have hg : upf g (nm v0) (some (nm u)) k = g k := by unfold upf; rw [if_neg e]
      rw [hg]
      rcases h.of k hk' with q | ⟨u', hu', r⟩
      · exact .inl q
      · exact .inr ⟨u', List.mem_append_left _ hu', r⟩
theorem DueOk.skip {S : Int → List Int} {done : List Int} {v0 u : Int} {part dk : List Int} {g : Int → Option Int} (h : DueOk S done v0 part dk g) (hl : ¬ Last S v0 u) : DueOk S done v0 (part ++ [u]) dk g where
  has := h.has
  hasP u' hu' hl' := by
    rcases List.mem_append.mp hu' with q | q
    · exact h.hasP u' q hl'
    · rw [List.mem_singleton] at q; subst q; exact absurd hl' hl
  of k hk := (h.of k hk).imp id fun ⟨u', hu', r⟩ => ⟨u', List.mem_append_left _ hu', r⟩
theorem DueOk.next {S : Int → List Int} {done : List Int} {v0 v1 : Int} {dk : List Int} {g : Int → Option Int} (h : DueOk S done v0 (S v0) dk g) : DueOk S (done ++ [v0]) v1 [] dk g where
  has v hv u hu hl := by
    rcases List.mem_append.mp hv with q | q
    · exact h.has v q u hu hl
    · rw [List.mem_singleton] at q; subst q; exact h.hasP u hu hl
  hasP u hu := nomatch hu
  of k hk := .inl (by
    rcases h.of k hk with ⟨v, hv, r⟩ | ⟨u, hu, hl, r⟩
    · exact ⟨v, List.mem_append_left _ hv, r⟩
    · exact ⟨v0, by simp, u, hu, hl, r⟩)
section
variable {prog : Program} {w : World} {A : Around} {E : Value → Shared → Prop} {c : Cfg} {S S' F : List Ent} {s : Shared} {a : Addr} {env : Env}
theorem law_14 {Q : Flow → Shared → Prop} {sl c1 c2 c3 c4 c5 al nl x lf rs rl dl sd : Addr} {n st : Int} {tn ts : Tok} {as : List (Int × Int)} {rr : List Int} {kvs : List (Int × Value)} {ep : Nat} {vv vu : Option Value} (hB : KZ w c.Z) (hA : Room A 30) (le : LawE env c1 c2 c3 c4 c5)
    (hnl : FInts c.Z nl (names5.take n.toNat)) (n5 : n ≤ 5) (hrn : rr.Nodup) (hrr : ∀ x ∈ rr, 0 ≤ x ∧ x < n) (hrl : FInts c.Z rl rr) (hfd : FDic prog w c.Z sd kvs ep) (hS : StrictOf c.Z as st rr rr kvs)
    (h : St c ((env.locals, FrP env [("script", some (.ref sl)), ("v", vv), ("arrows", some (.ref al)), ("graph", some (.ref x)), ("left", some (.ref lf)), ("rest", some (.ref rs)), ("start", some (.int st ts)), ("refused", none), ("reach", some (.ref rl)), ("due", some (.ref dl)), ("told", none), ("ends", none), ("p", none)]) :: (dl, DicP prog w []) :: (c5, CellP (some (.ref sd))) :: (c4, CellP (some (.ref nl))) :: (c3, CellP vu) :: (c2, CellP (some (.int n tn))) :: F) s)
    (k : ∀ dk g vv vu s', DueOk (strictL as st rr) rr 0 [] dk g → St c ((env.locals, FrP env [("script", some (.ref sl)), ("v", vv), ("arrows", some (.ref al)), ("graph", some (.ref x)), ("left", some (.ref lf)), ("rest", some (.ref rs)), ("start", some (.int st ts)), ("refused", none), ("reach", some (.ref rl)), ("due", some (.ref dl)), ("told", none), ("ends", none), ("p", none)]) :: (dl, DI prog w dk g) :: (c5, CellP (some (.ref sd))) :: (c4, CellP (some (.ref nl))) :: (c3, CellP vu) :: (c2, CellP (some (.int n tn))) :: F) s' → Q .next s') :
    wpAny (model prog w) A (exec (lawS 14) env) Q E s := by
  have ge := le.ge
  have hint := le.hint
  have hrlen : rr.length ≤ 5 := by
    have := nodup_len (f := rr) (l := [0, 1, 2, 3, 4]) hrn fun x hx => by
      obtain ⟨a1, a2⟩ := hrr x hx
      have : x = 0 ∨ x = 1 ∨ x = 2 ∨ x = 3 ∨ x = 4 := by lia
      simpa using this
    simpa using this
  have hSsub : ∀ v, ∀ u ∈ strictL as st rr v, u ∈ rr := fun v u hu => (List.mem_filter.mp hu).1
  have hSlen : ∀ v, (strictL as st rr v).length ≤ 5 := fun v => Nat.le_trans (List.length_filter_le _ _) hrlen
  show wpAny _ _ (exec (.For _ _ _ _ _) env) _ _ _
  kd_p
  refine ld h (by lk) ?_
  refine iter_f h hrl fun it s₁ h₁ => ?_
  refine for_loop rr.length (fun i s => ∃ dk g vv vu, DueOk (strictL as st rr) (rr.take i) 0 [] dk g ∧ St c ((it, LItP rl i) :: (env.locals, FrP env [("script", some (.ref sl)), ("v", vv), ("arrows", some (.ref al)), ("graph", some (.ref x)), ("left", some (.ref lf)), ("rest", some (.ref rs)), ("start", some (.int st ts)), ("refused", none), ("reach", some (.ref rl)), ("due", some (.ref dl)), ("told", none), ("ends", none), ("p", none)]) :: (dl, DI prog w dk g) :: (c5, CellP (some (.ref sd))) :: (c4, CellP (some (.ref nl))) :: (c3, CellP vu) :: (c2, CellP (some (.int n tn))) :: F) s) ?_ ?_
    ⟨[], fun _ => none, vv, vu, ⟨(fun v hv => by simp at hv), (fun u hu => nomatch hu), (fun k hk => nomatch hk)⟩, h₁.sub (.cons (a := it) (by w_up) (fun _ q => q) (.cons (a := env.locals) (by w_up) (fun _ q => q) (.cons (a := dl) (by w_up) di_nil .refl)))⟩
  · clear h h₁
    rintro E' i s hi hE1
    refine ex4 hE1 fun dk g vv vu hE2 => ?_
    clear hE1
    refine an2 hE2 fun hok h => ?_
    clear hE2
    intro Kq
    refine next_f h (.head _) hrl (x := rr[i]) (by simp [hi]) .head fun tv s₁ h₁ => ⟨_, rfl, ?_⟩
    refine letOwned_name ?_
    refine wpAny_assign_Name ?_
    refine sto (h₁.perm (.swap ..)) (by room) fun s₂ h₂ => ?_
    generalize hv0 : rr[i] = v0 at h₂
    have hv0r : v0 ∈ rr := hv0 ▸ List.getElem_mem hi
    obtain ⟨b1, b2⟩ := hrr v0 hv0r
    obtain ⟨sa, hs1, hs2⟩ := hS.2 v0 hv0r
    kd_p
    show wpAny _ _ (exec (.For _ _ _ _ _) env) _ _ _
    kd_p
    kd_p
    refine ldc h₂ le.strict (by lk) ?_
    refine ld h₂ (by lk) ?_
    refine fd_sub h₂ hfd hs1 sc_name fun s₃ h₃ => ?_
    refine iter_f h₃ hs2 fun it2 s₄ h₄ => ?_
    refine for_loop (strictL as st rr v0).length (fun j s => ∃ dk g vu, DueOk (strictL as st rr) (rr.take i) v0 ((strictL as st rr v0).take j) dk g ∧ St c ((it2, LItP sa j) :: (env.locals, FrP env [("script", some (.ref sl)), ("v", some (.int v0 tv)), ("arrows", some (.ref al)), ("graph", some (.ref x)), ("left", some (.ref lf)), ("rest", some (.ref rs)), ("start", some (.int st ts)), ("refused", none), ("reach", some (.ref rl)), ("due", some (.ref dl)), ("told", none), ("ends", none), ("p", none)]) :: (it, LItP rl (i + 1)) :: (dl, DI prog w dk g) :: (c5, CellP (some (.ref sd))) :: (c4, CellP (some (.ref nl))) :: (c3, CellP vu) :: (c2, CellP (some (.int n tn))) :: F) s) ?_ ?_
      ⟨dk, g, vu, ⟨hok.has, (fun u hu => nomatch hu), fun k hk => (hok.of k hk).imp id fun ⟨u, hu, _⟩ => nomatch hu⟩, h₄⟩
    · clear h h₁ h₂ h₃ h₄ hok
      rintro E'' j s hj ⟨dk, g, vu, hok, h⟩
      intro Kq
      refine next_f h (.head _) hs2 (x := (strictL as st rr v0)[j]) (by simp [hj]) .head fun tu s₁ h₁ => ⟨_, rfl, ?_⟩
      refine letOwned_name ?_
      refine wpAny_assign_Name ?_
      refine stoc (h₁.sub (.cons (a := env.locals) (by w_up) (fun _ q => q) .refl)) le.k3 le.u (by lk) (by kt_k) fun s₂ h₂ => ?_
      have huS : (strictL as st rr v0)[j] ∈ strictL as st rr v0 := List.getElem_mem hj
      have hq0 : (strictL as st rr v0).take (j + 1) = (strictL as st rr v0).take j ++ [(strictL as st rr v0)[j]] := List.take_succ_eq_append_getElem hj
      generalize (strictL as st rr v0)[j] = u at h₂ huS hq0
      have hur := hSsub v0 u huS
      obtain ⟨d1, d2⟩ := hrr u hur
      obtain ⟨sb, hs3, hs4⟩ := hS.2 u hur
      kd_p
      show wpAny _ _ (exec (.If (.Compare (.Call _ [.ListComp _ [⟨_, _, [_], 0⟩] _ _] _ _) _ _ _) _ _ _) env) _ _ _
      kd_p
      kd_p
      refine call_bi h₂ hB.toGB ge (by lk) (by lk) rfl ?_
      refine spl_cons ?_ rfl
      refine listcomp_st (c := c) (l := [("one", none)]) (cl := [("u", c3), ("strict", c5)]) (fun _ => rfl) (closure_of le.cs rfl) rfl rfl (by rfl) rfl ?_
      kd_p
      refine ldc h₂ le.strict (by lk) ?_
      refine ld h₂ (by lk) ?_
      refine fd_sub h₂ hfd hs1 sc_name fun s₃ h₃ => ?_
      refine iter_f h₃ hs2 fun it3 s₄ h₄ => ⟨_, h₄, fun cenv b s₅ hC h₅ => ?_⟩
      have hu' : Cel cenv "u" c3 := hC.free (by rfl) (by rfl) (by rfl) (by decide)
      have hst' : Cel cenv "strict" c5 := hC.free (by rfl) (by rfl) (by rfl) (by decide)
      refine listcomp_start (by rfl) (fun E' Q' hq => list_self h₅ (a := it3) (by lk) hq) ?_
      let T : List Ent := (env.locals, FrP env [("script", some (.ref sl)), ("v", some (.int v0 tv)), ("arrows", some (.ref al)), ("graph", some (.ref x)), ("left", some (.ref lf)), ("rest", some (.ref rs)), ("start", some (.int st ts)), ("refused", none), ("reach", some (.ref rl)), ("due", some (.ref dl)), ("told", none), ("ends", none), ("p", none)]) :: (it2, LItP sa (j + 1)) :: (it, LItP rl (i + 1)) :: (dl, DI prog w dk g) :: (c5, CellP (some (.ref sd))) :: (c4, CellP (some (.ref nl))) :: (c3, CellP (some (.int u tu))) :: (c2, CellP (some (.int n tn))) :: F
      refine listcomp_loop (strictL as st rr v0).length (fun m s => ∃ vo, St c ((cenv.locals, FrP cenv [("one", vo)]) :: (b, IntLP (((strictL as st rr v0).take m).filter fun one => decide (one ≠ u ∧ one ∉ strictL as st rr u))) :: (it3, LItP sa m) :: T) s)
        (by rfl) (by rfl) ?_ ?_ ⟨none, h₅.sub (.cons (a := cenv.locals) (by w_up) (fun _ q => q) (.cons (a := b) (by w_up) (intlp_of .nil) (by k_is)))⟩
      · clear h h₁ h₂ h₃ h₄ h₅
        rintro E3 m s hm ⟨vo, h⟩
        refine next_f h (a := sa) (it := it3) (by lk) hs2 (x := (strictL as st rr v0)[m]) (by simp [hm]) (by kt_k) fun to s₁ h₁ => ⟨_, rfl, ?_⟩
        refine letOwned_name ?_
        refine wpAny_assign_Name ?_
        refine sto h₁ (by room) fun s₂ h₂ => ?_
        rw [List.take_succ_eq_append_getElem hm, List.filter_append]
        generalize (strictL as st rr v0)[m] = one at h₂
        have hfl : (((strictL as st rr v0).take m).filter fun one => decide (one ≠ u ∧ one ∉ strictL as st rr u)).length ≤ 5 := Nat.le_trans (List.length_filter_le _ _) (Nat.le_trans (by rw [List.length_take]; lia) (hSlen v0))
        have no : ¬ (one ≠ u ∧ one ∉ strictL as st rr u) → [one].filter (fun one => decide (one ≠ u ∧ one ∉ strictL as st rr u)) = [] := fun q => by
          rw [List.filter_cons_of_neg (by simpa using q)]; rfl
        refine tests_one ?_
        kd_p; kd_p; kd_p
        refine ld h₂ (by lk) ?_
        refine ldc h₂ hu' (by lk) ?_
        k_in
        kd_p
        (with_reducible first | refine ite_dec (fun hif => ?_) (fun hif => ?_) | refine ite_beq (fun hif => ?_) (fun hif => ?_) | refine ite_bne (fun hif => ?_) (fun hif => ?_))
        · kd_p; kd_p
          refine ld h₂ (by lk) ?_
          kd_p
          refine ldc h₂ hst' (by lk) ?_
          refine ldc h₂ hu' (by lk) ?_
          refine fd_sub h₂ hfd hs3 sc_name fun s₃ h₃ => ?_
          refine notin_f h₃ hs4 ?_
          kd_p
          by_cases hin : one ∈ strictL as st rr u
          · rw [show decide (one ∉ strictL as st rr u) = false by simp [hin]]
            rw [if_neg Bool.false_ne_true, if_neg Bool.false_ne_true]
            rw [no fun q => q.2 hin, List.append_nil]
            exact ⟨_, h₃⟩
          · rw [show decide (one ∉ strictL as st rr u) = true by simp [hin]]
            rw [if_pos rfl]
            kd_p
            rw [if_pos rfl]
            refine ld h₃ (by lk) ?_
            refine append_intlp h₃ (a := b) (by lk) (by lia) (by kt_k) fun s₄ h₄ => ?_
            rw [List.filter_cons_of_pos (by simpa using ⟨hif, hin⟩), List.filter_nil]
            exact ⟨_, h₄⟩
        · rw [if_neg Bool.false_ne_true]
          rw [no fun q => q.1 (by simpa using hif), List.append_nil]
          exact ⟨_, h₂⟩
      · clear h h₁ h₂ h₃ h₄ h₅
        rintro E3 s ⟨vo, h⟩
        rw [List.take_length] at h
        refine end_f hA.handled h (it := it3) (by w_up) hs2 rfl fun s₁ h₁ => ⟨rfl, _, rfl, c, _, _, h₁, fun s₂ h₂ => ?_⟩
        refine spl_nil ?_
        have hfl : ((strictL as st rr v0).filter fun one => decide (one ≠ u ∧ one ∉ strictL as st rr u)).length ≤ 5 := Nat.le_trans (List.length_filter_le _ _) (hSlen v0)
        refine len_intlp h₂ (a := b) (by lk) (by lia) fun tl s₃ h₃ => ?_
        kd_p
        k_in
        kd_p
        have h₄ := (h₃.tok (s₃.toks + 1)).tailOf
        have hlast : (((strictL as st rr v0).filter fun one => decide (one ≠ u ∧ one ∉ strictL as st rr u)).length : Int) = 0 ↔ Last (strictL as st rr) v0 u := by
          rw [Int.natCast_eq_zero, List.length_eq_zero_iff, List.filter_eq_nil_iff]
          unfold Last
          constructor
          · intro q one h1 h2
            have := q one h1
            simp only [decide_eq_true_eq, not_and, Classical.not_not] at this
            exact this h2
          · intro q one h1
            simp only [decide_eq_true_eq, not_and, Classical.not_not]
            exact q one h1
        (with_reducible first | refine ite_dec (fun hif => ?_) (fun hif => ?_) | refine ite_beq (fun hif => ?_) (fun hif => ?_) | refine ite_bne (fun hif => ?_) (fun hif => ?_))
        · have hL := hlast.mp hif
          have hdn := di_nodup h₄ (a := dl) (by lk)
          have hdl : dk.length ≤ 5 := Nat.le_trans (nodup_len (f := dk) (l := rr.map nm) hdn fun k hk => by
            rcases hok.of k hk with ⟨v, hv, _, _, _, e, _⟩ | ⟨_, _, _, e, _⟩
            · exact List.mem_map.mpr ⟨v, List.mem_of_mem_take hv, e.symm⟩
            · exact List.mem_map.mpr ⟨v0, hv0r, e.symm⟩) (by rw [List.length_map]; exact hrlen)
          kd_p
          kd_p
          kd_p
          refine ldc h₄ le.names (by lk) ?_
          refine ldc h₄ le.u (by lk) ?_
          refine sub_f h₄ hnl d1 (by lia) (names_get d1 d2 n5) sc_name fun t1 => ?_
          refine ld h₄ (by lk) ?_
          kd_p
          refine ldc h₄ le.names (by lk) ?_
          refine ld h₄ (by lk) ?_
          refine sub_f h₄ hnl b1 (by lia) (names_get b1 b2 n5) sc_name fun t2 => ?_
          refine di_set (ov := some (nm u)) h₄ (a := dl) (by lk) ⟨_, rfl⟩ (by lia) (by kt_k) fun s₆ h₆ => ?_
          kd_p
          kd_p
          show ∃ _ _ _, _
          rw [hq0]
          exact ⟨_, _, _, hok.put hL, h₆.sub (by k_is)⟩
        · kd_p
          kd_p
          show ∃ _ _ _, _
          rw [hq0]
          exact ⟨_, _, _, hok.skip (fun q => hif (hlast.mpr q)), h₄.sub (by k_is)⟩
    · clear h h₁ h₂ h₃ h₄
      rintro E'' s ⟨dk, g, vu, hok', h⟩
      refine end_f hA.handled h .head hs2 rfl fun s₁ h₁ => ⟨rfl, ?_⟩
      kd_p
      kd_p
      rw [List.take_length] at hok'
      refine ⟨dk, g, some (.int v0 tv), vu, ?_, h₁.perm (.swap ..)⟩
      rw [List.take_succ_eq_append_getElem hi, hv0]
      exact hok'.next
  · clear h h₁
    rintro E' s hE1
    refine ex4 hE1 fun dk g vv vu hE2 => ?_
    clear hE1
    refine an2 hE2 fun hok h => ?_
    clear hE2
    refine end_f hA.handled h .head hrl rfl fun s₁ h₁ => ⟨rfl, ?_⟩
    kd_p
    rw [List.take_length] at hok
    exact k dk g vv vu _ hok h₁
end
end
section
open PySem PySem.Calls PyProof.Rows PySem.W PySem.W.X
open Sem (wp)
section
variable {prog : Program} {w : World} {A : Around} {E : Value → Shared → Prop} {c : Cfg} {S S' F : List Ent} {s : Shared} {a b : Addr} {env : Env}
theorem same_pairs {id : String} {ks ks' : List Int} {f g : Int → Option Int} {Q : Bool → Shared → Prop} (h : St c S s) (ha : (a, DI prog w ks f) ∈ S) (hb : (b, DI prog w ks' g) ∈ S) (hp : ks.Perm ks') (hv : ∀ k ∈ ks, ∃ n, f k = some n ∧ g k = some n)
    (hq : Q true s) : wpAny (model prog w) A (Builtin.Dict.samePairs id a b) Q E s := by
  have na := own_ne h ha
  have nb := own_ne h hb
  obtain ⟨o, ho, kvs, ⟨ep, es, hex, hd, hk, hps, hnd⟩, rfl, hvs⟩ := h.get ha
  obtain ⟨o', ho', kvs', ⟨ep', es', hex', hd', hks', hps', hnd'⟩, rfl, hvs'⟩ := h.get hb
  have hsz : es.size = kvs.length := by rw [← hps.length]; simp
  have hsz' : es'.size = kvs'.length := by rw [← hps'.length]; simp
  have hlen := hp.length_eq
  rw [List.length_map, List.length_map] at hlen
  unfold Builtin.Dict.samePairs Builtin.Dict.showsAll
  rw [if_neg (by rw [na]; exact Bool.false_ne_true), if_neg (by rw [nb]; exact Bool.false_ne_true)]
  refine wpAny_bind (wpAny_pure (wpAny_bind (wpAny_pure ?_)))
  refine wpAny_bind (wpAny_dictEntries ho hd ?_)
  refine wpAny_bind (wpAny_dictEntries ho' hd' ?_)
  rw [if_neg (by rw [hsz, hsz', hlen]; simp)]
  refine wpAny_bind (wpAny_dictEpoch ho hd ?_)
  rw [Std.Legacy.Range.forIn_eq_forIn_range']
  refine wpAny_bind ?_
  simp only [Std.Legacy.Range.size, Nat.sub_zero, Nat.add_sub_cancel, Nat.div_one]
  refine wpAny_forIn_list _ (fun rest r s' => s' = s ∧ r = ⟨none, PUnit.unit⟩ ∧ ∀ i ∈ rest, i < es.size) _ ?_ ?_ _ _ ⟨rfl, rfl, fun i hi => by simpa using hi⟩
  · rintro i rest r s' ⟨rfl, rfl, hr⟩
    have hi : i < es.size := hr i (.head _)
    refine wpAny_bind (wpAny_dictEntries ho hd ?_)
    rw [Array.getElem?_eq_getElem hi]
    dsimp only
    have hi' : i < kvs.length := by lia
    have hkv := hps.get? (e := es[i]) (k := kvs[i].1) (v := kvs[i].2) (i := i) (by simp [hi]) (by simp [hi'])
    have hmem : kvs[i] ∈ kvs := List.getElem_mem hi'
    obtain ⟨n, hf, hg⟩ := hv kvs[i].1 (List.mem_map_of_mem hmem)
    have hva := hvs kvs[i].1 kvs[i].2 hmem
    rw [hf] at hva
    obtain ⟨ta, hva⟩ := hva
    obtain ⟨k', hk', hh'⟩ := hk es[i] (Array.getElem_mem hi)
    have ek : k' = kvs[i].1 := (intKind prog w).inj _ _ _ hk' hkv.1
    rw [ek] at hh'
    rw [hh']
    refine wpAny_bind (wpAny_holding (wpAny_bind (wpAny_dictFind_of hkv.1 ho' hd' hks' ?_)))
    have hin : kvs[i].1 ∈ kvs'.map (·.1) := hp.mem_iff.mp (List.mem_map_of_mem hmem)
    cases hfi : es'.findIdx? fun e => (intKind prog w).is kvs[i].1 e.key with
    | none =>
      exfalso
      obtain ⟨p, hpm, hpe⟩ := List.mem_map.mp hin
      obtain ⟨j, hj, rfl⟩ := List.getElem_of_mem hpm
      have hj' : j < es'.size := by lia
      have h1 := (hps'.get? (e := es'[j]) (k := kvs'[j].1) (v := kvs'[j].2) (i := j) (by simp [hj']) (by simp [hj])).1
      have h2 := Array.findIdx?_eq_none_iff.mp hfi es'[j] (Array.getElem_mem hj')
      rw [hpe] at h1
      rw [h1] at h2
      cases h2
    | some j =>
      obtain ⟨hj, hjk, _⟩ := Array.findIdx?_eq_some_iff_getElem.mp hfi
      have hj' : j < kvs'.length := by lia
      have h1 := hps'.get? (e := es'[j]) (k := kvs'[j].1) (v := kvs'[j].2) (i := j) (by simp [hj]) (by simp [hj'])
      have ek' : kvs'[j].1 = kvs[i].1 := (intKind prog w).inj _ _ _ h1.1 hjk
      have hvb := hvs' kvs'[j].1 kvs'[j].2 (List.getElem_mem hj')
      rw [ek', hg] at hvb
      obtain ⟨tb, hvb⟩ := hvb
      refine wpAny_bind (wpAny_dictEntries ho' hd' ?_)
      rw [Array.getElem?_eq_getElem hj]
      refine wpAny_holding ?_
      rw [hkv.2, hva, h1.2, hvb]
      refine (intKind prog w).eqBool (a := n) (b := n) (by simp [intKind, Value.isInt]) (by simp [intKind, Value.isInt]) ?_
      simp only [decide_true, Bool.not_true, Bool.false_eq_true, if_false]
      refine wpAny_bind (wpAny_dictEpoch ho hd ?_)
      rw [if_neg (by simp)]
      exact wpAny_pure ⟨rfl, rfl, fun i hi => hr i (.tail _ hi)⟩
  · rintro r s' ⟨rfl, rfl, _⟩
    exact wpAny_pure hq
theorem di_ne_same {ks ks' : List Int} {f g : Int → Option Int} {Q : Value → Shared → Prop} (h : St c S s) (ha : (a, DI prog w ks f) ∈ S) (hb : (b, DI prog w ks' g) ∈ S) (hp : ks.Perm ks') (hv : ∀ k ∈ ks, ∃ n, f k = some n ∧ g k = some n) (hu : A.units < cLine)
    (hq : Q (.bool false) s) : wpAny (model prog w) A (compareOp .NotEq (.ref a) (.ref b)) Q E s := by
  have hTa := di_type h ha
  have hTb := di_type h hb
  show wpAny _ A (richCompare .NotEq _ _) Q E s
  refine wpAny_richCompare_same_room (T := "dict") hTa hTb PySem.F.slot_dict_ne (wpAny_call_entry PySem.F.slot_dict_ne hTa PySem.F.entry_dict_ne ?_ (PySem.F.args_dict_ne_2 _ _)) hu
  unfold Builtin.«dict.__ne__»
  show wpAny _ _ (Builtin.Dict.dictSlotArgs "__ne__" ⟨[.ref a, .ref b], []⟩ >>= _) _ _ _
  unfold Builtin.Dict.dictSlotArgs
  refine wpAny_bind (wpAny_bind (wpAny_notOrdered_dict hTa ?_))
  refine wpAny_bind (m := slotArgs "__ne__" 1 _) (wpAny_pure ?_)
  refine wpAny_pure ?_
  refine wpAny_bind (wpAny_isInstance hTb sub_dict_self ?_)
  show wpAny _ _ (Builtin.Dict.addrOf (.ref a) >>= fun x => Builtin.Dict.addrOf (.ref b) >>= fun y => Builtin.Dict.samePairs _ x y >>= fun r => ret (.bool (r == false))) _ _ _
  refine wpAny_bind (wpAny_pure (wpAny_bind (wpAny_pure ?_)))
  refine wpAny_bind (same_pairs h ha hb hp hv ?_)
  exact wpAny_pure ⟨_, rfl, (by intro q; cases q), hq⟩
theorem reads_ints {h : Heap} {vs : List Value} {ns : List Int} (hI : IntsAre vs ns) : ∃ as, ReadsAll h vs (ns.map .int) as := by
  induction hI with
  | nil => exact ⟨_, .nil⟩
  | cons n t _ ih =>
    obtain ⟨as, ha⟩ := ih
    exact ⟨_, .cons (.int n t) ha⟩
theorem lay_ints (ns : List Int) : PyData.canLay0 (.list (ns.map .int)) = true := by
  have : ∀ ns : List Int, PyData.canLayAll0 (ns.map .int) = true := by
    intro ns
    induction ns with
    | nil => simp [PyData.canLayAll0]
    | cons n r ih => simp [PyData.canLayAll0, PyData.canLay0, ih]
  simp [PyData.canLay0, this]
theorem depth_ints (ns : List Int) : PyData.depth (.list (ns.map .int)) ≤ 64 := by
  have : ∀ ns : List Int, PyData.depthAll (ns.map .int) ≤ 1 := by
    intro ns
    induction ns with
    | nil => simp [PyData.depthAll]
    | cons n r ih => simp [PyData.depthAll, PyData.depth]; lia
  have := this ns
  simp only [PyData.depth]
  lia
theorem eqv_ints (ns : List Int) : PyData.eqv (.list (ns.map .int)) (.list (ns.map .int)) = true := by
  have : ∀ ns : List Int, PyData.eqvAll (ns.map .int) (ns.map .int) = true := by
    intro ns
    induction ns with
    | nil => simp [PyData.eqvAll]
    | cons n r ih => simp [PyData.eqvAll, PyData.eqv, ih]
  simp [PyData.eqv, this]
theorem ne_ints_same {ns : List Int} {Q : Value → Shared → Prop} (h : St c S s) (ha : (a, IntLP ns) ∈ S) (hb : (b, IntLP ns) ∈ S) (hu : A.units + 64 < cLine) (hq : Q (.bool false) s) : wpAny (model prog w) A (compareOp .NotEq (.ref a) (.ref b)) Q E s := by
  obtain ⟨o, ho, vs, ⟨hc, _, n, hd⟩, hi⟩ := h.get ha
  obtain ⟨o', ho', vs', ⟨hc', _, n', hd'⟩, hi'⟩ := h.get hb
  obtain ⟨as, r1⟩ := reads_ints (h := s.heap) hi
  obtain ⟨bs, r2⟩ := reads_ints (h := s.heap) hi'
  refine ne_dataH (da := .list (ns.map .int)) (db := .list (ns.map .int)) (.list ho hc hd (by simpa using r1)) (.list ho' hc' hd' (by simpa using r2)) ?_ ?_ hu ?_
  · unfold PySem.SeqAt.shaped; rw [lay_ints]; simpa using depth_ints ns
  · unfold PySem.SeqAt.shaped; rw [lay_ints]; simpa using depth_ints ns
  · rw [eqv_ints]; exact hq
end
end
section
open PySem PySem.Calls PyProof.Rows PySem.W PySem.W.X
open Sem (wp)
structure RunOk (prog : Program) (w : World) (Z : Addr → Option Obj) (x dx nd sa pa : Addr) (at0 : List (Str × Value)) (ks : List Int) (su pr : Int → List Int) (st : Int) (l : List (Int × Bool)) (L : List Int) : Prop where
  g : FGr prog w Z nd sa pa ks su pr
  at_ : GAt at0 nd sa pa
  no : valueAt at0 "pred" = none
  z : at0.length ≤ 100
  kn : ks.Nodup
  kz : ks.length ≤ 50
  cl : ∀ k ∈ ks, ∀ y ∈ su k, y ∈ ks
  ms : st ∈ ks
  T : Tr su st [(st, 0)] [st] l
  eL : outL l = L.reverse ++ [st]
  nd : (outL l).Nodup
  len : (outL l).length ≤ 50
  b0 : Base0 st L pr (idx (outL l))
  Lg : ∀ u ∈ L, u ∈ ks
  h5 : ∀ u ∈ ks, u ∈ names5
  pl : ∀ u ∈ ks, (pr u).length ≤ 100
theorem RunOk.le {prog : Program} {w : World} {c c' : Cfg} {x dx nd sa pa : Addr} {at0 : List (Str × Value)} {ks : List Int} {su pr : Int → List Int} {st : Int} {l : List (Int × Bool)} {L : List Int} (r : RunOk prog w c.Z x dx nd sa pa at0 ks su pr st l L) (h : Zle c c') : RunOk prog w c'.Z x dx nd sa pa at0 ks su pr st l L :=
  { r with g := r.g.le h }
section
variable {prog : Program} {w : World} {A : Around} {E : Value → Shared → Prop} {c : Cfg} {S S' F : List Ent} {s : Shared} {a : Addr} {env : Env}
theorem law_15 {Q : Flow → Shared → Prop} {sl c1 c2 c3 c4 c5 al nl x dx nd sa pa lf rs rl dl sd : Addr} {at0 : List (Str × Value)} {ks : List Int} {su pr : Int → List Int} {n s0 : Int} {tn ts : Tok} {vv vu : Option Value} {l : List (Int × Bool)} {L dk : List Int} {g : Int → Option Int} (hB : KZ w c.Z) (hA : Room A 36) (le : LawE env c1 c2 c3 c4 c5)
    (hnl : FInts c.Z nl (names5.take n.toNat)) (n5 : n ≤ 5) (hs0 : 0 ≤ s0) (hs1 : s0 < n) (R : RunOk prog w c.Z x dx nd sa pa at0 ks su pr (nm s0) l L)
    (hdue : ∀ f, Tree (nm s0) (nm s0 :: L) (idx (outL l)) f → (∀ w ∈ nm s0 :: L, ∀ x, Anc f w x ↔ Dm (nm s0) (nm s0 :: L) pr (idx (outL l)) x w) → L.Perm dk ∧ ∀ k ∈ L, ∃ n, f k = some n ∧ g k = some n)
    (h : St c ((env.locals, FrP env [("script", some (.ref sl)), ("v", vv), ("arrows", some (.ref al)), ("graph", some (.ref x)), ("left", some (.ref lf)), ("rest", some (.ref rs)), ("start", some (.int s0 ts)), ("refused", none), ("reach", some (.ref rl)), ("due", some (.ref dl)), ("told", none), ("ends", none), ("p", none)]) :: (dl, DI prog w dk g) :: (c5, CellP (some (.ref sd))) :: (c4, CellP (some (.ref nl))) :: (c3, CellP vu) :: (c2, CellP (some (.int n tn))) :: (x, InsP dx) :: (dx, IDicP prog w at0) :: (43, TabP TT) :: (84, TabP (T84 w.params none)) :: F) s)
    (k : ∀ kc at₁ c' s', Cg c c' → AtP at0 pa at₁ → St c' ((env.locals, FrP env [("script", some (.ref sl)), ("v", vv), ("arrows", some (.ref al)), ("graph", some (.ref x)), ("left", some (.ref lf)), ("rest", some (.ref rs)), ("start", some (.int s0 ts)), ("refused", none), ("reach", some (.ref rl)), ("due", some (.ref dl)), ("told", none), ("ends", none), ("p", none)]) :: (dl, DI prog w dk g) :: (c5, CellP (some (.ref sd))) :: (c4, CellP (some (.ref nl))) :: (c3, CellP vu) :: (c2, CellP (some (.int n tn))) :: (x, InsP dx) :: (dx, IDicP prog w at₁) :: (43, TabP TT) :: (84, TabP (T84 w.params (some kc))) :: (kc, CodeP iQ) :: F) s' → Q .next s') :
    wpG (model prog w) A (exec (lawS 15) env) Q E s := by
  have ge := le.ge
  show wpG _ _ (exec (.If (.Compare (.Call _ [_, .Subscript _ _ _] _ _) _ _ _) _ _ _) env) _ _ _
  refine g_If ?_
  refine g_isTrue_cmp ?_ rfl
  refine g_call_fn h hB.toGB ge (by lk) (fa := 87) (by lk) (hB.k 87 _ rfl (by decide) (by decide)) rfl rfl ?_
  refine spl_cons (ld h (by lk) ?_) rfl
  refine spl_cons ?_ rfl
  kd_p
  refine ldc h le.names (by lk) ?_
  refine ld h (by lk) ?_
  refine sub_f h hnl hs0 (by lia) (names_get hs0 hs1 n5) sc_name fun t1 => ?_
  refine spl_nil ⟨⟨_, h⟩, g_call ?_⟩
  refine idom_spec (tb := none) (F := (env.locals, FrP env [("script", some (.ref sl)), ("v", vv), ("arrows", some (.ref al)), ("graph", some (.ref x)), ("left", some (.ref lf)), ("rest", some (.ref rs)), ("start", some (.int s0 ts)), ("refused", none), ("reach", some (.ref rl)), ("due", some (.ref dl)), ("told", none), ("ends", none), ("p", none)]) :: (dl, DI prog w dk g) :: (c5, CellP (some (.ref sd))) :: (c4, CellP (some (.ref nl))) :: (c3, CellP vu) :: (c2, CellP (some (.int n tn))) :: F) (h.sub (S' := (x, InsP dx) :: (dx, IDicP prog w at0) :: (43, TabP TT) :: (84, TabP (T84 w.params none)) :: (env.locals, FrP env [("script", some (.ref sl)), ("v", vv), ("arrows", some (.ref al)), ("graph", some (.ref x)), ("left", some (.ref lf)), ("rest", some (.ref rs)), ("start", some (.int s0 ts)), ("refused", none), ("reach", some (.ref rl)), ("due", some (.ref dl)), ("told", none), ("ends", none), ("p", none)]) :: (dl, DI prog w dk g) :: (c5, CellP (some (.ref sd))) :: (c4, CellP (some (.ref nl))) :: (c3, CellP vu) :: (c2, CellP (some (.int n tn))) :: F) (by k_is)) hB hA.less R.g R.at_ R.no R.z .no R.kn R.kz R.cl R.ms R.T R.eL R.nd R.len R.b0 R.Lg fun I f kc c' at₁ s₁ hat hcg hTr hAn h₁ => ?_
  obtain ⟨d1, d2⟩ := hdue f hTr hAn
  have h₂ := h₁.sub (.cons (a := env.locals) (by w_up) (fun _ q => q) .refl)
  refine ld h₂ (by lk) ?_
  refine di_ne_same h₂ (a := I) (b := dl) (by lk) (by lk) d1 d2 hA.cl ?_
  kd_p
  refine itf rfl ?_
  exact g_nil_ (k kc at₁ c' s₁ hcg hat (h₂.sub (by k_is)))
end
end
section
open PySem PySem.Calls PyProof.Rows PySem.W PySem.W.X
open Sem (wp)
structure CE (c c' : Cfg) : Prop where
  z : Zle c c'
  os : c'.os = c.os
  g : ∀ (i : Nat) (y : GenState), c'.gens[i]? = some y → c.gens[i]? = some y ∨ y = .finished
theorem CE.trans {a b c : Cfg} (x : CE a b) (y : CE b c) : CE a c := ⟨x.z.trans y.z, y.os.trans x.os, fun i v h => (y.g i v h).elim (fun h => x.g i v h) .inr⟩
theorem CE.ext {c c' : Cfg} (x : Ext c c') : CE c c' := ⟨x.z, x.os, fun i y h => .inl (by rw [x.gens] at h; exact h)⟩
theorem CE.cg {c c' : Cfg} (x : Cg c c') : CE c c' := ⟨fun a o h => by rw [x.z]; exact h, x.os, fun i y h => by
  rcases Nat.lt_or_ge i c.gens.size with q | q
  · rw [x.old i q] at h; exact .inl h
  · exact .inr (x.new i y q h)⟩
theorem FInts.le {c c' : Cfg} {l : Addr} {ns : List Int} (h : FInts c.Z l ns) (x : Zle c c') : FInts c'.Z l ns := let ⟨o, vs, n, hz, r⟩ := h; ⟨o, vs, n, x _ _ hz, r⟩
theorem Tups.le {c c' : Cfg} {vs : List Value} {as : List (Int × Int)} (x : Zle c c') (h : Tups c.Z vs as) : Tups c'.Z vs as := by
  induction h with
  | nil => exact .nil
  | cons h1 h2 _ ih => exact .cons (x _ _ h1) h2 ih
theorem FArr.le {c c' : Cfg} {l : Addr} {as : List (Int × Int)} (h : FArr c.Z l as) (x : Zle c c') : FArr c'.Z l as := let ⟨o, vs, n, hz, hc, hd, ht⟩ := h; ⟨o, vs, n, x _ _ hz, hc, hd, ht.le x⟩
theorem sorted_eq : ∀ {l m : List Int}, l.Perm m → l.Pairwise (· ≤ ·) → m.Pairwise (· ≤ ·) → l = m
  | [], m, h, _, _ => by rw [List.nil_perm.mp h]
  | x :: r, [], h, _, _ => by have := h.length_eq; simp at this
  | x :: r, y :: t, h, h1, h2 => by
    rw [List.pairwise_cons] at h1 h2
    have e : x = y := by
      rcases List.mem_cons.mp (h.mem_iff.mp (.head _)) with q | q
      · exact q
      · rcases List.mem_cons.mp (h.mem_iff.mpr (List.mem_cons_self (a := y) (l := t))) with q' | q'
        · exact q'.symm
        · have a1 := h2.1 x q
          have a2 := h1.1 y q'
          lia
    subst e
    rw [sorted_eq (List.Perm.cons_inv h) h1.2 h2.2]
section
variable {prog : Program} {w : World} {A : Around} {E : Value → Shared → Prop} {c : Cfg} {S S' F : List Ent} {s : Shared} {a : Addr} {env : Env}
theorem list_collect {ns : List Int} {Q : List Value → Shared → Prop} (h : St c S s) (hm : (a, IntLP ns) ∈ S) (hz : ns.length ≤ 900)
    (hq : ∀ vs s', IntsAre vs ns → St c S s' → Q vs s') : wpAny (model prog w) A (collect (.ref a)) Q E s := by
  obtain ⟨o, ho, vs, ⟨hc, hdi, n, hd⟩, hi⟩ := h.get hm
  have hlen := hi.length
  refine collect_list (vs := vs) ⟨o, ho, hc, n, hd⟩ (hq vs _ hi (h.more (t := s.toks) fun b o e => ?_)) (by rw [sizeLine_eq]; lia)
  have hlt : s.heap.objs.size ≠ b := Nat.ne_of_gt (Heap.lt_size e)
  rw [Heap.get?_update_other _ _ hlt]
  exact Heap.get?_push_of_some _ e
theorem sorted_list {ns : List Int} {Q : Value → Shared → Prop} (hA : Room A 4) (h : St c S s) (hm : (a, IntLP ns) ∈ S) (hz : ns.length ≤ 60)
    (hq : ∀ b ms s', ms.Perm ns → ms.Pairwise (· ≤ ·) → St c ((b, IntLP ms) :: S) s' → Q (.ref b) s') : wpAny (model prog w) A (call (.builtin "sorted") [.ref a]) Q E s := by
  refine sorted_st (c := c) (S := S) (l := ns) hA (fun {Q' E'} hq' => ?_) hz hq
  exact list_collect h hm (by lia) fun vs s' hi h' => hq' vs ns s' hi (.refl _) h'
theorem sorted_fdic {kvs : List (Int × Value)} {ep : Nat} {Q : Value → Shared → Prop} (hA : Room A 4) (h : St c S s) (hf : FDic prog w c.Z a kvs ep) (hz : kvs.length ≤ 60)
    (hq : ∀ b ms s', ms.Perm (kvs.map (·.1)) → ms.Pairwise (· ≤ ·) → St c ((b, IntLP ms) :: S) s' → Q (.ref b) s') : wpAny (model prog w) A (call (.builtin "sorted") [.ref a]) Q E s := by
  refine sorted_st (c := c) (S := S) (l := kvs.map (·.1)) hA (fun {Q' E'} hq' => ?_) (by rw [List.length_map]; exact hz) hq
  exact fdic_collect hA.in1 h hf (by lia) fun vs s' hi h' => hq' vs _ s' hi (.refl _) h'
theorem sorted_q {l : List Int} {Q : Value → Shared → Prop} (hA : Room A 4) (h : St c S s) (tk : Take S (a, SetQ prog w l) F) (hz : l.length ≤ 60)
    (hq : ∀ b ms s', ms.Perm l → ms.Pairwise (· ≤ ·) → St c ((b, IntLP ms) :: S) s' → Q (.ref b) s') : wpAny (model prog w) A (call (.builtin "sorted") [.ref a]) Q E s := by
  refine sorted_st (c := c) (S := S) (l := l) hA (fun {Q' E'} hq' => ?_) hz hq
  exact q_collect hA.in1 h tk fun vs ns s' hi hp h' => hq' vs ns s' hi hp h'
theorem law_16 {Q : Flow → Shared → Prop} {sl c1 c2 c3 c4 c5 al nl x dx nd sa pa lf rs rl dl sd kc : Addr} {at0 at' : List (Str × Value)} {ks : List Int} {su pr : Int → List Int} {n s0 : Int} {tn ts : Tok} {vv vu : Option Value} {l : List (Int × Bool)} {L dk : List Int} {g : Int → Option Int} (hB : KZ w c.Z) (hA : Room A 36) (le : LawE env c1 c2 c3 c4 c5)
    (hnl : FInts c.Z nl (names5.take n.toNat)) (n5 : n ≤ 5) (hs0 : 0 ≤ s0) (hs1 : s0 < n) (R : RunOk prog w c.Z x dx nd sa pa at0 ks su pr (nm s0) l L) (hat : AtP at0 pa at')
    (h : St c ((env.locals, FrP env [("script", some (.ref sl)), ("v", vv), ("arrows", some (.ref al)), ("graph", some (.ref x)), ("left", some (.ref lf)), ("rest", some (.ref rs)), ("start", some (.int s0 ts)), ("refused", none), ("reach", some (.ref rl)), ("due", some (.ref dl)), ("told", none), ("ends", none), ("p", none)]) :: (dl, DI prog w dk g) :: (c5, CellP (some (.ref sd))) :: (c4, CellP (some (.ref nl))) :: (c3, CellP vu) :: (c2, CellP (some (.int n tn))) :: (x, InsP dx) :: (dx, IDicP prog w at') :: (43, TabP TT) :: (84, TabP (T84 w.params (some kc))) :: (kc, CodeP iQ) :: F) s)
    (k : ∀ D ad ls kk c' f ep s', CE c c' → (∀ w ∈ nm s0 :: L, ∀ x, Anc f w x ↔ Dm (nm s0) (nm s0 :: L) pr (idx (outL l)) x w) → Tree (nm s0) (nm s0 :: L) (idx (outL l)) f → FDic prog w c'.Z D ((L ++ [nm s0]).map fun y => (y, .ref (ad y))) ep →
      (∀ v ∈ L ++ [nm s0], ∀ y, y ∈ ls v ↔ (y ∈ L ++ [nm s0] ∧ DF f (nm s0 :: L) pr v y)) →
      St c' ((env.locals, FrP env [("script", some (.ref sl)), ("v", vv), ("arrows", some (.ref al)), ("graph", some (.ref x)), ("left", some (.ref lf)), ("rest", some (.ref rs)), ("start", some (.int s0 ts)), ("refused", none), ("reach", some (.ref rl)), ("due", some (.ref dl)), ("told", some (.ref D)), ("ends", none), ("p", none)]) :: (dl, DI prog w dk g) :: (c5, CellP (some (.ref sd))) :: (c4, CellP (some (.ref nl))) :: (c3, CellP vu) :: (c2, CellP (some (.int n tn))) :: (setsE prog w (L ++ [nm s0]) ad ls ++ ((43, TabP TT) :: (84, TabP (T84 w.params (some kk))) :: F))) s' → Q .next s') :
    wpG (model prog w) A (exec (lawS 16) env) Q E s := by
  have ge := le.ge
  show wpG _ _ (exec (.Assign [.Name _ _] (.Call _ [_, .Subscript _ _ _] _ _) _) env) _ _ _
  refine g_AssignName ?_ rfl
  refine g_call_fn h hB.toGB ge (by lk) (fa := 92) (by lk) (hB.k 92 _ rfl (by decide) (by decide)) rfl rfl ?_
  refine spl_cons (ld h (by lk) ?_) rfl
  refine spl_cons ?_ rfl
  kd_p
  refine ldc h le.names (by lk) ?_
  refine ld h (by lk) ?_
  refine sub_f h hnl hs0 (by lia) (names_get hs0 hs1 n5) sc_name fun t1 => ?_
  refine spl_nil ⟨⟨_, h⟩, g_call ?_⟩
  have h₁ : St c ((x, InsP dx) :: (dx, IDicP prog w at') :: (43, TabP TT) :: (84, TabP (T84 w.params (some kc))) :: (codeE (some kc) ++ ((env.locals, FrP env [("script", some (.ref sl)), ("v", vv), ("arrows", some (.ref al)), ("graph", some (.ref x)), ("left", some (.ref lf)), ("rest", some (.ref rs)), ("start", some (.int s0 ts)), ("refused", none), ("reach", some (.ref rl)), ("due", some (.ref dl)), ("told", none), ("ends", none), ("p", none)]) :: (dl, DI prog w dk g) :: (c5, CellP (some (.ref sd))) :: (c4, CellP (some (.ref nl))) :: (c3, CellP vu) :: (c2, CellP (some (.int n tn))) :: F))) s :=
    h.sub (S' := (x, InsP dx) :: (dx, IDicP prog w at') :: (43, TabP TT) :: (84, TabP (T84 w.params (some kc))) :: (kc, CodeP iQ) :: (env.locals, FrP env [("script", some (.ref sl)), ("v", vv), ("arrows", some (.ref al)), ("graph", some (.ref x)), ("left", some (.ref lf)), ("rest", some (.ref rs)), ("start", some (.int s0 ts)), ("refused", none), ("reach", some (.ref rl)), ("due", some (.ref dl)), ("told", none), ("ends", none), ("p", none)]) :: (dl, DI prog w dk g) :: (c5, CellP (some (.ref sd))) :: (c4, CellP (some (.ref nl))) :: (c3, CellP vu) :: (c2, CellP (some (.int n tn))) :: F) (by k_is)
  refine df_spec h₁ hB hA.less R.g R.at_ R.no R.z hat R.kn R.kz R.cl R.ms R.T R.eL R.nd R.len R.b0 R.Lg R.h5 R.pl fun D ad ls k' c' c'' at₁ f ep s₁ hat₁ hcg hx hAn hTr hfd hls h₂ => ?_
  show wpAny _ _ (storeName env _ _) _ _ _
  have h₂' : St c'' ((setsE prog w (L ++ [nm s0]) ad ls) ++ ([(43, TabP TT), (84, TabP (T84 w.params (some k')))] ++ ((env.locals, FrP env [("script", some (.ref sl)), ("v", vv), ("arrows", some (.ref al)), ("graph", some (.ref x)), ("left", some (.ref lf)), ("rest", some (.ref rs)), ("start", some (.int s0 ts)), ("refused", none), ("reach", some (.ref rl)), ("due", some (.ref dl)), ("told", none), ("ends", none), ("p", none)]) :: (dl, DI prog w dk g) :: (c5, CellP (some (.ref sd))) :: (c4, CellP (some (.ref nl))) :: (c3, CellP vu) :: (c2, CellP (some (.int n tn))) :: F))) s₁ :=
    St.back [(43, TabP TT), (84, TabP (T84 w.params (some k')))] (setsE prog w (L ++ [nm s0]) ad ls) (h₂.tailOf.tailOf.sub (.cons (a := 43) Take.head (fun _ q => q) (.cons (a := 84) Take.head (fun _ q => q) (.drop (.refl : Sub (setsE prog w (L ++ [nm s0]) ad ls ++ _) _)))))
  have h₃ : St c'' ((env.locals, FrP env [("script", some (.ref sl)), ("v", vv), ("arrows", some (.ref al)), ("graph", some (.ref x)), ("left", some (.ref lf)), ("rest", some (.ref rs)), ("start", some (.int s0 ts)), ("refused", none), ("reach", some (.ref rl)), ("due", some (.ref dl)), ("told", none), ("ends", none), ("p", none)]) :: (dl, DI prog w dk g) :: (c5, CellP (some (.ref sd))) :: (c4, CellP (some (.ref nl))) :: (c3, CellP vu) :: (c2, CellP (some (.int n tn))) :: (setsE prog w (L ++ [nm s0]) ad ls ++ ((43, TabP TT) :: (84, TabP (T84 w.params (some k'))) :: F))) s₁ := by
    have h₂'' : St c'' ((setsE prog w (L ++ [nm s0]) ad ls ++ [(43, TabP TT), (84, TabP (T84 w.params (some k')))]) ++ ([(env.locals, FrP env [("script", some (.ref sl)), ("v", vv), ("arrows", some (.ref al)), ("graph", some (.ref x)), ("left", some (.ref lf)), ("rest", some (.ref rs)), ("start", some (.int s0 ts)), ("refused", none), ("reach", some (.ref rl)), ("due", some (.ref dl)), ("told", none), ("ends", none), ("p", none)]), (dl, DI prog w dk g), (c5, CellP (some (.ref sd))), (c4, CellP (some (.ref nl))), (c3, CellP vu), (c2, CellP (some (.int n tn)))] ++ F)) s₁ := by
      rw [List.append_assoc]; exact h₂'
    have h₂4 := St.back (setsE prog w (L ++ [nm s0]) ad ls ++ [(43, TabP TT), (84, TabP (T84 w.params (some k')))]) [(env.locals, FrP env [("script", some (.ref sl)), ("v", vv), ("arrows", some (.ref al)), ("graph", some (.ref x)), ("left", some (.ref lf)), ("rest", some (.ref rs)), ("start", some (.int s0 ts)), ("refused", none), ("reach", some (.ref rl)), ("due", some (.ref dl)), ("told", none), ("ends", none), ("p", none)]), (dl, DI prog w dk g), (c5, CellP (some (.ref sd))), (c4, CellP (some (.ref nl))), (c3, CellP vu), (c2, CellP (some (.int n tn)))] h₂''
    rw [List.append_assoc] at h₂4
    exact h₂4
  refine sto h₃ (by room) fun s₂ h₄ => ?_
  exact k D ad ls k' c'' f ep s₂ ((CE.cg hcg).trans (CE.ext hx)) hAn hTr hfd hls h₄
end
end
section
open PySem PySem.Calls PyProof.Rows PySem.W PySem.W.X
open Sem (wp)
section
variable {prog : Program} {w : World} {A : Around} {E : Value → Shared → Prop} {c : Cfg} {S S' F : List Ent} {s : Shared} {a : Addr} {env : Env}
theorem law_17 {Q : Flow → Shared → Prop} {sl c1 c2 c3 c4 c5 al nl x lf rs rl dl sd D : Addr} {n s0 : Int} {tn ts : Tok} {vv vu ve vp : Option Value} {K rr dk : List Int} {g : Int → Option Int} {ad : Int → Addr} {ep : Nat} (hB : KZ w c.Z) (hA : Room A 20) (le : LawE env c1 c2 c3 c4 c5)
    (hnl : FInts c.Z nl (names5.take n.toNat)) (n5 : n ≤ 5) (hrl : FInts c.Z rl rr) (hrr : ∀ x ∈ rr, 0 ≤ x ∧ x < n) (hrlen : rr.length ≤ 5) (hfd : FDic prog w c.Z D (K.map fun y => (y, .ref (ad y))) ep) (hK : K.Perm (rr.map nm))
    (h : St c ((env.locals, FrP env [("script", some (.ref sl)), ("v", vv), ("arrows", some (.ref al)), ("graph", some (.ref x)), ("left", some (.ref lf)), ("rest", some (.ref rs)), ("start", some (.int s0 ts)), ("refused", none), ("reach", some (.ref rl)), ("due", some (.ref dl)), ("told", some (.ref D)), ("ends", ve), ("p", vp)]) :: (dl, DI prog w dk g) :: (c5, CellP (some (.ref sd))) :: (c4, CellP (some (.ref nl))) :: (c3, CellP vu) :: (c2, CellP (some (.int n tn))) :: F) s)
    (k : ∀ s', St c ((env.locals, FrP env [("script", some (.ref sl)), ("v", vv), ("arrows", some (.ref al)), ("graph", some (.ref x)), ("left", some (.ref lf)), ("rest", some (.ref rs)), ("start", some (.int s0 ts)), ("refused", none), ("reach", some (.ref rl)), ("due", some (.ref dl)), ("told", some (.ref D)), ("ends", ve), ("p", vp)]) :: (dl, DI prog w dk g) :: (c5, CellP (some (.ref sd))) :: (c4, CellP (some (.ref nl))) :: (c3, CellP vu) :: (c2, CellP (some (.int n tn))) :: F) s' → Q .next s') :
    wpAny (model prog w) A (exec (lawS 17) env) Q E s := by
  have ge := le.ge
  have hKl : K.length ≤ 5 := by rw [hK.length_eq, List.length_map]; exact hrlen
  show wpAny _ _ (exec (.If (.Compare (.Call _ _ _ _) _ [.Call _ [.ListComp _ [⟨_, _, [], 0⟩] _ _] _ _] _) _ _ _) env) _ _ _
  kd_p
  kd_p
  refine call_bi h hB.toGB ge (by lk) (by lk) rfl ?_
  refine spl_cons (ld h (by lk) ?_) rfl
  refine spl_nil ?_
  refine sorted_fdic hA.less h hfd (by rw [List.length_map]; lia) fun b1 m1 s₁ p1 q1 h₁ => ?_
  rw [List.map_map] at p1
  have p1 : m1.Perm K := by simpa [Function.comp_def] using p1
  replace h₁ := h₁.perm (.swap ..)
  refine call_bi h₁ hB.toGB ge (by lk) (by lk) rfl ?_
  refine spl_cons ?_ rfl
  refine listcomp_st (c := c) (l := [("v", none)]) (cl := [("names", c4)]) (fun _ => rfl) (closure_of le.cs rfl) rfl rfl (by rfl) rfl ?_
  refine ld h₁ (by lk) ?_
  refine iter_f h₁ hrl fun it s₂ h₂ => ⟨_, h₂, fun cenv b s₃ hC h₃ => ?_⟩
  have hn' : Cel cenv "names" c4 := hC.free (by rfl) (by rfl) (by rfl) (by decide)
  refine listcomp_start (by rfl) (fun E' Q' hq => list_self h₃ (a := it) (by lk) hq) ?_
  let T : List Ent := (env.locals, FrP env [("script", some (.ref sl)), ("v", vv), ("arrows", some (.ref al)), ("graph", some (.ref x)), ("left", some (.ref lf)), ("rest", some (.ref rs)), ("start", some (.int s0 ts)), ("refused", none), ("reach", some (.ref rl)), ("due", some (.ref dl)), ("told", some (.ref D)), ("ends", ve), ("p", vp)]) :: (b1, IntLP m1) :: (dl, DI prog w dk g) :: (c5, CellP (some (.ref sd))) :: (c4, CellP (some (.ref nl))) :: (c3, CellP vu) :: (c2, CellP (some (.int n tn))) :: F
  refine listcomp_loop rr.length (fun i s => ∃ vo, St c ((cenv.locals, FrP cenv [("v", vo)]) :: (b, IntLP ((rr.take i).map nm)) :: (it, LItP rl i) :: T) s)
    (by rfl) (by rfl) ?_ ?_ ⟨none, h₃.sub (.cons (a := cenv.locals) (by w_up) (fun _ q => q) (.cons (a := b) (by w_up) (intlp_of .nil) (by k_is)))⟩
  · clear h h₁ h₂ h₃
    rintro E3 i s hi ⟨vo, h⟩
    refine next_f h (a := rl) (it := it) (by lk) hrl (x := rr[i]) (by simp [hi]) (by kt_k) fun to s₁ h₁ => ⟨_, rfl, ?_⟩
    refine letOwned_name ?_
    refine wpAny_assign_Name ?_
    refine sto h₁ (by room) fun s₂ h₂ => ?_
    rw [List.take_succ_eq_append_getElem hi, List.map_append]
    have hm : rr[i] ∈ rr := List.getElem_mem hi
    generalize rr[i] = u at h₂ hm
    obtain ⟨d1, d2⟩ := hrr u hm
    refine tests_nil ?_
    refine itt rfl ?_
    kd_p
    refine ldc h₂ hn' (by lk) ?_
    refine ld h₂ (by lk) ?_
    refine sub_f h₂ hnl d1 (by lia) (names_get d1 d2 n5) sc_name fun t1 => ?_
    refine append_intlp h₂ (a := b) (by lk) (by rw [List.length_map, List.length_take]; lia) (by kt_k) fun s₃ h₃ => ?_
    exact ⟨_, h₃⟩
  · clear h h₁ h₂ h₃
    rintro E3 s ⟨vo, h⟩
    rw [List.take_length] at h
    refine end_f hA.handled h (it := it) (by w_up) hrl rfl fun s₁ h₁ => ⟨rfl, _, rfl, c, _, _, h₁, fun s₂ h₂ => ?_⟩
    refine spl_nil ?_
    refine sorted_list hA.less h₂ (a := b) (by lk) (by rw [List.length_map]; lia) fun b2 m2 s₃ p2 q2 h₃ => ?_
    have em : m1 = m2 := sorted_eq (p1.trans (hK.trans p2.symm)) q1 q2
    subst em
    refine ne_ints_same h₃ (a := b1) (b := b2) (by lk) (by lk) (by have := hA.units; show _ < 9900; lia) ?_
    kd_p
    refine itf rfl ?_
    kd_p
    exact k _ (h₃.sub (by k_is))
theorem law_19 {Q : Flow → Shared → Prop} {sl c1 c2 c3 c4 c5 al x lf rs rl dl D : Addr} {s0 : Int} {ts : Tok} {vv ve vp : Option Value} {rr dk : List Int} {g : Int → Option Int} (hB : KZ w c.Z) (hA : Room A 20) (le : LawE env c1 c2 c3 c4 c5)
    (hrl : FInts c.Z rl rr) (hrlen : rr.length ≤ 5) (hdk : dk.length + 1 = rr.length)
    (h : St c ((env.locals, FrP env [("script", some (.ref sl)), ("v", vv), ("arrows", some (.ref al)), ("graph", some (.ref x)), ("left", some (.ref lf)), ("rest", some (.ref rs)), ("start", some (.int s0 ts)), ("refused", none), ("reach", some (.ref rl)), ("due", some (.ref dl)), ("told", some (.ref D)), ("ends", ve), ("p", vp)]) :: (dl, DI prog w dk g) :: F) s) (k : ∀ s', (∃ S₁, St c (S₁ ++ F) s') → Q (.ret (.bool true)) s') :
    wpAny (model prog w) A (exec (lawS 19) env) Q E s := by
  have ge := le.ge
  show wpAny _ _ (exec (.Return (some _) _) env) _ _ _
  kd_p
  kd_p
  kd_p
  refine call_bi h hB.toGB ge (by lk) (by lk) rfl ?_
  refine spl_cons (ld h (by lk) ?_) rfl
  refine spl_nil ?_
  refine di_len h (a := dl) (by lk) (by lia) fun t1 s₁ h₁ => ?_
  kd_p
  k_in
  replace h₁ := h₁.tok (s₁.toks + 1 + 1)
  refine call_bi h₁ hB.toGB ge (by lk) (by lk) rfl ?_
  refine spl_cons (ld h₁ (by lk) ?_) rfl
  refine spl_nil ?_
  obtain ⟨vs, hvl, hvi⟩ := fints_list h₁ hrl
  have hlv := hvi.length
  rw [Array.length_toList] at hlv
  refine call_len_list hvl (by lia) ?_
  k_in
  have e : ((dk.length : Int) + 1 == (vs.size : Int)) = true := by rw [hlv]; simp; lia
  first
    | (rw [e]; exact k _ ⟨[_, _], h₁.tok _⟩)
    | (simp only [hlv]; exact k _ ⟨[_, _], h₁.tok _⟩)
end
end
section
open PySem PySem.Calls PyProof.Rows PySem.W PySem.W.X
open Sem (wp)
structure EndsOk (S : Int → List Int) (rr : List Int) (u : Int) (pre : List (Int × Int)) (es : List Int) : Prop where
  nd : es.Nodup
  mem : ∀ y, y ∈ es ↔ ∃ q ∈ pre, (q.1 ∈ rr ∧ (q.1 = u ∨ u ∈ S q.1) ∧ u ∉ S q.2) ∧ y = nm q.2
theorem EndsOk.skip {S : Int → List Int} {rr : List Int} {u : Int} {pre : List (Int × Int)} {es : List Int} {q : Int × Int} (h : EndsOk S rr u pre es) (hn : (q.1 ∈ rr ∧ (q.1 = u ∨ u ∈ S q.1) ∧ u ∉ S q.2) → nm q.2 ∈ es) : EndsOk S rr u (pre ++ [q]) es where
  nd := h.nd
  mem y := by
    rw [h.mem]
    constructor
    · rintro ⟨p, hp, r⟩
      exact ⟨p, List.mem_append_left _ hp, r⟩
    · rintro ⟨p, hp, r, e⟩
      rcases List.mem_append.mp hp with hp | hp
      · exact ⟨p, hp, r, e⟩
      · rw [List.mem_singleton] at hp
        subst hp
        rw [e]
        exact (h.mem _).mp (hn r)
theorem EndsOk.put {S : Int → List Int} {rr : List Int} {u : Int} {pre : List (Int × Int)} {es : List Int} {q : Int × Int} (h : EndsOk S rr u pre es) (hc : q.1 ∈ rr ∧ (q.1 = u ∨ u ∈ S q.1) ∧ u ∉ S q.2) (hn : nm q.2 ∉ es) : EndsOk S rr u (pre ++ [q]) (es ++ [nm q.2]) where
  nd := by
    rw [List.nodup_append]
    exact ⟨h.nd, by simp, fun x hx y hy => by rw [List.mem_singleton] at hy; rw [hy]; exact fun e => hn (e ▸ hx)⟩
  mem y := by
    rw [List.mem_append, h.mem, List.mem_singleton]
    constructor
    · rintro (⟨p, hp, r⟩ | e)
      · exact ⟨p, List.mem_append_left _ hp, r⟩
      · exact ⟨q, by simp, hc, e⟩
    · rintro ⟨p, hp, r, e⟩
      rcases List.mem_append.mp hp with hp | hp
      · exact .inl ⟨p, hp, r, e⟩
      · rw [List.mem_singleton] at hp
        subst hp
        exact .inr e
section
variable {prog : Program} {w : World} {A : Around} {E : Value → Shared → Prop} {c : Cfg} {S S' F : List Ent} {s : Shared} {a : Addr} {env : Env}
noncomputable abbrev lawF : Stmt := stmtAt (bodyOf (lawS 18)) 1
theorem law_18i {Q : Flow → Shared → Prop} {sl c1 c2 c3 c4 c5 al nl x lf rs rl dl sd D eb : Addr} {n s0 st u : Int} {ts tu : Tok} {vv vp : Option Value} {as : List (Int × Int)} {rr : List Int} {kvs : List (Int × Value)} {ep : Nat} (hB : KZ w c.Z) (hA : Room A 20) (le : LawE env c1 c2 c3 c4 c5)
    (hal : FArr c.Z al as) (hnl : FInts c.Z nl (names5.take n.toNat)) (n5 : n ≤ 5) (hrl : FInts c.Z rl rr) (hrr : ∀ x ∈ rr, 0 ≤ x ∧ x < n) (hrlen : rr.length ≤ 5) (hcl : ∀ q ∈ as, q.1 ∈ rr → q.2 ∈ rr) (hfd : FDic prog w c.Z sd kvs ep) (hS : StrictOf c.Z as st rr rr kvs)
    (h : St c ((env.locals, FrP env [("script", some (.ref sl)), ("v", vv), ("arrows", some (.ref al)), ("graph", some (.ref x)), ("left", some (.ref lf)), ("rest", some (.ref rs)), ("start", some (.int s0 ts)), ("refused", none), ("reach", some (.ref rl)), ("due", some (.ref dl)), ("told", some (.ref D)), ("ends", some (.ref eb)), ("p", vp)]) :: (eb, IntLP []) :: (c5, CellP (some (.ref sd))) :: (c4, CellP (some (.ref nl))) :: (c3, CellP (some (.int u tu))) :: F) s)
    (k : ∀ vv vp es s', EndsOk (strictL as st rr) rr u as es → St c ((env.locals, FrP env [("script", some (.ref sl)), ("v", vv), ("arrows", some (.ref al)), ("graph", some (.ref x)), ("left", some (.ref lf)), ("rest", some (.ref rs)), ("start", some (.int s0 ts)), ("refused", none), ("reach", some (.ref rl)), ("due", some (.ref dl)), ("told", some (.ref D)), ("ends", some (.ref eb)), ("p", vp)]) :: (eb, IntLP es) :: (c5, CellP (some (.ref sd))) :: (c4, CellP (some (.ref nl))) :: (c3, CellP (some (.int u tu))) :: F) s' → Q .next s') :
    wpAny (model prog w) A (exec lawF env) Q E s := by
  have ge := le.ge
  have hint := le.hint
  refine ex3 hal fun ol vs nl' hE2 => ?_
  clear hal
  refine an4 hE2 fun hz hc hd hi => ?_
  clear hE2
  have hvl := hi.length
  rw [Array.length_toList] at hvl
  show wpAny _ _ (exec (.For (.Tuple [_, _] _ _) _ _ _ _) env) _ _ _
  kd_p
  refine ld h (by lk) ?_
  refine iter_list h ⟨ol, h.keep _ _ hz, hc, nl', hd⟩ fun it s₁ h₁ => ?_
  refine for_loop as.length (fun j s => ∃ vv vp es, EndsOk (strictL as st rr) rr u (as.take j) es ∧ St c ((it, LItP al j) :: (env.locals, FrP env [("script", some (.ref sl)), ("v", vv), ("arrows", some (.ref al)), ("graph", some (.ref x)), ("left", some (.ref lf)), ("rest", some (.ref rs)), ("start", some (.int s0 ts)), ("refused", none), ("reach", some (.ref rl)), ("due", some (.ref dl)), ("told", some (.ref D)), ("ends", some (.ref eb)), ("p", vp)]) :: (eb, IntLP es) :: (c5, CellP (some (.ref sd))) :: (c4, CellP (some (.ref nl))) :: (c3, CellP (some (.int u tu))) :: F) s) ?_ ?_
    ⟨vv, vp, [], ⟨.nil, fun y => by simp⟩, h₁⟩
  · clear h h₁
    rintro E' j s hj ⟨vv, vp, es, hok, h⟩
    intro Kq
    obtain ⟨a, o, tp, tv, hv, ho, hp⟩ := hi.get j as[j] (by simp [hj])
    refine next_item h (it := it) (.head _) ⟨ol, h.keep _ _ hz, hc, nl', hd⟩ (x := .ref a) (by simpa using hv) .head fun s₁ h₁ => ⟨_, rfl, ?_⟩
    obtain ⟨oi, hoi, hoc, hod⟩ := h₁.get (a := it) (.head _)
    refine wpAny_letOwnedTupleGo_listiter ⟨oi, hoi, hoc, hod⟩ ?_
    refine assign_tup2 hA.handled h₁ ⟨o, h₁.keep _ _ ho, hp⟩ rfl fun sa ha => ?_
    refine wpAny_assign_Name ?_
    refine sto (ha.perm (.swap ..)) (by room) fun sb hb => ?_
    refine wpAny_assign_Name ?_
    refine sto hb (by room) fun s₂ h₂ => ?_
    have hqa : as[j] ∈ as := List.getElem_mem hj
    have hq0 : as.take (j + 1) = as.take j ++ [as[j]] := List.take_succ_eq_append_getElem hj
    generalize as[j] = q at h₂ hqa hq0
    have skip : ∀ s', ((q.1 ∈ rr ∧ (q.1 = u ∨ u ∈ strictL as st rr q.1) ∧ u ∉ strictL as st rr q.2) → nm q.2 ∈ es) → St c ((env.locals, FrP env [("script", some (.ref sl)), ("v", some (.int q.2 tv)), ("arrows", some (.ref al)), ("graph", some (.ref x)), ("left", some (.ref lf)), ("rest", some (.ref rs)), ("start", some (.int s0 ts)), ("refused", none), ("reach", some (.ref rl)), ("due", some (.ref dl)), ("told", some (.ref D)), ("ends", some (.ref eb)), ("p", some (.int q.1 tp))]) :: (it, LItP al (j + 1)) :: (eb, IntLP es) :: (c5, CellP (some (.ref sd))) :: (c4, CellP (some (.ref nl))) :: (c3, CellP (some (.int u tu))) :: F) s' →
        ∃ vv vp es, EndsOk (strictL as st rr) rr u (as.take (j + 1)) es ∧ St c ((it, LItP al (j + 1)) :: (env.locals, FrP env [("script", some (.ref sl)), ("v", vv), ("arrows", some (.ref al)), ("graph", some (.ref x)), ("left", some (.ref lf)), ("rest", some (.ref rs)), ("start", some (.int s0 ts)), ("refused", none), ("reach", some (.ref rl)), ("due", some (.ref dl)), ("told", some (.ref D)), ("ends", some (.ref eb)), ("p", vp)]) :: (eb, IntLP es) :: (c5, CellP (some (.ref sd))) :: (c4, CellP (some (.ref nl))) :: (c3, CellP (some (.int u tu))) :: F) s' := by
      intro s' hn h'
      rw [hq0]
      exact ⟨_, _, es, hok.skip hn, h'.perm (.swap ..)⟩
    kd_p
    show wpAny _ _ (exec (.If (.BoolOp _ [_, _, _, _] _) _ _ _) env) _ _ _
    kd_p
    kd_p
    kd_p
    kd_p
    refine ld h₂ (by lk) ?_
    refine ld h₂ (by lk) ?_
    refine in_f h₂ hrl ?_
    kd_p
    by_cases hpr : q.1 ∈ rr
    · refine itt (by simp [hpr]) ?_
      have hvr := hcl q hqa hpr
      obtain ⟨sp, hs1, hs2⟩ := hS.2 q.1 hpr
      obtain ⟨sv, hs3, hs4⟩ := hS.2 q.2 hvr
      obtain ⟨b1, b2⟩ := hrr q.2 hvr
      have hesl : es.length ≤ 800 := by
        have := nodup_len (f := es) (l := rr.map nm) hok.nd fun y hy => by
          obtain ⟨p, hp, r, e⟩ := (hok.mem y).mp hy
          exact List.mem_map.mpr ⟨p.2, hcl p (List.mem_of_mem_take hp) r.1, e.symm⟩
        rw [List.length_map] at this
        lia
      kd_p
      kd_p
      kd_p
      kd_p
      refine ld h₂ (by lk) ?_
      refine ldc h₂ le.u (by lk) ?_
      k_in
      kd_p
      (with_reducible first | refine ite_dec (fun hif => ?_) (fun hif => ?_) | refine ite_beq (fun hif => ?_) (fun hif => ?_) | refine ite_bne (fun hif => ?_) (fun hif => ?_))
      · refine itt rfl ?_
        kd_p
        kd_p
        refine ldc h₂ le.u (by lk) ?_
        kd_p
        refine ldc h₂ le.strict (by lk) ?_
        refine ld h₂ (by lk) ?_
        refine fd_sub h₂ hfd hs3 sc_name fun s₅ h₅ => ?_
        refine notin_f h₅ hs4 ?_
        kd_p
        by_cases hnu : u ∈ strictL as st rr q.2
        · refine itf (by simp [hnu]) ?_
          refine itf rfl ?_
          kd_p
          kd_p
          exact skip _ (fun r => absurd hnu r.2.2) h₅
        · refine itt (by simp [hnu]) ?_
          kd_p
          kd_p
          kd_p
          refine ldc h₅ le.names (by lk) ?_
          refine ld h₅ (by lk) ?_
          refine sub_f h₅ hnl b1 (by lia) (names_get b1 b2 n5) sc_name fun t1 => ?_
          refine ld h₅ (by lk) ?_
          refine notin_ints h₅ (a := eb) (by lk) ?_
          kd_p
          by_cases hin : nm q.2 ∈ es
          · refine itf (by simp [hin]) ?_
            refine itf rfl ?_
            kd_p
            kd_p
            exact skip _ (fun _ => hin) h₅
          · refine itt (by simp [hin]) ?_
            kd_p
            refine itt rfl ?_
            kd_p
            kd_p
            refine call_meth rfl (by decide) rfl PySem.F.plainAttrs_list slot_list_append PySem.F.type_list_append rfl ?_
            refine ld h₅ (by lk) ?_
            refine ⟨intlp_meth h₅ (a := eb) (by lk), ?_⟩
            refine spl_cons ?_ rfl
            kd_p
            refine ldc h₅ le.names (by lk) ?_
            refine ld h₅ (by lk) ?_
            refine sub_f h₅ hnl b1 (by lia) (names_get b1 b2 n5) sc_name fun t2 => ?_
            refine spl_nil ?_
            refine append_intlp h₅ (a := eb) (by lk) hesl (by kt_k) fun s₆ h₆ => ?_
            kd_p
            kd_p
            show ∃ _ _ _, _
            rw [hq0]
            exact ⟨_, _, _, hok.put ⟨hpr, .inl hif, hnu⟩ hin, h₆.perm (.swap ..)⟩
      · kd_p
        kd_p
        refine ldc h₂ le.u (by lk) ?_
        kd_p
        refine ldc h₂ le.strict (by lk) ?_
        refine ld h₂ (by lk) ?_
        refine fd_sub h₂ hfd hs1 sc_name fun s₃ h₃ => ?_
        refine in_f h₃ hs2 ?_
        kd_p
        by_cases hus : u ∈ strictL as st rr q.1
        · refine itt (by simp [hus]) ?_
          refine itt rfl ?_
          kd_p
          kd_p
          refine ldc h₃ le.u (by lk) ?_
          kd_p
          refine ldc h₃ le.strict (by lk) ?_
          refine ld h₃ (by lk) ?_
          refine fd_sub h₃ hfd hs3 sc_name fun s₅ h₅ => ?_
          refine notin_f h₅ hs4 ?_
          kd_p
          by_cases hnu : u ∈ strictL as st rr q.2
          · refine itf (by simp [hnu]) ?_
            refine itf rfl ?_
            kd_p
            kd_p
            exact skip _ (fun r => absurd hnu r.2.2) h₅
          · refine itt (by simp [hnu]) ?_
            kd_p
            kd_p
            kd_p
            refine ldc h₅ le.names (by lk) ?_
            refine ld h₅ (by lk) ?_
            refine sub_f h₅ hnl b1 (by lia) (names_get b1 b2 n5) sc_name fun t1 => ?_
            refine ld h₅ (by lk) ?_
            refine notin_ints h₅ (a := eb) (by lk) ?_
            kd_p
            by_cases hin : nm q.2 ∈ es
            · refine itf (by simp [hin]) ?_
              refine itf rfl ?_
              kd_p
              kd_p
              exact skip _ (fun _ => hin) h₅
            · refine itt (by simp [hin]) ?_
              kd_p
              refine itt rfl ?_
              kd_p
              kd_p
              refine call_meth rfl (by decide) rfl PySem.F.plainAttrs_list slot_list_append PySem.F.type_list_append rfl ?_
              refine ld h₅ (by lk) ?_
              refine ⟨intlp_meth h₅ (a := eb) (by lk), ?_⟩
              refine spl_cons ?_ rfl
              kd_p
              refine ldc h₅ le.names (by lk) ?_
              refine ld h₅ (by lk) ?_
              refine sub_f h₅ hnl b1 (by lia) (names_get b1 b2 n5) sc_name fun t2 => ?_
              refine spl_nil ?_
              refine append_intlp h₅ (a := eb) (by lk) hesl (by kt_k) fun s₆ h₆ => ?_
              kd_p
              kd_p
              show ∃ _ _ _, _
              rw [hq0]
              exact ⟨_, _, _, hok.put ⟨hpr, .inr hus, hnu⟩ hin, h₆.perm (.swap ..)⟩

        · refine itf (by simp [hus]) ?_
          kd_p
          refine itf rfl ?_
          refine itf rfl ?_
          kd_p
          kd_p
          exact skip _ (fun r => r.2.1.elim (fun e => absurd e hif) (fun e => absurd e hus)) h₃
    · refine itf (by simp [hpr]) ?_
      refine itf rfl ?_
      kd_p
      kd_p
      exact skip _ (fun r => absurd r.1 hpr) h₂
  · clear h h₁
    rintro E' s ⟨vv, vp, es, hok, h⟩
    refine next_end hA.handled h .head ⟨ol, h.keep _ _ hz, hc, nl', hd⟩ (Array.getElem?_eq_none (by lia)) fun s₁ h₁ => ⟨rfl, ?_⟩
    kd_p
    rw [List.take_length] at hok
    exact k vv vp es _ hok h₁
end
end
section
open PySem PySem.Calls PyProof.Rows PySem.W PySem.W.X
open Sem (wp)
theorem take_of_mem {e : Ent} : ∀ {S : List Ent}, e ∈ S → ∃ R, Take S e R
  | x :: r, h => by
    rcases List.mem_cons.mp h with rfl | h
    · exact ⟨r, .head⟩
    · obtain ⟨R, t⟩ := take_of_mem h
      exact ⟨x :: R, .tail t⟩
section
variable {prog : Program} {w : World} {A : Around} {E : Value → Shared → Prop} {c : Cfg} {S S' F : List Ent} {s : Shared} {a : Addr} {env : Env}
theorem law_18 {Q : Flow → Shared → Prop} {sl c1 c2 c3 c4 c5 al nl x lf rs rl dl sd D : Addr} {n s0 st : Int} {ts : Tok} {vv vp ve vu : Option Value} {as : List (Int × Int)} {rr K : List Int} {kvs : List (Int × Value)} {ep ep' : Nat} {ad : Int → Addr} {ls : Int → List Int} (hB : KZ w c.Z) (hA : Room A 20) (le : LawE env c1 c2 c3 c4 c5)
    (hal : FArr c.Z al as) (hnl : FInts c.Z nl (names5.take n.toNat)) (n5 : n ≤ 5) (hrl : FInts c.Z rl rr) (hrr : ∀ x ∈ rr, 0 ≤ x ∧ x < n) (hrlen : rr.length ≤ 5) (hcl : ∀ q ∈ as, q.1 ∈ rr → q.2 ∈ rr) (hfd : FDic prog w c.Z sd kvs ep) (hS : StrictOf c.Z as st rr rr kvs)
    (hD : FDic prog w c.Z D (K.map fun y => (y, .ref (ad y))) ep') (hKn : K.Nodup) (hK : ∀ u ∈ rr, nm u ∈ K) (hm : ∀ u ∈ rr, ∀ es, EndsOk (strictL as st rr) rr u as es → ∀ y, y ∈ ls (nm u) ↔ y ∈ es)
    (h : St c ((env.locals, FrP env [("script", some (.ref sl)), ("v", vv), ("arrows", some (.ref al)), ("graph", some (.ref x)), ("left", some (.ref lf)), ("rest", some (.ref rs)), ("start", some (.int s0 ts)), ("refused", none), ("reach", some (.ref rl)), ("due", some (.ref dl)), ("told", some (.ref D)), ("ends", ve), ("p", vp)]) :: (c5, CellP (some (.ref sd))) :: (c4, CellP (some (.ref nl))) :: (c3, CellP vu) :: (setsE prog w K ad ls ++ F)) s)
    (k : ∀ vv vp ve vu s', St c ((env.locals, FrP env [("script", some (.ref sl)), ("v", vv), ("arrows", some (.ref al)), ("graph", some (.ref x)), ("left", some (.ref lf)), ("rest", some (.ref rs)), ("start", some (.int s0 ts)), ("refused", none), ("reach", some (.ref rl)), ("due", some (.ref dl)), ("told", some (.ref D)), ("ends", ve), ("p", vp)]) :: (c5, CellP (some (.ref sd))) :: (c4, CellP (some (.ref nl))) :: (c3, CellP vu) :: (setsE prog w K ad ls ++ F)) s' → Q .next s') :
    wpAny (model prog w) A (exec (lawS 18) env) Q E s := by
  have ge := le.ge
  have hint := le.hint
  show wpAny _ _ (exec (.For _ _ [_, lawF, _] _ _) env) _ _ _
  kd_p
  refine ld h (by lk) ?_
  refine iter_f h hrl fun it s₁ h₁ => ?_
  refine for_loop rr.length (fun i s => ∃ vv vp ve vu, St c ((it, LItP rl i) :: (env.locals, FrP env [("script", some (.ref sl)), ("v", vv), ("arrows", some (.ref al)), ("graph", some (.ref x)), ("left", some (.ref lf)), ("rest", some (.ref rs)), ("start", some (.int s0 ts)), ("refused", none), ("reach", some (.ref rl)), ("due", some (.ref dl)), ("told", some (.ref D)), ("ends", ve), ("p", vp)]) :: (c5, CellP (some (.ref sd))) :: (c4, CellP (some (.ref nl))) :: (c3, CellP vu) :: (setsE prog w K ad ls ++ F)) s) ?_ ?_ ⟨vv, vp, ve, vu, h₁⟩
  · clear h h₁
    rintro E' i s hi ⟨vv, vp, ve, vu, h⟩
    intro Kq
    refine next_f h (it := it) (.head _) hrl (x := rr[i]) (by simp [hi]) .head fun tu s₁ h₁ => ⟨_, rfl, ?_⟩
    refine letOwned_name ?_
    refine wpAny_assign_Name ?_
    refine stoc (h₁.perm (.swap ..)) le.k3 le.u (by lk) (by kt_k) fun s₂ h₂ => ?_
    have hur : rr[i] ∈ rr := List.getElem_mem hi
    generalize rr[i] = u at h₂ hur
    obtain ⟨b1, b2⟩ := hrr u hur
    kd_p
    show wpAny _ _ (exec (.Assign [.Name _ _] (.List [] _) _) env) _ _ _
    refine wpAny_Assign_Name ?_ ?hs
    case hs => (unfold swapsWith; rfl)
    refine list_disp (c := c) (spl_nil ⟨_, h₂, by simp, fun eb s₃ h₃ => ?_⟩)
    refine sto (h₃.perm (.swap ..)) (by room) fun s₄ h₄ => ?_
    kd_p
    have h₅ : St c ((env.locals, FrP env [("script", some (.ref sl)), ("v", vv), ("arrows", some (.ref al)), ("graph", some (.ref x)), ("left", some (.ref lf)), ("rest", some (.ref rs)), ("start", some (.int s0 ts)), ("refused", none), ("reach", some (.ref rl)), ("due", some (.ref dl)), ("told", some (.ref D)), ("ends", some (.ref eb)), ("p", vp)]) :: (eb, IntLP []) :: (c5, CellP (some (.ref sd))) :: (c4, CellP (some (.ref nl))) :: (c3, CellP (some (.int u tu))) :: (it, LItP rl (i + 1)) :: (setsE prog w K ad ls ++ F)) s₄ :=
      h₄.sub (.cons (a := env.locals) (by w_up) (fun _ q => q) (.cons (a := eb) (by w_up) (intlp_of .nil) (by k_is)))
    refine law_18i (dl := dl) (D := D) (u := u) (tu := tu) hB hA le hal hnl n5 hrl hrr hrlen hcl hfd hS h₅ fun vv vp es s₅ hok h₆ => ?_
    kd_p
    show wpAny _ _ (exec (.If (.Compare (.Call _ [.Subscript _ (.Subscript _ _ _) _] _ _) _ [.Call _ [.Name _ _] _ _] _) _ _ _) env) _ _ _
    kd_p
    kd_p
    refine call_bi h₆ hB.toGB ge (by lk) (by lk) rfl ?_
    refine spl_cons ?_ rfl
    kd_p
    refine ld h₆ (by lk) ?_
    kd_p
    refine ldc h₆ le.names (by lk) ?_
    refine ldc h₆ le.u (by lk) ?_
    refine sub_f h₆ hnl b1 (by lia) (names_get b1 b2 n5) sc_name fun t1 => ?_
    refine fd_sub h₆ hD (valueAt_map hKn (hK u hur)) rfl fun s₆ h₇ => ?_
    refine spl_nil ?_
    have hmem : (ad (nm u), SetQ prog w (ls (nm u))) ∈ (env.locals, FrP env [("script", some (.ref sl)), ("v", vv), ("arrows", some (.ref al)), ("graph", some (.ref x)), ("left", some (.ref lf)), ("rest", some (.ref rs)), ("start", some (.int s0 ts)), ("refused", none), ("reach", some (.ref rl)), ("due", some (.ref dl)), ("told", some (.ref D)), ("ends", some (.ref eb)), ("p", vp)]) :: (eb, IntLP es) :: (c5, CellP (some (.ref sd))) :: (c4, CellP (some (.ref nl))) :: (c3, CellP (some (.int u tu))) :: (it, LItP rl (i + 1)) :: (setsE prog w K ad ls ++ F) :=
      List.mem_append_right [_, _, _, _, _, _] (List.mem_append_left _ (setsE_mem (hK u hur)))
    obtain ⟨R, tk⟩ := take_of_mem hmem
    obtain ⟨hl5, hlnd⟩ : (ls (nm u)).length ≤ 5 ∧ (ls (nm u)).Nodup := by
      obtain ⟨o, ho, es', ep', t, _, _, _, _, _, _, _, hnd, hsub, _⟩ := h₇.get hmem
      exact ⟨names5_len _ hnd hsub, hnd⟩
    have hme := hm u hur es hok
    have hperm : (ls (nm u)).Perm es := perm_of_sub _ _ hlnd (fun y hy => (hme y).mp hy) (nodup_len (f := es) (l := ls (nm u)) hok.nd fun y hy => (hme y).mpr hy)
    refine sorted_q hA.less h₇ tk (by lia) fun q1 m1 s₇ p1 o1 h₈ => ?_
    replace h₈ := h₈.perm (.swap ..)
    refine call_bi h₈ hB.toGB ge (by lk) (by lk) rfl ?_
    refine spl_cons (ld h₈ (by lk) ?_) rfl
    refine spl_nil ?_
    refine sorted_list hA.less h₈ (a := eb) (by lk) (by have := hperm.length_eq; lia) fun q2 m2 s₈ p2 o2 h₉ => ?_
    have em : m1 = m2 := sorted_eq (p1.trans (hperm.trans p2.symm)) o1 o2
    subst em
    refine ne_ints_same h₉ (a := q1) (b := q2) (by lk) (by lk) (by have := hA.units; show _ < 9900; lia) ?_
    kd_p
    refine itf rfl ?_
    kd_p
    kd_p
    exact ⟨_, _, _, _, h₉.sub (by k_is)⟩
  · clear h h₁
    rintro E' s ⟨vv, vp, ve, vu, h⟩
    refine end_f hA.handled h .head hrl rfl fun s₁ h₁ => ⟨rfl, ?_⟩
    kd_p
    exact k vv vp ve vu _ h₁
end
end
section
open PySem PySem.Calls PyProof.Rows PySem.W PySem.W.X
noncomputable def Bef (o : List Int) (u p : Int) : Prop := ∃ i j : Nat, i < j ∧ o[i]? = some u ∧ o[j]? = some p
theorem Bef.cons {o : List Int} {u p x : Int} (h : Bef o u p) : Bef (x :: o) u p := let ⟨i, j, a, b, c⟩ := h; ⟨i + 1, j + 1, by lia, b, c⟩
theorem outL_false {x : Int} {l : List (Int × Bool)} : outL ((x, false) :: l) = outL l := rfl
theorem outL_true {x : Int} {l : List (Int × Bool)} : outL ((x, true) :: l) = x :: outL l := rfl
noncomputable def Bot (st : Int) (stk : List (Int × Nat)) : Prop := stk ≠ [] → ∃ r i, stk = r ++ [(st, i)]
section
variable {su : Int → List Int} {st : Int} {stk : List (Int × Nat)} {vis : List Int} {l : List (Int × Bool)}
theorem Bot.tail {st : Int} {e q : Int × Nat} {r : List (Int × Nat)} (h : Bot st (e :: q :: r)) : Bot st (q :: r) := fun _ => by
  obtain ⟨r', i, e'⟩ := h (by simp)
  cases r' with
  | nil => simp at e'
  | cons a t => exact ⟨t, i, by simpa using (List.cons.inj e').2⟩
theorem Bot.swap {st : Int} {p : Int} {i : Nat} {r : List (Int × Nat)} (h : Bot st ((p, i) :: r)) (j : Nat) : Bot st ((p, j) :: r) := fun _ => by
  obtain ⟨r', k, e'⟩ := h (by simp)
  cases r' with
  | nil =>
    simp at e'
    obtain ⟨⟨rfl, rfl⟩, rfl⟩ := e'
    exact ⟨[], j, rfl⟩
  | cons a t =>
    obtain ⟨_, e2⟩ := List.cons.inj e'
    exact ⟨(p, j) :: t, k, by rw [e2]; rfl⟩
theorem Bot.push {st : Int} {e q : Int × Nat} {r : List (Int × Nat)} (h : Bot st (q :: r)) : Bot st (e :: q :: r) := fun _ => by
  obtain ⟨r', i, e'⟩ := h (by simp)
  exact ⟨e :: r', i, by rw [e']; rfl⟩
theorem Bot.one {st p : Int} {i : Nat} (h : Bot st [(p, i)]) : p = st := by
  obtain ⟨r, j, e⟩ := h (by simp)
  cases r with
  | nil => simp at e; exact e.1
  | cons a t => simp at e
theorem Bot.mem {st : Int} {stk : List (Int × Nat)} (h : Bot st stk) (hne : stk ≠ []) : st ∈ stk.map (·.1) := by
  obtain ⟨r, i, e⟩ := h hne
  rw [e]; simp
theorem tr_out (T : Tr su st stk vis l) (hb : Bot st stk) : (∀ e ∈ stk, e.1 ∈ outL l) ∧ st ∈ outL l := by
  induction T with
  | nil => exact ⟨fun _ h => (nomatch h), by simp [outL]⟩
  | @seen p i r vis l ch _ _ _ ih =>
    obtain ⟨a, b⟩ := ih (hb.swap _)
    rw [outL_false]
    refine ⟨fun e he => ?_, b⟩
    rcases List.mem_cons.mp he with rfl | he
    · exact a (p, i + 1) (.head _)
    · exact a _ (.tail _ he)
  | @push p i r vis l ch _ _ _ ih =>
    obtain ⟨a, b⟩ := ih ((hb.swap _).push)
    rw [outL_false]
    refine ⟨fun e he => ?_, b⟩
    rcases List.mem_cons.mp he with rfl | he
    · exact a (p, i + 1) (.tail _ (.head _))
    · exact a _ (.tail _ (.tail _ he))
  | pop _ _ ih =>
    obtain ⟨a, b⟩ := ih hb.tail
    rw [outL_true]
    refine ⟨fun e he => ?_, .tail _ b⟩
    rcases List.mem_cons.mp he with rfl | he
    · exact .head _
    · exact .tail _ (a _ he)
  | last _ _ ih =>
    obtain ⟨a, b⟩ := ih (fun h => absurd rfl h)
    refine ⟨fun e he => ?_, b⟩
    rw [List.mem_singleton] at he
    rw [he]
    have := hb.one
    show _ ∈ _
    rw [this]; exact b
theorem tr_nodup (T : Tr su st stk vis l) (hb : Bot st stk) (hn : (stk.map (·.1)).Nodup) (hv : ∀ e ∈ stk, e.1 ∈ vis) (hs : st ∈ vis) : (outL l).Nodup ∧ ∀ u ∈ outL l, u ∈ stk.map (·.1) ∨ u ∉ vis ∨ u = st := by
  induction T with
  | nil => exact ⟨by simp [outL], fun u hu => .inr (.inr (by simpa [outL] using hu))⟩
  | @seen p i r vis l ch _ _ _ ih =>
    exact ih (hb.swap _) hn (fun e he => by
      rcases List.mem_cons.mp he with rfl | he
      · exact hv (p, i) (.head _)
      · exact hv _ (.tail _ he)) hs
  | @push p i r vis l ch h1 h2 _ ih =>
    obtain ⟨a, b⟩ := ih ((hb.swap _).push) (by
      rw [List.map_cons, List.nodup_cons]
      refine ⟨fun hm => h2 ?_, hn⟩
      obtain ⟨e, he, q⟩ := List.mem_map.mp hm
      rw [← show e.1 = ch from q]
      rcases List.mem_cons.mp he with rfl | he
      · exact hv (p, i) (.head _)
      · exact hv _ (.tail _ he)) (fun e he => by
      rcases List.mem_cons.mp he with rfl | he
      · exact .head _
      · rcases List.mem_cons.mp he with rfl | he
        · exact .tail _ (hv (p, i) (.head _))
        · exact .tail _ (hv _ (.tail _ he))) (.tail _ hs)
    refine ⟨a, fun u hu => ?_⟩
    rcases b u hu with q | q | q
    · rcases List.mem_cons.mp q with q | q
      · exact .inr (.inl (by rw [q]; exact h2))
      · exact .inl q
    · exact .inr (.inl fun h => q (.tail _ h))
    · exact .inr (.inr q)
  | @pop p i q r vis l h1 _ ih =>
    rw [List.map_cons, List.nodup_cons] at hn
    obtain ⟨a, b⟩ := ih hb.tail hn.2 (fun e he => hv _ (.tail _ he)) hs
    have hps : p ≠ st := fun e => hn.1 (by have := hb.tail.mem (by simp); rw [← e] at this; exact this)
    rw [outL_true]
    refine ⟨List.nodup_cons.mpr ⟨fun hp => ?_, a⟩, fun u hu => ?_⟩
    · rcases b p hp with z | z | z
      · exact hn.1 z
      · exact z (hv (p, i) (.head _))
      · exact hps z
    · rcases List.mem_cons.mp hu with rfl | hu
      · exact .inl (.head _)
      · rcases b u hu with z | z
        · exact .inl (.tail _ z)
        · exact .inr z
  | last _ _ ih =>
    obtain ⟨a, b⟩ := ih (fun h => absurd rfl h) .nil (fun _ h => (nomatch h)) hs
    refine ⟨a, fun u hu => ?_⟩
    rcases b u hu with z | z
    · cases z
    · exact .inr z
noncomputable def Chn (su : Int → List Int) : List (Int × Nat) → Prop
  | e :: q :: r => e.1 ∈ su q.1 ∧ Chn su (q :: r)
  | _ => True
theorem Chn.swap {p : Int} {i : Nat} {r : List (Int × Nat)} (h : Chn su ((p, i) :: r)) (j : Nat) : Chn su ((p, j) :: r) := by
  cases r with
  | nil => trivial
  | cons q r => exact h
theorem tr_pred (T : Tr su st stk vis l) (hb : Bot st stk) (hc : Chn su stk) : ∀ u ∈ outL l, u ≠ st → ∃ p, u ∈ su p ∧ Bef (outL l) u p := by
  induction T with
  | nil => intro u hu hne; exact absurd (by simpa [outL] using hu) hne
  | seen _ _ _ ih => exact ih (hb.swap _) (hc.swap _)
  | push h1 _ _ ih => exact ih ((hb.swap _).push) ⟨List.mem_of_getElem? h1, hc.swap _⟩
  | @pop p i q r vis l h1 T ih =>
    intro u hu hne
    rw [outL_true] at hu ⊢
    rcases List.mem_cons.mp hu with rfl | hu
    · obtain ⟨a, _⟩ := tr_out T hb.tail
      obtain ⟨j, hj⟩ := List.getElem?_of_mem (a q (.head _))
      exact ⟨q.1, hc.1, 0, j + 1, by lia, rfl, hj⟩
    · obtain ⟨p', h2, h3⟩ := ih hb.tail hc.2 u hu hne
      exact ⟨p', h2, h3.cons⟩
  | last _ _ ih => exact ih (fun h => absurd rfl h) trivial
theorem tr_close (T : Tr su st stk vis l) (hb : Bot st stk) (hv : ∀ e ∈ stk, e.1 ∈ vis) (hs : st ∈ vis) : (∀ e ∈ stk, ∀ j, e.2 ≤ j → ∀ c, (su e.1)[j]? = some c → c ∈ vis ∨ c ∈ outL l) ∧ ∀ u ∈ outL l, u ∉ vis → ∀ c ∈ su u, c ∈ vis ∨ c ∈ outL l := by
  induction T with
  | nil =>
    refine ⟨fun _ h => (nomatch h), fun u hu hn => ?_⟩
    have : u = st := by simpa [outL] using hu
    exact absurd (this ▸ hs) hn
  | @seen p i r vis l ch h1 h2 T ih =>
    obtain ⟨a, b⟩ := ih (hb.swap _) (fun e he => by
      rcases List.mem_cons.mp he with rfl | he
      · exact hv (p, i) (.head _)
      · exact hv _ (.tail _ he)) hs
    rw [outL_false]
    refine ⟨fun e he j hj c hc => ?_, b⟩
    rcases List.mem_cons.mp he with rfl | he
    · rcases Nat.lt_or_ge i j with z | z
      · exact a (p, i + 1) (.head _) j z c hc
      · have hj : i ≤ j := hj
        have : j = i := by lia
        subst this
        have hc : (su p)[j]? = some c := hc
        rw [h1] at hc
        cases hc
        exact .inl h2
    · exact a _ (.tail _ he) j hj c hc
  | @push p i r vis l ch h1 h2 T ih =>
    have hv' : ∀ e ∈ (ch, 0) :: (p, i + 1) :: r, e.1 ∈ ch :: vis := fun e he => by
      rcases List.mem_cons.mp he with rfl | he
      · exact .head _
      · rcases List.mem_cons.mp he with rfl | he
        · exact .tail _ (hv (p, i) (.head _))
        · exact .tail _ (hv _ (.tail _ he))
    obtain ⟨a, b⟩ := ih ((hb.swap _).push) hv' (.tail _ hs)
    obtain ⟨o, _⟩ := tr_out T ((hb.swap _).push)
    have hch : ch ∈ outL l := o (ch, 0) (.head _)
    have fix : ∀ c, (c ∈ ch :: vis ∨ c ∈ outL l) → c ∈ vis ∨ c ∈ outL l := fun c h => by
      rcases h with h | h
      · rcases List.mem_cons.mp h with rfl | h
        · exact .inr hch
        · exact .inl h
      · exact .inr h
    rw [outL_false]
    refine ⟨fun e he j hj c hc => ?_, fun u hu hn c hc => ?_⟩
    · rcases List.mem_cons.mp he with rfl | he
      · rcases Nat.lt_or_ge i j with z | z
        · exact fix c (a (p, i + 1) (.tail _ (.head _)) j z c hc)
        · have hj : i ≤ j := hj
          have : j = i := by lia
          subst this
          have hc : (su p)[j]? = some c := hc
          rw [h1] at hc
          cases hc
          exact .inr hch
      · exact fix c (a _ (.tail _ (.tail _ he)) j hj c hc)
    · by_cases q : u = ch
      · subst q
        obtain ⟨j, hj⟩ := List.getElem?_of_mem hc
        exact fix c (a (u, 0) (.head _) j (Nat.zero_le _) c hj)
      · exact fix c (b u hu (fun h => (List.mem_cons.mp h).elim q hn) c hc)
  | @pop p i q r vis l h1 T ih =>
    obtain ⟨a, b⟩ := ih hb.tail (fun e he => hv _ (.tail _ he)) hs
    rw [outL_true]
    have up : ∀ c, (c ∈ vis ∨ c ∈ outL l) → c ∈ vis ∨ c ∈ p :: outL l := fun c h => h.imp id fun h => .tail _ h
    refine ⟨fun e he j hj c hc => ?_, fun u hu hn c hc => ?_⟩
    · rcases List.mem_cons.mp he with rfl | he
      · have hj : i ≤ j := hj
        have hc : (su p)[j]? = some c := hc
        rw [List.getElem?_eq_none_iff] at h1
        rw [List.getElem?_eq_none (by lia)] at hc
        cases hc
      · exact up c (a _ he j hj c hc)
    · rcases List.mem_cons.mp hu with rfl | hu
      · exact absurd (hv (_, i) (.head _)) hn
      · exact up c (b u hu hn c hc)
  | @last p i vis l h1 T ih =>
    obtain ⟨a, b⟩ := ih (fun h => absurd rfl h) (fun _ h => (nomatch h)) hs
    refine ⟨fun e he j hj c hc => ?_, b⟩
    rw [List.mem_singleton] at he
    subst he
    have hj : i ≤ j := hj
    have hc : (su p)[j]? = some c := hc
    rw [List.getElem?_eq_none_iff] at h1
    rw [List.getElem?_eq_none (by lia)] at hc
    cases hc
theorem tr_end (T : Tr su st stk vis l) : ∃ O, outL l = O ++ [st] := by
  induction T with
  | nil => exact ⟨[], rfl⟩
  | seen _ _ _ ih => exact ih
  | push _ _ _ ih => exact ih
  | @pop p i q r vis l h1 _ ih =>
    obtain ⟨O, e⟩ := ih
    exact ⟨p :: O, by rw [outL_true, e]; rfl⟩
  | last _ _ ih => exact ih
end
end
section
open PySem PySem.Calls PyProof.Rows PySem.W PySem.W.X
noncomputable def mu (su : Int → List Int) : List (Int × Nat) → Nat
  | [] => 0
  | (p, i) :: r => ((su p).length - i) + 1 + mu su r
theorem tr_ex {su : Int → List Int} {st : Int} {ks : List Int} (hsu : ∀ k ∈ ks, ∀ y ∈ su k, y ∈ ks) : ∀ (n m : Nat) (stk : List (Int × Nat)) (vis : List Int), vis.Nodup → (∀ v ∈ vis, v ∈ ks) → (∀ e ∈ stk, e.1 ∈ ks) → ks.length - vis.length = n → mu su stk = m → ∃ l, Tr su st stk vis l := by
  intro n
  induction n using Nat.strongRecOn with
  | ind n ihn =>
  intro m
  induction m using Nat.strongRecOn with
  | ind m ihm =>
  intro stk vis hn hv hs h1 h2
  match stk, hs, h2 with
  | [], _, _ => exact ⟨_, .nil⟩
  | (p, i) :: r, hs, h2 =>
    cases hc : (su p)[i]? with
    | none =>
      match r, hs, h2 with
      | [], _, _ => exact ⟨_, .last hc .nil⟩
      | q :: r', hs, h2 =>
        obtain ⟨l, T⟩ := ihm (mu su (q :: r')) (by simp only [mu] at h2 ⊢; lia) (q :: r') vis hn hv (fun e he => hs e (.tail _ he)) h1 rfl
        exact ⟨_, .pop hc T⟩
    | some ch =>
      obtain ⟨hi, _⟩ := List.getElem?_eq_some_iff.mp hc
      have hch : ch ∈ ks := hsu p (hs (p, i) (.head _)) ch (List.mem_of_getElem? hc)
      by_cases hm : ch ∈ vis
      · obtain ⟨l, T⟩ := ihm (mu su ((p, i + 1) :: r)) (by simp only [mu] at h2 ⊢; lia) ((p, i + 1) :: r) vis hn hv (fun e he => by
          rcases List.mem_cons.mp he with rfl | he
          · exact hs (p, i) (.head _)
          · exact hs e (.tail _ he)) h1 rfl
        exact ⟨_, .seen hc hm T⟩
      · have hn' : (ch :: vis).Nodup := List.nodup_cons.mpr ⟨hm, hn⟩
        have hv' : ∀ v ∈ ch :: vis, v ∈ ks := fun v h => by
          rcases List.mem_cons.mp h with rfl | h
          · exact hch
          · exact hv v h
        have hl := nodup_len (f := ch :: vis) (l := ks) hn' hv'
        rw [List.length_cons] at hl
        obtain ⟨l, T⟩ := ihn (ks.length - (ch :: vis).length) (by rw [List.length_cons]; lia) _ ((ch, 0) :: (p, i + 1) :: r) (ch :: vis) hn' hv' (fun e he => by
          rcases List.mem_cons.mp he with rfl | he
          · exact hch
          · rcases List.mem_cons.mp he with rfl | he
            · exact hs (p, i) (.head _)
            · exact hs e (.tail _ he)) rfl rfl
        exact ⟨_, .push hc hm T⟩
theorem bef_idx {o : List Int} (hn : o.Nodup) {u p : Int} (h : Bef o u p) : idx o u < idx o p := by
  obtain ⟨i, j, hij, hu, hp⟩ := h
  obtain ⟨hi, rfl⟩ := List.getElem?_eq_some_iff.mp hu
  obtain ⟨hj, rfl⟩ := List.getElem?_eq_some_iff.mp hp
  rw [idx_get hn hi, idx_get hn hj]
  lia
theorem run_ok {su pr : Int → List Int} {st : Int} {ks : List Int} (hsu : ∀ k ∈ ks, ∀ y ∈ su k, y ∈ ks) (hst : st ∈ ks) (hpr : ∀ k ∈ ks, ∀ y ∈ ks, (y ∈ pr k ↔ k ∈ su y)) (hkz : ks.length ≤ 50) :
    ∃ l L, Tr su st [(st, 0)] [st] l ∧ outL l = L.reverse ++ [st] ∧ (outL l).Nodup ∧ (outL l).length ≤ 50 ∧ Base0 st L pr (idx (outL l)) ∧ (∀ u ∈ L, u ∈ ks) ∧
      (∀ u ∈ st :: L, ∀ y ∈ su u, y ∈ st :: L) ∧ (∀ P : Int → Prop, P st → (∀ u y, P u → u ∈ ks → y ∈ su u → P y) → ∀ u ∈ L, P u) := by
  obtain ⟨l, T⟩ := tr_ex (st := st) hsu _ _ [(st, 0)] [st] (by simp) (fun v h => by rw [List.mem_singleton] at h; rw [h]; exact hst) (fun e h => by rw [List.mem_singleton] at h; rw [h]; exact hst) rfl rfl
  have hb : Bot st [(st, 0)] := fun _ => ⟨[], 0, rfl⟩
  have hv : ∀ e ∈ [((st, 0) : Int × Nat)], e.1 ∈ [st] := fun e h => by rw [List.mem_singleton] at h; rw [h]; simp
  obtain ⟨O, eO⟩ := tr_end T
  obtain ⟨hnd, _⟩ := tr_nodup T hb (by simp) hv (by simp)
  have hpred := tr_pred T hb trivial
  obtain ⟨cl1, cl2⟩ := tr_close T hb hv (by simp)
  have hso : st ∈ outL l := by rw [eO]; simp
  have hclose : ∀ u ∈ outL l, ∀ y ∈ su u, y ∈ outL l := by
    intro u hu y hy
    have fix : (y ∈ [st] ∨ y ∈ outL l) → y ∈ outL l := fun h => h.elim (fun h => by rw [List.mem_singleton] at h; rw [h]; exact hso) id
    by_cases q : u = st
    · subst q
      obtain ⟨j, hj⟩ := List.getElem?_of_mem hy
      exact fix (cl1 (u, 0) (.head _) j (Nat.zero_le _) y hj)
    · exact fix (cl2 u hu (by simpa using q) y hy)
  have hmem : ∀ u, u ∈ outL l ↔ u ∈ st :: O.reverse := fun u => by rw [eO]; simp [or_comm]
  have hnd' := hnd
  rw [eO, List.nodup_append] at hnd'
  have hall : ∀ P : Int → Prop, P st → (∀ u y, P u → u ∈ outL l → y ∈ su u → P y) → ∀ u ∈ outL l, P u := by
    intro P h0 h1
    have key : ∀ (d : Nat) (i : Nat) (u : Int), (outL l).length - i = d → (outL l)[i]? = some u → P u := by
      intro d
      induction d using Nat.strongRecOn with
      | ind d ih =>
        intro i u hd hi
        by_cases q : u = st
        · rw [q]; exact h0
        · obtain ⟨p, hp, i', j, hij, hi', hj⟩ := hpred u (List.mem_of_getElem? hi) q
          obtain ⟨b1, e1⟩ := List.getElem?_eq_some_iff.mp hi
          obtain ⟨b2, e2⟩ := List.getElem?_eq_some_iff.mp hi'
          obtain ⟨b3, _⟩ := List.getElem?_eq_some_iff.mp hj
          have : i = i' := (List.getElem_inj hnd).mp (e1.trans e2.symm)
          subst this
          exact h1 p u (ih ((outL l).length - j) (by lia) j p rfl hj) (List.mem_of_getElem? hj) hp
    intro u hu
    obtain ⟨i, hi⟩ := List.getElem?_of_mem hu
    exact key _ i u rfl hi
  have hks : ∀ u ∈ outL l, u ∈ ks := hall (· ∈ ks) hst fun u y hu _ hy => hsu u hu y hy
  have hLO : ∀ u ∈ O.reverse, u ∈ outL l := fun u hu => (hmem u).mpr (.tail _ hu)
  have hlen : (outL l).length ≤ ks.length := nodup_len (f := outL l) (l := ks) hnd hks
  refine ⟨l, O.reverse, T, by rw [List.reverse_reverse]; exact eO, hnd, by lia, ?_, fun u hu => hks u (hLO u hu), fun u hu y hy => (hmem y).mp (hclose u ((hmem u).mpr hu) y hy), fun P h0 h1 u hu => hall P h0 (fun u y hu hm hy => h1 u y hu (hks u hm) hy) u (hLO u hu)⟩
  have hst' : (outL l)[O.length]? = some st := by rw [eO]; simp
  have hOi : ∀ (i : Nat) (hi : i < O.length), (outL l)[i]? = some O[i] := fun i hi => by rw [eO, List.getElem?_append_left hi, List.getElem?_eq_getElem hi]
  refine ⟨(List.reverse_perm O).nodup_iff.mpr hnd'.1, fun h => ?_, fun u hu => ?_, fun i j hi hj hij => ?_, fun u hu => ?_⟩
  · rw [List.mem_reverse] at h
    exact hnd'.2.2 st h st (by simp) rfl
  · rw [List.mem_reverse] at hu
    obtain ⟨i, hi, rfl⟩ := List.getElem_of_mem hu
    exact bef_idx hnd ⟨i, O.length, hi, hOi i hi, hst'⟩
  · rw [List.length_reverse] at hi hj
    rw [List.getElem_reverse, List.getElem_reverse]
    exact bef_idx hnd ⟨O.length - 1 - j, O.length - 1 - i, by lia, hOi _ (by lia), hOi _ (by lia)⟩
  · have huo := hLO u hu
    have hne : u ≠ st := fun e => by
      rw [e, List.mem_reverse] at hu
      exact hnd'.2.2 st hu st (by simp) rfl
    obtain ⟨p, hp, hB⟩ := hpred u huo hne
    have hpo : p ∈ outL l := by
      obtain ⟨i, j, _, _, hj⟩ := hB
      exact List.mem_of_getElem? hj
    exact ⟨p, (hpr u (hks u huo) p (hks p hpo)).mpr hp, (hmem p).mp hpo, bef_idx hnd hB⟩
end
section
open PySem PySem.Calls PyProof.Rows PySem.W PySem.W.X
structure PG (n s0 : Int) (as : List (Int × Int)) (rr ks L : List Int) (su pr : Int → List Int) (d : Int → Int) : Prop where
  bd : ∀ p ∈ as, 0 ≤ p.1 ∧ p.1 < n ∧ 0 ≤ p.2 ∧ p.2 < n
  s : 0 ≤ s0 ∧ s0 < n
  rn : rr.Nodup
  mr : ∀ x, x ∈ rr ↔ ReachA as none s0 x
  mks : ∀ u ∈ ks, ∃ k, u = nm k
  kin : ∀ k, 0 ≤ k → k < n → nm k ∈ ks
  ms : ∀ k ∈ ks, ∀ y, y ∈ su k ↔ (k, y) ∈ as.map nm2
  mp : ∀ k ∈ ks, ∀ y, y ∈ pr k ↔ (y, k) ∈ as.map nm2
  b0 : Base0 (nm s0) L pr d
  Lg : ∀ u ∈ L, u ∈ ks
  cl : ∀ u ∈ nm s0 :: L, ∀ y ∈ su u, y ∈ nm s0 :: L
  all : ∀ P : Int → Prop, P (nm s0) → (∀ u y, P u → u ∈ ks → y ∈ su u → P y) → ∀ u ∈ L, P u
theorem in_arrows {as : List (Int × Int)} {a b : Int} : (nm a, nm b) ∈ as.map nm2 ↔ (a, b) ∈ as := by
  constructor
  · intro h
    obtain ⟨q, hq, e⟩ := List.mem_map.mp h
    have : q = (a, b) := nm2_inj e
    rw [← this]; exact hq
  · intro h
    exact List.mem_map.mpr ⟨(a, b), h, rfl⟩
theorem in_arrows' {as : List (Int × Int)} {x y : Int} (h : (x, y) ∈ as.map nm2) : ∃ a b, x = nm a ∧ y = nm b ∧ (a, b) ∈ as := by
  obtain ⟨q, hq, e⟩ := List.mem_map.mp h
  refine ⟨q.1, q.2, ?_, ?_, hq⟩
  · exact (congrArg Prod.fst e).symm
  · exact (congrArg Prod.snd e).symm
section
variable {n s0 : Int} {as : List (Int × Int)} {rr ks L : List Int} {su pr : Int → List Int} {d : Int → Int} (G : PG n s0 as rr ks L su pr d)
include G
theorem PG.reach_bd {wo : Option Int} {x : Int} (h : ReachA as wo s0 x) : 0 ≤ x ∧ x < n := by
  cases h with
  | base _ => exact G.s
  | step _ h2 _ => have := G.bd _ h2; exact ⟨this.2.2.1, this.2.2.2⟩
theorem PG.rbd {x : Int} (h : x ∈ rr) : 0 ≤ x ∧ x < n := G.reach_bd ((G.mr x).mp h)
theorem PG.nst : nm s0 ∈ ks := G.kin _ G.s.1 G.s.2
theorem PG.Nks {u : Int} (h : u ∈ nm s0 :: L) : u ∈ ks := (List.mem_cons.mp h).elim (fun e => e ▸ G.nst) (G.Lg u)
theorem PG.sr : s0 ∈ rr := (G.mr s0).mpr (.base (by simp))
theorem PG.step {a b : Int} (h : (a, b) ∈ as) (ha : a ∈ rr) : b ∈ rr := (G.mr b).mpr (.step ((G.mr a).mp ha) h (by simp))
theorem PG.ofN {u : Int} (h : u ∈ nm s0 :: L) : ∃ k ∈ rr, u = nm k := by
  rcases List.mem_cons.mp h with rfl | h
  · exact ⟨s0, G.sr, rfl⟩
  · refine G.all (fun u => ∃ k ∈ rr, u = nm k) ⟨s0, G.sr, rfl⟩ ?_ u h
    rintro u y ⟨k, hk, rfl⟩ hu hy
    obtain ⟨a, b, e1, e2, hab⟩ := in_arrows' ((G.ms _ hu y).mp hy)
    have := nm_inj e1
    subst this
    exact ⟨b, G.step hab hk, e2⟩
theorem PG.toN {k : Int} (h : k ∈ rr) : nm k ∈ nm s0 :: L := by
  have h' := (G.mr k).mp h
  clear h
  induction h' with
  | base _ => exact .head _
  | @step u v h1 h2 _ ih => exact G.cl _ ih _ ((G.ms _ (G.Nks ih) _).mpr (in_arrows.mpr h2))
theorem PG.iN {k : Int} : nm k ∈ nm s0 :: L ↔ k ∈ rr := by
  refine ⟨fun h => ?_, G.toN⟩
  obtain ⟨k', hk, e⟩ := G.ofN h
  rw [nm_inj e]; exact hk
theorem PG.Nn : (nm s0 :: L).Nodup := List.nodup_cons.mpr ⟨G.b0.ns, G.b0.nd⟩
theorem PG.mapn : (rr.map nm).Nodup := by
  have : ∀ r : List Int, r.Nodup → (r.map nm).Nodup := by
    intro r
    induction r with
    | nil => intro _; exact .nil
    | cons x t ih =>
      intro h
      rw [List.nodup_cons] at h
      rw [List.map_cons, List.nodup_cons]
      refine ⟨fun hm => ?_, ih h.2⟩
      obtain ⟨z, hz, e⟩ := List.mem_map.mp hm
      exact h.1 (nm_inj e ▸ hz)
  exact this rr G.rn
theorem PG.perm : (nm s0 :: L).Perm (rr.map nm) := by
  have h1 : ∀ u ∈ nm s0 :: L, u ∈ rr.map nm := fun u hu => by
    obtain ⟨k, hk, e⟩ := G.ofN hu
    exact List.mem_map.mpr ⟨k, hk, e.symm⟩
  have h2 : ∀ u ∈ rr.map nm, u ∈ nm s0 :: L := fun u hu => by
    obtain ⟨k, hk, rfl⟩ := List.mem_map.mp hu
    exact G.toN hk
  exact perm_of_sub _ _ G.Nn h1 (nodup_len (f := rr.map nm) (l := nm s0 :: L) G.mapn h2)
theorem PG.av_reach {x j u : Int} {m : Nat} (h : Av (nm s0) (nm s0 :: L) pr d (nm x) m u) : ∃ k, u = nm k ∧ ReachA as (some x) s0 k := by
  have one : ∀ {p u : Int}, (∃ k, p = nm k ∧ ReachA as (some x) s0 k) → u ∈ nm s0 :: L → p ∈ pr u → u ≠ nm x → ∃ k, u = nm k ∧ ReachA as (some x) s0 k := by
    rintro p u ⟨k, rfl, hk⟩ hu hp hne
    obtain ⟨a, b, e1, e2, hab⟩ := in_arrows' ((G.mp _ (G.Nks hu) _).mp hp)
    have := nm_inj e1
    subst this
    refine ⟨b, e2, .step hk hab fun e => hne ?_⟩
    rw [e2]
    exact congrArg nm (Option.some.inj e)
  induction h with
  | base h => exact ⟨s0, rfl, .base fun e => h (congrArg nm (Option.some.inj e))⟩
  | adv _ h1 h2 h3 _ ih => exact one ih h1 h2 h3
  | ret _ h1 h2 h3 ih => exact one ih h1 h2 h3
theorem PG.reach_av {x k : Int} (h : ReachA as (some x) s0 k) : ∃ m, Av (nm s0) (nm s0 :: L) pr d (nm x) m (nm k) := by
  have weak : ∀ {k}, ReachA as (some x) s0 k → k ∈ rr := by
    intro k h
    induction h with
    | base _ => exact G.sr
    | step _ h2 _ ih => exact G.step h2 ih
  induction h with
  | base h => exact ⟨0, .base fun e => h (by rw [nm_inj e])⟩
  | @step u v h1 h2 h3 ih =>
    obtain ⟨m, hm⟩ := ih
    have hv := G.toN (weak (.step h1 h2 h3))
    exact ⟨m + 1, .ret hm hv ((G.mp _ (G.Nks hv) _).mpr (in_arrows.mpr h2)) fun e => h3 (by rw [nm_inj e])⟩
theorem PG.dm {w x : Int} : Dm (nm s0) (nm s0 :: L) pr d (nm x) (nm w) ↔ ¬ ReachA as (some x) s0 w := by
  constructor
  · intro h hr
    obtain ⟨m, hm⟩ := G.reach_av hr
    exact h m hm
  · intro h m hm
    obtain ⟨k, e, hk⟩ := G.av_reach (j := 0) hm
    have := nm_inj e
    subst this
    exact h hk
theorem PG.anc {f : Int → Option Int} (hA : ∀ w ∈ nm s0 :: L, ∀ x, Anc f w x ↔ Dm (nm s0) (nm s0 :: L) pr d x w) {w x : Int} (hw : w ∈ rr) (hx : x ∈ rr) : Anc f (nm w) (nm x) ↔ x = w ∨ x ∈ strictL as s0 rr w := by
  rw [hA _ (G.toN hw), G.dm]
  unfold strictL
  rw [List.mem_filter]
  simp only [decide_eq_true_eq]
  constructor
  · intro h
    by_cases e : x = w
    · exact .inl e
    · exact .inr ⟨hx, e, h⟩
  · rintro (rfl | ⟨_, _, h⟩)
    · intro h
      cases h with
      | base h => exact h rfl
      | step _ _ h => exact h rfl
    · exact h
end
end
section
open PySem PySem.Calls PyProof.Rows PySem.W PySem.W.X
section
variable {n s0 : Int} {as : List (Int × Int)} {rr ks L : List Int} {su pr : Int → List Int} {d : Int → Int} {f : Int → Option Int} (G : PG n s0 as rr ks L su pr d) (T : Tree (nm s0) (nm s0 :: L) d f) (hA : ∀ w ∈ nm s0 :: L, ∀ x, Anc f w x ↔ Dm (nm s0) (nm s0 :: L) pr d x w)
include G
theorem PG.s_rr {v u : Int} (h : u ∈ strictL as s0 rr v) : u ∈ rr := (List.mem_filter.mp h).1
theorem PG.s_ne {v u : Int} (h : u ∈ strictL as s0 rr v) : u ≠ v := by
  have := (List.mem_filter.mp h).2
  simp only [decide_eq_true_eq] at this
  exact this.1
theorem PG.s_st {u : Int} : u ∉ strictL as s0 rr s0 := by
  intro h
  have := (List.mem_filter.mp h).2
  simp only [decide_eq_true_eq] at this
  exact this.2 (.base fun e => this.1 (Option.some.inj e).symm)
include T hA
theorem PG.par {v : Int} (hv : v ∈ rr) (hne : v ≠ s0) : ∃ u ∈ strictL as s0 rr v, f (nm v) = some (nm u) ∧ Last (strictL as s0 rr) v u := by
  have hN := G.toN hv
  obtain ⟨y, hy, e, hd⟩ := T.up (nm v) hN (fun q => hne (nm_inj q))
  obtain ⟨u, hu, rfl⟩ := G.ofN hy
  have hanc : Anc f (nm v) (nm u) := .step e .refl
  have huv : u ≠ v := fun q => by rw [q] at hd; lia
  have huS := ((G.anc hA hv hu).mp hanc).resolve_left huv
  refine ⟨u, huS, e, fun one h1 h2 => ?_⟩
  have ho := G.s_rr h1
  have h3 : Anc f (nm v) (nm one) := (G.anc hA hv ho).mpr (.inr h1)
  have h4 := h3.up e (fun q => G.s_ne h1 (nm_inj q))
  exact ((G.anc hA hu ho).mp h4).resolve_left h2
theorem PG.due {dk : List Int} {g : Int → Option Int} (hdn : dk.Nodup) (h : DueOk (strictL as s0 rr) rr 0 [] dk g) : L.Perm dk ∧ ∀ k ∈ L, ∃ m, f k = some m ∧ g k = some m := by
  have h1 : ∀ k ∈ L, k ∈ dk := by
    intro k hk
    obtain ⟨v, hv, rfl⟩ := G.ofN (.tail _ hk)
    obtain ⟨u, hu, _, hl⟩ := G.par T hA hv (fun e => G.b0.ns (e ▸ hk))
    exact h.has v hv u hu hl
  have h2 : ∀ k ∈ dk, k ∈ L ∧ ∃ m, f k = some m ∧ g k = some m := by
    intro k hk
    rcases h.of k hk with ⟨v, hv, u, hu, hl, rfl, hg⟩ | ⟨u, hu, _⟩
    · have hne : v ≠ s0 := fun e => G.s_st (e ▸ hu)
      refine ⟨?_, nm u, ?_, hg⟩
      · rcases List.mem_cons.mp (G.toN hv) with e | e
        · exact absurd (nm_inj e) hne
        · exact e
      · obtain ⟨u', hu', e', hl'⟩ := G.par T hA hv hne
        by_cases q : u = u'
        · rw [q]; exact e'
        · have a1 := hl u' hu' (fun e => q e.symm)
          have a2 := hl' u hu q
          have r1 := G.s_rr hu
          have r2 := G.s_rr hu'
          have b1 : Anc f (nm u) (nm u') := (G.anc hA r1 r2).mpr (.inr a1)
          have b2 : Anc f (nm u') (nm u) := (G.anc hA r2 r1).mpr (.inr a2)
          exact absurd (nm_inj (Anc.antisymm T (G.toN r1) b1 b2)) q
    · cases hu
  refine ⟨perm_of_sub _ _ G.b0.nd h1 (nodup_len (f := dk) (l := L) hdn fun k hk => (h2 k hk).1), fun k hk => (h2 k (h1 k hk)).2⟩
theorem PG.ends {u : Int} (hu : u ∈ rr) {es : List Int} (h : EndsOk (strictL as s0 rr) rr u as es) (y : Int) : (y ∈ L ++ [nm s0] ∧ DF f (nm s0 :: L) pr (nm u) y) ↔ y ∈ es := by
  rw [h.mem]
  constructor
  · rintro ⟨hy, p, hp, hpN, hpu, hno⟩
    have hyN : y ∈ nm s0 :: L := by simpa [or_comm] using hy
    obtain ⟨v, hv, rfl⟩ := G.ofN hyN
    obtain ⟨a, b, rfl, e2, hab⟩ := in_arrows' ((G.mp _ (G.Nks hyN) _).mp hp)
    have := nm_inj e2
    subst this
    have har := G.iN.mp hpN
    have h1 := (G.anc hA har hu).mp hpu
    refine ⟨(a, v), hab, ⟨har, h1.imp Eq.symm id, fun hus => hno ?_⟩, rfl⟩
    have h2 : Anc f (nm v) (nm u) := (G.anc hA hv hu).mpr (.inr hus)
    have hne : nm u ≠ nm v := fun q => G.s_ne hus (nm_inj q)
    cases e : f (nm v) with
    | none => exact absurd (h2.top e) hne
    | some y' => exact h2.up e hne
  · rintro ⟨q, hq, ⟨h1, h2, h3⟩, rfl⟩
    have hv := G.step hq h1
    have hvN := G.toN hv
    refine ⟨by simpa [or_comm] using hvN, nm q.1, (G.mp _ (G.Nks hvN) _).mpr (in_arrows.mpr hq), G.toN h1, (G.anc hA h1 hu).mpr (h2.imp Eq.symm id), fun hab => ?_⟩
    cases e : f (nm q.2) with
    | none => rw [e] at hab; exact hab
    | some y' =>
      rw [e] at hab
      have hab : Anc f y' (nm u) := hab
      obtain ⟨hy', hd⟩ := up_of T hvN e
      have hd2 := (T.anc hab hy').2
      rcases (G.anc hA hv hu).mp (.step e hab) with r | r
      · rw [r] at hd2; lia
      · exact h3 r
end
end
section
open PySem PySem.Calls PyProof.Rows PySem.W PySem.W.X
open Sem (wp)
theorem law_eq : lawD.body = [lawS 0, lawS 1, lawS 2, lawS 3, lawS 4, lawS 5, lawS 6, lawS 7, lawS 8, lawS 9, lawS 10, lawS 11, lawS 12, lawS 13, lawS 14, lawS 15, lawS 16, lawS 17, lawS 18, lawS 19] := by rfl
theorem gat_g (g0 nd sa pa : Addr) : GAt (gAttrs g0 nd sa pa) nd sa pa := ⟨by rfl, by rfl, by rfl, fun n hn => by
  simp only [List.mem_cons, List.not_mem_nil, or_false] at hn
  rcases hn with rfl | rfl | rfl | rfl <;> rfl⟩
section
variable {prog : Program} {w : World} {A : Around} {E : Value → Shared → Prop} {c : Cfg} {S S' F : List Ent} {s : Shared} {a : Addr} {env : Env}
noncomputable def nx (prog : Program) (w : World) (A : Around) (env : Env) (rest : List Stmt) (Q : Flow → Shared → Prop) (E : Value → Shared → Prop) (f : Flow) (s' : Shared) : Prop := match f with | .next => wpG (model prog w) A (execs rest env) Q E s' | f => Q f s'
theorem g_st1 {a : Stmt} {rest : List Stmt} {Q : Flow → Shared → Prop} (h : wpAny (model prog w) A (exec a env) (nx prog w A env rest Q E) E s) : wpG (model prog w) A (execs (a :: rest) env) Q E s :=
  g_st (wpAny_mono h (fun f s' h' => by cases f <;> exact h') fun _ _ e => e)
theorem g_st2 {a b : Stmt} {rest : List Stmt} {Q : Flow → Shared → Prop} (h : wpAny (model prog w) A (exec a env) (fun f s' => match f with | .next => wpAny (model prog w) A (exec b env) (nx prog w A env rest Q E) E s' | f => nx prog w A env rest Q E f s') E s) : wpG (model prog w) A (execs (a :: b :: rest) env) Q E s :=
  g_st (wpAny_mono h (fun f s' h' => by
    cases f with
    | next => exact g_st1 h'
    | _ => exact h') fun _ _ e => e)
theorem g_st3 {a b d : Stmt} {rest : List Stmt} {Q : Flow → Shared → Prop} (h : wpAny (model prog w) A (exec a env) (fun f s' => match f with | .next => wpAny (model prog w) A (exec b env) (fun f s' => match f with | .next => wpAny (model prog w) A (exec d env) (nx prog w A env rest Q E) E s' | f => nx prog w A env rest Q E f s') E s' | f => nx prog w A env rest Q E f s') E s) : wpG (model prog w) A (execs (a :: b :: d :: rest) env) Q E s :=
  g_st (wpAny_mono h (fun f s' h' => by
    cases f with
    | next => exact g_st2 h'
    | _ => exact h') fun _ _ e => e)
theorem g_stG {a : Stmt} {rest : List Stmt} {Q : Flow → Shared → Prop} (h : wpG (model prog w) A (exec a env) (nx prog w A env rest Q E) E s) : wpG (model prog w) A (execs (a :: rest) env) Q E s :=
  g_cons_ (g_mono h (fun f s' h' => by cases f <;> exact h') fun _ _ e => e)
theorem law_body {Q : Flow → Shared → Prop} {sl c1 c2 c3 c4 c5 : Addr} {ns : List Int} (hB : KZ w c.Z) (hA : Room A 36) (le : LawE env c1 c2 c3 c4 c5) (hl : FInts c.Z sl ns) (hn : ns.length ≤ 63) (hf : env.frame = some env.locals) (hfr : A.frames = some [env])
    (h : St c ((env.locals, FrP env [("script", some (.ref sl)), ("v", none), ("arrows", none), ("graph", none), ("left", none), ("rest", none), ("start", none), ("refused", none), ("reach", none), ("due", none), ("told", none), ("ends", none), ("p", none)]) :: (c5, CellP none) :: (c4, CellP none) :: (c3, CellP none) :: (c2, CellP none) :: (c1, CellP none) :: (43, TabP TT) :: (84, TabP (T84 w.params none)) :: []) s)
    (k : ∀ c' s', CE c c' → (∃ S T1 T2, St c' (S ++ [(43, TabP T1), (84, TabP T2)]) s') → Q (.ret (.bool true)) s') : wpG (model prog w) A (execs lawD.body env) Q E s := by
  rw [law_eq]
  refine g_st2 ?_
  refine law_01 hB hA.less le hl hn h fun n tn sq y s₁ n1 n5 hy0 hy1 h₁ => ?_
  refine g_st1 ?_
  refine law_2 hB hA.less le n1 n5 hy0 hy1 h₁ fun as al y c₁ s₂ x₁ hy0 hy1 hok hal h₂ => ?_
  have hB1 : KZ w c₁.Z := hB.ext x₁.z
  refine g_st1 ?_
  refine law_3 hB1 hA.less le n1 n5 h₂ fun nl c₂ s₃ x₂ hnl h₃ => ?_
  have hB2 : KZ w c₂.Z := hB1.ext x₂.z
  have hn5n : (names5.take n.toNat).Nodup := List.Sublist.nodup (List.take_sublist _ _) (by decide)
  have hnl5 : (names5.take n.toNat).length ≤ 5 := by rw [List.length_take]; exact Nat.min_le_right _ _
  refine g_st2 ?_
  refine law_45 hB2 hA.less le hnl hnl5 h₃ fun x dx g0 nd sa pa lf s₄ h₄ => ?_
  refine g_st1 ?_
  refine law_6 hB2 hA.less le hnl5 hn5n hy0 hy1 h₄ fun ks nk skv pkv sl' pl y s₅ hks hy0 hy1 hG h₅ => ?_
  refine g_st2 ?_
  refine law_78 hB2 hA.less le n1 n5 hok (hal.ext x₂) hnl hks hy0 hy1 hG h₅ fun rs vv vu Ed nk skv pkv sl' pl y s₆ hEd hy0 hy1 hG h₆ => ?_
  have h₇ : St c₂ (gE prog w x dx g0 nd sa pa nk skv pkv sl' pl ++ _) s₆ := St.back [(env.locals, _), (c5, _), (c4, _), (c3, _), (c2, _), (c1, _), (sq, _)] (gE prog w x dx g0 nd sa pa nk skv pkv sl' pl) h₆
  obtain ⟨c₃, su, pr, x₃, hg, msu, mpr, npr, h₈⟩ := freeze_graph hG h₇
  have hB3 : KZ w c₃.Z := hB2.ext x₃.z
  simp only [List.cons_append, List.nil_append] at h₈
  refine g_st1 ?_
  refine law_9 (sl := sl) (al := al) (nl := nl) (x := x) (lf := lf) (rs := rs) (sq := sq) (tn := tn) (vv := vv) (vu := vu) (c1 := c1) hB3 hA.less le n1 n5 hy0 hy1 (h₈.sub (.cons (a := env.locals) (by w_up) (fun _ q => q) (.cons (a := c5) (by w_up) (fun _ q => q) (.cons (a := c4) (by w_up) (fun _ q => q) (.cons (a := c3) (by w_up) (fun _ q => q) (.cons (a := c2) (by w_up) (fun _ q => q) (.cons (a := c1) (by w_up) (fun _ q => q) (.cons (a := sq) (by w_up) (fun _ q => q) .refl)))))))) fun s0 ts s₇ a0 a1 h₉ => ?_
  have h₁₀ := h₉.sub (.cons (a := env.locals) (by w_up) (fun _ q => q) (.cons (a := c5) (by w_up) (fun _ q => q) (.cons (a := c4) (by w_up) (fun _ q => q) (.cons (a := c3) (by w_up) (fun _ q => q) (.cons (a := c2) (by w_up) (fun _ q => q) (.cons (a := x) (by w_up) (fun _ q => q) (.cons (a := dx) (by w_up) sdic_i .refl)))))))
  have hmks : ∀ u, u ∈ ks ↔ u ∈ names5.take n.toNat := fun u => hks.mem_iff
  have h5 : ∀ u ∈ ks, u ∈ names5 := fun u hu => List.mem_of_mem_take ((hmks u).mp hu)
  have hno5 : (5 : Int) ∉ ks := fun q => absurd (h5 5 q) (by decide)
  refine g_st1 ?_
  refine law_10 hB3 hA.less le hg (gat_g ..) hno5 hf hfr h₁₀ (fun s' _ ⟨S₁, hS⟩ => k c₃ s' (CE.ext (x₁.trans (x₂.trans x₃))) ⟨S₁, _, _, hS⟩) fun s₈ hne h₁₁ => ?_
  have hs1 : s0 < n := by lia
  have hok' : ∀ p ∈ as, 0 ≤ p.2 ∧ p.2 < 5 := fun p hp => ⟨(hok.bd p hp).2.2.1, by have := (hok.bd p hp).2.2.2; lia⟩
  have x13 := x₂.trans x₃
  have ksin : ∀ q, 0 ≤ q → q < n → nm q ∈ ks := fun q q0 q1 => (hmks _).mpr (names_mem q0 q1 n5)
  have edas : ∀ a b, (nm a, nm b) ∈ Ed.map nm2 ↔ (a, b) ∈ as := fun a b => in_arrows.trans hEd.mem_iff
  have hed : ∀ p, p ∈ Ed.map nm2 ↔ p ∈ as.map nm2 := fun p => (hEd.map nm2).mem_iff
  have hsu : ∀ k ∈ ks, ∀ z ∈ su k, z ∈ ks := fun u hu z hz => by
    obtain ⟨a, b, _, rfl, hab⟩ := in_arrows' ((hed _).mp ((msu u hu z).mp hz))
    have := hok.bd _ hab
    exact ksin b this.2.2.1 this.2.2.2
  have hstk : nm s0 ∈ ks := ksin s0 a0 hs1
  have hkl : ks.length ≤ 5 := by rw [hks.length_eq]; exact hnl5
  obtain ⟨l, L, hT, heL, hnd, hlen, hb0, hLg, hcl, hall⟩ := run_ok (su := su) (pr := pr) (st := nm s0) (ks := ks) hsu hstk (fun k hk z hz => by rw [mpr k hk, msu z hz]) (by lia)
  refine g_st3 ?_
  refine law_1113 hB3 hA.less le (hal.ext x13) hok' ⟨a0, by lia⟩ h₁₁ fun rl dl sd kvs ep rr c₄ s₉ x₄ hrn hrr hrl hfd hS h₁₂ => ?_
  have hB4 : KZ w c₄.Z := hB3.ext x₄.z
  have G : PG n s0 as rr ks L su pr (idx (outL l)) := by
    refine ⟨hok.bd, ⟨a0, hs1⟩, hrn, hrr, fun u hu => ?_, ksin, fun k hk z => by rw [msu k hk, hed], fun k hk z => by rw [mpr k hk, hed], hb0, hLg, hcl, hall⟩
    have := h5 u hu
    simp only [names5, List.mem_cons, List.not_mem_nil, or_false] at this
    rcases this with rfl | rfl | rfl | rfl | rfl
    · exact ⟨0, rfl⟩
    · exact ⟨1, rfl⟩
    · exact ⟨2, rfl⟩
    · exact ⟨3, rfl⟩
    · exact ⟨4, rfl⟩
  have hrb : ∀ z ∈ rr, 0 ≤ z ∧ z < n := fun z hz => G.rbd hz
  have hrlen : rr.length ≤ 5 := by
    have := G.perm.length_eq
    rw [List.length_cons, List.length_map] at this
    have h2 : (outL l).length ≤ 5 := Nat.le_trans (nodup_len (f := outL l) (l := ks) hnd fun u hu => by
      rw [heL] at hu
      rcases List.mem_append.mp hu with hu | hu
      · exact hLg u (List.mem_reverse.mp hu)
      · rw [List.mem_singleton] at hu; rw [hu]; exact hstk) hkl
    rw [heL] at h2
    simp at h2
    lia
  refine g_st1 ?_
  refine law_14 hB4 hA.less le (hnl.ext (x₃.trans x₄)) n5 hrn hrb hrl hfd hS h₁₂ fun dk g vv vu s₁₀ hdue h₁₃ => ?_
  have hdn := di_nodup h₁₃ (a := dl) (by lk)
  have R : RunOk prog w c₄.Z x dx nd sa pa (gAttrs g0 nd sa pa) ks su pr (nm s0) l L := ⟨hg.ext x₄, gat_g .., by rfl, Nat.le_of_ble_eq_true rfl, (hks.nodup_iff).mpr hn5n, by lia, hsu, hstk, hT, heL, hnd, hlen, hb0, hLg, h5, fun u hu => by
    have := nodup_len (f := pr u) (l := ks) (npr u hu) fun z hz => by
      obtain ⟨a, b, rfl, _, hab⟩ := in_arrows' ((hed _).mp ((mpr u hu z).mp hz))
      have := hok.bd _ hab
      exact ksin a this.1 this.2.1
    lia⟩
  refine g_stG ?_
  refine law_15 hB4 hA.less le (hnl.ext (x₃.trans x₄)) n5 a0 hs1 R (fun f T hAn => G.due T hAn hdn hdue) (F := []) h₁₃ fun kc at₁ c₅ s₁₁ hcg hat h₁₄ => ?_
  have z5 := (CE.cg hcg).z
  have hB5 : KZ w c₅.Z := hB4.ext z5
  refine g_stG ?_
  refine law_16 hB5 hA.less le ((hnl.ext (x₃.trans x₄)).le z5) n5 a0 hs1 (R.le z5) hat h₁₄ fun D ad ls kk c₆ f ep' s₁₂ hce hAn hTr hD hls h₁₅ => ?_
  have z6 := z5.trans hce.z
  have hB6 : KZ w c₆.Z := hB4.ext z6
  have x14 := x₃.trans x₄
  have hS6 : StrictOf c₆.Z as s0 rr rr kvs := ⟨hS.1, fun v hv => let ⟨a, e1, e2⟩ := hS.2 v hv; ⟨a, e1, e2.le z6⟩⟩
  have hnl6 := (hnl.ext x14).le z6
  have hrl6 := hrl.le z6
  have hal6 := (hal.ext (x13.trans x₄)).le z6
  have hfd6 := hfd.le z6
  have hKp : (L ++ [nm s0]).Perm (rr.map nm) := (List.perm_append_comm).trans G.perm
  have hKn : (L ++ [nm s0]).Nodup := (hKp.nodup_iff).mpr G.mapn
  refine g_st1 ?_
  refine law_17 hB6 hA.less le hnl6 n5 hrl6 hrb hrlen hD hKp h₁₅ fun s₁₃ h₁₆ => ?_
  have h₁₆' := h₁₆.sub (.cons (a := env.locals) (by w_up) (fun _ q => q) (.cons (a := c5) (by w_up) (fun _ q => q) (.cons (a := c4) (by w_up) (fun _ q => q) (.cons (a := c3) (by w_up) (fun _ q => q) (.cons (a := dl) (by w_up) (fun _ q => q) (.drop .refl))))))
  have h₁₇ := h₁₆'.perm (.cons _ (.cons _ (.cons _ (.cons _ (List.perm_append_comm_assoc [(dl, DI prog w dk g)] (setsE prog w (L ++ [nm s0]) ad ls) [(43, TabP TT), (84, TabP (T84 w.params (some kk)))])))))
  refine g_st1 ?_
  refine law_18 hB6 hA.less le hal6 hnl6 n5 hrl6 hrb hrlen (fun q hq h1 => G.step hq h1) hfd6 hS6 hD hKn (fun u hu => by have := G.toN hu; simpa [or_comm] using this) (fun u hu es hes z => ?_) h₁₇ fun vv vp ve vu s₁₄ h₁₈ => ?_
  · rw [hls (nm u) (by have := G.toN hu; simpa [or_comm] using this) z]
    exact G.ends hTr hAn hu hes z
  · obtain ⟨hpd, _⟩ := G.due hTr hAn hdn hdue
    have hdl : dk.length + 1 = rr.length := by
      have e1 := hpd.length_eq
      have e2 := G.perm.length_eq
      rw [List.length_cons, List.length_map] at e2
      lia
    have h₁₉ := h₁₈.perm (.cons _ (.cons _ (.cons _ (.cons _ (List.perm_append_comm_assoc (setsE prog w (L ++ [nm s0]) ad ls) [_] [(43, TabP TT), (84, TabP (T84 w.params (some kk)))])))))
    simp only [List.cons_append, List.nil_append] at h₁₉
    refine g_st1 ?_
    have h₂₀ := h₁₉.sub (.cons (a := env.locals) (by w_up) (fun _ q => q) (.cons (a := dl) (by w_up) (fun _ q => q) .refl))
    refine law_19 hB6 hA.less le hrl6 hrlen hdl h₂₀ ?_
    rintro s' ⟨S₁, hS'⟩
    exact k c₆ s' ((CE.ext (x₁.trans (x₂.trans (x₃.trans x₄)))).trans ((CE.cg hcg).trans hce)) ⟨S₁ ++ ((c5, _) :: (c4, _) :: (c3, _) :: setsE prog w (L ++ [nm s0]) ad ls), _, _, by rw [List.append_assoc]; exact hS'⟩
end
end
section
open PySem PySem.Calls PyProof.Rows PySem.W PySem.W.X
open Sem (wp)
theorem bare_all {c c' : Cfg} (h : CE c c') (h0 : c.gens = #[]) : AllBare c'.gens := by
  intro y hy
  obtain ⟨i, hi, rfl⟩ := Array.getElem_of_mem hy
  rcases h.g i c'.gens[i] (Array.getElem?_eq_getElem hi) with q | q
  · rw [h0] at q; simp at q
  · rw [q]; rfl
noncomputable def hideT (h : Heap) (b : Addr) : Option Obj := if b = 43 ∨ b = 84 then none else h.get? b
theorem hideT_le {h : Heap} {b : Addr} {o : Obj} (e : hideT h b = some o) : h.get? b = some o := by
  unfold hideT at e
  split at e
  · cases e
  · exact e
theorem hideT_of {h : Heap} {b : Addr} {o : Obj} (h43 : h.get? 43 = some (tabObj #[])) (h84 : h.get? 84 = some (tabObj #[])) (e : h.get? b = some o) (hn : o ≠ tabObj #[]) : hideT h b = some o := by
  unfold hideT
  rw [if_neg]
  · exact e
  · rintro (q | q)
    · rw [q, h43] at e; exact hn (Option.some.inj e).symm
    · rw [q, h84] at e; exact hn (Option.some.inj e).symm
theorem hideT_ne {h : Heap} {b : Addr} {o : Obj} (e : h.get? b = some o) (n1 : b ≠ 43) (n2 : b ≠ 84) : hideT h b = some o := by
  unfold hideT
  rw [if_neg (fun q => q.elim n1 n2)]
  exact e
theorem ne_tab {o : Obj} {x : Data} (hd : o.data = x) (hx : ∀ vs, x ≠ .fields vs) : o ≠ tabObj #[] := fun q => hx #[] (by rw [← hd, q])
section
variable {h h' : Heap} {a : Addr} {m : Str → Option Value}
theorem ns_hide (h43 : h.get? 43 = some (tabObj #[])) (h84 : h.get? 84 = some (tabObj #[])) (n : h.Ns a m) (k : ∀ b o, hideT h b = some o → h'.get? b = some o) : h'.Ns a m :=
  let ⟨o, es, ep, ho, hd, r⟩ := n; ⟨o, es, ep, k _ _ (hideT_of h43 h84 ho (ne_tab hd fun _ q => nomatch q)), hd, r⟩
theorem k3 (P : Params) : ∃ o es ep, (hd.heap_1 P).lookup mainGlobals = some o ∧ o.data = .dict es ep ∧ (∀ p ∈ gtab, nsFind es p.1 = some p.2) ∧ ∀ p ∈ btab, nsFind es p.1 = none := by
  refine ⟨_, _, _, rfl, rfl, fun p hp => ?_, fun p hp => ?_⟩
  · simp only [List.mem_cons, List.not_mem_nil, or_false] at hp
    rcases hp with rfl | rfl | rfl | rfl | rfl | rfl | rfl | rfl | rfl | rfl | rfl | rfl <;> kernel_rfl
  · simp only [List.mem_cons, List.not_mem_nil, or_false] at hp
    rcases hp with rfl | rfl | rfl | rfl | rfl | rfl | rfl | rfl | rfl | rfl <;> kernel_rfl
theorem bt_all : ∀ p ∈ btab, p.1 ≠ "__name__" ∧ bootBuiltins p.1 = some p.2 := fun p hp => by
  simp only [List.mem_cons, List.not_mem_nil, or_false] at hp
  rcases hp with rfl | rfl | rfl | rfl | rfl | rfl | rfl | rfl | rfl | rfl <;> exact ⟨by decide, by kernel_rfl⟩
end
theorem kz_of {p : Program} {loose : List Str} {mean : ExcName → Option Value} {mg mb : Str → Option Value} {w : World} {h : Heap} (T : Top p loose mean mg mb h) (KI : (KS hd.heap_1 w.params).In h)
    (h43 : h.get? 43 = some (tabObj #[])) (h84 : h.get? 84 = some (tabObj #[])) : KZ w (hideT h) where
  nolim := fun h' k => let ⟨mc, n, e⟩ := T.nolimit; ⟨mc, ns_hide h43 h84 n k, e⟩
  glob := fun h' k => by
    obtain ⟨o, es, ep, hl, hdt, hg, hb⟩ := k3 w.params
    have ho := KI _ _ (ks_look hl (by decide))
    have hm : ∀ n, nsFind es n = mg n := fun n => by
      obtain ⟨o', es', ep', ho', hd', _, hf⟩ := T.g
      rw [ho] at ho'; cases ho'
      rw [hdt] at hd'; cases hd'
      exact hf n
    exact ⟨mg, mb, ns_hide h43 h84 T.g k, ns_hide h43 h84 T.b k, fun p hp => (hm _).symm.trans (hg p hp), fun p hp => ⟨(hm _).symm.trans (hb p hp), (T.builtins _ (bt_all p hp).1).trans (bt_all p hp).2⟩⟩
  bmod := fun h' k => let ⟨bm, ob, e1, e2, e3, e4, e5, e6⟩ := T.bmain
    ⟨mg, bm, ob, ns_hide h43 h84 T.g k, e1, e2, k _ _ (hideT_of h43 h84 e3 (ne_tab e6 fun _ q => nomatch q)), e4, e5, e6⟩
  k := fun a o e n1 n2 => hideT_ne (KI a o (ks_look e n1)) (fun q => by rw [q] at n1; exact absurd n1 (by decide)) n2
theorem old_k {w : World} {h h' : Heap} {T1 T2 : Array Value → Prop} {o1 o2 : Obj} (KI : (KS hd.heap_1 w.params).In h) (h43 : h.get? 43 = some (tabObj #[])) (h84 : h.get? 84 = some (tabObj #[]))
    (k : ∀ b o, hideT h b = some o → h'.get? b = some o) (g1 : h'.get? 43 = some o1) (t1 : TabP T1 o1) (g2 : h'.get? 84 = some o2) (t2 : TabP T2 o2) : OldK h h' := by
  have x1 := ((codeHd_of_K (c := 47) (P := 43) KI (by kernel_rfl)).tab h43).isCodeTable
  have x2 := ((codeHd_of_K (c := 86) (P := 84) KI (by kernel_rfl)).tab h84).isCodeTable
  obtain ⟨p1, rfl, _⟩ := t1
  obtain ⟨p2, rfl, _⟩ := t2
  refine ⟨fun b o e => ?_, fun b o e => ?_⟩
  · by_cases q1 : b = 43
    · subst q1
      rw [h43] at e; cases e
      exact .inr (.inl ⟨x1, rfl, #[], p1, rfl, by rw [g1]; simp [tabObj]⟩)
    · by_cases q2 : b = 84
      · subst q2
        rw [h84] at e; cases e
        exact .inr (.inl ⟨x2, rfl, #[], p2, rfl, by rw [g2]; simp [tabObj]⟩)
      · exact .inl (k _ _ (hideT_ne e q1 q2))
  · by_cases q1 : b = 43
    · subst q1; exact ⟨_, g1⟩
    · by_cases q2 : b = 84
      · subst q2; exact ⟨_, g2⟩
      · exact ⟨o, k _ _ (hideT_ne e q1 q2)⟩
theorem tri_nil : TriplesOk (#[] : Array Value).toList := by simp [TriplesOk]
theorem roomC : Room callerA 37 := ⟨rfl, by decide, by decide⟩
theorem law_ok {w : World} {prog : Program} {p : Program} {loose : List Str} {mean : ExcName → Option Value} {mg mb : Str → Option Value} {s₁ : Shared} (T : Top p loose mean mg mb s₁.heap) (KI : (KS hd.heap_1 w.params).In s₁.heap)
    (h43 : s₁.heap.get? 43 = some (tabObj #[])) (h84 : s₁.heap.get? 84 = some (tabObj #[])) {a sl : Addr} {o : Obj} {pm cd doc : Value} {vs : Array Value} {ns : List Int}
    (ho : s₁.heap.get? a = some o) (hod : o.data = .func { docDef lawD.name lawD.params lawD.body lawD.scope pm cd doc with defaults := .none, kwdefaults := .none }) (hcr : s₁.heap.CodeRec cd lawD.name)
    (hg : s₁.gens = #[]) (hL : s₁.heap.IsList sl vs) (hI : IntsAre vs.toList ns) (hn : ns.length ≤ 63) {Q : Value → Shared → Prop} {E : Value → Shared → Prop}
    (k : ∀ s', OldK s₁.heap s'.heap → s'.os = s₁.os → AllBare s'.gens → Q (.bool true) s') : wpG (model prog w) callerA (call (.ref a) [.ref sl]) Q E s₁ := by
  have hB := kz_of T KI h43 h84
  obtain ⟨o3, es3, ep3, hl3, _⟩ := k3 w.params
  have h : St ⟨hideT s₁.heap, s₁.gens, s₁.drawn, s₁.os, ⟨mainGlobals, by decide, by rw [hB.k _ _ hl3 (by decide) (by decide)]; rfl⟩⟩ [(43, TabP TT), (84, TabP (T84 w.params none))] s₁ := by
    refine ⟨fun b o e => hideT_le e, fun q hq => ?_, (by show ([43, 84] : List Nat).Nodup; decide), fun q hq => ?_, rfl, rfl, rfl⟩
    · rcases List.mem_cons.mp hq with rfl | hq
      · exact ⟨by simp [hideT], _, h43, #[], rfl, ⟨tri_nil, trivial⟩⟩
      · rw [List.mem_singleton] at hq
        subst hq
        exact ⟨by simp [hideT], _, h84, #[], rfl, ⟨tri_nil, rfl⟩⟩
    · simp only [List.mem_cons, List.not_mem_nil, or_false] at hq
      rcases hq with rfl | rfl
      · exact fun q => absurd (show (43 : Nat) = sysModules from q) (by decide)
      · exact fun q => absurd (show (84 : Nat) = sysModules from q) (by decide)
  have ha : hideT s₁.heap a = some o := hideT_of h43 h84 ho (ne_tab hod fun _ q => nomatch q)
  have hcd : ZCode (hideT s₁.heap) cd lawD.name := by
    obtain ⟨c, oc, vs, t, e1, e2, e3, e4⟩ := hcr
    refine ⟨c, oc, vs, t, e1, hideT_of h43 h84 e2 fun q => ?_, e3, e4⟩
    rw [q] at e3
    cases e3
    cases e4
  have hF : FInts (hideT s₁.heap) sl ns := by
    obtain ⟨o, e1, e2, n, e3⟩ := hL
    exact ⟨o, vs, n, hideT_of h43 h84 e1 (ne_tab e3 fun _ q => nomatch q), e2, e3, hI⟩
  refine g_call ?_
  refine enterCG (l := [("script", some (.ref sl)), ("v", none), ("arrows", none), ("graph", none), ("left", none), ("rest", none), ("start", none), ("refused", none), ("reach", none), ("due", none), ("told", none), ("ends", none), ("p", none)])
    (ns := ["script", "v", "arrows", "graph", "left", "rest", "start", "refused", "reach", "due", "told", "ends", "p"])
    (lc := [("strict", none), ("names", none), ("u", none), ("many", none), ("s", none)]) (binds := [("script", .ref sl)]) (n := 36) h hB.toBase roomC ha hod hcd rfl rfl rfl (by rfl) (by rfl) (by rfl) (by rfl) (by rfl) (by rfl) (by rfl) ?_ rfl rfl rfl
  intro L env s' hE hA₁ h₁
  have le : LawE env (L + 1) (L + 2) (L + 3) (L + 4) (L + 5) := ⟨.of (by rw [hE]; rfl) (by rw [hE]; rfl) (by rw [hE]; rfl), by rw [hE]; rfl, by rw [hE]; rfl, by rw [hE]; rfl, by rw [hE]; rfl, by rw [hE]; rfl, by rw [hE]; rfl, by rw [hE]; rfl, by rw [hE]; rfl⟩
  have hfr : env.frame = some env.locals := by rw [hE]; rfl
  clear hE h
  refine law_body hB hA₁ le hF hn hfr rfl h₁ fun c' s₂ hce ⟨S, T1, T2, h₂⟩ => ?_
  obtain ⟨o1, g1, t1⟩ := h₂.get (a := 43) (P := TabP T1) (by simp)
  obtain ⟨o2, g2, t2⟩ := h₂.get (a := 84) (P := TabP T2) (by simp)
  refine k s₂ (old_k KI h43 h84 (fun b o e => h₂.keep _ _ (hce.z _ _ e)) g1 t1 g2 t2) (h₂.os.trans hce.os) ?_
  rw [h₂.gens]
  exact bare_all hce hg
theorem holds : PySem.Challenge.rw_aw0013_01.Holds := by
  refine hd ?_
  intro w s₀ s₁ mg mb G Y a o pm cd doc dV kV ho hod hcr hdf hmg hgens args vals as hpre hlay hreads hwell hlow
  have X43 := km_tabs_of Y 43 (by decide)
  have X84 := km_tabs_of Y 84 (by decide)
  have KI := km_in_of Y
  wrow_args hpre hlay hreads hwell hlow
  rename IntsAre _ _ => hI
  rename Heap.IsList _ _ _ => hL
  have hn : _ := ‹¬ ((63 : Int) < _)›
  rcases hdf.pos with ⟨_, rfl⟩ | ⟨q, _⟩
  · rcases hdf.kw with ⟨_, rfl⟩ | ⟨q, _⟩
    · refine law_ok G.T KI X43 X84 ho hod hcr hgens hL hI (by lia) fun s' hK hos hbare => ?_
      exact ⟨.inl ⟨_, .bool true, [], rfl, raisesW_false (by wrow_none_raised), .bool true, by wrow_post, fun _ => ⟨.nil, fun _ h => nomatch h⟩⟩, hK, hos, hbare⟩
    · exact absurd rfl q
  · exact absurd rfl q
end
end Dom
theorem PySem.Challenge.cw_aw0013_01_holds : PySem.Challenge.rw_aw0013_01.Holds := by
  exact Dom.holds
