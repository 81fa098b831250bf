import PyProof.Rows.All
import Wide.All
import OpenK.AllK
import Wide.FinOn
import PySem.Challenge.RW_dv0011_01
open PySem PySem.W PyProof.Rows
set_option Elab.async false
namespace Mine
open PySem.Calls
/-! The logic under the claim's caller: as wpAny and codeAny, but of those contexts alone whose stack bears the caller's code. -/
def callerIn (l : List (Code × Pos)) : Prop := l.any (fun x => x.1.isCaller) = true
def under (Γ : Ctx) : Prop := callerIn ((Γ.code, default) :: Γ.below)
theorem callerIn_cons {c : Code} {p : Pos} {l : List (Code × Pos)} (h : callerIn l) : callerIn ((c, p) :: l) := by
  unfold callerIn at h ⊢; rw [List.any_cons, h, Bool.or_true]
theorem under_enter {Γ : Ctx} (h : under Γ) (c : Code) (hd : Option Value) (p : Pos) : callerIn (Γ.enter c hd p).below := h
def wpC {α : Type} (M : Model) (A : Around) (t : Sem α) (Q : α → Shared → Prop) (E : Value → Shared → Prop) (s : Shared) : Prop :=
  ∀ Γ p, Γ.In A → under Γ → Sem.wp M Γ t (fun a _ s' => Q a s') (fun e _ s' => E e s') p s
def codeC (M : Model) (A : Around) (c : Code) (R : Result → Shared → Prop) (s : Shared) : Prop :=
  ∀ Γ p, Γ.code = c → Γ.Below A → callerIn Γ.below → wpCode M Γ R p s
section
variable {α β : Type} {M : Model} {A : Around} {E : Value → Shared → Prop} {s : Shared}
theorem wpC_of {t : Sem α} {Q : α → Shared → Prop} (h : wpAny M A t Q E s) : wpC M A t Q E s := fun Γ p hΓ _ => h Γ p hΓ
theorem wpC_mono {t : Sem α} {Q Q' : α → Shared → Prop} {E' : Value → Shared → Prop} (h : wpC M A t Q E s) (hQ : ∀ a s, Q a s → Q' a s) (hE : ∀ e s, E e s → E' e s) : wpC M A t Q' E' s :=
  fun Γ p hΓ hu => Sem.wp_mono M Γ t (fun a _ s => hQ a s) (fun e _ s => hE e s) p s (h Γ p hΓ hu)
theorem wpC_bind {m : Sem α} {f : α → Sem β} {Q : β → Shared → Prop} (h : wpC M A m (fun a s' => wpC M A (f a) Q E s') E s) : wpC M A (m >>= f) Q E s := fun Γ p hΓ hu => by
  rw [Sem.wp_bind']
  exact Sem.wp_mono M Γ m (fun a p' s' h' => h' Γ p' hΓ hu) (fun _ _ _ h' => h') p s (h Γ p hΓ hu)
theorem wpC_bindA {m : Sem α} {f : α → Sem β} {Q : β → Shared → Prop} (h : wpAny M A m (fun a s' => wpC M A (f a) Q E s') E s) : wpC M A (m >>= f) Q E s := wpC_bind (wpC_of h)
theorem wpC_attempt {m : Sem α} {Q : Except Value α → Shared → Prop} (h : wpC M A m (fun a => Q (.ok a)) (fun e => Q (.error e)) s) : wpC M A m.attempt Q E s :=
  fun Γ p hΓ hu => by rw [Sem.wp_attempt]; exact h Γ p hΓ hu
theorem wpC_onRaise {m : Sem α} {k : Value → Sem Unit} {Q : α → Shared → Prop} (h : wpC M A m Q (fun e s' => wpC M A (k e) (fun _ s'' => E e s'') E s') s) : wpC M A (m.onRaise k) Q E s := fun Γ p hΓ hu => by
  rw [Sem.wp_onRaise]
  exact Sem.wp_mono M Γ m (fun _ _ _ h' => h') (fun e p' s' h' => h' Γ p' hΓ hu) p s (h Γ p hΓ hu)
theorem wpC_holding {vs : List Value} {m : Sem α} {Q : α → Shared → Prop} (h : wpC M A m Q E s) : wpC M A (holding vs m) Q E s := fun Γ p hΓ hu => by rw [Sem.wp_holding]; exact h Γ p hΓ hu
theorem wpC_keep {vs : List Value} {m : Sem α} {Q : α → Shared → Prop} (h : wpC M A m Q E s) : wpC M A (m.keep vs) Q E s := fun Γ p hΓ hu => by rw [Sem.wp_keep]; exact h Γ p hΓ hu
theorem wpC_operate {vs : List Value} {m : Sem Value} {Q : Value → Shared → Prop} (h : wpC M A m Q E s) : wpC M A (operate vs m) Q E s := fun Γ p hΓ hu => by rw [Sem.wp_operate]; exact h Γ p hΓ hu
theorem wpC_pure {a : α} {Q : α → Shared → Prop} (h : Q a s) : wpC M A (pure a) Q E s := fun _ _ _ _ => h
theorem codeC_mono {c : Code} {R R' : Result → Shared → Prop} (h : codeC M A c R s) (hR : ∀ r s, R r s → R' r s) : codeC M A c R' s := fun Γ p hc hΓ hu => wpCode_mono hR (h Γ p hc hΓ hu)
theorem wpC_run {c : Code} {h : Option Value} {Q : Flow → Shared → Prop} (hc : codeC M (A.mark h) c (fun r s' => match r with | .ok f => Q f s' | .error e => E e s') s) (hnb : h ≠ some byPass) :
    wpC M A (run c h) Q E s := fun Γ p hΓ hu => by rw [Sem.wp_run]; exact hc _ p rfl (hΓ.enter c h p hnb) (under_enter hu c h p)
theorem wpC_runValue {c : Code} {Q : Value → Shared → Prop} (hc : codeC M A c (fun r s' => match r with | .ok (.ret v) => Q v s' | .ok _ => False | .error e => E e s') s) :
    wpC M A (runValue c) Q E s := fun Γ p hΓ hu => by rw [Sem.wp_runValue]; exact hc _ p rfl (hΓ.enter c none p (by intro x; cases x)) (under_enter hu c none p)
theorem wpC_call {f : Value} {pos : List Value} {kw : List (Str × Value)} {Q : Value → Shared → Prop}
    (hc : codeC M A (.call f ⟨pos, kw⟩) (fun r s' => match r with | .ok (.ret v) => Q v s' | .ok _ => False | .error e => E e s') s) : wpC M A (call f pos kw) Q E s := wpC_runValue hc
theorem codeC_of_tree {c : Code} {R : Result → Shared → Prop}
    (h : wpC M (A.under c) (M.den c) (fun fin s' => match fin with | .done f => R (.ok f) s' | .again c' => c'.quiet = true ∧ codeC M A c' R s') (fun e s' => R (.error e) s') s) : codeC M A c R s := fun Γ p hc hΓ hu => by
  rw [wpCode_iff_wp, hc]
  refine Sem.wp_mono M Γ _ (fun fin p' s' h' => ?_) (fun _ _ _ h' => h') p s (h Γ p (hc ▸ hΓ.in) (callerIn_cons hu))
  cases fin with
  | done f => exact h'
  | again c' => exact ⟨h'.1, h'.2 (Γ.goto c') p' rfl (hΓ.goto c') hu⟩
theorem codeC_loop {c : Code} {R : Result → Shared → Prop} (hq : c.quiet = true) (I : Nat → Shared → Prop)
    (turn : ∀ n s, I n s → wpC M (A.under c) (M.den c) (fun fin s' => match fin with | .done f => R (.ok f) s' | .again c' => c' = c ∧ ∃ m, m < n ∧ I m s') (fun e s' => R (.error e) s') s)
    (n : Nat) (h : I n s) : codeC M A c R s := by
  induction n using Nat.strongRecOn generalizing s with
  | ind n ih =>
    refine codeC_of_tree (wpC_mono (turn n s h) (fun fin s' hf => ?_) fun _ _ h' => h')
    cases fin with
    | done f => exact hf
    | again c' => obtain ⟨rfl, m, hm, hI⟩ := hf; exact ⟨hq, ih m hm hI⟩
variable {env : Env}
theorem wpC_runOwn {c : Code} {h : Option Value} {Q : Flow → Shared → Prop}
    (hc : codeC M (A.mark h) c (fun r s' => match r with | .ok f => Q f s' | .error e => cameBackBy M A env E e s') s) (hnb : h ≠ some byPass) : wpC M A (runOwn c env h) Q E s := by
  unfold runOwn
  exact wpC_onRaise (wpC_mono (wpC_run (E := fun e s' => cameBackBy M A env E e s') hc hnb) (fun _ _ x => x) fun _ _ x => wpC_of x)
theorem wpC_execs_nil {Q : Flow → Shared → Prop} (h : Q .next s) : wpC M A (execs [] env) Q E s := fun _ _ _ _ => h
theorem wpC_execs_cons {st : Stmt} {rest : List Stmt} {Q : Flow → Shared → Prop}
    (h : wpC M A (exec st env) (fun f s' => match f with | .next => wpC M A (execs rest env) Q E s' | f => Q f s') E s) : wpC M A (execs (st :: rest) env) Q E s := fun Γ p hΓ hu => by
  rw [execs_cons, Sem.wp_bind']
  refine Sem.wp_mono M Γ _ (fun f p' s' h' => ?_) (fun _ _ _ h' => h') _ _ (h Γ p hΓ hu)
  cases f <;> first | exact h' Γ p' hΓ hu | exact h'
/-- a leaf statement, then the rest -/
theorem wpC_leaf {st : Stmt} {rest : List Stmt} {Q : Flow → Shared → Prop}
    (h : wpAny M A (exec st env) (fun f s' => match f with | .next => wpC M A (execs rest env) Q E s' | f => Q f s') E s) : wpC M A (execs (st :: rest) env) Q E s := wpC_execs_cons (wpC_of h)
theorem wpC_If {test : Expr} {body orelse : List Stmt} {pos : Pos} {Q : Flow → Shared → Prop}
    (h : wpAny M A (isTrue test env (eval test env)) (fun b s₂ => if b = true then wpC M A (execs body env) Q E s₂ else wpC M A (execs orelse env) Q E s₂) E s) :
    wpC M A (exec (.If test body orelse pos) env) Q E s := by
  rw [exec_If]
  refine wpC_bindA (wpAny_standAt (wpC_bindA (wpAny_mono h (fun b s₂ h₂ => ?_) fun _ _ x => x)))
  cases b
  · exact h₂
  · exact h₂
theorem wpC_tryStmt {body orelse : Sem Flow} {h₀ : ExceptHandler} {hs : List ExceptHandler} {Q : Flow → Shared → Prop}
    (h : wpC M A body (fun f s₁ => match f with | .next => wpC M A orelse Q E s₁ | f => Q f s₁)
      (fun e s₁ => wpAny M A (noteFrame e env) (fun _ s₂ => wpAny M A (setFlight e none) (fun _ s₃ => wpAny M A (handleBy e env (h₀ :: hs)) Q E s₃) E s₂) E s₁) s) :
    wpC M A (tryStmt false body (h₀ :: hs) orelse [] env) Q E s := by
  unfold tryStmt
  simp only [List.isEmpty_nil, if_true]
  refine wpC_bind (wpC_attempt (wpC_mono h (fun f s₁ h₁ => ?_) fun e s₁ h₁ => ?_))
  · cases f <;> first | exact h₁ | exact wpC_pure h₁
  · refine wpC_of (wpAny_bind (wpAny_mono h₁ (fun _ s₂ h₂ => ?_) fun _ _ x => x))
    simp only [List.isEmpty_cons, Bool.false_eq_true, if_false, Bool.false_and]
    exact wpAny_bind (wpAny_mono h₂ (fun _ s₃ h₃ => h₃) fun _ _ x => x)
theorem wpC_Try {body orelse : List Stmt} {h₀ : ExceptHandler} {hs : List ExceptHandler} {pos : Pos} {Q : Flow → Shared → Prop}
    (h : wpC M A (execs body env) (fun f s₁ => match f with | .next => wpC M A (execs orelse env) Q E s₁ | f => Q f s₁)
      (fun e s₁ => wpAny M A (noteFrame e env) (fun _ s₂ => wpAny M A (setFlight e none) (fun _ s₃ => wpAny M A (handleBy e env (h₀ :: hs)) Q E s₃) E s₂) E s₁) s) :
    wpC M A (exec (.Try body (h₀ :: hs) orelse [] pos) env) Q E s := by
  rw [arm_exec_Try]
  exact wpC_bindA (wpAny_standAt (wpC_tryStmt h))
end
section
variable {prog : Program} {w : World} {A : Around} {E : Value → Shared → Prop} {R : Result → Shared → Prop} {s : Shared} {env : Env}
theorem wpC_noted {α : Type} {M : Model} {m : Sem α} {Q : α → Shared → Prop} (h : wpC M A m Q (notedBy M A env E) s) : wpC M A (m.onRaise fun x => do noteFrame x env; theTreesLotGoes x) Q E s :=
  wpC_onRaise (wpC_mono h (fun _ _ q => q) fun _ _ hx => wpC_of (wpAny_bind (wpAny_mono hx (fun _ _ e => wpAny_theTreesLotGoes e) fun _ _ e => e)))
theorem codeC_whileLoop {test : Expr} {body : List Stmt} (I : Nat → Shared → Prop)
    (turn : ∀ n s, I n s → wpAny (model prog w) A (isTrue test env (eval test env)) (fun b s₂ =>
        if b = true then wpC (model prog w) A (execs body env) (fun f s₃ => match f with
            | .next | .cont => ∃ m, m < n ∧ I m s₃
            | .brk => R (.ok .next) s₃
            | .ret v => R (.ok (.ret v)) s₃) (notedBy (model prog w) A env fun e s' => R (.error e) s') s₂
        else R (.ok .next) s₂) (notedBy (model prog w) A env fun e s' => R (.error e) s') s)
    (n : Nat) (h : I n s) : codeC (model prog w) A (.whileLoop test body [] env) R s := by
  refine codeC_loop rfl I (fun n s hI => ?_) n h
  show wpC _ A ((whileTurn test body [] env).onRaise (fun x => do noteFrame x env; theTreesLotGoes x)) _ _ s
  refine wpC_noted ?_
  simp only [whileTurn]
  refine wpC_bindA (wpAny_mono (turn n s hI) (fun b s₂ h₂ => ?_) fun _ _ h' => h')
  cases b with
  | false =>
    simp only [Bool.false_eq_true, if_false] at h₂ ⊢
    exact wpC_bindA (wpAny_execs_nil (wpC_pure h₂))
  | true =>
    simp only [if_true] at h₂ ⊢
    refine wpC_bind (wpC_mono h₂ (fun f s₃ h₃ => ?_) fun _ _ h' => h')
    cases f with
    | next => exact wpC_pure ⟨rfl, h₃⟩
    | cont => exact wpC_pure ⟨rfl, h₃⟩
    | brk => exact wpC_pure h₃
    | ret v => exact wpC_pure h₃
/-- a while whose turns keep I, by a measure; the exceptions E pass out of the loop's own activation -/
theorem wpC_While {test : Expr} {body : List Stmt} {pos : Pos} {Q : Flow → Shared → Prop} (I : Nat → Shared → Prop)
    (turn : ∀ n s, I n s → wpAny (model prog w) A (isTrue test env (eval test env)) (fun b s₂ =>
        if b = true then wpC (model prog w) A (execs body env) (fun f s₃ => match f with
            | .next | .cont => ∃ m, m < n ∧ I m s₃
            | .brk => Q .next s₃
            | .ret v => Q (.ret v) s₃) E s₂
        else Q .next s₂) E s)
    (n : Nat) (h : I n s) (hE : PassesOwn (model prog w) A env E) : wpC (model prog w) A (exec (.While test body [] pos) env) Q E s := by
  rw [exec_While]
  refine wpC_bindA (wpAny_standAt (wpC_runOwn (codeC_whileLoop I (fun n s hI => ?_) n h) (by intro x; cases x)))
  refine wpAny_mono (turn n s hI) (fun b s₂ h₂ => ?_) hE
  cases b with
  | false => exact h₂
  | true =>
    simp only [if_true] at h₂ ⊢
    refine wpC_mono h₂ (fun f s₃ h₃ => ?_) hE
    cases f <;> exact h₃
theorem codeC_func {body : List Stmt}
    (h : wpC (model prog w) (A.deeper env) (execs body env) (fun f s' => R (.ok (.ret (match f with | .ret v => v | _ => .none))) s')
      (fun e s' => wpAny (model prog w) (A.deeper env) (leaving env e) (fun _ s'' => R (.error e) s'') (fun e' s'' => R (.error e') s'') s') s) : codeC (model prog w) A (.func body env) R s := by
  refine codeC_of_tree ?_
  show wpC _ (A.deeper env) (do point; match ← (execs body env).onRaise (leaving env) with | .ret v => ret v | _ => ret .none) _ _ s
  refine wpC_bindA (wpAny_point (wpC_bind (wpC_onRaise (wpC_mono h (fun f s' h' => ?_) fun _ _ h' => wpC_of h'))))
  cases f <;> exact wpC_pure h'
theorem codeC_call_function {a : Addr} {args : Args} {o : Obj} {fd : FuncData} {body : List Stmt} (hroom : A.depth < recursionLimit) (ho : s.heap.get? a = some o)
    (hd' : o.data = .func fd) (hco : fd.scope.isCoroutine = false) (hgen : fd.scope.isGenerator = false) (hbody : fd.body = .stmts body) (hcd : s.heap.CodeRec fd.code fd.qualname)
    (h : wpAny (model prog w) A.in1 (bindArgs fd args) (fun binds s₁ =>
      wpAny (model prog w) A.in1 (newFunctionEnv fd.scope fd.globals fd.closure binds (fd.qualname ++ ".<locals>.") (some a) fd.code none fd.builtins)
        (fun env s₂ => s₂.heap.NoLimit ∧ codeC (model prog w) A (.func body env) R s₂) (fun e s' => R (.error e) s') s₁) (fun e s' => R (.error e) s') s) :
    codeC (model prog w) A (.call (.ref a) args) R s := by
  refine codeC_of_tree (wpC_of ?_)
  show wpAny _ A.in1 (callAny (.ref a) args) _ _ s
  simp only [callAny]
  refine wpAny_bind (wpAny_load ho ?_)
  obtain ⟨c, oc, vs, tq, hc, hoc, hdc, hq⟩ := hcd
  simp only [hd', callFunction, hco, hgen, hbody, hc]
  rw [hc] at h
  refine wpAny_bind (m := field (.ref c) 1) (wpAny_field hoc hdc hq (wpAny_bind (wpAny_pure ?_)))
  exact wpAny_bind (wpAny_mono h (fun binds s₁ h₁ => wpAny_bind (wpAny_mono h₁ (fun env s₂ h₂ => wpAny_bind (wpAny_enterFrame h₂.1 hroom
    (wpAny_pure (And.intro rfl h₂.2)))) fun _ _ h' => h')) fun _ _ h' => h')
theorem codeC_call_def {a : Addr} {o : Obj} {fd : FuncData} {body : List Stmt} {args : Args} {binds : List (Str × Value)}
    (hroom : A.depth < recursionLimit) (ho : s.heap.get? a = some o) (hdata : o.data = .func fd) (hlim : s.heap.NoLimit) (hcd : s.heap.CodeRec fd.code fd.qualname)
    (hbody : fd.body = .stmts body) (hbind : BindsTo s fd args binds)
    (hcell : ∀ x ∈ fd.scope.names, x.2 ≠ .cell) (hloc : ∀ x ∈ binds, fd.scope.names.lookup x.1 = some .local)
    (h : ∀ h₀, h₀.Ns s.heap.objs.size (fun x => binds.reverse.lookup x) → (∀ b o, s.heap.get? b = some o → h₀.get? b = some o) →
      wpC (model prog w) (A.deeper (callEnv fd s.heap.objs.size a)) (execs body (callEnv fd s.heap.objs.size a)) (fun f s' => R (.ok (.ret (match f with | .ret v => v | _ => .none))) s')
        (fun e s' => wpAny (model prog w) (A.deeper (callEnv fd s.heap.objs.size a)) (leaving (callEnv fd s.heap.objs.size a) e) (fun _ s'' => R (.error e) s'') (fun e' s'' => R (.error e') s'') s')
        { s with heap := h₀, toks := s.toks + binds.length })
    (hco : fd.scope.isCoroutine = false) (hgen : fd.scope.isGenerator = false) (hk : fd.scope.kind = .function) :
    codeC (model prog w) A (.call (.ref a) args) R s := by
  refine codeC_call_function hroom ho hdata hco hgen hbody hcd (hbind _ _ _ _ ?_)
  refine wpAny_newFunctionEnv hcell hloc (fun h₀ hns₀ hsb₀ => ⟨hlim.fresh _ hsb₀, codeC_func (h h₀ hns₀ fun b o e => ?_)⟩) hk
  exact hsb₀.extBut b o (Nat.ne_of_lt (Heap.lt_size e)) (Heap.get?_push_of_some _ e)
theorem codeC_builtin {id : String} {args : Args} {b : Builtin} (hb : entryFor table id = some b)
    (h : wpC (model prog w) (A.under (.builtin id args)) (b args)
      (fun fin s' => match fin with | .done f => R (.ok f) s' | .again c' => c'.quiet = true ∧ codeC (model prog w) A c' R s') (fun e s' => R (.error e) s') s) :
    codeC (model prog w) A (.builtin id args) R s := by
  refine codeC_of_tree ?_
  show wpC _ _ (match entryFor table id with | some b => b args | none => unsupported ((withoutEnding? id "#data").getD id)) _ _ s
  rw [hb]; exact h
theorem codeC_call_builtin {id : String} {args : Args} {b : Builtin} (hq : plainId id = true) (hb : entryFor table id = some b) (hc : checkBuiltinCall id args = pure ())
    (h : wpC (model prog w) A.in1 (b args) (fun fin s' => match fin with | .done f => R (.ok f) s' | .again c' => c'.quiet = true ∧ codeC (model prog w) A c' R s') (fun e s' => R (.error e) s') s) :
    codeC (model prog w) A (.call (.builtin id) args) R s := by
  refine codeC_of_tree ?_
  show wpC _ A.in1 (do checkBuiltinCall id args; again (.builtin id args)) _ _ s
  rw [hc]
  refine wpC_bindA (wpAny_pure (wpC_pure ⟨plainId_quiet hq args, codeC_builtin hb ?_⟩))
  rw [Around.under_plainId hq args]
  exact h
end
end Mine
namespace Mine
open PySem.Calls
/-! What is wanted behind a walk, under a short name: it keeps the proof's terms small. -/
section
variable {α : Type} {M : Model} {A : Around} {t : Sem α} {Q : α → Shared → Prop} {E : Value → Shared → Prop} {s : Shared}
theorem wpAny_seal (h : ∀ (Q' : α → Shared → Prop), (∀ a s', Q a s' → Q' a s') → wpAny M A t Q' E s) : wpAny M A t Q E s := h Q fun _ _ x => x
theorem wpAny_seal2 (h : ∀ (Q' : α → Shared → Prop) (E' : Value → Shared → Prop), (∀ a s', Q a s' → Q' a s') → wpAny M A t Q' E' s) : wpAny M A t Q E s := h Q E fun _ _ x => x
theorem wpC_seal (h : ∀ (Q' : α → Shared → Prop), (∀ a s', Q a s' → Q' a s') → wpC M A t Q' E s) : wpC M A t Q E s := h Q fun _ _ x => x
end
section
variable {M : Model} {A : Around} {E : Value → Shared → Prop} {s : Shared} {env : Env} {st : Stmt} {rest : List Stmt} {Q : Flow → Shared → Prop}
theorem wpAny_joinS (P : Shared → Prop) (h1 : ∀ Q' : Flow → Shared → Prop, (∀ s', P s' → Q' .next s') → wpAny M A (exec st env) Q' E s) (h2 : ∀ s', P s' → wpAny M A (execs rest env) Q E s') : wpAny M A (execs (st :: rest) env) Q E s :=
  wpAny_execs_cons (wpAny_mono (h1 (fun f s' => f = .next ∧ P s') fun _ hp => ⟨rfl, hp⟩) (fun f s' hf => by obtain ⟨rfl, hp⟩ := hf; exact h2 s' hp) fun _ _ x => x)
theorem wpC_joinS (P : Shared → Prop) (h1 : ∀ Q' : Flow → Shared → Prop, (∀ s', P s' → Q' .next s') → wpAny M A (exec st env) Q' E s) (h2 : ∀ s', P s' → wpC M A (execs rest env) Q E s') : wpC M A (execs (st :: rest) env) Q E s :=
  wpC_leaf (wpAny_mono (h1 (fun f s' => f = .next ∧ P s') fun _ hp => ⟨rfl, hp⟩) (fun f s' hf => by obtain ⟨rfl, hp⟩ := hf; exact h2 s' hp) fun _ _ x => x)
end
theorem News.cons {h₀ h : Heap} {L : Addr} {p : Addr × Obj} {news : List (Addr × Obj)} (hp : h.get? p.1 = some p.2 ∧ p.1 ≠ L ∧ h₀.get? p.1 = none) (N : News h₀ L h news) : News h₀ L h (p :: news) := fun q hq => by
  cases hq with
  | head => exact hp
  | tail _ hq => exact N q hq
theorem ar_len {a b c k : Nat} (h : a + 20 * b + k ≤ 20 * c) (hc : c ≤ 100) : a ≤ 2000 := by omega
theorem ar_lt {a b c k : Nat} (h : a + 20 * b + (k + 1) ≤ 20 * c) : b < c := by omega
theorem ar_le {a b c k n : Nat} (h : a + 20 * b + (k + 1) ≤ 20 * c) (hn : c ≤ n + 1) : b ≤ n := by omega
theorem ar_dep {d a b c k l : Nat} (h : d + c < l) (hs : a + 20 * b + (k + 1) ≤ 20 * c) : d + 1 < l := by omega
theorem ar_sum {R a b c : Nat} (h : R ≤ a + b + c + 15) (ha : a ≤ 2000) (hb : b ≤ 2000) (hc : c ≤ 2000) : R ≤ 8000 := by omega
theorem ar_two {a b : Nat} (h : a ≤ b + 2) (hb : b ≤ 2000) : a ≤ 2010 := by omega
end Mine
namespace Mine
open PySem.Calls
set_option maxRecDepth 100000
theorem caller_under : under ⟨.builtin "claim.caller" {}, none, none, [], none⟩ := by
  show (List.any _ _) = true
  rfl
theorem thread_endsC {prog : Program} {w : World} {t : Sem Fin} {s : Shared} {R : Result → Shared → Prop} (hreg : s.asleep)
    (h : wpC (model prog w) callerA t (fun fin s' => ∃ f, fin = .done f ∧ (R (.ok f) s' ∧ leftWithCleanup s'.gens = false)) (fun e s' => R (.error e) s' ∧ leftWithCleanup s'.gens = false) s) :
    ∃ n r s' s'', runN (denote table) prog w n s ⟨t, .builtin "claim.caller" {}, default, []⟩ = .halted (outcomeOf r) s' ∧
      schedN (denote table) prog w n (.single s ⟨t, .builtin "claim.caller" {}, default, []⟩) = .halted (outcomeOf r) s' ∧ s'.forget = s''.forget ∧ R r s'' := by
  have h0 := h _ default caller_in caller_under
  obtain ⟨n, r, s₁, s₂, hs, hn, hfo, hR⟩ := wp_halts_full (M := model prog w) (R := R) hreg
    (Sem.wp_mono (model prog w) _ t (fun fin p' s' (h' : ∃ f, fin = .done f ∧ (R (.ok f) s' ∧ leftWithCleanup s'.gens = false)) => by obtain ⟨f, rfl, hf⟩ := h'; exact hf) (fun _ _ _ h' => h') default s h0)
  exact ⟨n, r, s₂, s₁, hn, hs, hfo, hR⟩
/-- the goal stands behind a letter while what is given is taken apart: smaller terms -/
theorem cps {P : Prop} (h : ∀ G : Prop, (P → G) → G) : P := h P id
theorem re_or {r : Result} {A D D' F K K' : Prop} {B C : Value → Prop} {G : Addr → Obj → Prop} {H : Obj → ExcName → Prop} {I : ExcName → Prop} {J : Addr → Prop}
    (h : (∃ v, r = .ok (.ret v) ∧ A ∧ B v ∧ C v ∧ D ∧ F) ∨ (∃ e ob cls, r = .error (.ref e) ∧ G e ob ∧ H ob cls ∧ I cls ∧ J e ∧ K)) (hD : D → D') (hK : K → K') :
    (∃ v, outcomeOf r = .done (.ret v) ∧ A ∧ B v ∧ C v ∧ D' ∧ F) ∨ (∃ e ob cls, outcomeOf r = .uncaught (.ref e) ∧ G e ob ∧ H ob cls ∧ I cls ∧ J e ∧ K') := by
  rcases h with ⟨v, rfl, d1, d2, d3, d4, d5⟩ | ⟨e, ob, cls, rfl, d1, d2, d3, d4, d5⟩
  · exact .inl ⟨v, rfl, d1, d2, d3, hD d4, d5⟩
  · exact .inr ⟨e, ob, cls, rfl, d1, d2, d3, d4, hK d5⟩
theorem pack {α β γ ε : Type} {L : α → β → Prop} {S : α → β → Nat → γ → ε → Prop} {C : α → β → γ → ε → Prop} {D K U V : ε → Prop} {a : α} {b : β} {n : Nat} {o : γ} {s : ε}
    (h1 : L a b) (h2 : S a b n o s) (h3 : C a b o s) (h4 : D s) (h5 : K s) (h6 : U s) (h7 : V s) : ∃ a b, L a b ∧ ∃ n o s, S a b n o s ∧ C a b o s ∧ D s ∧ K s ∧ U s ∧ V s :=
  ⟨a, b, h1, n, o, s, h2, h3, h4, h5, h6, h7⟩
/-- the claim's call, by a tree that ends well under the caller -/
theorem callFromC {c : ClaimW} {tree : List Value → Sem Fin} {w : World} {s : Shared} {free : Addr → Prop} {gens : Prop} {kept : Heap → Prop} (hz : s.asleep) (hgens : s.gens = #[])
    (hspec : ∀ args, c.pre args = true → WData.layableAll args = true →
      ∀ ord : List DictEntry → List DictEntry, (∀ l, (ord l).Perm l) →
      ∃ vs s₁, layAllW c.records (classAt s.heap) w.params ord args s = some (vs, s₁) ∧
        wpC (model c.prog w) callerA (tree vs) (fun fin s' => ∃ f, fin = .done f ∧ (c.Ends s args vs s₁ (.ok f) s' ∧ s'.os = s.os ∧ AllBare s'.gens ∧ kept s'.heap))
          (fun e s' => c.Ends s args vs s₁ (.error e) s' ∧ s'.os = s.os ∧ AllBare s'.gens ∧ kept s'.heap) s₁) :
    c.CallFrom (fun vs => ⟨tree vs, .builtin "claim.caller" {}, default, []⟩) w free gens kept s := by
  intro args hpre hlay ord hord
  refine cps fun G hG => ?_
  obtain ⟨vs, s₁, hlaid, hcode⟩ := hspec args hpre hlay ord hord
  have hal := layAllW_rest _ _ _ hlaid
  obtain ⟨k, r, s', s'', hrun, hsched, hfo, hcase, hos, hkp⟩ := thread_endsC (prog := c.prog) (w := w) (t := tree vs) (s := s₁)
    (R := fun r s' => c.Ends s args vs s₁ r s' ∧ s'.os = s.os ∧ kept s'.heap) (Shared.asleep_of_life hal.2.2.2 hz)
    (wpC_mono hcode (fun fin s' ⟨f, e, h1, h2, h3, h4⟩ => ⟨f, e, ⟨h1, h2, h4⟩, leftWithCleanup_false_of_bare h3⟩) fun e s' ⟨h1, h2, h3, h4⟩ => ⟨⟨h1, h2, h4⟩, leftWithCleanup_false_of_bare h3⟩)
  obtain ⟨eh, _, _, eo, _⟩ := Shared.forget_eq hfo
  have hcase := hcase.congr eh
  have hkp : kept s'.heap := by first | exact eh ▸ hkp | (rw [eh]; exact hkp)
  rw [← eo] at hos
  have hlife : s'.heap.life = s.heap.life := (runN_life _ _ _ hrun).trans hal.2.2.2
  exact hG (pack hlaid hsched (re_or hcase (fun d b o y _ => d b o y) (fun d b o y _ => d b o y)) (fun _ i x hx => by rw [hgens] at hx; simp at hx) hkp (congrArg (·.seen) hlife) (Shared.rest_eq hos))
abbrev WalkC (q : Program) (loose : List Str) (XP : (Str → Option Value) → Heap → Prop) (YP : World → Heap → Prop) (r : RowW) (d : DefRec) (kwd : List (Str × Expr)) : Prop :=
  ∀ (w : World) (s₀ s₁ : Shared) (mg mb : Str → Option Value), Ground q loose r.records XP w s₀ mg mb s₁.heap → YP w s₁.heap → ∀ (a : Addr) (o : Obj) (pm cd doc dV kV : Value), s₁.heap.get? a = some o →
    o.data = .func { docDef d.name d.params d.body d.scope pm cd doc with defaults := dV, kwdefaults := kV } → s₁.heap.CodeRec cd d.name → Dflts mg s₁.heap d.params kwd dV kV → mg d.name = some (.ref a) → s₁.gens = #[] →
    ∀ (args : List WData) (vals : List Value) (as : List Addr), r.claim.pre args = true → WData.layableAll args = true → ReadsAllW r.records (classAt s₀.heap) s₁.heap vals args as → WellAll w.params s₁.heap vals args → (∀ a ∈ as, (a == sysModules) = false) →
      wpC (model r.prog w) callerA (PySem.call (.ref a) vals) (fun v s' => GoodWG r.claim (classAt s₀.heap) (ExcName.means s₀.heap) args s₁ (.ok (.ret v)) s')
        (fun e s' => GoodWG r.claim (classAt s₀.heap) (ExcName.means s₀.heap) args s₁ (.error e) s') s₁
/-- the head, its call's walk under the caller. The name: the library's line o_head looks its head up by the name PySem.W.holds_open; inside this namespace it finds this one. -/
theorem PySem.W.holds_open {r : OpenRow} {q : Program} {loose : List Str} {Xt : Shared → Bool} {XP : (Str → Option Value) → Heap → Prop} {α : Type} {Yf : Shared → α} {Ya : World → α} {YP : World → Heap → Prop} {d : DefRec} {kwd : List (Str × Expr)} {N : Nat}
    (left : LeftO r.prog q loose Xt Yf Ya N) (hY : ∀ w s, Yf s = Ya w → YP w s.heap) (hYk : ∀ w h h', YP w h → (∀ b o, h.get? b = some o → h'.get? b = some o) → YP w h')
    (hX : ∀ s, Xt s = true → XP (s.heap.nsMap mainGlobals) s.heap) (hXk : ∀ mg h h', XP mg h → (∀ b o, h.get? b = some o → h'.get? b = some o) → XP mg h')
    (hdef : defOf q r.name = some (d, kwd)) (hp : r.prog.theDef r.name = some (d.params, d.body, d.scope)) (hk : kwWritten? d.params.kwonlyargs d.params.kw_defaults = some kwd) (hRf : ∀ s, Xt s = true → RecFacts r.records s.heap) (hwr : (!r.writes || r.records.isEmpty) = true)
    (k1 : r.wellSaid = true) (ok : (chainsOk q && opensWell r.prog && (frees r.toRowW && r.within.isEmpty)) = true) (hb : r.prog.bare) (hw : r.toRowW.promised)
    (call : WalkC q loose XP YP r.toRowW d kwd) : r.Holds := by
  obtain ⟨ok, k5⟩ := Bool.and_eq_true_iff.mp ok
  obtain ⟨hch, o1⟩ := Bool.and_eq_true_iff.mp ok
  obtain ⟨k5, k6⟩ := Bool.and_eq_true_iff.mp k5
  obtain ⟨hsame, hu, ha, hap, hm⟩ := frees_parts k5
  refine ⟨k1, hw, ⟨hb, o1, by show r.makers.map _ = []; rw [hm]; rfl⟩, hw.witness, fun w => ⟨(left.behind hX hch w).1, fun s' hs' => ?_⟩⟩
  refine cps fun G9 hG9 => ?_
  obtain ⟨s₀, hf, hg0, s, hT, hz, hgens, hg, G00, y⟩ := (left.behind (XP := fun mg h => XP mg h ∧ RecFacts r.records h) (fun s hs => ⟨hX s hs, hRf s hs⟩) hch w).2 s' hs'
  have G0 : Ground q loose [] XP w s (s.heap.nsMap mainGlobals) (s.heap.nsMap builtinsNs) s.heap := ⟨G00.T, G00.B, G00.D, G00.TE, G00.TD, G00.W, G00.X.1, G00.cls, G00.has, G00.apart, G00.once, G00.K⟩
  have RF := G00.X.2
  refine hG9 ⟨s₀, hf, hg0, s, hT, fun n hn => ?_, RF.1, RF.2.1, ?_⟩
  · obtain rfl : n = r.name := by split at hn <;> simp_all
    exact pinned_of_view hg G0 hdef hp hk
  have hgens : s.gens = #[] := Array.eq_empty_of_size_eq_zero (beq_iff_eq.mp hgens)
  have G : Ground q loose r.records XP w s _ _ s.heap := RF.ground G0
  refine callFromC (c := r.toRowW.claim) (tree := fun vs => do match ← nsGet mainNs r.name with
      | some f => do ret (← PySem.call f vs)
      | none => unsupported "claim.caller:no-such-global") hz hgens fun args hpre hlay ord hord => ?_
  refine cps fun G8 hG8 => ?_
  obtain ⟨⟨vs, s₁⟩, hlaid⟩ := Option.isSome_iff_exists.mp (layAllW_isSome (P := w.params) (ord := ord) G.has args r.args s (pre_splitW hpre).1)
  have keeps := layAllW_keeps _ _ _ hlaid
  have hal := layAllW_rest _ _ _ hlaid
  obtain ⟨as, hrd, hin, hold⟩ := reads_layAllW hord _ _ _ hlaid hlay s₁.heap (fun _ _ e => e)
  have L : Laid r.records w s s₁ args vs as := ⟨⟨ord, hord, hlaid⟩, hrd, hin, hold, keeps, hal.1.trans hgens, hal.2.2.1⟩
  have G₁ := G.keeps hXk keeps
  obtain ⟨a, o, pm, cd, doc, dV, kV, h1, h2, h3, h4, h5⟩ := G₁.fn hdef
  have h := call w s s₁ _ _ G₁ (hYk _ _ _ (hY w s y) keeps) a o pm cd doc dV kV h2 h3 h4 h5 (defOf_name hdef ▸ h1) L.gens args vs as hpre hlay L.reads L.well (L.low G.low)
  have hi := ident_freeW hu ha hap
  have hwi : r.toRowW.claim.within = [] := List.isEmpty_iff.mp k6
  refine hG8 ⟨vs, s₁, hlaid, wpC_bindA (wpAny_nsGet G₁.T.g ?_)⟩
  rw [h1]
  exact wpC_bind (wpC_mono h (fun v s' g => wpC_pure ⟨_, rfl, have z := g.laid (c := r.toRowW.claim) hsame hwi hi L; ⟨z.1, z.2.1, z.2.2, fun q => ⟨namesKept_of hT hg _ keeps g.2.1.old, noTable hwr q⟩⟩⟩)
    fun e s' g => have z := g.laid (c := r.toRowW.claim) hsame hwi hi L; ⟨z.1, z.2.1, z.2.2, fun q => ⟨namesKept_of hT hg _ keeps g.2.1.old, noTable hwr q⟩⟩)
end Mine
set_option maxRecDepth 100000
namespace Mine
open PySem.Calls
/-! int(text, 10): a number's text; a text that is none, under the caller -/
theorem typeCall_int_2 (a b : Value) : checkTypeCall "int" ⟨[a, b], []⟩ = pure () := by kernel_rfl
theorem newCall_int_2 (a b : Value) : checkBuiltinCall "int.__new__" ⟨[.type "int", a, b], []⟩ = pure () := by kernel_rfl
theorem int_tree (a b : Value) : ∃ K, Builtin.«type.__call__» ⟨[.type "int", a, b], []⟩ = (holding [.builtin "int.__new__"] (call (.builtin "int.__new__") [.type "int", a, b] []) >>= K) := by
  have h1 := F.called_int.notType
  have h2 := F.called_int.canCreate
  have h3 := F.called_int.made
  have h4 := F.mro_int
  have h5 := typeCall_int_2 a b
  unfold Builtin.«type.__call__»
  simp only [h1, h2, h3, h4, h5, Bool.false_eq_true, if_false, pure_bind, List.isEmpty_cons]
  exact ⟨_, rfl⟩
theorem intNew_tree (x : Str) (t u : Tok) : ∃ K, Builtin.«int.__new__» ⟨[.type "int", .str x t, .int 10 u], []⟩ = ((int_private% "intFromText") (.str x t) (numTextOf x) 10 >>= K) ∧ ∀ v, K v = ret v := by
  have h1 : isType (.type "int") = pure true := rfl
  have h2 := F.conv_sub_int
  have h3 := F.madeHere_int
  have h4 : Builtin.Int.intIndex "int.__new__" (.int 10 u) = pure 10 := rfl
  have h5 : (int_private% "numeralText?") (.str x t) = pure (some (numTextOf x)) := rfl
  unfold Builtin.«int.__new__»
  simp only [h1, h2, h3, Bool.not_true, Bool.false_eq_true, if_false, pure_bind, List.forIn_nil, List.length_cons, List.length_nil, List.isEmpty_nil, List.head?_cons, beq_self_eq_true]
  rw [if_neg (by simp), if_neg (by simp)]
  have h6 : ([Value.str x t, Value.int 10 u][1]? <|> Option.map (fun x => x.snd) ([] : List (Str × Value)).head?) = some (.int 10 u) := rfl
  simp only [h6, h4, pure_bind]
  rw [if_neg (by simp)]
  simp only [h5, pure_bind]
  exact ⟨_, rfl, fun v => by simp only [if_true]⟩
section
variable {prog : Program} {w : World} {A : Around} {E : Value → Shared → Prop} {s : Shared}
theorem mark_skips {own : List String} {e : Value} {Q : Unit → Shared → Prop} (h : Q () s) : wpC (model prog w) A (markTheRefusal own e) Q E s := by
  intro Γ p hΓ hu
  unfold markTheRefusal
  rw [Sem.wp_bind']
  unfold stack
  rw [Sem.wp_stack, Sem.wp_pure]
  have e0 : pythonCodeMadeTheCall own (((Γ.code, p) :: Γ.below).map (·.1)) = false := by
    unfold pythonCodeMadeTheCall
    have e1 : ((((Γ.code, p) :: Γ.below).map (·.1)).any fun c => match c with | .builtin "claim.caller" _ => true | _ => false) = true := by
      have hu' : (((Γ.code, (default : Pos)) :: Γ.below).any (fun x => x.1.isCaller)) = true := hu
      rw [List.any_map]
      rw [List.any_cons] at hu' ⊢
      exact hu'
    have key : ∀ a b c : Bool, a = true → ((!a && b) && c) = false := fun a b c h => by subst h; rfl
    exact key _ _ _ e1
  rw [e0]
  exact h
theorem fromText_bad {x : Str} {t : Tok} {Q : Value → Shared → Prop} (hh : A.handled = none) (hl : x.length ≤ 20) (hr : (reprText x).length ≤ 100) (hn : PySem.intText? x = none) (ha : ((numSeenOf x).length == (numTextOf x).length) = true)
    (h : ∀ h' tk e, Heap.NewExc s.heap h' e "ValueError" → E (.ref e) { s with heap := h', toks := tk }) :
    wpC (model prog w) A ((int_private% "intFromText") (.str x t) (numTextOf x) 10) Q E s := by
  have hs : (numSeenOf x).length ≤ 640 := Nat.le_trans (seen_length x) (Nat.le_trans hl (by decide))
  have hi : (int_private% "readNumeral") 0 10 (numSeenOf x) = int_private% "Numeral.invalid" := by
    rcases read0 x hs with ⟨n, h1, _⟩ | ⟨_, h1 | ⟨i, _, h2⟩⟩
    · rw [hn] at h1; cases h1
    · exact h1
    · exact absurd ha h2
  have hb : (int_private% "bytesOf?") (.str x t) = pure none := rfl
  k_delta "intFromText"
  dsimp only
  simp only [if_pos hs, pure_bind, hi, hb, Option.isSome_none, Bool.false_and, Bool.false_eq_true, if_false]
  refine wpC_bindA (wpAny_rule (wpC_bindA (wpAny_pyRepr_str ?_ (Nat.le_trans hr (by rw [sizeLine_eq]; decide)))))
  refine wpC_bindA (wpAny_mkStr ?_ ?_)
  · refine wpC_bindA (wpAny_newExc_plain plainExc_ValueError fun h' e hm => ?_)
    refine wpC_bind (mark_skips (wpC_of (wpAny_raiseNew_none hh ?_)))
    obtain ⟨t', he, _⟩ := hm.there
    exact h _ _ _ ⟨hm.keeps, hm.new, _, _, he, rfl, rfl⟩
  · rw [Str.length_append, PySem.ofString_length, sizeLine_eq]
    have e1 : ({ cps := (reprText x).cps.extract 0 200 } : Str).length ≤ 200 := by
      show ((reprText x).cps.extract 0 200).size ≤ 200
      rw [Array.size_extract]; omega
    have e2 : (toString "invalid literal for int() with base " ++ toString 10 ++ toString ": ").length ≤ 100 := by decide
    omega
theorem int_bad {x : Str} {t u : Tok} {Q : Value → Shared → Prop} (hh : A.handled = none) (hl : x.length ≤ 20) (hr : (reprText x).length ≤ 100) (hn : PySem.intText? x = none) (ha : ((numSeenOf x).length == (numTextOf x).length) = true)
    (h : ∀ h' tk e, Heap.NewExc s.heap h' e "ValueError" → E (.ref e) { s with heap := h', toks := tk }) :
    wpC (model prog w) A (call (.type "int") [.str x t, .int 10 u]) Q E s := by
  refine wpC_call (codeC_of_tree ?_)
  show wpC _ _ (callAny (.type "int") _) _ _ _
  refine wpC_pure ⟨Code.quiet_builtin _ (by decide +kernel), codeC_builtin F.entry_type_call ?_⟩
  rw [Around.under_plain (weight_type_call_type "int" _ []) (units_type_call_type "int" _ [])]
  obtain ⟨K, hK⟩ := int_tree (.str x t) (.int 10 u)
  rw [hK]
  refine wpC_bind (wpC_holding (wpC_call (codeC_call_builtin F.called_int.plain F.entry_int_new (newCall_int_2 _ _) ?_)))
  obtain ⟨K2, hK2, _⟩ := intNew_tree x t u
  rw [hK2]
  exact wpC_bind (fromText_bad hh hl hr hn ha h)
theorem int_good {x : Str} {t u : Tok} {n : Int} {Q : Value → Shared → Prop} (hl : x.length ≤ 20) (hn : PySem.intText? x = some n)
    (h : Q (.int n s.toks) { s with toks := s.toks + 1 }) : wpAny (model prog w) A (call (.type "int") [.str x t, .int 10 u]) Q E s := by
  refine callType_new F.called_int F.newNe_int (typeCall_int_2 _ _) (newCall_int_2 _ _) (fun obj => ?_) F.entry_int_new (S := (Made.int n).spec) (Gives.meets (.of_wp fun M A E s Q h => ?_)) (show (Made.int n).post _ s from ⟨rfl, h⟩)
  · exact F.args_object_init_3 obj _ _
  · obtain ⟨K2, hK2, hK3⟩ := intNew_tree x t u
    rw [hK2]
    have hs : (numSeenOf x).length ≤ 640 := Nat.le_trans (seen_length x) (Nat.le_trans hl (by decide))
    rcases read0 x hs with ⟨m, h1, h2, h3⟩ | ⟨h1, _⟩
    · rw [hn] at h1; cases h1
      refine wpAny_bind (KIN.wp_text hs h3 h2 ?_)
      rw [hK3]
      exact wpAny_pure ⟨_, rfl, h⟩
    · rw [hn] at h1; cases h1
end
end Mine
set_option maxRecDepth 100000
namespace Mine
/-! The plain side: the tokens, the law's own walk. -/
noncomputable def opsL : List Str := ["||", "&&", "==", "!=", "<", ">", "<=", ">=", "+", "-", "*", "/", "%"]
noncomputable def digsL : List Str := ["7", "012", "305", "5"]
noncomputable def restL : List Str := ["n", "(", "!", "%d", ")", "?", ":", "n?", "$", ""]
noncomputable def menu : List Str := opsL ++ digsL ++ restL
noncomputable def refusedMsg (t : Str) : Str := if t = "" then "unexpected end of plural form" else ("unexpected token in plural form: " : Str) ++ t
noncomputable def unbalancedMsg : Str := "unbalanced parenthesis in plural form"
/-- the law's walk: whether an operand is due, what is unclosed (the last first), the tokens; the answer: whether it is let through, the token or the words, how many tokens are left behind the last one taken -/
noncomputable def walk : Bool → List Str → List Str → Option (Bool × Str × Nat)
  | _, _, [] => none
  | true, st, t :: ts =>
    if t = "(" then walk true ("(" :: st) ts
    else if t = "n" ∨ t ∈ digsL then walk false st ts
    else if t ≠ "!" then some (false, refusedMsg t, ts.length)
    else walk true st ts
  | false, st, t :: ts =>
    if t ∈ opsL then walk true st ts
    else if t = "?" then walk true ("?" :: st) ts
    else match st with
      | [] => some (true, t, ts.length)
      | o :: st' =>
        if o ++ t = "()" ∨ o ++ t = "?:" then walk (decide (o = "?")) st' ts
        else if o = "(" then some (false, unbalancedMsg, ts.length)
        else some (false, refusedMsg t, ts.length)
theorem bad_facts : ∀ x ∈ menu, x ∉ digsL → x.length ≤ 20 ∧ (reprText x).length ≤ 100 ∧ PySem.intText? x = none ∧ ((numSeenOf x).length == (numTextOf x).length) = true := by decide +kernel
theorem good_facts : ∀ x ∈ digsL, x.length ≤ 20 ∧ ∃ n : Nat, n < 1000 ∧ PySem.intText? x = some (n : Int) := by
  intro x hx
  have h : x.length ≤ 20 ∧ (match PySem.intText? x with | some n => decide (0 ≤ n) && decide (n < 1000) | none => false) = true := by
    revert x; decide +kernel
  refine ⟨h.1, ?_⟩
  cases q : PySem.intText? x with
  | none => rw [q] at h; cases h.2
  | some n =>
    rw [q] at h
    obtain ⟨a, b⟩ := Bool.and_eq_true_iff.mp h.2
    have a := of_decide_eq_true a
    have b := of_decide_eq_true b
    exact ⟨n.toNat, by omega, by rw [Int.toNat_of_nonneg a]⟩
theorem menu_len : ∀ x ∈ menu, x.length ≤ 3 := by decide +kernel
end Mine
set_option maxRecDepth 100000
namespace Mine
open PySem.Calls
section
variable {prog : Program} {w : World} {A : Around} {s : Shared} {K : Frag} {R : Result → Shared → Prop} {name qual : Str} {params : Arguments} {body : List Stmt} {scope : Scope} {dV kV doc pm cdv ct oc : Value} {an od : Option Addr}
  {osl : Array (Option Value)} {f : Addr} {args : Args} {binds : List (Str × Value)}
/-- a def of the text is entered; its frame stands over the whole heap of the call -/
theorem enterA (X : K.In s.heap) (hlim : s.heap.NoLimit) (ho : K.lookup f = some ⟨oc, od, .func (fnOf name qual params body scope dV kV doc pm an cdv ct), osl⟩) (hcd : codeIn K cdv qual = true) (hroom : A.depth < recursionLimit)
    (hbind : BindsTo s (fnOf name qual params body scope dV kV doc pm an cdv ct) args binds) (hloc : ∀ y ∈ binds, scope.names.lookup y.1 = some .local)
    (h : ∀ L' h₁, L' = s.heap.objs.size → Fr s.heap L' h₁ (fun y => binds.reverse.lookup y) →
      wpAny (model prog w) (A.deeper (envOf qual scope L' f cdv)) (execs body (envOf qual scope L' f cdv)) (fun fl s' => R (.ok (.ret (match fl with | .ret v => v | _ => .none))) s')
        (fun e s' => wpAny (model prog w) (A.deeper (envOf qual scope L' f cdv)) (leaving (envOf qual scope L' f cdv) e) (fun _ s'' => R (.error e) s'') (fun e' s'' => R (.error e') s'') s')
        { s with heap := h₁, toks := s.toks + binds.length })
    (hco : scope.isCoroutine = false) (hgen : scope.isGenerator = false) (hk : scope.kind = .function) (hcell : ∀ x ∈ scope.names, x.2 ≠ .cell) : codeAny (model prog w) A (.call (.ref f) args) R s :=
  codeAny_call_def (fd := fnOf name qual params body scope dV kV doc pm an cdv ct) (body := body) (binds := binds) hroom (X _ _ ho) rfl hlim (codeRec_of X hcd) rfl hbind hcell hloc
    (fun h₁ hns hk₁ => h _ h₁ rfl ⟨hns, hk₁, Nat.le_refl _⟩) hco hgen hk
theorem enterC (X : K.In s.heap) (hlim : s.heap.NoLimit) (ho : K.lookup f = some ⟨oc, od, .func (fnOf name qual params body scope dV kV doc pm an cdv ct), osl⟩) (hcd : codeIn K cdv qual = true) (hroom : A.depth < recursionLimit)
    (hbind : BindsTo s (fnOf name qual params body scope dV kV doc pm an cdv ct) args binds) (hloc : ∀ y ∈ binds, scope.names.lookup y.1 = some .local)
    (h : ∀ L' h₁, L' = s.heap.objs.size → Fr s.heap L' h₁ (fun y => binds.reverse.lookup y) →
      wpC (model prog w) (A.deeper (envOf qual scope L' f cdv)) (execs body (envOf qual scope L' f cdv)) (fun fl s' => R (.ok (.ret (match fl with | .ret v => v | _ => .none))) s')
        (fun e s' => wpAny (model prog w) (A.deeper (envOf qual scope L' f cdv)) (leaving (envOf qual scope L' f cdv) e) (fun _ s'' => R (.error e) s'') (fun e' s'' => R (.error e') s'') s')
        { s with heap := h₁, toks := s.toks + binds.length })
    (hco : scope.isCoroutine = false) (hgen : scope.isGenerator = false) (hk : scope.kind = .function) (hcell : ∀ x ∈ scope.names, x.2 ≠ .cell) : codeC (model prog w) A (.call (.ref f) args) R s :=
  codeC_call_def (fd := fnOf name qual params body scope dV kV doc pm an cdv ct) (body := body) (binds := binds) hroom (X _ _ ho) rfl hlim (codeRec_of X hcd) rfl hbind hcell hloc
    (fun h₁ hns hk₁ => h _ h₁ rfl ⟨hns, hk₁, Nat.le_refl _⟩) hco hgen hk
end
end Mine
namespace Mine
set_option maxRecDepth 100000
set_option maxHeartbeats 8000000
open_top hd for PySem.Challenge.rw_dv0011_01
end Mine
namespace Mine
open PySem.Calls
theorem fresh_PvErr : True := by w_top off; trivial
set_option maxRecDepth 100000
set_option maxHeartbeats 400000
noncomputable abbrev looseN : List Str := looseW Mine.hd.view_39 [Str.ofString "_binary_ops", Str.ofString "_c2py_ops", Str.ofString "_parse"]
theorem none_of_keep {h h' : Heap} {a : Addr} (k : ∀ b o, h.get? b = some o → h'.get? b = some o) (e : h'.get? a = none) : h.get? a = none := by
  cases q : h.get? a with
  | none => rfl
  | some o => have := k _ _ q; rw [e] at this; cases this
theorem len_ne {x : Str} (h : x ≠ "") : ((x.length : Int) != 0) = true := by
  rw [bne_iff_ne]
  intro e
  apply h
  have : x.cps.size = 0 := by have : x.length = 0 := by omega
                              exact this
  obtain ⟨a⟩ := x
  have ha : a = #[] := Array.eq_empty_of_size_eq_zero this
  subst ha
  decide
section
variable {w : World} {A : Around} {s : Shared} {mean : ExcName → Option Value} {mg mb : Str → Option Value} {E : Value → Shared → Prop}
theorem error_call {x : Str} {t : Tok} {Q : Value → Shared → Prop} (X : (Mine.hd.heap_39 w.params).In s.heap) (T : Top Mine.hd.view_39 looseN mean mg mb s.heap) (hroom : A.depth < recursionLimit) (hx : x.length ≤ 20)
    (h : ∀ h' e tk tk', Heap.MadeExc s.heap h' e "ValueError" [.str (refusedMsg x) tk'] → Q (.ref e) { s with heap := h', toks := tk }) :
    wpAny (model PySem.Challenge.rw_dv0011_01.row.prog w) A (call (.ref 21) [.str x t]) Q E s := by
  revert X; k_fill; intro X
  obtain ⟨hp, gg, dd, tk, os⟩ := s
  refine wpAny_call ?_
  refine' enterA (binds := [(Str.ofString "value", Value.str x t)]) X T.nolimit ?k6 ?k7 hroom ?k9 ?kB ?_ ?c2 ?c3 ?c4 ?c5; (case k6 => k_is); (case k7 => k_is); (case k9 => exact BindsTo.of_eq rfl); (case c5 => decide); (case kB => exact locs rfl); (case c2 => exact rfl); (case c3 => exact rfl); (case c4 => exact rfl)
  intro L' h₁ eL F'
  have N' : News hp L' h₁ [] := News.nil
  clear eL
  dsimp only at *
  iterate 5 (first | (k_unfold; (try dsimp only)) | walk1 | (dsimp only; walk1))
  by_cases hx0 : x = ""
  · subst hx0
    refine ite_neg (by decide) ?_
    iterate 9 (first | (k_unfold; (try dsimp only)) | walk1 | (dsimp only; walk1))
    refine (wpAny_call_exc F.excCall_ValueError (fun h' e hm => ?_) (by show (1 : Nat) ≤ sizeLine; rw [sizeLine_eq]; decide))
    exact h _ _ _ _ ⟨fun b o hb => hm.keeps b o (F'.keep b o hb), none_of_keep F'.keep hm.new, by
      obtain ⟨t1, a, b, c⟩ := hm.there
      exact ⟨t1, a, none_of_keep F'.keep b, c⟩⟩
  · refine ite_pos (len_ne hx0) ?_
    iterate 12 (first | (k_unfold; (try dsimp only)) | walk1 | (dsimp only; walk1))
    refine (wpAny_call_exc F.excCall_ValueError (fun h' e hm => ?_) (by show (1 : Nat) ≤ sizeLine; rw [sizeLine_eq]; decide))
    have hr : refusedMsg x = (Str.ofString "unexpected token in plural form: ") ++ x := if_neg hx0
    exact h _ _ _ _ ⟨fun b o hb => hm.keeps b o (F'.keep b o hb), none_of_keep F'.keep hm.new, by
      rw [hr]
      obtain ⟨t1, a, b, c⟩ := hm.there
      exact ⟨t1, a, none_of_keep F'.keep b, c⟩⟩
end
theorem fresh_PvRules : True := by w_top off; trivial
set_option maxRecDepth 100000
set_option maxHeartbeats 400000
noncomputable abbrev itObj (l : Addr) (i : Nat) : Obj := { cls := .type "list_iterator", data := .fields #[.ref l, .int i 0] }
section
variable {prog : Program} {w : World} {A : Around} {s : Shared} {E : Value → Shared → Prop} {h₀ : Heap} {L it l : Addr} {m : Str → Option Value} {news : List (Addr × Obj)} {i : Nat} {items : Array Value} {x : Value}
theorem special_list {Q : Option Value → Shared → Prop} (ho : s.heap.get? it = some (itObj l i)) (hl : s.heap.IsList l items) (hx : items[i]? = some x)
    (hQ : ∀ h', h'.get? it = some (itObj l (i + 1)) → Heap.SameBut it s.heap h' → Q (some x) { s with heap := h' }) :
    wpAny (model prog w) A (callSpecial? (.ref it) (Str.ofString "__next__")) Q E s := by
  have hit : s.heap.IsListIter it l i := ⟨_, ho, rfl, rfl⟩
  obtain ⟨ol, hol, _, nl, hdl⟩ := hl
  refine wpAny_callSpecial?_slot (name := Str.ofString "__next__") hit.typeIs slot_listiter_next (wpAny_call_entry slot_listiter_next hit.typeIs entry_listiter_next ?_ (args_listiter_next _))
  show wpAny _ _ (field (.ref it) 0 >>= _) _ _ s
  refine wpAny_bind (wpAny_field ho rfl (x := .ref l) rfl ?_)
  show wpAny _ _ (if (Value.ref l == Value.none) = true then _ else _) _ _ s
  rw [if_neg (show ¬ ((Value.ref l == Value.none) = true) from Bool.false_ne_true)]
  show wpAny _ _ (field (.ref it) 1 >>= _) _ _ s
  refine wpAny_bind (wpAny_field ho rfl (x := .int i 0) rfl ?_)
  show wpAny _ _ (seqItems? (.ref l) >>= _) _ _ s
  refine wpAny_bind (wpAny_seqItems hol hdl ?_)
  simp only [Int.toNat_natCast, hx]
  refine wpAny_bind (wpAny_setField ho rfl (by simp) (wpAny_pure ⟨x, rfl, hQ _ ?_ (Heap.SameBut.update ..)⟩))
  exact (Heap.get?_update_self _ ho rfl).trans (by simp [Obj.mapFields, rawInt])
theorem next_args (a : Value) : checkBuiltinCall "next" ⟨[a], []⟩ = pure () := by kernel_rfl
theorem next_at {Q : Value → Shared → Prop} (ho : s.heap.get? it = some (itObj l i)) (hl : s.heap.IsList l items) (hx : items[i]? = some x)
    (h : ∀ h', h'.get? it = some (itObj l (i + 1)) → Heap.SameBut it s.heap h' → Q x { s with heap := h' }) : wpAny (model prog w) A (call (.builtin "next") [.ref it]) Q E s := by
  have hit : s.heap.IsListIter it l i := ⟨_, ho, rfl, rfl⟩
  refine call_function_entry (by decide +kernel) (by decide +kernel) kdk_entry_next (kdk_args_next _) ?_
  unfold Builtin.«next»
  refine wpAny_bind (m := someArgs "next" 1 2 _) (wpAny_of_eq (a := [Value.ref it]) (by first | rfl | kernel_rfl!) ?_)
  dsimp only
  refine wpAny_bind (wpAny_specialOf (name := Str.ofString "__next__") hit.typeIs slot_listiter_next.lookup ?_)
  refine wpAny_ite_split (fun hab => absurd hab (by decide)) (fun _ => ?_)
  exact wpAny_bind (special_list ho hl hx fun h' h1 h2 => wpAny_pure ⟨_, rfl, h h' h1 h2⟩)
theorem next_it {Q : Value → Shared → Prop} (F : Fr h₀ L s.heap m) (N : News h₀ L s.heap [(it, itObj l i)]) (hl : h₀.IsList l items) (hx : items[i]? = some x)
    (h : ∀ h', Fr h₀ L h' m → News h₀ L h' [(it, itObj l (i + 1))] → Q x { s with heap := h' }) : wpAny (model prog w) A (call (.builtin "next") [.ref it]) Q E s := by
  have hn := N _ (.head _)
  obtain ⟨ol, hol, r⟩ := hl
  refine next_at hn.1 ⟨ol, F.keep _ _ hol, r⟩ hx fun h' h1 h2 => h h' (F.change h2 hn.2.1 hn.2.2) ?_
  intro p hp
  cases hp with
  | head => exact ⟨h1, hn.2⟩
  | tail _ q => cases q
end
section
theorem menu_cases {p : Str → Prop} (h : ∀ x ∈ menu, p x) {x : Str} (hx : x ∈ menu) : p x := h x hx
theorem ops_at (P : Params) : ∀ x ∈ menu, ∃ r, nsIn (Mine.hd.heap_39 P) 31 x = some r ∧ r.isSome = decide (x ∈ opsL) ∧ ∀ v, r = some v → ∃ (k : Int) (tk : Tok), v = .int k tk ∧ 1 ≤ k ∧ k ≤ 6 := by
  have hf : PySem.Challenge.rw_dv0011_01.row.prog = PySem.Challenge.rw_dv0011_01.row.prog ∧ Mine.hd.heap_39 P = Mine.hd.heap_39 P := by k_fill; exact ⟨rfl, rfl⟩
  clear hf
  intro x hx
  simp only [menu, opsL, digsL, restL, List.cons_append, List.nil_append, List.mem_cons, List.not_mem_nil, or_false] at hx
  rcases hx with rfl | rfl | rfl | rfl | rfl | rfl | rfl | rfl | rfl | rfl | rfl | rfl | rfl | rfl | rfl | rfl | rfl | rfl | rfl | rfl | rfl | rfl | rfl | rfl | rfl | rfl | rfl
  all_goals exact ⟨_, by k_is, by decide, fun v e => by first | (cases e; done) | (cases e; exact ⟨_, _, rfl, by decide, by decide⟩)⟩
theorem c2py_at (P : Params) : ∀ x ∈ opsL, ∃ r, nsIn (Mine.hd.heap_39 P) 77 x = some r ∧ ∀ v, r = some v → ∃ (y : Str) (tk : Tok), v = .str y tk ∧ y.length ≤ 3 := by
  have hf : PySem.Challenge.rw_dv0011_01.row.prog = PySem.Challenge.rw_dv0011_01.row.prog ∧ Mine.hd.heap_39 P = Mine.hd.heap_39 P := by k_fill; exact ⟨rfl, rfl⟩
  clear hf
  intro x hx
  simp only [opsL, List.mem_cons, List.not_mem_nil, or_false] at hx
  rcases hx with rfl | rfl | rfl | rfl | rfl | rfl | rfl | rfl | rfl | rfl | rfl | rfl | rfl
  all_goals exact ⟨_, by k_is, fun v e => by first | (cases e; done) | (cases e; exact ⟨_, _, rfl, by decide⟩)⟩
end
section
variable {w : World} {A : Around} {s : Shared} {E : Value → Shared → Prop} {h₀ : Heap} {L : Addr} {m : Str → Option Value} {x : Str} {t : Tok}
theorem in_ops {Q : Value → Shared → Prop} (F : Fr h₀ L s.heap m) (X : (Mine.hd.heap_39 w.params).In h₀) (hx : x ∈ menu) (h : Q (.bool (decide (x ∈ opsL))) { s with toks := s.toks + 1 }) :
    wpAny (model PySem.Challenge.rw_dv0011_01.row.prog w) A (compareOp .In (.str x t) (.ref 31)) Q E s := by
  ((have hf9 : PySem.Challenge.rw_dv0011_01.row.prog = PySem.Challenge.rw_dv0011_01.row.prog ∧ Mine.hd.heap_39 = Mine.hd.heap_39 := by (k_fill; exact ⟨rfl, rfl⟩)); clear hf9)
  obtain ⟨r, e, hr, _⟩ := ops_at w.params x hx
  rw [← hr] at h
  exact topIn_K F X (by k_is) (by k_keys) e (by decide) h
theorem gate_ops {M : Model} {value slice : Expr} {Q : Value → Shared → Prop} (h : wpAny M A (subscriptTail value slice (.ref 31) (.str x t)) Q E s) : wpAny M A (subscriptTail value slice (.ref 31) (.str x t)) Q E s := h
theorem get_ops {value slice : Expr} {Q : Value → Shared → Prop} (F : Fr h₀ L s.heap m) (X : (Mine.hd.heap_39 w.params).In h₀) (hx : x ∈ opsL) (h : ∀ (k : Int) tk, 1 ≤ k → k ≤ 6 → Q (.int k tk) { s with toks := s.toks + 1 })
    (hs : subscripted slice false (.ref 31) (.str x t) = operate [.ref 31, .str x t] (getItem (.ref 31) (.str x t))) :
    wpAny (model PySem.Challenge.rw_dv0011_01.row.prog w) A (subscriptTail value slice (.ref 31) (.str x t)) Q E s := by
  ((have hf9 : PySem.Challenge.rw_dv0011_01.row.prog = PySem.Challenge.rw_dv0011_01.row.prog ∧ Mine.hd.heap_39 = Mine.hd.heap_39 := by (k_fill; exact ⟨rfl, rfl⟩)); clear hf9)
  obtain ⟨r, e, hr, hv⟩ := ops_at w.params x (List.mem_append_left _ (List.mem_append_left _ hx))
  rw [decide_eq_true hx] at hr
  obtain ⟨v, rfl⟩ := Option.isSome_iff_exists.mp hr
  obtain ⟨k, tk, rfl, h1, h2⟩ := hv v rfl
  exact topItem_K F X (by k_is) (by k_keys) e (h k tk h1 h2) hs
theorem method_c2py {pl : Sem Bool} {Q : Value × List Value → Shared → Prop} (F : Fr h₀ L s.heap m) (X : (Mine.hd.heap_39 w.params).In h₀) (h : Q (.builtin "dict.get", [.ref 77]) s) :
    wpAny (model PySem.Challenge.rw_dv0011_01.row.prog w) A (getMethod (.ref 77) "get" pl) Q E s := by
  ((have hf9 : PySem.Challenge.rw_dv0011_01.row.prog = PySem.Challenge.rw_dv0011_01.row.prog ∧ Mine.hd.heap_39 = Mine.hd.heap_39 := by (k_fill; exact ⟨rfl, rfl⟩)); clear hf9)
  have hm := mapOf_K (prog := PySem.Challenge.rw_dv0011_01.row.prog) (w := w) (a := 77) (X.keeps F.keep) (by k_is) (by k_keys)
  exact getMethod_builtin hm.typeIs PySem.F.plainAttrs_dict PySem.F.slot_dict_get PySem.F.type_dict_get hm.noDict h
theorem get_c2py {t' : Tok} {Q : Value → Shared → Prop} (F : Fr h₀ L s.heap m) (X : (Mine.hd.heap_39 w.params).In h₀) (hx : x ∈ opsL) (h : ∀ y tk, y.length ≤ 3 → Q (.str y tk) { s with toks := s.toks + 1 }) :
    wpAny (model PySem.Challenge.rw_dv0011_01.row.prog w) A (call (.builtin "dict.get") [.ref 77, .str x t, .str x t']) Q E s := by
  ((have hf9 : PySem.Challenge.rw_dv0011_01.row.prog = PySem.Challenge.rw_dv0011_01.row.prog ∧ Mine.hd.heap_39 = Mine.hd.heap_39 := by (k_fill; exact ⟨rfl, rfl⟩)); clear hf9)
  obtain ⟨r, e, hr⟩ := c2py_at w.params x hx
  have hm := mapOf_K (prog := PySem.Challenge.rw_dv0011_01.row.prog) (w := w) (a := 77) (X.keeps F.keep) (by k_is) (by k_keys)
  refine call_meetsIn PySem.F.slot_dict_get hm.typeIs PySem.F.entry_dict_get (PySem.F.args_dict_get_3 _ _ _) (meets_dict_get_default _ 77 (strKind_is PySem.Challenge.rw_dv0011_01.row.prog w x t) (by decide) _) ⟨_, hm, ?_⟩
  show Q _ _
  rw [find_K (a := 77) (by k_is) e]
  cases r with
  | none => exact h x t' (menu_len x (List.mem_append_left _ (List.mem_append_left _ hx)))
  | some v =>
    obtain ⟨y, tk, rfl, hy⟩ := hr v rfl
    exact h y tk hy
end
theorem fresh_PvSeg : True := by w_top off; trivial
set_option maxRecDepth 100000
set_option maxHeartbeats 400000
/-- the def's body and scope, as the top leaves it -/
noncomputable def bodyOf (K : Frag) (a : Addr) : List Stmt := match K.lookup a with
  | some ⟨_, _, .func fd, _⟩ => (match fd.body with | .stmts b => b | _ => [])
  | _ => []
noncomputable def scopeOf (K : Frag) (a : Addr) : Scope := match K.lookup a with
  | some ⟨_, _, .func fd, _⟩ => fd.scope
  | _ => default
theorem bodyOf_eq {K : Frag} {a : Addr} {oc : Value} {od : Option Addr} {fd : FuncData} {osl : Array (Option Value)} {b : List Stmt} (h : K.lookup a = some ⟨oc, od, .func fd, osl⟩) (hb : fd.body = .stmts b) : bodyOf K a = b := by
  unfold bodyOf; rw [h]; simp only [hb]
theorem scopeOf_eq {K : Frag} {a : Addr} {oc : Value} {od : Option Addr} {fd : FuncData} {osl : Array (Option Value)} (h : K.lookup a = some ⟨oc, od, .func fd, osl⟩) : scopeOf K a = fd.scope := by
  unfold scopeOf; rw [h]
noncomputable abbrev strV (p : Str × Tok) : Value := .str p.1 p.2
noncomputable abbrev firsts (ps : List (Str × Tok)) : List Str := ps.map Prod.fst
noncomputable abbrev envP (w : World) (L : Addr) : Env := envOf (Str.ofString "_parse") (scopeOf (Mine.hd.heap_39 w.params) 85) L 85 (.ref 84)
theorem get_at {all : List (Str × Tok)} {i : Nat} {p : Str × Tok} {rest : List (Str × Tok)} (h : all.drop i = p :: rest) : ((all.map strV).toArray)[i]? = some (strV p) ∧ all.drop (i + 1) = rest := by
  have h1 : all[i]? = some p := by
    have := congrArg (fun l => l[0]?) h
    simpa using this
  refine ⟨by simp [h1], ?_⟩
  have := congrArg (List.drop 1) h
  rw [List.drop_drop] at this
  simpa using this
local macro_rules | `(tactic| walk_at "eval Name") => `(tactic| (k_here; k_dflt (refine' ld (by k_asm) (by assumption) ?_; k_whole)))
local macro_rules | `(tactic| walk_at "loadName") => `(tactic| (k_here; k_dflt (refine' ldn (by k_asm) (by assumption) ?_; k_whole)))
local macro_rules | `(tactic| walk_at "call builtin:next") => `(tactic| (k_here; k_dflt (refine' next_it (by k_asm) (by k_asm) (by k_asm) (by assumption) ?_); intro h' F' N'; (try k_sweep)))
theorem fresh_PvSeg0 : True := by w_top off; trivial
set_option maxRecDepth 100000
set_option maxHeartbeats 400000
/-- the empty text lies ahead -/
def HasEnd (ps : List (Str × Tok)) : Prop := ∃ p ∈ ps, p.1 = ""
theorem HasEnd.cons {ps : List (Str × Tok)} (h : HasEnd ps) : ∃ p rest, ps = p :: rest := by
  cases ps with
  | nil => obtain ⟨p, hp, _⟩ := h; cases hp
  | cons p rest => exact ⟨p, rest, rfl⟩
/-- an operand is due at (t, rest) -/
structure At1 (ps : List (Str × Tok)) (r t : Str) (tk : Tok) (rest : List (Str × Tok)) : Prop where
  same : ∀ st, walk true st (firsts ps) = walk true st (t :: firsts rest)
  last : HasEnd ((t, tk) :: rest)
  size : r.length + 20 * rest.length + 20 ≤ 20 * ps.length
  sub : ∀ p ∈ (t, tk) :: rest, p ∈ ps
theorem At1.behind {ps : List (Str × Tok)} {r t : Str} {tk : Tok} {rest : List (Str × Tok)} (h : At1 ps r t tk rest) (ht : t ≠ "") : ∃ p rest', rest = p :: rest' := by
  obtain ⟨p, hp, e⟩ := h.last
  cases hp with
  | head => exact absurd e ht
  | tail _ q => exact HasEnd.cons ⟨p, q, e⟩
theorem walk_bang (st ts : List Str) : walk true st ("!" :: ts) = walk true st ts := by
  rw [walk, if_neg (by decide), if_neg (by decide), if_neg (by decide)]
theorem At1.bang {ps : List (Str × Tok)} {r : Str} {tk : Tok} {q : Str × Tok} {rest : List (Str × Tok)} (h : At1 ps r "!" tk (q :: rest)) : At1 ps (r ++ "not ") q.1 q.2 rest where
  same st := (h.same st).trans (walk_bang st _)
  last := by
    obtain ⟨p, hp, e⟩ := h.last
    cases hp with
    | head => exact absurd (show ("!" : Str) = "" from e) (by decide)
    | tail _ z => exact ⟨p, z, e⟩
  size := by
    have := h.size
    rw [List.length_cons] at this
    have e : (("not " : Str)).length = 4 := by decide
    rw [Str.length_append, e]; omega
  sub p hp := h.sub p (.tail _ hp)
section
variable {w : World} {A : Around} {mean : ExcName → Option Value} {mg mb : Str → Option Value} {E : Value → Shared → Prop} {g : Heap} {L it l : Addr} {m : Str → Option Value} {all : List (Str × Tok)}
  {h : Heap} {gg : Array GenState} {dd : Drawn} {tk : Nat} {os : OsState} {i : Nat} {Q : Flow → Shared → Prop} {v : Value}
theorem seg0 (X : (Mine.hd.heap_39 w.params).In g) (T : Top Mine.hd.view_39 looseN mean mg mb g) (hE : PassesOwn (model PySem.Challenge.rw_dv0011_01.row.prog w) A (envP w L) E) (F : Fr g L h m) (N : News g L h [(it, itObj l i)]) (lst : g.IsList l (all.map strV).toArray)
    (m1 : m "tokens" = some (.ref it)) (m2 : m "priority" = some v) {ps : List (Str × Tok)} (hd : all.drop i = ps) (hl : ps.length ≤ 100) (he : HasEnd ps)
    (k : ∀ h' m' tk' r rk t tk rest j, Fr g L h' m' → News g L h' [(it, itObj l j)] → m' "tokens" = some (.ref it) → m' "priority" = some v → m' "result" = some (.str r rk) → m' "nexttok" = some (.str t tk) → all.drop j = rest → At1 ps r t tk rest → t ≠ "!" →
      Q .next ⟨h', gg, dd, tk', os⟩) :
    wpAny (model PySem.Challenge.rw_dv0011_01.row.prog w) A (execs ((bodyOf (Mine.hd.heap_39 w.params) 85).take 3) (envP w L)) Q E ⟨h, gg, dd, tk, os⟩ := by
  ((have hf9 : PySem.Challenge.rw_dv0011_01.row.prog = PySem.Challenge.rw_dv0011_01.row.prog ∧ Mine.hd.heap_39 = Mine.hd.heap_39 := by (k_fill; exact ⟨rfl, rfl⟩)); clear hf9)
  unfold envP at *
  rw [bodyOf_eq (a := 85) (by k_is) rfl, scopeOf_eq (a := 85) (by k_is)]
  rw [scopeOf_eq (a := 85) (by k_is)] at hE
  obtain ⟨p, rest0, rfl⟩ := he.cons
  obtain ⟨hx, hd'⟩ := get_at hd
  dsimp only [List.take]
  iterate 15 (first | (k_unfold; (try dsimp only)) | walk1 | (dsimp only; walk1))
  (with_reducible rename Fr _ _ _ _ => F1)
  (with_reducible rename News _ _ _ _ => N1)
  dsimp only
  refine wpAny_execs_cons (While_inv (n₀ := rest0.length) (J := fun n m₁ news₁ => ∃ r rk t tk rest j, n = rest.length ∧ m₁ "tokens" = some (.ref it) ∧ m₁ "priority" = some v ∧ m₁ "result" = some (.str r rk) ∧ m₁ "nexttok" = some (.str t tk) ∧ news₁ = [(it, itObj l j)] ∧ all.drop j = rest ∧ At1 (p :: rest0) r t tk rest) F1 N1 ?_ ?_ hE)
  · exact ⟨"", _, p.1, p.2, rest0, i + 1, rfl, m1, m2, rfl, rfl, rfl, hd', fun st => rfl, he, by show 0 + _ + _ ≤ _; rw [List.length_cons]; omega, fun q hq => hq⟩
  clear F1 N1
  rintro n m₁ news₁ h₁ tk₁ F1 N1 ⟨r, rk, t, tk, rest, j, rfl, n1, n2, n3, n4, rfl, hdr, a1⟩
  dsimp only at *
  iterate 5 (first | (k_unfold; (try dsimp only)) | walk1 | (dsimp only; walk1))
  by_cases ht : t = "!"
  · subst ht
    refine ite_pos (by decide) ?_
    obtain ⟨q, rest2, rfl⟩ := a1.behind (by decide)
    obtain ⟨hx2, hd2⟩ := get_at hdr
    have hsz := a1.size
    have hr : r.length ≤ 2000 := by omega
    iterate 16 (first | (k_unfold; (try dsimp only)) | walk1 | (dsimp only; walk1))
    refine wpAny_execs_nil ?_
    (with_reducible rename Fr _ _ _ _ => F2)
    (with_reducible rename News _ _ _ _ => N2)
    dsimp only
    exact WhileStep.intro F2 N2 (n' := rest2.length) (by rw [List.length_cons]; omega) ⟨_, _, q.1, q.2, rest2, j + 1, rfl, n1, n2, rfl, rfl, rfl, hd2, a1.bang⟩
  · refine ite_neg (fun e => ht (by simpa using e)) ?_
    exact wpAny_execs_nil (k _ _ _ _ _ _ _ _ _ F1 N1 n1 n2 n3 n4 hdr a1 ht)
end
theorem fresh_PvC2 : True := by w_top off; trivial
set_option maxRecDepth 100000
section
variable {M : Model} {A : Around} {E : Value → Shared → Prop} {s : Shared} {env : Env}
theorem wpC_Assign_Tuple {elts k tpos value pos} {Q : Flow → Shared → Prop}
    (h : wpC M A (eval value env) (fun v s₁ => wpAny M A (assign (.Tuple elts k tpos) env v) (fun _ => Q .next) E s₁) E s)
    (hs : swapsWithSole [.Tuple elts k tpos] value pos.line env = pure false)
    (hw : swappedStores [.Tuple elts k tpos] value env = pure none) :
    wpC M A (exec (.Assign [.Tuple elts k tpos] value pos) env) Q E s := by
  rw [exec_Assign]
  refine wpC_bindA (wpAny_standAt ?_)
  rw [hs]
  refine wpC_bindA (wpAny_pure ?_)
  rw [if_neg (by decide)]
  refine wpC_bind (wpC_mono h (fun v s₁ h₁ => ?_) fun _ _ x => x)
  rw [hw]
  refine wpC_bindA (wpAny_pure ?_)
  show wpC M A (do assignAll v [assign (.Tuple elts k tpos) env]; pure .next) Q E s₁
  exact wpC_bindA (wpAny_mono h₁ (fun _ _ x => wpC_pure x) fun _ _ x => x)
theorem wpC_Assign_Name {x pos' value pos} {Q : Flow → Shared → Prop}
    (h : wpC M A (eval value env) (fun v s₁ => wpAny M A (storeName env x v) (fun _ => Q .next) E s₁) E s)
    (hs : swapsWith value (some (.Name x pos')) pos.line env = pure false) :
    wpC M A (exec (.Assign [.Name x pos'] value pos) env) Q E s := by
  rw [exec_Assign_Name env x pos' value pos hs]
  refine wpC_bindA (wpAny_standAt (wpC_bind (wpC_mono h (fun v s₁ h₁ => ?_) fun _ _ x => x)))
  refine wpC_bindA (wpAny_standAt (wpC_bindA (wpAny_bindName (wpAny_mono h₁ (fun _ _ x => wpC_pure x) fun _ _ x => x))))
theorem wpC_Call_ofName {x : Str} {np pos : Pos} {args : List Expr} {keywords : List Keyword} {Q : Value → Shared → Prop}
    (h : wpAny M A (eval (.Name x np) env) (fun f s₁ => wpC M A (callWith pos f [] (backTo pos (starEach args env)) (backToKw pos (keywordEach keywords env))) Q E s₁) E s) :
    wpC M A (eval (.Call (.Name x np) args keywords pos) env) Q E s := by
  show wpC M A (do callWith pos (← eval (.Name x np) env) [] (backTo pos (starEach args env)) (backToKw pos (keywordEach keywords env))) Q E s
  exact wpC_bindA h
theorem callWithC_of {P : Heap → Prop} {f : Value} {pos : Pos} {first : List Value} {args : List (Bool × Sem Value)} {keywords : List (Option Str × Sem Value)} {Q : Value → Shared → Prop} (hplain : (args.any (·.1) || keywords.any (·.1.isNone)) = false)
    (hk : ∀ h, P h → ∃ k, (k = Keeper.frame ∨ k = Keeper.machine ∨ k = Keeper.boundFrame) ∧ Looks M h (keeperOf f) k)
    (h : wpAny M A (evalArgs f true args keywords) (fun a s₁ => P s₁.heap ∧ wpC M A (call f (first ++ a.pos) a.kw) Q E s₁) E s) : wpC M A (callWith pos f first args keywords) Q E s := by
  unfold callWith
  refine wpC_bindA (wpAny_holding (wpAny_mono h (fun a s₁ h₁ => wpC_bindA (wpAny_standAt ?_)) fun _ _ x => x))
  obtain ⟨k, hk', L⟩ := hk _ h₁.1
  simp only [hplain]
  refine wpC_bindA (L.here ?_)
  have tail : ∀ {t : Sem Value}, wpC M A t Q E s₁ → wpC M A (t >>= fun r => holding [r] point >>= fun _ => pure r) Q E s₁ :=
    fun ht => wpC_bind (wpC_mono ht (fun r s₂ hr => wpC_of (wpAny_bind (wpAny_holding (wpAny_point (wpAny_pure hr))))) fun _ _ x => x)
  have marked (mk : Value) : wpC M A (callMarked mk f (first ++ a.pos) a.kw) Q E s₁ := by unfold callMarked; exact wpC_keep h₁.2
  rcases hk' with rfl | rfl | rfl <;> dsimp only <;> first | exact tail h₁.2 | (split <;> first | exact tail h₁.2 | exact tail (marked _))
theorem callWithC_K {K : Frag} {f : Value} {pos : Pos} {e : Expr} {rest : List Expr} {Q : Value → Shared → Prop} (hk : keepIn K f = true)
    (h : wpAny M A (spliced (backTo pos (starEach (e :: rest) env))) (fun vs s₁ => K.In s₁.heap ∧ wpC M A (call f vs) Q E s₁) E s)
    (he : starEach (e :: rest) env = (false, eval e env) :: starEach rest env) (hplain : (backTo pos (starEach rest env)).any (·.1) = false) :
    wpC M A (callWith pos f [] (backTo pos (starEach (e :: rest) env)) []) Q E s := by
  rw [he] at h ⊢
  exact callWithC_of (by show ((false || (backTo pos (starEach rest env)).any (·.1)) || false) = false; rw [hplain]; rfl) (keeps_K hk) (evalArgs_plain h)
theorem callWithC_type {pos : Pos} {T : String} {e : Expr} {rest : List Expr} {Q : Value → Shared → Prop}
    (h : wpAny M A (spliced (backTo pos (starEach (e :: rest) env))) (fun vs s₁ => wpC M A (call (.type T) vs) Q E s₁) E s)
    (he : starEach (e :: rest) env = (false, eval e env) :: starEach rest env) (hplain : (backTo pos (starEach rest env)).any (·.1) = false) :
    wpC M A (callWith pos (.type T) [] (backTo pos (starEach (e :: rest) env)) []) Q E s := by
  rw [he] at h ⊢
  have h' : wpAny M A (evalArgs (.type T) true (backTo pos ((false, eval e env) :: starEach rest env)) []) (fun a s₁ => wpC M A (call (.type T) ([] ++ a.pos) a.kw) Q E s₁) E s := evalArgs_plain h
  unfold callWith
  refine wpC_bindA (wpAny_holding (wpAny_mono h' (fun a s₁ h₁ => wpC_bindA (wpAny_standAt ?_)) fun _ _ x => x))
  have hp : ((backTo pos ((false, eval e env) :: starEach rest env)).any fun x => x.fst) = false := by show (false || (backTo pos (starEach rest env)).any (·.1)) = false; rw [hplain]; rfl
  simp only [hp, List.any_nil, Bool.or_false]
  refine wpC_bindA (wpAny_pure ?_)
  exact wpC_bind (wpC_mono h₁ (fun r s₂ hr => wpC_of (wpAny_bind (wpAny_holding (wpAny_point (wpAny_pure hr))))) fun _ _ x => x)
end
theorem fresh_PvSpec : True := by w_top off; trivial
set_option maxRecDepth 100000
set_option maxHeartbeats 400000
noncomputable abbrev VE : Value := .type "ValueError"
noncomputable abbrev tupO (r : Str) (rk : Tok) (t : Str) (tk : Tok) : Obj := { cls := .type "tuple", data := .seq #[.str r rk, .str t tk] }
noncomputable def framesOf (l : List Env) : List Addr := l.filterMap (·.frame)
/-- an operand and what hangs on it is taken; t is the next token -/
structure At2 (ps : List (Str × Tok)) (pr : Int) (r t : Str) (tk : Tok) (rest : List (Str × Tok)) : Prop where
  same : ∀ st, walk true st (firsts ps) = walk false st (t :: firsts rest)
  last : HasEnd ((t, tk) :: rest)
  size : r.length + 20 * rest.length + 10 ≤ 20 * ps.length
  sub : ∀ p ∈ (t, tk) :: rest, p ∈ ps
  stop : pr ≤ 0 → t ∉ opsL ∧ t ≠ "?"
/-- _parse is called: what stands -/
structure Called (w : World) (mean : ExcName → Option Value) (mg mb : Str → Option Value) (A : Around) (env : Env) (outer : List Env) (hb : Heap) (it l : Addr) (i : Nat) (all ps : List (Str × Tok)) (h : Heap) : Prop where
  frames : A.frames = some (env :: outer)
  calm : A.handled = none
  depth : A.depth + ps.length < recursionLimit
  units : A.units + 10 * ps.length + 50 < cLine
  funs : h.FunFrames hb (env :: outer)
  low : hb.objs.size ≤ h.objs.size
  X : (Mine.hd.heap_39 w.params).In hb
  T : Top Mine.hd.view_39 looseN mean mg mb hb
  kb : ∀ b o, hb.get? b = some o → h.get? b = some o
  nit : hb.get? it = none
  here : h.get? it = some (itObj l i)
  lst : h.IsList l (all.map strV).toArray
  drop : all.drop i = ps
  len : ps.length ≤ 100
  last : HasEnd ps
  sub : ∀ p ∈ ps, p.1 ∈ menu
def OkEnd (s : Shared) (it l : Addr) (all ps : List (Str × Tok)) (pr : Int) (Q : Value → Shared → Prop) : Prop :=
  ∀ r rk t tk rest j tup h' tk', At2 ps pr r t tk rest → all.drop j = rest → h'.get? tup = some (tupO r rk t tk) → s.heap.get? tup = none →
    (∀ b o, s.heap.get? b = some o → b ≠ it → h'.get? b = some o) → h'.get? it = some (itObj l j) → Q (.ref tup) { s with heap := h', toks := tk' }
/-- a refusal that flies: its words, and that the iterator stands behind the token it refuses -/
structure Flies (ps all : List (Str × Tok)) (it l : Addr) (frs : List Env) (h : Heap) (e : Addr) (h' : Heap) : Prop where
  ex : ∃ msg mk t j rest B, (∀ st, walk true st (firsts ps) = some (false, msg, rest.length)) ∧ all.drop j = rest ∧ Heap.FlyingW B frs e VE (.ref t) h' ∧ B.get? t = none ∧ h'.TupAt t [.str msg mk] ∧
    (∀ b o, h.get? b = some o → b ≠ it → b ∉ framesOf frs → B.get? b = some o) ∧ B.get? it = some (itObj l j)
  up : h.UpToSlots h'
def ErrEnd (s : Shared) (env : Env) (outer : List Env) (it l : Addr) (all ps : List (Str × Tok)) (E : Value → Shared → Prop) : Prop :=
  ∀ e h' tk', Flies ps all it l (env :: outer) s.heap e h' → E (.ref e) { s with heap := h', toks := tk' }
def ArgsAre (it : Addr) (pr : Int) (args : List Value) : Prop := (args = [.ref it] ∧ pr = -1) ∨ ∃ tk, args = [.ref it, .int pr tk]
def Parses (w : World) (n : Nat) : Prop :=
  ∀ mean mg mb (A : Around) env outer hb it l i all ps (s : Shared) pr args (Q E : Value → Shared → Prop), ps.length ≤ n → Called w mean mg mb A env outer hb it l i all ps s.heap → ArgsAre it pr args → -1 ≤ pr → pr ≤ 7 →
    OkEnd s it l all ps pr Q → ErrEnd s env outer it l all ps E → wpC (model PySem.Challenge.rw_dv0011_01.row.prog w) A (call (.ref 85) args) Q E s
/-! the frames -/
theorem fun_mem {h base : Heap} {l : List Env} {b : Addr} (F : h.FunFrames base l) (hb : b ∈ framesOf l) : base.get? b = none ∧ ∃ o, h.get? b = some o ∧ ∀ vs, o.data ≠ .fields vs := F.mem hb
theorem fun_hide {base h : Heap} {l : List Env} (F : h.FunFrames base l) : h.FunFrames (hideAll h (framesOf l)) l :=
  funFrames_hide F fun env he a ha => List.mem_filterMap.mpr ⟨env, he, ha⟩
theorem stays_hide (h : Heap) (as : List Addr) : (hideAll h as).StaysIn h := fun b o q => of_hideAll _ q
theorem fresh_PvBody : True := by w_top off; trivial
set_option maxRecDepth 100000
set_option maxHeartbeats 400000
/-- a refusal that is made and has not left its frame -/
structure Fresh (ps all : List (Str × Tok)) (it l : Addr) (frs : List Env) (h : Heap) (e : Addr) (h' : Heap) : Prop where
  ex : ∃ msg mk t j rest B oe vs, (∀ st, walk true st (firsts ps) = some (false, msg, rest.length)) ∧ all.drop j = rest ∧ B.StaysIn h' ∧ h'.FunFrames B frs ∧ h'.get? e = some oe ∧ oe.cls = VE ∧ oe.data = .fields vs ∧ vs[0]? = some (.ref t) ∧ vs[1]? = some .none ∧
    B.get? e = none ∧ B.get? t = none ∧ h'.TupAt t [.str msg mk] ∧ (∀ b o, h.get? b = some o → b ≠ it → b ∉ framesOf frs → B.get? b = some o) ∧ B.get? it = some (itObj l j)
  up : h.UpToSlots h'
section
variable {w : World} {A : Around} {E E' : Value → Shared → Prop} {s : Shared} {g : Heap} {L it l e : Addr} {all ps : List (Str × Tok)} {env env' : Env} {outer : List Env} {h' : Heap} {tk' : Nat}
theorem not_frame {b : Addr} (hf : env'.frame = some L) (hb : b ∉ framesOf (env :: outer)) (hL : b ≠ L) : b ∉ framesOf (env' :: env :: outer) := fun hm => by
  unfold framesOf at hm
  rw [List.filterMap_cons, hf] at hm
  rcases List.mem_cons.mp hm with q | q
  · exact hL q
  · exact hb q
theorem up_from (hg : ∀ b o, s.heap.get? b = some o → b ≠ it → g.get? b = some o) {i : Nat} (hi : s.heap.get? it = some (itObj l i)) (u : g.UpToSlots h') : s.heap.UpToSlots h' := fun b o q hn =>
  u b o (hg b o q fun e => by subst e; rw [hi] at q; cases q; exact hn _ rfl) hn
theorem leave_fly (hA : A.frames = some (env :: outer)) (hf : env'.frame = some L) (hL : s.heap.objs.size ≤ L) (hg : ∀ b o, s.heap.get? b = some o → b ≠ it → g.get? b = some o) {i : Nat} (hi : s.heap.get? it = some (itObj l i))
    (er : ErrEnd s env outer it l all ps E) (fl : Flies ps all it l (env' :: env :: outer) g e h') :
    wpAny (model PySem.Challenge.rw_dv0011_01.row.prog w) (A.deeper env') (leaving env' (.ref e)) (fun _ s'' => E (.ref e) s'') E' { s with heap := h', toks := tk' } := by
  obtain ⟨⟨msg, mk, t, j, rest, B, h1, h2, h3, h4, h5, h6, h7⟩, hu⟩ := fl
  refine wpAny_leaves_onW (s := { s with heap := h', toks := tk' }) (Around.frames_deeper hA) hf h3 fun h'' f' u' => ?_
  refine er e h'' tk' ⟨⟨msg, mk, t, j, rest, B, h1, h2, f', h4, h5.of_slots u', fun b o q hb hn => h6 b o (hg b o q hb) hb (not_frame hf hn fun z => ?_), h7⟩, up_from hg hi (hu.trans u')⟩
  exact absurd (Heap.lt_size q) (Nat.not_lt.mpr (z ▸ hL))
theorem leave_fresh (hA : A.frames = some (env :: outer)) (hf : env'.frame = some L) (hL : s.heap.objs.size ≤ L) (hg : ∀ b o, s.heap.get? b = some o → b ≠ it → g.get? b = some o) {i : Nat} (hi : s.heap.get? it = some (itObj l i))
    (er : ErrEnd s env outer it l all ps E) (fr : Fresh ps all it l (env' :: env :: outer) g e h') :
    wpAny (model PySem.Challenge.rw_dv0011_01.row.prog w) (A.deeper env') (leaving env' (.ref e)) (fun _ s'' => E (.ref e) s'') E' { s with heap := h', toks := tk' } := by
  obtain ⟨⟨msg, mk, t, j, rest, B, oe, vs, h1, h2, k1, k2, k3, k4, k5, k6, k7, k8, h4, h5, h6, h7⟩, hu⟩ := fr
  refine wpAny_leaving_firstW (s := { s with heap := h', toks := tk' }) (Around.frames_deeper hA) k2 hf k3 k1 k8 k5 k7 k6 fun h'' lf => ?_
  obtain ⟨l1, ⟨_, _, l2⟩, l3, l4⟩ := lf
  rw [k4] at l3
  refine er e h'' tk' ⟨⟨msg, mk, t, j, rest, B, h1, h2, ⟨l1, k8, l2, l3⟩, h4, h5.of_slots l4, fun b o q hb hn => h6 b o (hg b o q hb) hb (not_frame hf hn fun z => ?_), h7⟩, up_from hg hi (hu.trans l4)⟩
  exact absurd (Heap.lt_size q) (Nat.not_lt.mpr (z ▸ hL))
end
section
variable {w : World} {A : Around} {mean : ExcName → Option Value} {mg mb : Str → Option Value} {E : Value → Shared → Prop} {g : Heap} {L it l : Addr} {m : Str → Option Value} {all ps : List (Str × Tok)}
  {h : Heap} {gg : Array GenState} {dd : Drawn} {tk : Nat} {os : OsState} {j : Nat} {env' env : Env} {outer : List Env} {hb : Heap}
theorem own_frames (kbg : ∀ b o, hb.get? b = some o → g.get? b = some o) (FF : g.FunFrames hb (env :: outer)) (F : Fr g L h m) (hf : env'.frame = some L) (hk : env'.scope.kind = .function) : h.FunFrames hb (env' :: env :: outer) :=
  Heap.FunFrames.cons (by rw [hk]; decide) hf F.ns (none_of_keep kbg (Heap.get?_none_of_le F.above)) (FF.of_keeps fun b o e _ => ⟨o, F.keep b o e, rfl⟩)
/-- a raise in the frame: the exception that was just made -/
theorem made_fresh {e : Addr} {msg : Str} {mk : Tok} {h' : Heap} {rest : List (Str × Tok)} (kbg : ∀ b o, hb.get? b = some o → g.get? b = some o) (FF : g.FunFrames hb (env :: outer)) (F : Fr g L h m) (N : News g L h [(it, itObj l j)]) (hf : env'.frame = some L) (hk : env'.scope.kind = .function)
    (hm : Heap.MadeExc h h' e "ValueError" [.str msg mk]) (hw : ∀ st, walk true st (firsts ps) = some (false, msg, rest.length)) (hd : all.drop j = rest) : Fresh ps all it l (env' :: env :: outer) g e h' := by
  have FO := own_frames kbg FF F hf hk
  obtain ⟨t, he, ht, hT⟩ := hm.there
  have st : (hideAll h (framesOf (env' :: env :: outer))).StaysIn h' := fun b o q => hm.keeps b o (of_hideAll _ q)
  have nit : it ∉ framesOf (env' :: env :: outer) := fun q => by
    obtain ⟨_, o, ho, hn⟩ := fun_mem FO q
    rw [(N _ (.head _)).1] at ho; cases ho; exact hn _ rfl
  refine ⟨⟨msg, mk, t, j, rest, hideAll h (framesOf (env' :: env :: outer)), _, _, hw, hd, st, ?_, he, rfl, rfl, rfl, rfl, ?_, ?_, ⟨_, _, hT, rfl, rfl⟩, ?_, hideAll_get _ (N _ (.head _)).1 nit⟩, ?_⟩
  · exact (fun_hide FO).of_keeps fun b o q _ => ⟨o, hm.keeps b o q, rfl⟩
  · exact none_of_keep (stays_hide _ _) hm.new
  · exact none_of_keep (stays_hide _ _) ht
  · exact fun b o q _ hn => hideAll_get _ (F.keep b o q) hn
  · exact Heap.UpToSlots.of_keeps fun b o q => hm.keeps b o (F.keep b o q)
/-- _parse calls itself -/
theorem sub_call {n : Nat} {pr : Int} {args : List Value} {ps2 : List (Str × Tok)} {Q : Value → Shared → Prop} (IH : Parses w n) (X : (Mine.hd.heap_39 w.params).In hb) (T : Top Mine.hd.view_39 looseN mean mg mb hb) (low : hb.objs.size ≤ L) (nb : hb.get? it = none) (kbg : ∀ b o, hb.get? b = some o → g.get? b = some o) (FF : g.FunFrames hb (env :: outer))
    (F : Fr g L h m) (N : News g L h [(it, itObj l j)]) (lst : g.IsList l (all.map strV).toArray) (hf : env'.frame = some L) (hk : env'.scope.kind = .function)
    (hA : A.frames = some (env :: outer)) (hh : A.handled = none) (hdp : A.depth + ps.length < recursionLimit) (hun : A.units + 10 * ps.length + 50 < cLine)
    (hd : all.drop j = ps2) (hlt : ps2.length < ps.length) (hn : ps2.length ≤ n) (hl : ps.length ≤ 100) (he : HasEnd ps2) (hm : ∀ p ∈ ps2, p.1 ∈ menu) (ha : ArgsAre it pr args) (p1 : -1 ≤ pr) (p2 : pr ≤ 7)
    (hrel : ∀ st, ∃ st', walk true st (firsts ps) = walk true st' (firsts ps2))
    (ok : ∀ r rk t tk rest j' tup h' tk', At2 ps2 pr r t tk rest → all.drop j' = rest → Fr g L h' m → News g L h' [(tup, tupO r rk t tk), (it, itObj l j')] → Q (.ref tup) ⟨h', gg, dd, tk', os⟩)
    (er : ∀ e h' tk', Flies ps all it l (env' :: env :: outer) g e h' → E (.ref e) ⟨h', gg, dd, tk', os⟩) :
    wpC (model PySem.Challenge.rw_dv0011_01.row.prog w) (A.deeper env') (call (.ref 85) args) Q E ⟨h, gg, dd, tk, os⟩ := by
  have hn1 := N _ (.head _)
  obtain ⟨ol, hol, hlr⟩ := lst
  refine IH mean mg mb (A.deeper env') env' (env :: outer) hb it l j all ps2 ⟨h, gg, dd, tk, os⟩ pr args Q E hn ?_ ha p1 p2 ?_ ?_
  · refine ⟨Around.frames_deeper hA, hh, ?_, ?_, own_frames kbg FF F hf hk, Nat.le_trans low (Nat.le_of_lt (let ⟨_, _, _, q, _⟩ := F.ns; Heap.lt_size q)), X, T, fun b o q => F.keep b o (kbg b o q), nb, hn1.1, ⟨ol, F.keep _ _ hol, hlr⟩, hd, by omega, he, hm⟩
    · show A.depth + 1 + ps2.length < recursionLimit
      omega
    · show A.units + 3 + 10 * ps2.length + 50 < cLine
      omega
  · intro r rk t tk1 rest j' tup h' tk' a2 hdj htup hnew hkeep hit
    obtain ⟨oL, es, ep, hoL, hLd, hLk, hLf⟩ := F.ns
    have hLit : L ≠ it := Ne.symm hn1.2.1
    have F' : Fr g L h' m := ⟨⟨oL, es, ep, hkeep L oL hoL hLit, hLd, hLk, hLf⟩, fun b o q => hkeep b o (F.keep b o q) (fun z => by subst z; rw [hn1.2.2] at q; cases q), F.above⟩
    refine ok r rk t tk1 rest j' tup h' tk' a2 hdj F' fun p hp => ?_
    cases hp with
    | head => exact ⟨htup, (fun z => by rw [show L = tup from z.symm] at hoL; rw [show h.get? tup = none from hnew] at hoL; cases hoL), none_of_keep F.keep hnew⟩
    | tail _ hp => cases hp with
      | head => exact ⟨hit, hn1.2⟩
      | tail _ hp => cases hp
  · intro e h' tk' fl
    obtain ⟨⟨msg, mk, t, j', rest, B, h1, h2, h3, h4, h5, h6, h7⟩, hu⟩ := fl
    refine er e h' tk' ⟨⟨msg, mk, t, j', rest, B, fun st => ?_, h2, h3, h4, h5, fun b o q hb hn => h6 b o (F.keep b o q) hb hn, h7⟩, fun b o q hn => hu b o (F.keep b o q) hn⟩
    obtain ⟨st', e'⟩ := hrel st
    rw [e']; exact h1 st'
end
theorem fresh_PvCatch : True := by w_top off; trivial
set_option maxRecDepth 100000
set_option maxHeartbeats 400000
section
variable {M : Model} {A : Around} {E : Value → Shared → Prop} {s : Shared}
/-- a new exception is noted in its frame and lands: what it is then -/
theorem note_land {base : Heap} {env : Env} {outer : List Env} {L e : Addr} {oe : Obj} {vs : Array Value} {Q : Unit → Shared → Prop}
    (hfr : A.frames = some (env :: outer)) (hl : s.heap.FunFrames base (env :: outer)) (hf : env.frame = some L) (he : s.heap.get? e = some oe) (hd : oe.data = .fields vs) (h1 : vs[1]? = some .none)
    (h : ∀ h' T, (∀ b o, s.heap.get? b = some o → b ≠ e → b ∉ framesOf (env :: outer) → h'.get? b = some o) → (∀ b o, s.heap.get? b = some o → b ≠ e → ∃ sl, h'.get? b = some { o with slots := sl }) →
      s.heap.get? T = none → T ≠ e → h'.get? e = some (oe.mapFields (·.setIfInBounds 1 (.ref T))) → (∃ oT ts, h'.get? T = some oT ∧ oT.data = .fields ts ∧ 3 < ts.size) → Q () { s with heap := h' }) :
    wpAny M A (noteFrame (.ref e) env) (fun _ s₂ => wpAny M A (setFlight (.ref e) none) Q E s₂) E s := by
  have hsz : 1 < vs.size := (Array.getElem?_eq_some_iff.mp h1).1
  have hene : e ∉ (env :: outer).filterMap (·.frame) := fun hm => by
    obtain ⟨_, o, ho, hnf⟩ := hl.mem hm
    rw [he] at ho; injection ho with ho; subst ho; exact hnf vs hd
  unfold noteFrame
  simp only [hf]
  refine wpAny_bind (wpAny_field he hd h1 ?_)
  rw [if_neg (by decide)]
  refine wpAny_bind (wpAny_frameOf_fun hfr hl hf fun h₁ hs₁ => ?_)
  refine wpAny_bind (wpAny_entryPlaceOf fun pl hpl => ?_)
  unfold EntryCells.newEntry newFields
  refine wpAny_bind (wpAny_newObj_type ?_ (hpl.sizeOk5 _ _ _ _ _))
  have he₁ : h₁.get? e = some oe := (hs₁.2.1 e hene).trans he
  generalize hX : ({ cls := .type "traceback", data := .fields ([Value.none, .ref L, .none, rawInt L, .none] ++ (if pl.isEmpty then List.replicate 6 Value.none else pl)).toArray } : Obj) = oX
  have hXd : ∃ ts : Array Value, oX.data = .fields ts ∧ 3 < ts.size := ⟨_, by rw [← hX], by simp only [List.size_toArray, List.length_append, List.length_cons, List.length_nil]; omega⟩
  have hXf : oX.isFreed = false := by rw [← hX]; rfl
  have he₂ := Heap.get?_push_of_some (h := h₁) oX he₁
  refine wpAny_setField he₂ hd hsz ?_
  have hTe : h₁.objs.size ≠ e := Nat.ne_of_gt (Heap.lt_size he₁)
  have hd₃ := Obj.data_mapFields hd (·.setIfInBounds 1 (Value.ref h₁.objs.size))
  have he₃ := Heap.get?_update_self (Obj.mapFields (·.setIfInBounds 1 (Value.ref h₁.objs.size))) he₂ (Obj.isFreed_of_fields hd₃)
  have hT₃ := (Heap.get?_update_other (h₁.push oX) (Obj.mapFields (·.setIfInBounds 1 (Value.ref h₁.objs.size))) (Ne.symm hTe)).trans (Heap.get?_push_size h₁ hXf)
  obtain ⟨ts, hts, hts3⟩ := hXd
  unfold setFlight
  refine wpAny_bind (wpAny_field he₃ hd₃ (x := .ref h₁.objs.size) (by simp [hsz]) ?_)
  rw [if_pos (show (Value.ref h₁.objs.size != Value.none) = true from by simp)]
  refine wpAny_setField hT₃ hts hts3 (h _ h₁.objs.size ?_ ?_ ?_ hTe ?_ ?_)
  · intro b o hb hbe hbf
    have hb1 := (hs₁.2.1 b hbf).trans hb
    rw [Heap.get?_update_other _ _ (Nat.ne_of_gt (Heap.lt_size hb1)), Heap.get?_update_other _ _ (Ne.symm hbe)]
    exact Heap.get?_push_of_some _ hb1
  · intro b o hb hbe
    obtain ⟨sl, hb1⟩ := hs₁.2.2 b o hb
    refine ⟨sl, ?_⟩
    rw [Heap.get?_update_other _ _ (Nat.ne_of_gt (Heap.lt_size hb1)), Heap.get?_update_other _ _ (Ne.symm hbe)]
    exact Heap.get?_push_of_some _ hb1
  · exact Heap.get?_none_of_le (by rw [hs₁.1]; exact Nat.le_refl _)
  · rw [Heap.get?_update_other _ _ hTe]
    exact he₃
  · exact ⟨_, _, Heap.get?_update_self _ hT₃ (Obj.isFreed_of_fields (Obj.data_mapFields hts _)), Obj.data_mapFields hts _, by rw [Array.size_setIfInBounds]; exact hts3⟩
/-- it lands again -/
theorem land_again {e T : Addr} {oe oT : Obj} {vs ts : Array Value} {Q : Unit → Shared → Prop} (he : s.heap.get? e = some oe) (hd : oe.data = .fields vs) (h1 : vs[1]? = some (.ref T)) (hT : s.heap.get? T = some oT) (hdT : oT.data = .fields ts) (hs : 3 < ts.size)
    (h : ∀ h', Heap.SameBut T s.heap h' → Q () { s with heap := h' }) : wpAny M A (setFlight (.ref e) none) Q E s :=
  wpAny_setFlight_none he hd h1 hT hdT hs (h _ (Heap.SameBut.update ..))
end
section
variable {prog : Program} {w : World} {A : Around} {E : Value → Shared → Prop} {s : Shared} {env : Env}
theorem entry_unchain : entryFor table "proto.unchain" = some Builtin.«proto.unchain» := entryFor_of_fast (by kernel_rfl)
/-- raise an exception that was just made, under another that is handled and has no context -/
theorem raiseNew_under {α : Type} {e e₁ : Addr} {o₁ : Obj} {v₁ : Array Value} {oe : Obj} {vs : Array Value} {Q : α → Shared → Prop} (hh : A.handled = some (.ref e₁)) (hne : e₁ ≠ e) (h1 : s.heap.get? e₁ = some o₁) (hd1 : o₁.data = .fields v₁) (hc : v₁[2]? = some .none)
    (he : s.heap.get? e = some oe) (hd : oe.data = .fields vs) (hs : 2 < vs.size)
    (h : ∀ h', h'.get? e = some (oe.mapFields (·.setIfInBounds 2 (.ref e₁))) → Heap.SameBut e s.heap h' → E (.ref e) { s with heap := h' }) : wpAny (model prog w) A (raiseNew (.ref e) : Sem α) Q E s := by
  unfold raiseNew
  refine wpAny_bind (wpAny_handled ?_)
  rw [hh]
  dsimp only
  rw [if_pos (by simp [hne])]
  refine wpAny_bind (wpAny_holding (wpAny_runValue (codeAny_builtin entry_unchain ?_)))
  unfold Builtin.«proto.unchain»
  dsimp only
  refine wpAny_bind (wpAny_field h1 hd1 hc ?_)
  rw [if_pos (by decide)]
  refine wpAny_pure ?_
  dsimp only
  have hu : wpAny (model prog w) A (setField (.ref e) 2 (.ref e₁)) (fun _ s' => wpAny (model prog w) A (throw (Value.ref e) : Sem α) Q E s') E s :=
    wpAny_setField he hd hs (wpAny_throw (h _ (Heap.get?_update_self _ he (Obj.isFreed_of_fields (Obj.data_mapFields hd _))) (Heap.SameBut.update ..)))
  exact wpAny_bind hu
end
section
variable {prog : Program} {w : World} {A : Around} {E : Value → Shared → Prop} {s : Shared} {env : Env}
noncomputable abbrev excO (t : Value) (a b c d : Value) : Obj := { cls := VE, data := .fields #[t, a, b, c, d, .none] }
theorem raiseStmt_from {x c : Sem Value} {e₁ : Addr} {Q : Flow → Shared → Prop} (hh : A.handled = some (.ref e₁))
    (h : wpAny (model prog w) A x (fun v s₁ => wpAny (model prog w) A c (fun cv s₂ => cv = .none ∧ ∃ e t, v = .ref e ∧ e₁ ≠ e ∧ s₂.heap.get? e = some (excO (.ref t) .none .none .none (.bool false)) ∧
      (∃ o₁ v₁, s₂.heap.get? e₁ = some o₁ ∧ o₁.data = .fields v₁ ∧ v₁[2]? = some .none) ∧
      ∀ h', h'.get? e = some (excO (.ref t) .none (.ref e₁) .none (.bool true)) → Heap.SameBut e s₂.heap h' → E (.ref e) { s₂ with heap := h' }) E s₁) E s) :
    wpAny (model prog w) A (raiseStmt env (some x) (some c)) Q E s := by
  unfold raiseStmt
  refine wpAny_bind (wpAny_mono h (fun v s₁ h₁ => ?_) fun _ _ x => x)
  refine wpAny_bind (wpAny_holding (wpAny_mono h₁ (fun cv s₂ h₂ => wpAny_bind (wpAny_pure ?_)) fun _ _ x => x))
  obtain ⟨rfl, e, t, rfl, hne, he, ⟨o₁, v₁, k1, k2, k3⟩, hk⟩ := h₂
  obtain ⟨hp, g, d, tk, os⟩ := s₂
  have hsub := PySem.F.excRaise_ValueError.isExc
  have hmeta := PySem.F.excRaise_ValueError.plainMeta
  dsimp only
  have hex : wpAny (model prog w) A (excFromValue (.ref e) "exceptions must derive from BaseException") (fun v s' => v = .ref e ∧ s' = ⟨hp, g, d, tk, os⟩) E ⟨hp, g, d, tk, os⟩ := by
    repeat (first | refine wpAny_loadPart he ?_ | wp_step)
    exact ⟨rfl, rfl⟩
  refine wpAny_bind (wpAny_holding (wpAny_mono hex (fun v s' hv => ?_) fun _ _ x => x))
  obtain ⟨rfl, rfl⟩ := hv
  rw [if_pos (by decide)]
  refine wpAny_bind (wpAny_pure ?_)
  refine wpAny_bind (wpAny_setField he rfl (by simp) ?_)
  have he3 : (hp.update e (Obj.mapFields (·.setIfInBounds 3 Value.none))).get? e = some (excO (.ref t) .none .none .none (.bool false)) := (Heap.get?_update_self (Obj.mapFields (·.setIfInBounds 3 Value.none)) he rfl)
  refine wpAny_bind (wpAny_setField he3 rfl (by simp) ?_)
  have he4 : ((hp.update e (Obj.mapFields (·.setIfInBounds 3 Value.none))).update e (Obj.mapFields (·.setIfInBounds 4 (Value.bool true)))).get? e = some (excO (.ref t) .none .none .none (.bool true)) := (Heap.get?_update_self (Obj.mapFields (·.setIfInBounds 4 (Value.bool true))) he3 rfl)
  have hsb : Heap.SameBut e hp ((hp.update e (Obj.mapFields (·.setIfInBounds 3 Value.none))).update e (Obj.mapFields (·.setIfInBounds 4 (Value.bool true)))) := (Heap.SameBut.update ..).trans (Heap.SameBut.update ..)
  generalize hH : (hp.update e (Obj.mapFields (·.setIfInBounds 3 Value.none))).update e (Obj.mapFields (·.setIfInBounds 4 (Value.bool true))) = h4 at he4 hsb
  dsimp only
  have k1' : h4.get? e₁ = some o₁ := (hsb.2 e₁ hne).trans k1
  have fin : wpAny (model prog w) A (raiseNew (.ref e) : Sem Flow) Q E ⟨h4, g, d, tk, os⟩ := by
    refine raiseNew_under hh hne k1' k2 k3 he4 rfl (by simp) fun h' h1 h2 => hk h' h1 (hsb.trans h2)
  have hri : wpAny (model prog w) A (raisedInstance (.ref e)) (fun v s' => v = .ref e ∧ s' = ⟨h4, g, d, tk, os⟩) E ⟨h4, g, d, tk, os⟩ := by
    repeat (first | refine wpAny_loadPart he4 ?_ | wp_step)
    exact ⟨rfl, rfl⟩
  have hit : wpAny (model prog w) A (isType (.ref e)) (fun v s' => v = false ∧ s' = ⟨h4, g, d, tk, os⟩) E ⟨h4, g, d, tk, os⟩ := by
    repeat (first | refine wpAny_loadPart he4 ?_ | wp_step)
    exact ⟨rfl, rfl⟩
  refine wpAny_bind (wpAny_mono hit (fun v s' hv => ?_) fun _ _ x => x)
  obtain ⟨rfl, rfl⟩ := hv
  rw [if_neg (by decide)]
  refine wpAny_bind (wpAny_mono hri (fun v s' hv => ?_) fun _ _ x => x)
  obtain ⟨rfl, rfl⟩ := hv
  refine wpAny_bind ?_
  unfold setFlight
  refine wpAny_bind (wpAny_field he4 rfl (x := .none) (by simp) ?_)
  rw [if_neg (by decide)]
  exact wpAny_pure fin
theorem Raise_from {x c : Expr} {pos : Pos} {e₁ : Addr} {Q : Flow → Shared → Prop} (hh : A.handled = some (.ref e₁))
    (h : wpAny (model prog w) A (eval x env) (fun v s₁ => wpAny (model prog w) A (eval c env) (fun cv s₂ => cv = .none ∧ ∃ e t, v = .ref e ∧ e₁ ≠ e ∧ s₂.heap.get? e = some (excO (.ref t) .none .none .none (.bool false)) ∧
      (∃ o₁ v₁, s₂.heap.get? e₁ = some o₁ ∧ o₁.data = .fields v₁ ∧ v₁[2]? = some .none) ∧
      ∀ h', h'.get? e = some (excO (.ref t) .none (.ref e₁) .none (.bool true)) → Heap.SameBut e s₂.heap h' → E (.ref e) { s₂ with heap := h' }) E s₁) E s) :
    wpAny (model prog w) A (exec (.Raise (some x) (some c) pos) env) Q E s := by
  rw [arm_exec_Raise]
  simp only [evalOpt, Option.map]
  exact wpAny_bind (wpAny_standAt (raiseStmt_from hh (wpAny_bind (wpAny_mono h (fun v s₁ h₁ => wpAny_bind (wpAny_standAt (wpAny_pure (wpAny_bind (wpAny_mono h₁ (fun cv s₂ h₂ => wpAny_bind (wpAny_standAt (wpAny_pure h₂))) fun _ _ x => x))))) fun _ _ x => x))))
end
theorem fresh_PvBad : True := by w_top off; trivial
set_option maxRecDepth 100000
set_option maxHeartbeats 400000
/-- the clauses of the def's own try -/
noncomputable def clausesIn : List Stmt → List ExceptHandler
  | _ :: _ :: _ :: .If _ _ [.If _ _ (.Try _ hs _ _ _ :: _) _] _ :: _ => hs
  | _ => []
theorem same_news {h₀ h h' : Heap} {L T : Addr} {p : Addr × Obj} (N : News h₀ L h [p]) (hs : Heap.SameBut T h h') (hT : p.1 ≠ T) : News h₀ L h' [p] := by
  intro q hq
  cases hq with
  | head => exact ⟨(hs.2 _ hT).trans (N _ (.head _)).1, (N _ (.head _)).2⟩
  | tail _ z => cases z
theorem fresh_chain {hb g h h1 h2 h3 h4 h5 : Heap} {it l e e2 T t2 : Addr} {j : Nat} {frs : List Env} {all ps rest : List (Str × Tok)} {msg : Str} {mk : Tok} (FO : h.FunFrames hb frs) (kg : ∀ b o, g.get? b = some o → h.get? b = some o) (hit : h.get? it = some (itObj l j))
    (hx : Heap.NewExc h h1 e "ValueError") (a1 : ∀ b o, h1.get? b = some o → b ≠ e → b ∉ framesOf frs → h2.get? b = some o) (a2 : ∀ b o, h1.get? b = some o → b ≠ e → ∃ sl, h2.get? b = some { o with slots := sl }) (a3 : h1.get? T = none)
    (s3 : Heap.SameBut T h2 h3) (hm : Heap.MadeExc h3 h4 e2 "ValueError" [.str msg mk]) (k1 : h5.get? e2 = some (excO (.ref t2) .none (.ref e) .none (.bool true))) (k2 : Heap.SameBut e2 h4 h5) (ht0 : h3.get? t2 = none) (ht2 : h4.get? t2 = some { cls := .type "tuple", data := .seq [Value.str msg mk].toArray })
    (he2 : ∃ vs, ∃ o2, h4.get? e2 = some o2 ∧ o2.data = .fields vs)
    (hw : ∀ st, walk true st (firsts ps) = some (false, msg, rest.length)) (hd : all.drop j = rest) : Fresh ps all it l frs g e2 h5 := by
  have ne_e : ∀ b o, h.get? b = some o → b ≠ e := fun b o q z => by subst z; rw [hx.new] at q; cases q
  have ne_T : ∀ b o, h.get? b = some o → b ≠ T := fun b o q z => by rw [← z, hx.keeps _ _ q] at a3; cases a3
  have st3 : ∀ b o, h.get? b = some o → b ∉ framesOf frs → h3.get? b = some o := fun b o q hn => (s3.2 b (ne_T b o q)).trans (a1 b o (hx.keeps b o q) (ne_e b o q) hn)
  have up3 : ∀ b o, h.get? b = some o → ∃ sl, h3.get? b = some { o with slots := sl } := fun b o q => by
    obtain ⟨sl, e'⟩ := a2 b o (hx.keeps b o q) (ne_e b o q)
    exact ⟨sl, (s3.2 b (ne_T b o q)).trans e'⟩
  have st5 : ∀ b o, h3.get? b = some o → h5.get? b = some o := fun b o q => (k2.2 b (fun z => by rw [z, hm.new] at q; cases q)).trans (hm.keeps b o q)
  have nfr : it ∉ framesOf frs := fun q => by
    obtain ⟨_, o, ho, hn⟩ := fun_mem FO q
    rw [hit] at ho; cases ho; exact hn _ rfl
  have stB : (hideAll h (framesOf frs)).StaysIn h3 := fun b o q => by
    by_cases hf : b ∈ framesOf frs
    · rw [hideAll_none _ hf] at q; cases q
    · exact st3 b o (of_hideAll _ q) hf
  have tne : t2 ≠ e2 := fun z => by
    obtain ⟨vs, o2, h1', h2'⟩ := he2
    rw [z, h1'] at ht2; cases ht2; cases h2'
  refine ⟨⟨msg, mk, t2, j, rest, hideAll h (framesOf frs), _, _, hw, hd, fun b o q => st5 b o (stB b o q), ?_, k1, rfl, rfl, rfl, rfl, none_of_keep stB hm.new, none_of_keep stB ht0, ⟨_, _, (k2.2 t2 tne).trans ht2, rfl, rfl⟩, ?_, hideAll_get _ hit nfr⟩, ?_⟩
  · exact (fun_hide FO).of_keeps fun b o q _ => let ⟨sl, e'⟩ := up3 b o q; ⟨_, st5 _ _ e', rfl⟩
  · exact fun b o q _ hn => hideAll_get _ (kg b o q) hn
  · intro b o q _
    obtain ⟨sl, e'⟩ := up3 b o (kg b o q)
    exact ⟨sl, st5 _ _ e'⟩
section
variable {w : World} {A : Around} {mean : ExcName → Option Value} {mg mb : Str → Option Value} {E : Value → Shared → Prop} {g hb : Heap} {L it l e : Addr} {m : Str → Option Value} {all ps rest : List (Str × Tok)}
  {h h1 : Heap} {gg : Array GenState} {dd : Drawn} {tk : Nat} {os : OsState} {j : Nat} {env : Env} {outer : List Env} {Q : Flow → Shared → Prop} {t : Str} {tk0 : Tok}
theorem caught_bad (X : (Mine.hd.heap_39 w.params).In hb) (T : Top Mine.hd.view_39 looseN mean mg mb hb) (low : hb.objs.size ≤ L) (nb : hb.get? it = none) (kbg : ∀ b o, hb.get? b = some o → g.get? b = some o) (FF : g.FunFrames hb (env :: outer))
    (F : Fr g L h m) (N : News g L h [(it, itObj l j)]) (hA : A.frames = some (env :: outer)) (hdp : A.depth + 1 < recursionLimit) (n4 : m "nexttok" = some (.str t tk0)) (ht : t.length ≤ 20)
    (hE2 : ∀ x, PassesOwnAt (model PySem.Challenge.rw_dv0011_01.row.prog w) ((A.deeper (envP w L)).mark x) (A.deeper (envP w L)) (envP w L) E)
    (hw : ∀ st, walk true st (firsts ps) = some (false, refusedMsg t, rest.length)) (hd : all.drop j = rest) (hx : Heap.NewExc h h1 e "ValueError")
    (erN : ∀ e h' tk', Fresh ps all it l (envP w L :: env :: outer) g e h' → E (.ref e) ⟨h', gg, dd, tk', os⟩) :
    wpAny (model PySem.Challenge.rw_dv0011_01.row.prog w) (A.deeper (envP w L)) (noteFrame (.ref e) (envP w L)) (fun _ s₂ => wpAny (model PySem.Challenge.rw_dv0011_01.row.prog w) (A.deeper (envP w L)) (setFlight (.ref e) none)
      (fun _ s₃ => wpAny (model PySem.Challenge.rw_dv0011_01.row.prog w) (A.deeper (envP w L)) (handleBy (.ref e) (envP w L) (clausesIn (bodyOf (Mine.hd.heap_39 w.params) 85))) Q E s₃) E s₂) E ⟨h1, gg, dd, tk, os⟩ := by
  ((have hf9 : PySem.Challenge.rw_dv0011_01.row.prog = PySem.Challenge.rw_dv0011_01.row.prog ∧ Mine.hd.heap_39 = Mine.hd.heap_39 := by (k_fill; exact ⟨rfl, rfl⟩)); clear hf9)
  have hk : (envP w L).scope.kind = .function := by
    show (scopeOf (Mine.hd.heap_39 w.params) 85).kind = _
    rw [scopeOf_eq (a := 85) (by k_is)]
  have FO : h.FunFrames hb (envP w L :: env :: outer) := own_frames kbg FF F rfl hk
  obtain ⟨ob, t0, hob, hoc, hod⟩ := hx.there
  have FO1 : h1.FunFrames hb (envP w L :: env :: outer) := FO.of_keeps fun b o q _ => ⟨o, hx.keeps b o q, rfl⟩
  have hn1 := N _ (.head _)
  have nfr : it ∉ framesOf (envP w L :: env :: outer) := fun q => by
    obtain ⟨_, o, ho, hn⟩ := fun_mem FO q
    rw [hn1.1] at ho; cases ho; exact hn _ rfl
  have ne_e : ∀ b o, h.get? b = some o → b ≠ e := fun b o q z => by subst z; rw [hx.new] at q; cases q
  refine note_land (s := ⟨h1, gg, dd, tk, os⟩) (Around.frames_deeper hA) FO1 rfl hob hod rfl ?_
  intro h2 T9 a1 a2 a3 a4 a5 a6
  have step2 : ∀ b o, h.get? b = some o → b ∉ framesOf (envP w L :: env :: outer) → h2.get? b = some o := fun b o q hn => a1 b o (hx.keeps b o q) (ne_e b o q) hn
  obtain ⟨oL, es, ep, hoL, hLd, hLk, hLf⟩ := id F.ns
  have hL1 : h1.get? L = some oL := hx.keeps _ _ hoL
  obtain ⟨slL, hL2⟩ := a2 L oL hL1 (ne_e _ _ hoL)
  have F2 : Fr hb L h2 m := ⟨⟨_, es, ep, hL2, hLd, hLk, hLf⟩, fun b o q => step2 b o (F.keep b o (kbg b o q)) (fun z => by rw [(fun_mem FO z).1] at q; cases q), low⟩
  have N2 : News hb L h2 [(it, itObj l j)] := fun p hp => by
    cases hp with
    | head => exact ⟨step2 _ _ hn1.1 nfr, hn1.2.1, nb⟩
    | tail _ z => cases z
  have hTL : T9 ≠ L := fun z => by rw [z, show h1.get? L = _ from hL1] at a3; cases a3
  have hTb : hb.get? T9 = none := none_of_keep (fun b o q => hx.keeps b o (F.keep b o (kbg b o q))) a3
  have hTit : it ≠ T9 := fun z => by rw [← z, show h1.get? it = _ from hx.keeps _ _ hn1.1] at a3; cases a3
  obtain ⟨oT, ts, hT1, hT2, hT3⟩ := a6
  have hdat : (Obj.mapFields (fun x => x.setIfInBounds 1 (Value.ref T9)) ob).data = .fields #[t0, .ref T9, .none, .none, .bool false, .none] := (Obj.data_mapFields hod _).trans rfl
  have hcls : (Obj.mapFields (fun x => x.setIfInBounds 1 (Value.ref T9)) ob).cls = VE := (Obj.cls_mapFields ..).trans hoc
  unfold envP at *
  rw [bodyOf_eq (a := 85) (by k_is) rfl]
  rw [scopeOf_eq (a := 85) (by k_is)] at *
  dsimp only [clausesIn]
  refine wpAny_handleBy_builtin (X := "ValueError") (T := "ValueError") (b := true) PySem.F.isExc_ValueError PySem.F.notTuple_ValueError (by rw [isSubtype_type]; kernel_rfl) ?_
  (first | (k_unfold; (try dsimp only)) | walk1 | (dsimp only; walk1))
  refine ⟨rfl, ⟨_, a5, hcls⟩, ?_⟩
  rw [if_pos rfl]
  refine land_again (s := ⟨h2, gg, dd, tk, os⟩) a5 hdat rfl hT1 hT2 hT3 ?_
  intro h3 s3
  have F3 : Fr hb L h3 m := F2.change s3 hTL hTb
  have N3 : News hb L h3 [(it, itObj l j)] := same_news N2 s3 hTit
  clear F2 N2
  refine wpAny_passesOwnAt (hE2 _) ?_
  refine wpAny_execs_cons (Raise_from (e₁ := e) rfl ?_)
  iterate 7 (first | (k_unfold; (try dsimp only)) | walk1 | (dsimp only; walk1))
  refine error_call (X.keeps F3.keep) (T.keeps F3.keep) (by show A.depth + 1 < recursionLimit; omega) ht ?_
  intro h4 e2 tk4 tk5 hm
  (first | (k_unfold; (try dsimp only)) | walk1 | (dsimp only; walk1))
  obtain ⟨t2, m1, m2, m3⟩ := hm.there
  have he3 : h3.get? e = some (Obj.mapFields (fun x => x.setIfInBounds 1 (Value.ref T9)) ob) := (s3.2 e (Ne.symm a4)).trans a5
  have ee2 : e ≠ e2 := fun z => by have q := hm.new; rw [← z, show h3.get? e = _ from he3] at q; cases q
  refine ⟨rfl, e2, t2, rfl, ee2, m1, ⟨_, _, hm.keeps _ _ he3, hdat, rfl⟩, fun h5 k1 k2 => ?_⟩
  exact erN e2 h5 _ (fresh_chain FO F.keep hn1.1 hx a1 a2 a3 s3 hm k1 k2 m2 m3 ⟨_, _, m1, rfl⟩ hw hd)
end
theorem fresh_PvFmt : True := by w_top off; trivial
set_option maxRecDepth 100000
set_option maxHeartbeats 4000000
section
variable {prog : Program} {w : World} {A : Around} {E : Value → Shared → Prop} {s : Shared} {h₀ : Heap} {L b : Addr} {news : List (Addr × Obj)} {r : Str} {rk nk t : Tok} {n : Int} {Q : Value → Shared → Prop}
theorem mod_sd (N : News h₀ L s.heap news) (hb : (b, ({ cls := .type "tuple", data := .seq [Value.str r rk, Value.int n nk].toArray } : Obj)) ∈ news) (h0 : 0 ≤ n) (h1 : n < 1000) (hr : r.length ≤ 2000)
    (h : ∀ T t' k, T.length ≤ r.length + 10 → Q (.str T t') { s with toks := k }) : wpAny (model prog w) A (binaryOp .Mod (.str (Str.ofString "%s%d") t) (.ref b)) Q E s := by
  refine' KPt.mod_tuple N hb ?kptF ?kptm ?_
  (case kptF => kpt_eq)
  (case kptm => kpt_run)
  intro t' k
  refine h _ _ _ ?_
  have := KT.len_num h0 (Int.lt_trans h1 (by decide))
  rw [Str.length_append]; omega
end
theorem fresh_PvSeg1 : True := by w_top off; trivial
set_option maxRecDepth 100000
set_option maxHeartbeats 400000
theorem evalArgs_star {M : Model} {A : Around} {E : Value → Shared → Prop} {s : Shared} {env : Env} {f : Value} {pos : Pos} {e : Expr} {rest : List Expr} {Q : Args → Shared → Prop}
    (h : wpAny M A (spliced (backTo pos (starEach (e :: rest) env))) (fun vs s₁ => Q ⟨vs, []⟩ s₁) E s) (he : starEach (e :: rest) env = (false, eval e env) :: starEach rest env) :
    wpAny M A (evalArgs f true (backTo pos (starEach (e :: rest) env)) []) Q E s := by
  rw [he] at h ⊢
  exact evalArgs_plain h
/-- an operand is taken; the next token is not read yet -/
structure At3 (ps : List (Str × Tok)) (r : Str) (rest : List (Str × Tok)) : Prop where
  same : ∀ st, walk true st (firsts ps) = walk false st (firsts rest)
  last : HasEnd rest
  size : r.length + 20 * rest.length + 10 ≤ 20 * ps.length
  sub : ∀ p ∈ rest, p ∈ ps
theorem wp_append {M : Model} {Γ : Ctx} {E : Value → Pos → Shared → Prop} {env : Env} {b : List Stmt} {Q : Flow → Pos → Shared → Prop} : ∀ (a : List Stmt) (p : Pos) (s : Shared),
    Sem.wp M Γ (execs a env) (fun f p' s' => match f with | .next => Sem.wp M Γ (execs b env) Q E p' s' | f => Q f p' s') E p s → Sem.wp M Γ (execs (a ++ b) env) Q E p s
  | [], _, _, h => h
  | st :: a, p, s, h => by
    rw [List.cons_append, execs_cons, Sem.wp_bind']
    rw [execs_cons, Sem.wp_bind'] at h
    refine Sem.wp_mono _ Γ _ (fun f p' s' h' => ?_) (fun _ _ _ x => x) p s h
    cases f <;> first
      | exact wp_append a p' s' h'
      | exact h'
theorem wpC_front {M : Model} {A : Around} {E : Value → Shared → Prop} {env : Env} {a b : List Stmt} {Q : Flow → Shared → Prop} {s : Shared}
    (h : wpAny M A (execs a env) (fun f s' => match f with | .next => wpC M A (execs b env) Q E s' | f => Q f s') E s) : wpC M A (execs (a ++ b) env) Q E s := fun Γ p hΓ hu =>
  wp_append a p s (Sem.wp_mono _ Γ _ (fun f p' s' h' => by cases f <;> first | exact h' Γ p' hΓ hu | exact h') (fun _ _ _ x => x) p s (h Γ p hΓ))
theorem At1.ends {ps : List (Str × Tok)} {r t : Str} {tk : Tok} {rest : List (Str × Tok)} (h : At1 ps r t tk rest) (ht : t ≠ "") : HasEnd rest := by
  obtain ⟨p, hp, e⟩ := h.last
  cases hp with
  | head => exact absurd e ht
  | tail _ q => exact ⟨p, q, e⟩
theorem walk_open (st ts : List Str) : walk true st ("(" :: ts) = walk true ("(" :: st) ts := by rw [walk, if_pos rfl]
theorem News.tail {h₀ h : Heap} {L : Addr} {p : Addr × Obj} {news : List (Addr × Obj)} (N : News h₀ L h (p :: news)) : News h₀ L h news := fun q hq => N q (.tail _ hq)
theorem walk_close (st ts : List Str) : walk false ("(" :: st) (")" :: ts) = walk false st ts := by
  rw [walk, if_neg (by decide), if_neg (by decide)]
  show (if _ then _ else _) = _
  rw [if_pos (by decide)]
  rfl
theorem At1.paren {ps : List (Str × Tok)} {r : Str} {tk : Tok} {rest : List (Str × Tok)} (h : At1 ps r "(" tk rest) {pr : Int} {r2 : Str} {tk2 : Tok} {rest2 : List (Str × Tok)} (h2 : At2 rest pr r2 ")" tk2 rest2) :
    At3 ps (Str.empty ++ r ++ "(" ++ r2 ++ ")") rest2 where
  same st := (h.same st).trans ((walk_open st _).trans ((h2.same _).trans (walk_close st _)))
  last := by
    obtain ⟨p, hp, e⟩ := h2.last
    cases hp with
    | head => exact absurd (show (")" : Str) = "" from e) (by decide)
    | tail _ z => exact ⟨p, z, e⟩
  size := by
    have s1 := h.size
    have s2 := h2.size
    have e1 : ((")" : Str)).length = 1 := by decide
    have e2 : (("(" : Str)).length = 1 := by decide
    have e3 : Str.empty.length = 0 := by decide
    simp only [Str.length_append, e1, e2, e3]; omega
  sub p hp := h.sub p (.tail _ (h2.sub p (.tail _ hp)))
theorem menu_join : ∀ t ∈ menu, ((("(" : Str) ++ t = "()") ↔ t = ")") ∧ ¬ (("(" : Str) ++ t = "?:") ∧ ¬ (("?" : Str) ++ t = "()") ∧ ((("?" : Str) ++ t = "?:") ↔ t = ":") := by decide +kernel
theorem At1.unbalanced {ps : List (Str × Tok)} {r : Str} {tk : Tok} {rest : List (Str × Tok)} (h : At1 ps r "(" tk rest) {r2 t2 : Str} {tk2 : Tok} {rest2 : List (Str × Tok)} (h2 : At2 rest (-1) r2 t2 tk2 rest2) (ht : t2 ≠ ")") (hm : t2 ∈ menu) (st : List Str) :
    walk true st (firsts ps) = some (false, Str.ofString "unbalanced parenthesis in plural form", rest2.length) := by
  rw [h.same st, walk_open, h2.same]
  obtain ⟨o1, o2⟩ := h2.stop (by decide)
  have hlen : (firsts rest2).length = rest2.length := List.length_map ..
  rw [walk, if_neg o1, if_neg o2]
  show (if _ then _ else _) = _
  obtain ⟨j1, j2, _, _⟩ := menu_join t2 hm
  rw [if_neg (fun e => e.elim (fun e => ht (j1.mp e)) j2), if_pos rfl, hlen]
  rfl
theorem At1.operand {ps : List (Str × Tok)} {r t r' : Str} {tk : Tok} {rest : List (Str × Tok)} (h : At1 ps r t tk rest) (ht : t = "n" ∨ t ∈ digsL) (hr : r'.length ≤ r.length + 10) : At3 ps r' rest where
  same st := by
    rw [h.same st, walk, if_neg, if_pos ht]
    rintro rfl
    rcases ht with q | q
    · exact absurd q (by decide)
    · exact absurd q (by decide)
  last := h.ends (by
    rintro rfl
    rcases ht with q | q
    · exact absurd q (by decide)
    · exact absurd q (by decide))
  size := by have := h.size; omega
  sub p hp := h.sub p (.tail _ hp)
theorem At1.refused {ps : List (Str × Tok)} {r t : Str} {tk : Tok} {rest : List (Str × Tok)} (h : At1 ps r t tk rest) (h1 : t ≠ "(") (h2 : t ≠ "n") (h3 : t ∉ digsL) (h4 : t ≠ "!") (st : List Str) :
    walk true st (firsts ps) = some (false, refusedMsg t, rest.length) := by
  have hlen : (firsts rest).length = rest.length := List.length_map ..
  rw [h.same st, walk, if_neg h1, if_neg (fun e => e.elim h2 h3), if_pos h4, hlen]
section
variable {w : World} {A : Around} {mean : ExcName → Option Value} {mg mb : Str → Option Value} {E : Value → Shared → Prop} {g hb : Heap} {L it l : Addr} {m : Str → Option Value} {all ps : List (Str × Tok)}
  {h : Heap} {gg : Array GenState} {dd : Drawn} {tk : Nat} {os : OsState} {j n : Nat} {env : Env} {outer : List Env} {Q : Flow → Shared → Prop} {v : Value} {r t : Str} {rk tk0 : Tok} {rest : List (Str × Tok)}
theorem seg1 (IH : Parses w n) (Xb : (Mine.hd.heap_39 w.params).In hb) (Tb : Top Mine.hd.view_39 looseN mean mg mb hb) (low : hb.objs.size ≤ L) (nb : hb.get? it = none) (kbg : ∀ b o, hb.get? b = some o → g.get? b = some o) (FF : g.FunFrames hb (env :: outer))
    (hE : PassesOwn (model PySem.Challenge.rw_dv0011_01.row.prog w) (A.deeper (envP w L)) (envP w L) E) (hE2 : ∀ x, PassesOwnAt (model PySem.Challenge.rw_dv0011_01.row.prog w) ((A.deeper (envP w L)).mark x) (A.deeper (envP w L)) (envP w L) E)
    (F : Fr g L h m) (N : News g L h [(it, itObj l j)]) (lst : g.IsList l (all.map strV).toArray)
    (hA : A.frames = some (env :: outer)) (hh : A.handled = none) (hdp : A.depth + ps.length < recursionLimit) (hun : A.units + 10 * ps.length + 50 < cLine) (hl : ps.length ≤ 100) (hn : ps.length ≤ n + 1) (hmenu : ∀ p ∈ ps, p.1 ∈ menu)
    (n1 : m "tokens" = some (.ref it)) (n2 : m "priority" = some v) (n3 : m "result" = some (.str r rk)) (n4 : m "nexttok" = some (.str t tk0)) (hdr : all.drop j = rest) (a1 : At1 ps r t tk0 rest) (ht0 : t ≠ "!")
    (erF : ∀ e h' tk', Flies ps all it l (envP w L :: env :: outer) g e h' → E (.ref e) ⟨h', gg, dd, tk', os⟩)
    (erN : ∀ e h' tk', Fresh ps all it l (envP w L :: env :: outer) g e h' → E (.ref e) ⟨h', gg, dd, tk', os⟩)
    (k : ∀ h' m' tk' r rk rest j, Fr g L h' m' → News g L h' [(it, itObj l j)] → m' "tokens" = some (.ref it) → m' "priority" = some v → m' "result" = some (.str r rk) → all.drop j = rest → At3 ps r rest →
      wpC (model PySem.Challenge.rw_dv0011_01.row.prog w) (A.deeper (envP w L)) (execs ((bodyOf (Mine.hd.heap_39 w.params) 85).drop 4) (envP w L)) Q E ⟨h', gg, dd, tk', os⟩) :
    wpC (model PySem.Challenge.rw_dv0011_01.row.prog w) (A.deeper (envP w L)) (execs ((bodyOf (Mine.hd.heap_39 w.params) 85).drop 3) (envP w L)) Q E ⟨h, gg, dd, tk, os⟩ := by
  have X : (Mine.hd.heap_39 w.params).In g := Xb.keeps kbg
  have T : Top Mine.hd.view_39 looseN mean mg mb g := Tb.keeps kbg
  have cb := fun (Q : Flow → Shared → Prop) (tk1 : Nat) (h1 : Heap) (e : Addr) (b1 : t.length ≤ 20) (hw : ∀ st, walk true st (firsts ps) = some (false, refusedMsg t, rest.length)) (hx : Heap.NewExc h h1 e "ValueError") =>
    caught_bad (Q := Q) (tk := tk1) Xb Tb low nb kbg FF F N hA (ar_dep hdp a1.size) n4 b1 hE2 hw hdr hx erN
  ((have hf9 : PySem.Challenge.rw_dv0011_01.row.prog = PySem.Challenge.rw_dv0011_01.row.prog ∧ Mine.hd.heap_39 = Mine.hd.heap_39 := by (k_fill; exact ⟨rfl, rfl⟩)); clear hf9)
  unfold envP at *
  rw [bodyOf_eq (a := 85) (by k_is) rfl] at *
  rw [scopeOf_eq (a := 85) (by k_is)] at *
  dsimp only [List.drop, clausesIn] at *
  refine wpC_execs_cons (wpC_If ?_)
  iterate 5 (first | (k_unfold; (try dsimp only)) | walk1 | (dsimp only; walk1))
  by_cases ht : t = "("
  · subst ht
    refine ite_pos (by decide) ?_
    refine wpC_execs_cons (wpC_Assign_Tuple (wpC_Call_ofName ?_) (by with_unfolding_all rfl) (by with_unfolding_all rfl))
    (first | (k_unfold; (try dsimp only)) | walk1 | (dsimp only; walk1))
    refine callWithC_K (K := Mine.hd.heap_39 w.params) (by k_is) ?_ (by with_unfolding_all rfl) (by with_unfolding_all rfl)
    iterate 3 (first | (k_unfold; (try dsimp only)) | walk1 | (dsimp only; walk1))
    refine ⟨by k_in, ?_⟩
    have hrest : HasEnd rest := a1.ends (by decide)
    refine sub_call (ps2 := rest) (pr := -1) IH Xb Tb low nb kbg FF F N lst rfl rfl hA hh hdp hun hdr (ar_lt a1.size) (ar_le a1.size hn) hl hrest (fun p hp => hmenu p (a1.sub p (.tail _ hp))) (.inl ⟨rfl, rfl⟩) (by decide) (by decide) (fun st => ⟨"(" :: st, (a1.same st).trans (walk_open st _)⟩) ?_ erF
    clear F N
    intro r2 rk2 t2 tk2 rest2 j2 tup h2 tk2' a2 hd2 F N
    refine unpackN_ F N (News.isTup N (.head _)) hh (by with_unfolding_all rfl) (by with_unfolding_all rfl) ?_
    clear F N
    intro h3 F N
    iterate 7 (first | (k_unfold; (try dsimp only)) | walk1 | (dsimp only; walk1))
    (with_reducible rename Fr _ _ _ _ => F)
    (with_reducible rename News _ _ _ _ => N)
    have hr : r.length ≤ 2000 := ar_len a1.size hl
    have hr2 : r2.length ≤ 2000 := ar_len a2.size (Nat.le_of_lt (Nat.lt_of_lt_of_le (ar_lt a1.size) hl))
    dsimp only at F ⊢
    refine wpC_leaf ?_
    repeat ((first | (k_unfold; (try dsimp only)) | walk1 | (dsimp only; walk1)))
    (with_reducible rename Fr _ _ _ _ => F)
    (with_reducible rename News _ _ _ _ => N)
    dsimp only at F ⊢
    obtain ⟨m2, rk', F2, n1, n2, n3, n4⟩ : ∃ m2 rk', Fr g L _ m2 ∧ m2 "tokens" = some (.ref it) ∧ m2 "priority" = some v ∧ m2 "result" = some (.str (Str.empty ++ r ++ "(" ++ r2 ++ ")") rk') ∧ m2 "nexttok" = some (.str t2 tk2) := ⟨_, _, F, n1, n2, rfl, rfl⟩
    replace N := News.tail N
    clear F
    refine wpC_leaf (wpAny_If ?_)
    iterate 5 (first | (k_unfold; (try dsimp only)) | walk1 | (dsimp only; walk1))
    by_cases ht2 : t2 = ")"
    · subst ht2
      refine ite_neg (by decide) ?_
      refine wpAny_execs_nil ?_
      refine wpC_execs_nil ?_
      exact k _ _ _ _ _ _ _ F2 N n1 n2 n3 hd2 (a1.paren a2)
    · refine ite_pos (by simpa using ht2) ?_
      refine wpAny_execs_cons (wpAny_Raise_call PySem.F.excCall_ValueError PySem.F.excRaise_ValueError hh (by with_unfolding_all rfl) ?_)
      (first | (k_unfold; (try dsimp only)) | walk1 | (dsimp only; walk1))
      refine ⟨rfl, ?_⟩
      refine evalArgs_star ?_ (by with_unfolding_all rfl)
      iterate 3 (first | (k_unfold; (try dsimp only)) | walk1 | (dsimp only; walk1))
      refine ⟨trivial, by show (1 : Nat) ≤ sizeLine; rw [sizeLine_eq]; decide, fun h' e hm => ?_⟩
      exact erN e h' _ (made_fresh kbg FF F2 N rfl rfl hm (fun st => a1.unbalanced a2 ht2 (hmenu _ (a1.sub _ (.tail _ (a2.sub _ (.head _))))) st) hd2)
  · refine ite_neg (fun e => ht (by simpa using e)) ?_
    have hr : r.length ≤ 2000 := ar_len a1.size hl
    have hmt : t ∈ menu := hmenu _ (a1.sub _ (.head _))
    have htl : t.length ≤ 3 := menu_len t hmt
    refine wpC_execs_cons (wpC_If ?_)
    iterate 5 (first | (k_unfold; (try dsimp only)) | walk1 | (dsimp only; walk1))
    by_cases htn : t = "n"
    · refine ite_pos (by rw [htn]; decide) ?_
      refine wpC_leaf ?_
      repeat ((first | (k_unfold; (try dsimp only)) | walk1 | (dsimp only; walk1)))
      (with_reducible rename Fr _ _ _ _ => F2)
      (with_reducible rename News _ _ _ _ => N2)
      dsimp only at F2 ⊢
      refine wpC_execs_nil (wpC_execs_nil ?_)
      exact k _ _ _ _ _ _ _ F2 N2 n1 n2 rfl hdr (a1.operand (.inl htn) (by simp only [Str.length_append]; rw [show Str.empty.length = 0 from by decide]; omega))
    · refine ite_neg (fun e => htn (by simpa using e)) ?_
      refine wpC_execs_cons (wpC_Try ?_)
      by_cases hdig : t ∈ digsL
      · obtain ⟨g1, nn, g2, g3⟩ := good_facts t hdig
        refine wpC_execs_cons (wpC_Assign_Name (wpC_Call_ofName ?_) (by with_unfolding_all rfl))
        (first | (k_unfold; (try dsimp only)) | walk1 | (dsimp only; walk1))
        refine callWithC_type ?_ (by with_unfolding_all rfl) (by with_unfolding_all rfl)
        iterate 5 (first | (k_unfold; (try dsimp only)) | walk1 | (dsimp only; walk1))
        refine wpC_of (int_good g1 g3 ?_)
        (first | (k_unfold; (try dsimp only)) | walk1 | (dsimp only; walk1))
        (with_reducible rename Fr _ _ _ _ => F2)
        dsimp only at F2 ⊢
        refine wpC_execs_nil (wpC_execs_nil ?_)
        refine wpC_leaf ?_
        iterate 10 (first | (k_unfold; (try dsimp only)) | walk1 | (dsimp only; walk1))
        (with_reducible rename News _ _ _ _ => N2)
        refine mod_sd N2 (by k_mem) (by omega) (by omega) hr ?_
        intro T9 t9 k9 hT9
        (first | (k_unfold; (try dsimp only)) | walk1 | (dsimp only; walk1))
        (with_reducible rename Fr _ _ _ _ => F3)
        (with_reducible rename News _ _ _ _ => N3)
        dsimp only at F3 ⊢
        refine wpC_execs_nil (wpC_execs_nil ?_)
        exact k _ _ _ _ _ _ _ F3 (News.tail N3) n1 n2 rfl hdr (a1.operand (.inr hdig) hT9)
      · obtain ⟨b1, b2, b3, b4⟩ := bad_facts t hmt hdig
        refine wpC_execs_cons (wpC_Assign_Name (wpC_Call_ofName ?_) (by with_unfolding_all rfl))
        (first | (k_unfold; (try dsimp only)) | walk1 | (dsimp only; walk1))
        refine callWithC_type ?_ (by with_unfolding_all rfl) (by with_unfolding_all rfl)
        iterate 5 (first | (k_unfold; (try dsimp only)) | walk1 | (dsimp only; walk1))
        refine int_bad hh b1 b2 b3 b4 ?_
        intro h1 tk1 e hx
        exact cb _ tk1 h1 e b1 (fun st => a1.refused ht htn hdig ht0 st) hx
end
section
local macro_rules | `(tactic| walk_at "compareOp In str ref") => `(tactic| (k_here; k_dflt (refine' in_ops (by k_asm) (by k_asm) (by assumption) ?_)))
local macro_rules | `(tactic| walk_at "subscriptTail") => `(tactic| (k_here; with_reducible refine gate_ops ?_; k_dflt (refine' get_ops (by k_asm) (by k_asm) (by assumption) ?_ (by with_unfolding_all rfl)); intro i' ik' il' iu'))
local macro_rules | `(tactic| walk_at "getMethod ref") => `(tactic| (k_here; k_dflt (refine' method_c2py (by k_asm) (by k_asm) ?_)))
local macro_rules | `(tactic| walk_at "call builtin:dict.get") => `(tactic| (k_here; k_dflt (refine' get_c2py (by k_asm) (by k_asm) (by assumption) ?_); intro y' yk' yl'))
theorem fresh_PvSeg2 : True := by w_top off; trivial
set_option maxRecDepth 100000
set_option maxHeartbeats 400000
/-- operands and operations are taken; t is the next token -/
structure At4 (ps : List (Str × Tok)) (r t : Str) (tk : Tok) (rest : List (Str × Tok)) : Prop where
  same : ∀ st, walk true st (firsts ps) = walk false st (t :: firsts rest)
  last : HasEnd ((t, tk) :: rest)
  size : r.length + 20 * rest.length + 30 ≤ 20 * ps.length
  sub : ∀ p ∈ (t, tk) :: rest, p ∈ ps
theorem At3.next {ps : List (Str × Tok)} {r : Str} {p : Str × Tok} {rest : List (Str × Tok)} (h : At3 ps r (p :: rest)) : At4 ps r p.1 p.2 rest where
  same := h.same
  last := h.last
  size := by have := h.size; rw [List.length_cons] at this; omega
  sub := h.sub
theorem At4.ends {ps : List (Str × Tok)} {r t : Str} {tk : Tok} {rest : List (Str × Tok)} (h : At4 ps r t tk rest) (ht : t ∈ opsL) : HasEnd rest := by
  obtain ⟨p, hp, e⟩ := h.last
  cases hp with
  | head => exact absurd (show ("" : Str) ∈ opsL from (show t = "" from e) ▸ ht) (by decide)
  | tail _ q => exact ⟨p, q, e⟩
theorem walk_oper {t : Str} (ht : t ∈ opsL) (st ts : List Str) : walk false st (t :: ts) = walk true st ts := by
  rw [walk.eq_def]
  exact if_pos ht
theorem At4.oper {ps : List (Str × Tok)} {r r' y t : Str} {tk : Tok} {rest : List (Str × Tok)} (h : At4 ps r t tk rest) (ht : t ∈ opsL) {pr : Int} {r2 t2 : Str} {tk2 : Tok} {rest2 : List (Str × Tok)} (h2 : At2 rest pr r2 t2 tk2 rest2)
    (hr : r'.length ≤ r.length + 2) (hy : y.length ≤ 3) : At4 ps (Str.empty ++ r' ++ " " ++ y ++ " " ++ r2) t2 tk2 rest2 where
  same st := (h.same st).trans ((walk_oper ht st _).trans (h2.same st))
  last := h2.last
  size := by
    have s1 := h.size
    have s2 := h2.size
    have e1 : ((" " : Str)).length = 1 := by decide
    have e3 : Str.empty.length = 0 := by decide
    simp only [Str.length_append, e1, e3]; omega
  sub p hp := h.sub p (.tail _ (h2.sub p hp))
inductive Turn2 (g : Heap) (L it l : Addr) (gg : Array GenState) (dd : Drawn) (os : OsState) (all ps : List (Str × Tok)) (pr : Int) (pk : Tok) : Nat → Shared → Prop
  | mk (h : Heap) (m : Str → Option Value) (r : Str) (rk : Tok) (t : Str) (tk0 : Tok) (rest : List (Str × Tok)) (jv : Int) (jk : Tok) (idx : Nat) (tk : Nat) (F : Fr g L h m) (N : News g L h [(it, itObj l idx)]) (n1 : m "tokens" = some (.ref it)) (n2 : m "priority" = some (.int pr pk)) (n3 : m "result" = some (.str r rk))
    (n4 : m "nexttok" = some (.str t tk0)) (n5 : m "j" = some (.int jv jk)) (hdr : all.drop idx = rest) (a4 : At4 ps r t tk0 rest) : Turn2 g L it l gg dd os all ps pr pk rest.length ⟨h, gg, dd, tk, os⟩
inductive MidR (g : Heap) (L it l : Addr) (gg : Array GenState) (dd : Drawn) (os : OsState) (idx : Nat) (pr : Int) (pk : Tok) (r t : Str) (tk0 : Tok) (oi : Option Value) : Shared → Prop
  | mk (h : Heap) (m : Str → Option Value) (r' : Str) (rk' : Tok) (tk : Nat) (F : Fr g L h m) (N : News g L h [(it, itObj l idx)]) (o1 : m "tokens" = some (.ref it)) (o2 : m "priority" = some (.int pr pk)) (o3 : m "result" = some (.str r' rk')) (o4 : m "nexttok" = some (.str t tk0)) (o6 : oi = none ∨ m "i" = oi) (hr : r'.length ≤ r.length + 2) :
    MidR g L it l gg dd os idx pr pk r t tk0 oi ⟨h, gg, dd, tk, os⟩
theorem par_len (r : Str) : (Str.ofString "(" ++ r ++ Str.ofString ")").length ≤ r.length + 2 := by
  simp only [Str.length_append]; rw [show (Str.ofString "(").length = 1 from by decide, show (Str.ofString ")").length = 1 from by decide]; omega
section
variable {w : World} {A : Around} {mean : ExcName → Option Value} {mg mb : Str → Option Value} {E : Value → Shared → Prop} {g hb : Heap} {L it l : Addr} {m : Str → Option Value} {all ps : List (Str × Tok)}
  {h : Heap} {gg : Array GenState} {dd : Drawn} {tk : Nat} {os : OsState} {j n : Nat} {env : Env} {outer : List Env} {Q : Flow → Shared → Prop} {pr : Int} {pk : Tok} {r : Str} {rk : Tok} {rest : List (Str × Tok)}
theorem seg2 (IH : Parses w n) (Xb : (Mine.hd.heap_39 w.params).In hb) (Tb : Top Mine.hd.view_39 looseN mean mg mb hb) (low : hb.objs.size ≤ L) (nb : hb.get? it = none) (kbg : ∀ b o, hb.get? b = some o → g.get? b = some o) (FF : g.FunFrames hb (env :: outer))
    (hE : PassesOwn (model PySem.Challenge.rw_dv0011_01.row.prog w) (A.deeper (envP w L)) (envP w L) E)
    (F : Fr g L h m) (N : News g L h [(it, itObj l j)]) (lst : g.IsList l (all.map strV).toArray)
    (hA : A.frames = some (env :: outer)) (hh : A.handled = none) (hdp : A.depth + ps.length < recursionLimit) (hun : A.units + 10 * ps.length + 50 < cLine) (hl : ps.length ≤ 100) (hn : ps.length ≤ n + 1) (hmenu : ∀ p ∈ ps, p.1 ∈ menu)
    (n1 : m "tokens" = some (.ref it)) (n2 : m "priority" = some (.int pr pk)) (n3 : m "result" = some (.str r rk)) (hdr : all.drop j = rest) (a3 : At3 ps r rest) (hp1 : -1 ≤ pr) (hp2 : pr ≤ 7)
    (erF : ∀ e h' tk', Flies ps all it l (envP w L :: env :: outer) g e h' → E (.ref e) ⟨h', gg, dd, tk', os⟩)
    (k : ∀ h' m' tk' r rk t tk0 rest j jv jk, Fr g L h' m' → News g L h' [(it, itObj l j)] → m' "tokens" = some (.ref it) → m' "priority" = some (.int pr pk) → m' "result" = some (.str r rk) → m' "nexttok" = some (.str t tk0) → m' "j" = some (.int jv jk) →
      all.drop j = rest → At4 ps r t tk0 rest → (pr ≤ 0 → t ∉ opsL) →
      wpC (model PySem.Challenge.rw_dv0011_01.row.prog w) (A.deeper (envP w L)) (execs ((bodyOf (Mine.hd.heap_39 w.params) 85).drop 7) (envP w L)) Q E ⟨h', gg, dd, tk', os⟩) :
    wpC (model PySem.Challenge.rw_dv0011_01.row.prog w) (A.deeper (envP w L)) (execs ((bodyOf (Mine.hd.heap_39 w.params) 85).drop 4) (envP w L)) Q E ⟨h, gg, dd, tk, os⟩ := by
  have X : (Mine.hd.heap_39 w.params).In g := Xb.keeps kbg
  have T : Top Mine.hd.view_39 looseN mean mg mb g := Tb.keeps kbg
  ((have hf9 : PySem.Challenge.rw_dv0011_01.row.prog = PySem.Challenge.rw_dv0011_01.row.prog ∧ Mine.hd.heap_39 = Mine.hd.heap_39 := by (k_fill; exact ⟨rfl, rfl⟩)); clear hf9)
  unfold envP at *
  rw [bodyOf_eq (a := 85) (by k_is) rfl] at *
  rw [scopeOf_eq (a := 85) (by k_is)] at *
  dsimp only [List.drop] at *
  obtain ⟨p, rest0, rfl⟩ := a3.last.cons
  obtain ⟨hx, hd'⟩ := get_at hdr
  refine wpC_leaf ?_
  repeat ((first | (k_unfold; (try dsimp only)) | walk1 | (dsimp only; walk1)))
  (with_reducible rename Fr _ _ _ _ => F2)
  (with_reducible rename News _ _ _ _ => N2)
  dsimp only at F2 ⊢
  refine wpC_leaf ?_
  repeat ((first | (k_unfold; (try dsimp only)) | walk1 | (dsimp only; walk1)))
  (with_reducible rename Fr _ _ _ _ => F3)
  (with_reducible rename News _ _ _ _ => N3)
  dsimp only at F3 ⊢
  refine wpC_execs_cons (wpC_While (n := rest0.length) (Turn2 g L it l gg dd os all ps pr pk) ?turn ?start hE)
  case start => exact .mk _ _ _ _ _ _ _ _ _ _ _ F3 N3 n1 n2 n3 rfl rfl hd' a3.next
  case turn =>
    clear F3 N3
    rintro _ _ ⟨h, m, r, rk, t, tk0, rest, jv, jk, idx, tk, F, N, n1, n2, n3, n4, n5, hdr, a4⟩
    have hmt : t ∈ menu := hmenu _ (a4.sub _ (.head _))
    iterate 5 (first | (k_unfold; (try dsimp only)) | walk1 | (dsimp only; walk1))
    by_cases hop : t ∈ opsL
    · refine ite_pos (decide_eq_true hop) ?_
      refine wpC_seal ?_
      intro Q8 hQ8
      refine wpC_leaf ?_
      repeat ((first | (k_unfold; (try dsimp only)) | walk1 | (dsimp only; walk1)))
      (with_reducible rename Fr _ _ _ _ => F2)
      (with_reducible rename News _ _ _ _ => N2)
      dsimp only at F2 ⊢
      refine wpC_execs_cons (wpC_If ?_)
      iterate 5 (first | (k_unfold; (try dsimp only)) | walk1 | (dsimp only; walk1))
      rename_i iv ik il iu h5
      obtain ⟨m2, F3, o1, o2, o3, o4, o5, o6⟩ : ∃ m2, Fr g L h5 m2 ∧ m2 "tokens" = some (.ref it) ∧ m2 "priority" = some (.int pr pk) ∧ m2 "result" = some (.str r rk) ∧ m2 "nexttok" = some (.str t tk0) ∧ m2 "j" = some (.int jv jk) ∧ m2 "i" = some (.int iv ik) := ⟨_, F2, n1, n2, n3, n4, n5, rfl⟩
      clear F2 n1 n2 n3 n4 n5
      by_cases hlt : iv < pr
      · refine ite_pos (decide_eq_true hlt) ?_
        refine wpC_execs_cons (wpC_of (wpAny_Break ?_))
        refine hQ8 _ _ ?_
        exact k _ _ _ _ _ _ _ _ _ _ _ F3 N2 o1 o2 o3 o4 o5 hdr a4 (fun hz => absurd hlt (by omega))
      · refine ite_neg (fun e => hlt (of_decide_eq_true e)) ?_
        refine wpC_execs_nil ?_
        dsimp only
        have hr : r.length ≤ 2000 := ar_len a4.size hl
        refine wpC_joinS (MidR g L it l gg dd os idx pr pk r t tk0 (some (.int iv ik))) ?_ ?_
        · intro Q9 hQ9
          repeat' ((first | (k_unfold; (try dsimp only)) | walk1 | (dsimp only; walk1)))
          all_goals (
            (with_reducible rename Fr _ _ _ _ => F4)
            (with_reducible rename News _ _ _ _ => N4)
            (try dsimp only at F4)
            have N5 : News g L _ [(it, itObj l idx)] := News.cons (N4 _ (by k_mem)) News.nil
            first
              | exact hQ9 _ (.mk _ _ _ _ _ F4 N5 o1 o2 o3 o4 (.inr o6) (Nat.le_add_right _ _))
              | exact hQ9 _ (.mk _ _ _ _ _ F4 N5 o1 o2 rfl o4 (.inr o6) (par_len _)))
        · clear F3 N2 o1 o2 o3 o4 o5 o6
          rintro _ ⟨h, m, r', rk', tk, F, N, o1, o2, o3, o4, o6, hr'⟩
          replace o6 := o6.resolve_left (fun z => nomatch z)
          refine wpC_leaf ?_
          repeat ((first | (k_unfold; (try dsimp only)) | walk1 | (dsimp only; walk1)))
          (with_reducible rename Fr _ _ _ _ => F2)
          (with_reducible rename News _ _ _ _ => N2)
          dsimp only at F2 ⊢
          rename_i y yk yl h6
          obtain ⟨m3, F3, q1, q2, q3, q4, q6, q7⟩ : ∃ m3, Fr g L h6 m3 ∧ m3 "tokens" = some (.ref it) ∧ m3 "priority" = some (.int pr pk) ∧ m3 "result" = some (.str r' rk') ∧ m3 "nexttok" = some (.str t tk0) ∧ m3 "i" = some (.int iv ik) ∧ m3 "op" = some (.str y yk) := ⟨_, F2, o1, o2, o3, o4, o6, rfl⟩
          clear F2 o1 o2 o3 o4 o6
          refine wpC_execs_cons (wpC_Assign_Tuple (wpC_Call_ofName ?_) (by with_unfolding_all rfl) (by with_unfolding_all rfl))
          (first | (k_unfold; (try dsimp only)) | walk1 | (dsimp only; walk1))
          refine callWithC_K (K := Mine.hd.heap_39 w.params) (by k_is) ?_ (by with_unfolding_all rfl) (by with_unfolding_all rfl)
          iterate 8 (first | (k_unfold; (try dsimp only)) | walk1 | (dsimp only; walk1))
          refine ⟨by k_in, ?_⟩
          have hrest : HasEnd rest := a4.ends hop
          refine sub_call (ps2 := rest) (pr := iv + 1) IH Xb Tb low nb kbg FF F3 N2 lst rfl rfl hA hh hdp hun hdr (ar_lt a4.size) (ar_le a4.size hn) hl hrest (fun p hp => hmenu p (a4.sub p (.tail _ hp))) (.inr ⟨_, rfl⟩) (by omega) (by omega) (fun st => ⟨st, (a4.same st).trans (walk_oper hop st _)⟩) ?_ erF
          clear F3 N2
          intro r2 rk2 t2 tk2 rest2 j2 tup h2 tk2' a2 hd2 F N
          refine unpackN_ F N (News.isTup N (.head _)) hh (by with_unfolding_all rfl) (by with_unfolding_all rfl) ?_
          clear F N
          intro h3 F N
          iterate 7 (first | (k_unfold; (try dsimp only)) | walk1 | (dsimp only; walk1))
          (with_reducible rename Fr _ _ _ _ => F2)
          (with_reducible rename News _ _ _ _ => N2)
          have hr2 : r2.length ≤ 2000 := ar_len a2.size (Nat.le_of_lt (Nat.lt_of_lt_of_le (ar_lt a4.size) hl))
          have hr3 : r'.length ≤ 2010 := ar_two hr' hr
          dsimp only at F2 ⊢
          obtain ⟨m4, F4, p1, p2, p3, p4, p6, p7, p8⟩ : ∃ m4, Fr g L _ m4 ∧ m4 "tokens" = some (.ref it) ∧ m4 "priority" = some (.int pr pk) ∧ m4 "result" = some (.str r' rk') ∧ m4 "nexttok" = some (.str t2 tk2) ∧ m4 "i" = some (.int iv ik) ∧ m4 "op" = some (.str y yk) ∧ m4 "right" = some (.str r2 rk2) := ⟨_, F2, q1, q2, q3, rfl, q6, q7, rfl⟩
          replace N2 := News.tail N2
          clear F2 q1 q2 q3 q4 q6 q7
          refine wpC_leaf ?_
          repeat ((first | (k_unfold; (try dsimp only)) | walk1 | (dsimp only; walk1)))
          (with_reducible rename Fr _ _ _ _ => F5)
          (with_reducible rename News _ _ _ _ => N5)
          dsimp only at F5 ⊢
          refine wpC_leaf ?_
          repeat ((first | (k_unfold; (try dsimp only)) | walk1 | (dsimp only; walk1)))
          (with_reducible rename Fr _ _ _ _ => F6)
          (with_reducible rename News _ _ _ _ => N6)
          dsimp only at F6 ⊢
          refine wpC_execs_nil ?_
          refine hQ8 _ _ ?_
          exact ⟨rest2.length, ar_lt a2.size, .mk _ _ _ _ _ _ _ _ _ _ _ F6 N6 p1 p2 rfl p4 rfl hd2 (a4.oper hop a2 hr' yl)⟩
    · refine ite_neg (fun e => hop (of_decide_eq_true e)) ?_
      exact k _ _ _ _ _ _ _ _ _ _ _ F N n1 n2 n3 n4 n5 hdr a4 (fun _ => hop)
end
theorem fresh_PvSeg3 : True := by w_top off; trivial
set_option maxRecDepth 100000
set_option maxHeartbeats 400000
theorem walk_ask (st ts : List Str) : walk false st ("?" :: ts) = walk true ("?" :: st) ts := by
  rw [walk.eq_def]
  show (if _ then _ else _) = _
  rw [if_neg (by decide), if_pos rfl]
theorem walk_colon (st ts : List Str) : walk false ("?" :: st) (":" :: ts) = walk true st ts := by
  rw [walk, if_neg (by decide), if_neg (by decide)]
  show (if _ then _ else _) = _
  rw [if_pos (by decide)]
  rfl
theorem At4.more {ps : List (Str × Tok)} {r t : Str} {tk : Tok} {rest : List (Str × Tok)} (h : At4 ps r t tk rest) (ht : t ≠ "") : HasEnd rest := by
  obtain ⟨p, hp, e⟩ := h.last
  cases hp with
  | head => exact absurd e ht
  | tail _ q => exact ⟨p, q, e⟩
theorem At2.more {ps : List (Str × Tok)} {pr : Int} {r t : Str} {tk : Tok} {rest : List (Str × Tok)} (h : At2 ps pr r t tk rest) (ht : t ≠ "") : HasEnd rest := by
  obtain ⟨p, hp, e⟩ := h.last
  cases hp with
  | head => exact absurd e ht
  | tail _ q => exact ⟨p, q, e⟩
theorem At4.plain {ps : List (Str × Tok)} {r r' t : Str} {tk : Tok} {rest : List (Str × Tok)} {pr : Int} (h : At4 ps r t tk rest) (hr : r'.length ≤ r.length + 2) (hs : pr ≤ 0 → t ∉ opsL ∧ t ≠ "?") : At2 ps pr r' t tk rest where
  same := h.same
  last := h.last
  size := by have := h.size; omega
  sub := h.sub
  stop := hs
theorem At4.ask {ps : List (Str × Tok)} {r r2 t3 r3 R : Str} {tk tk2 tk3 : Tok} {rest rest2 rest3 : List (Str × Tok)} {pr : Int} (h : At4 ps r "?" tk rest) (h2 : At2 rest 0 r2 ":" tk2 rest2) (h3 : At2 rest2 (-1) r3 t3 tk3 rest3)
    (hR : R.length ≤ r.length + r2.length + r3.length + 20) : At2 ps pr R t3 tk3 rest3 where
  same st := (h.same st).trans ((walk_ask st _).trans ((h2.same _).trans ((walk_colon st _).trans (h3.same st))))
  last := h3.last
  size := by have s1 := h.size; have s2 := h2.size; have s3 := h3.size; omega
  sub p hp := h.sub p (.tail _ (h2.sub p (.tail _ (h3.sub p hp))))
  stop _ := h3.stop (by decide)
theorem At4.colonless {ps : List (Str × Tok)} {r r2 t2 : Str} {tk tk2 : Tok} {rest rest2 : List (Str × Tok)} (h : At4 ps r "?" tk rest) (h2 : At2 rest 0 r2 t2 tk2 rest2) (ht : t2 ≠ ":") (hm : t2 ∈ menu) (st : List Str) :
    walk true st (firsts ps) = some (false, refusedMsg t2, rest2.length) := by
  rw [h.same st, walk_ask, h2.same]
  obtain ⟨o1, o2⟩ := h2.stop (by decide)
  have hlen : (firsts rest2).length = rest2.length := List.length_map ..
  rw [walk, if_neg o1, if_neg o2]
  show (if _ then _ else _) = _
  obtain ⟨_, _, j3, j4⟩ := menu_join t2 hm
  rw [if_neg (fun e => e.elim j3 (fun e => ht (j4.mp e))), if_neg (by decide), hlen]
section
variable {w : World} {A : Around} {mean : ExcName → Option Value} {mg mb : Str → Option Value} {E : Value → Shared → Prop} {g hb : Heap} {L it l : Addr} {m : Str → Option Value} {all ps : List (Str × Tok)}
  {h : Heap} {gg : Array GenState} {dd : Drawn} {tk : Nat} {os : OsState} {j n : Nat} {env : Env} {outer : List Env} {Q : Flow → Shared → Prop} {pr : Int} {pk jk : Tok} {jv : Int} {r t : Str} {rk tk0 : Tok} {rest : List (Str × Tok)}
theorem segR (Xb : (Mine.hd.heap_39 w.params).In hb) (Tb : Top Mine.hd.view_39 looseN mean mg mb hb) (kbg : ∀ b o, hb.get? b = some o → g.get? b = some o) 
    (F : Fr g L h m) (N : News g L h [(it, itObj l j)]) (n3 : m "result" = some (.str r rk)) (n4 : m "nexttok" = some (.str t tk0))
    (k : ∀ h' m' tk' tup, Fr g L h' m' → News g L h' [(tup, tupO r rk t tk0), (it, itObj l j)] → Q (.ret (.ref tup)) ⟨h', gg, dd, tk', os⟩) :
    wpC (model PySem.Challenge.rw_dv0011_01.row.prog w) A (execs ((bodyOf (Mine.hd.heap_39 w.params) 85).drop 9) (envP w L)) Q E ⟨h, gg, dd, tk, os⟩ := by
  have X : (Mine.hd.heap_39 w.params).In g := Xb.keeps kbg
  have T : Top Mine.hd.view_39 looseN mean mg mb g := Tb.keeps kbg
  ((have hf9 : PySem.Challenge.rw_dv0011_01.row.prog = PySem.Challenge.rw_dv0011_01.row.prog ∧ Mine.hd.heap_39 = Mine.hd.heap_39 := by (k_fill; exact ⟨rfl, rfl⟩)); clear hf9)
  unfold envP at *
  rw [bodyOf_eq (a := 85) (by k_is) rfl] at *
  rw [scopeOf_eq (a := 85) (by k_is)] at *
  dsimp only [List.drop] at *
  refine wpC_leaf ?_
  iterate 8 (first | (k_unfold; (try dsimp only)) | walk1 | (dsimp only; walk1))
  (with_reducible rename Fr _ _ _ _ => F2)
  (with_reducible rename News _ _ _ _ => N2)
  exact k _ _ _ _ F2 N2
set_option maxHeartbeats 4000000 in
theorem seg3 (IH : Parses w n) (Xb : (Mine.hd.heap_39 w.params).In hb) (Tb : Top Mine.hd.view_39 looseN mean mg mb hb) (low : hb.objs.size ≤ L) (nb : hb.get? it = none) (kbg : ∀ b o, hb.get? b = some o → g.get? b = some o) (FF : g.FunFrames hb (env :: outer))
    (F : Fr g L h m) (N : News g L h [(it, itObj l j)]) (lst : g.IsList l (all.map strV).toArray)
    (hA : A.frames = some (env :: outer)) (hh : A.handled = none) (hdp : A.depth + ps.length < recursionLimit) (hun : A.units + 10 * ps.length + 50 < cLine) (hl : ps.length ≤ 100) (hn : ps.length ≤ n + 1) (hmenu : ∀ p ∈ ps, p.1 ∈ menu)
    (n1 : m "tokens" = some (.ref it)) (n2 : m "priority" = some (.int pr pk)) (n3 : m "result" = some (.str r rk)) (n4 : m "nexttok" = some (.str t tk0)) (n5 : m "j" = some (.int jv jk)) (hdr : all.drop j = rest) (a4 : At4 ps r t tk0 rest) (hst : pr ≤ 0 → t ∉ opsL)
    (hp1 : -1 ≤ pr) (hp2 : pr ≤ 7)
    (erF : ∀ e h' tk', Flies ps all it l (envP w L :: env :: outer) g e h' → E (.ref e) ⟨h', gg, dd, tk', os⟩)
    (erN : ∀ e h' tk', Fresh ps all it l (envP w L :: env :: outer) g e h' → E (.ref e) ⟨h', gg, dd, tk', os⟩)
    (k : ∀ h' m' tk' r rk t tk0 rest j, Fr g L h' m' → News g L h' [(it, itObj l j)] → m' "result" = some (.str r rk) → m' "nexttok" = some (.str t tk0) → all.drop j = rest → At2 ps pr r t tk0 rest →
      wpC (model PySem.Challenge.rw_dv0011_01.row.prog w) (A.deeper (envP w L)) (execs ((bodyOf (Mine.hd.heap_39 w.params) 85).drop 9) (envP w L)) Q E ⟨h', gg, dd, tk', os⟩) :
    wpC (model PySem.Challenge.rw_dv0011_01.row.prog w) (A.deeper (envP w L)) (execs ((bodyOf (Mine.hd.heap_39 w.params) 85).drop 7) (envP w L)) Q E ⟨h, gg, dd, tk, os⟩ := by
  have X : (Mine.hd.heap_39 w.params).In g := Xb.keeps kbg
  have T : Top Mine.hd.view_39 looseN mean mg mb g := Tb.keeps kbg
  ((have hf9 : PySem.Challenge.rw_dv0011_01.row.prog = PySem.Challenge.rw_dv0011_01.row.prog ∧ Mine.hd.heap_39 = Mine.hd.heap_39 := by (k_fill; exact ⟨rfl, rfl⟩)); clear hf9)
  unfold envP at *
  rw [bodyOf_eq (a := 85) (by k_is) rfl] at *
  rw [scopeOf_eq (a := 85) (by k_is)] at *
  dsimp only [List.drop] at *
  have hr : r.length ≤ 2000 := ar_len a4.size hl
  refine wpC_joinS (MidR g L it l gg dd os j pr pk r t tk0 none) ?_ ?_
  · intro Q9 hQ9
    repeat' ((first | (k_unfold; (try dsimp only)) | walk1 | (dsimp only; walk1)))
    all_goals (
      (with_reducible rename Fr _ _ _ _ => F4)
      (with_reducible rename News _ _ _ _ => N4)
      (try dsimp only at F4)
      have N5 : News g L _ [(it, itObj l j)] := News.cons (N4 _ (by k_mem)) News.nil
      first
        | exact hQ9 _ (.mk _ _ _ _ _ F4 N5 n1 n2 n3 n4 (.inl rfl) (Nat.le_add_right _ _))
        | exact hQ9 _ (.mk _ _ _ _ _ F4 N5 n1 n2 rfl n4 (.inl rfl) (par_len _)))
  clear F N n1 n2 n3 n4 n5
  rintro _ ⟨h, m, r', rk', tk, F, N, n1, n2, n3, n4, _, hr'⟩
  refine wpC_execs_cons (wpC_If ?_)
  repeat' ((first | (k_unfold; (try dsimp only)) | walk1 | (dsimp only; walk1)))
  · rename_i hq hpr
    have hq : t = "?" := by simpa using hq
    have hpr : pr ≤ 0 := by simpa using hpr
    subst hq
    refine wpC_execs_cons (wpC_Assign_Tuple (wpC_Call_ofName ?_) (by with_unfolding_all rfl) (by with_unfolding_all rfl))
    (first | (k_unfold; (try dsimp only)) | walk1 | (dsimp only; walk1))
    refine callWithC_K (K := Mine.hd.heap_39 w.params) (by k_is) ?_ (by with_unfolding_all rfl) (by with_unfolding_all rfl)
    iterate 5 (first | (k_unfold; (try dsimp only)) | walk1 | (dsimp only; walk1))
    refine ⟨by k_in, ?_⟩
    have hrest : HasEnd rest := a4.more (by decide)
    refine sub_call (ps2 := rest) (pr := 0) IH Xb Tb low nb kbg FF F N lst rfl rfl hA hh hdp hun hdr (ar_lt a4.size) (ar_le a4.size hn) hl hrest (fun p hp => hmenu p (a4.sub p (.tail _ hp))) (.inr ⟨_, rfl⟩) (by decide) (by decide) (fun st => ⟨"?" :: st, (a4.same st).trans (walk_ask st _)⟩) ?_ erF
    clear F N
    intro r2 rk2 t2 tk2 rest2 j2 tup h2 tk2' a2 hd2 F N
    refine unpackN_ F N (News.isTup N (.head _)) hh (by with_unfolding_all rfl) (by with_unfolding_all rfl) ?_
    clear F N
    intro h3 F N
    iterate 7 (first | (k_unfold; (try dsimp only)) | walk1 | (dsimp only; walk1))
    (with_reducible rename Fr _ _ _ _ => F2)
    (with_reducible rename News _ _ _ _ => N2)
    have hr2 : r2.length ≤ 2000 := ar_len a2.size (Nat.le_of_lt (Nat.lt_of_lt_of_le (ar_lt a4.size) hl))
    have hr3 : r'.length ≤ 2010 := ar_two hr' hr
    dsimp only at F2 ⊢
    obtain ⟨m4, F4, p1, p2, p3, p4, p5⟩ : ∃ m4, Fr g L _ m4 ∧ m4 "tokens" = some (.ref it) ∧ m4 "priority" = some (.int pr pk) ∧ m4 "result" = some (.str r' rk') ∧ m4 "nexttok" = some (.str t2 tk2) ∧ m4 "if_true" = some (.str r2 rk2) := ⟨_, F2, n1, n2, n3, rfl, rfl⟩
    replace N2 := News.tail N2
    clear F2 n1 n2 n3 n4
    have hmt2 : t2 ∈ menu := hmenu _ (a4.sub _ (.tail _ (a2.sub _ (.head _))))
    refine wpC_leaf (wpAny_If ?_)
    iterate 5 (first | (k_unfold; (try dsimp only)) | walk1 | (dsimp only; walk1))
    by_cases ht2 : t2 = ":"
    · subst ht2
      refine ite_neg (by decide) ?_
      refine wpAny_execs_nil ?_
      refine wpC_execs_cons (wpC_Assign_Tuple (wpC_Call_ofName ?_) (by with_unfolding_all rfl) (by with_unfolding_all rfl))
      (first | (k_unfold; (try dsimp only)) | walk1 | (dsimp only; walk1))
      refine callWithC_K (K := Mine.hd.heap_39 w.params) (by k_is) ?_ (by with_unfolding_all rfl) (by with_unfolding_all rfl)
      iterate 3 (first | (k_unfold; (try dsimp only)) | walk1 | (dsimp only; walk1))
      refine ⟨by k_in, ?_⟩
      have hrest2 : HasEnd rest2 := a2.more (by decide)
      refine sub_call (ps2 := rest2) (pr := -1) IH Xb Tb low nb kbg FF F4 N2 lst rfl rfl hA hh hdp hun hd2 (Nat.lt_trans (ar_lt a2.size) (ar_lt a4.size)) (Nat.le_trans (Nat.le_of_lt (ar_lt a2.size)) (ar_le a4.size hn)) hl hrest2 (fun p hp => hmenu p (a4.sub p (.tail _ (a2.sub p (.tail _ hp))))) (.inl ⟨rfl, rfl⟩) (by decide) (by decide) (fun st => ⟨st, (a4.same st).trans ((walk_ask st _).trans ((a2.same _).trans (walk_colon st _)))⟩) ?_ erF
      clear F4 N2
      intro r3 rk3 t3 tk3 rest3 j3 tup3 h5 tk5 a3 hd3 F N
      refine unpackN_ F N (News.isTup N (.head _)) hh (by with_unfolding_all rfl) (by with_unfolding_all rfl) ?_
      clear F N
      intro h6 F N
      iterate 7 (first | (k_unfold; (try dsimp only)) | walk1 | (dsimp only; walk1))
      (with_reducible rename Fr _ _ _ _ => F2)
      (with_reducible rename News _ _ _ _ => N2)
      have hr4 : r3.length ≤ 2000 := ar_len a3.size (Nat.le_of_lt (Nat.lt_of_lt_of_le (Nat.lt_trans (ar_lt a2.size) (ar_lt a4.size)) hl))
      dsimp only at F2 ⊢
      obtain ⟨m5, F5, q2, q3, q4, q5, q6⟩ : ∃ m4, Fr g L _ m4 ∧ m4 "priority" = some (.int pr pk) ∧ m4 "result" = some (.str r' rk') ∧ m4 "nexttok" = some (.str t3 tk3) ∧ m4 "if_true" = some (.str r2 rk2) ∧ m4 "if_false" = some (.str r3 rk3) := ⟨_, F2, p2, p3, rfl, p5, rfl⟩
      replace N2 := News.tail N2
      clear F2 p1 p2 p3 p4 p5
      refine wpC_leaf ?_
      repeat ((first | (k_unfold; (try dsimp only)) | walk1 | (dsimp only; walk1)))
      (with_reducible rename Fr _ _ _ _ => F6)
      (with_reducible rename News _ _ _ _ => N6)
      dsimp only at F6 ⊢
      obtain ⟨m6, R, Rk, F7, q2, q3, q4, hR⟩ : ∃ m4 R Rk, Fr g L _ m4 ∧ m4 "priority" = some (.int pr pk) ∧ m4 "result" = some (.str R Rk) ∧ m4 "nexttok" = some (.str t3 tk3) ∧ R.length ≤ r.length + r2.length + r3.length + 15 := ⟨_, _, _, F6, q2, rfl, q4, by
        simp only [Str.length_append]
        rw [show Str.empty.length = 0 from by decide, show (Str.ofString " if ").length = 4 from by decide, show (Str.ofString " else ").length = 6 from by decide]; omega⟩
      clear F6
      have hR2 : R.length ≤ 8000 := ar_sum hR hr hr2 hr4
      refine wpC_leaf ?_
      k_fold
      repeat' ((first | (k_unfold; (try dsimp only)) | walk1 | (dsimp only; walk1)))
      all_goals (
        (with_reducible rename Fr _ _ _ _ => F8)
        (with_reducible rename News _ _ _ _ => N8)
        (try dsimp only at F8)
        refine wpC_execs_nil ?_
        have N9 : News g L _ [(it, itObj l j3)] := News.cons (N8 _ (by k_mem)) News.nil
        first
          | exact k _ _ _ _ _ _ _ _ _ F8 N9 q3 q4 hd3 (a4.ask a2 a3 (Nat.le_trans hR (Nat.add_le_add_left (by decide) _)))
          | exact k _ _ _ _ _ _ _ _ _ F8 N9 rfl q4 hd3 (a4.ask a2 a3 (by simp only [Str.length_append]; rw [show (Str.ofString "(").length = 1 from by decide, show (Str.ofString ")").length = 1 from by decide]; omega)))
    · refine ite_pos (by simpa using ht2) ?_
      refine wpAny_execs_cons (wpAny_Raise_made PySem.F.excRaise_ValueError hh ?_)
      iterate 7 (first | (k_unfold; (try dsimp only)) | walk1 | (dsimp only; walk1))
      refine error_call (X.keeps F4.keep) (T.keeps F4.keep) (ar_dep hdp a4.size) (Nat.le_trans (menu_len t2 hmt2) (by decide)) ?_
      intro h' e tk1 tk2 hm
      obtain ⟨t9, he, _, _⟩ := hm.there
      exact ⟨e, t9, rfl, he, erN e h' _ (made_fresh kbg FF F4 N2 rfl rfl hm (fun st => a4.colonless a2 ht2 hmt2 st) hd2)⟩
  · rename_i hq hpr
    exact wpC_execs_nil (k _ _ _ _ _ _ _ _ _ F N n3 n4 hdr (a4.plain hr' (fun hz => absurd hz (by simpa using hpr))))
  · rename_i hq
    exact wpC_execs_nil (k _ _ _ _ _ _ _ _ _ F N n3 n4 hdr (a4.plain hr' (fun hz => ⟨hst hz, by simpa using hq⟩)))
end
end
theorem fresh_PvParse : True := by w_top off; trivial
set_option maxRecDepth 100000
set_option maxHeartbeats 400000
section
variable {w : World} {A : Around} {mean : ExcName → Option Value} {mg mb : Str → Option Value} {s : Shared} {R : Result → Shared → Prop} {it : Addr} {pr : Int} {args : List Value}
theorem enter_parse (X : (Mine.hd.heap_39 w.params).In s.heap) (T : Top Mine.hd.view_39 looseN mean mg mb s.heap) (hroom : A.depth < recursionLimit) (ha : ArgsAre it pr args)
    (h : ∀ pk h₁, Fr s.heap s.heap.objs.size h₁ (fun y => [((Str.ofString "tokens"), Value.ref it), ((Str.ofString "priority"), Value.int pr pk)].reverse.lookup y) →
      wpC (model PySem.Challenge.rw_dv0011_01.row.prog w) (A.deeper (envP w s.heap.objs.size)) (execs (bodyOf (Mine.hd.heap_39 w.params) 85) (envP w s.heap.objs.size)) (fun fl s' => R (.ok (.ret (match fl with | .ret v => v | _ => .none))) s')
        (fun e s' => wpAny (model PySem.Challenge.rw_dv0011_01.row.prog w) (A.deeper (envP w s.heap.objs.size)) (leaving (envP w s.heap.objs.size) e) (fun _ s'' => R (.error e) s'') (fun e' s'' => R (.error e') s'') s')
        { s with heap := h₁, toks := s.toks + 2 }) :
    codeC (model PySem.Challenge.rw_dv0011_01.row.prog w) A (.call (.ref 85) ⟨args, []⟩) R s := by
  ((have hf9 : PySem.Challenge.rw_dv0011_01.row.prog = PySem.Challenge.rw_dv0011_01.row.prog ∧ Mine.hd.heap_39 = Mine.hd.heap_39 := by (k_fill; exact ⟨rfl, rfl⟩)); clear hf9)
  unfold envP at *
  rw [bodyOf_eq (a := 85) (by k_is) rfl] at *
  rw [scopeOf_eq (a := 85) (by k_is)] at *
  rcases ha with ⟨rfl, rfl⟩ | ⟨pk, rfl⟩
  · refine' enterC (binds := [((Str.ofString "tokens"), Value.ref it), ((Str.ofString "priority"), Value.int (-1) 267)]) X T.nolimit ?k6 ?k7 hroom ?k9 ?kB ?_ ?c2 ?c3 ?c4 ?c5; (case k6 => k_is); (case k7 => k_is); (case k9 => exact binds_K X rfl (by k_is) rfl rfl rfl); (case c5 => decide); (case kB => exact locs rfl); (case c2 => exact rfl); (case c3 => exact rfl); (case c4 => exact rfl)
    intro L' h₁ eL F'
    subst eL
    exact h _ _ F'
  · refine' enterC (binds := [((Str.ofString "tokens"), Value.ref it), ((Str.ofString "priority"), Value.int pr pk)]) X T.nolimit ?k6 ?k7 hroom ?k9 ?kB ?_ ?c2 ?c3 ?c4 ?c5; (case k6 => k_is); (case k7 => k_is); (case k9 => exact binds_K X rfl (by k_is) rfl rfl rfl); (case c5 => decide); (case kB => exact locs rfl); (case c2 => exact rfl); (case c3 => exact rfl); (case c4 => exact rfl)
    intro L' h₁ eL F'
    subst eL
    exact h _ _ F'
end
theorem parse_step {w : World} {n : Nat} (IH : Parses w n) : Parses w (n + 1) := by
  intro mean mg mb A env outer hb it l i all ps s pr args Q E hn C ha hp1 hp2 ok er
  have Xs : (Mine.hd.heap_39 w.params).In s.heap := C.X.keeps C.kb
  have Ts : Top Mine.hd.view_39 looseN mean mg mb s.heap := C.T.keeps C.kb
  have hg : ∀ b o, s.heap.get? b = some o → b ≠ it → (hideAll s.heap [it]).get? b = some o := fun b o q hne => hideAll_get _ q (by simpa using hne)
  have kbg : ∀ b o, hb.get? b = some o → (hideAll s.heap [it]).get? b = some o := fun b o q => hg b o (C.kb b o q) (fun z => by subst z; rw [C.nit] at q; cases q)
  have FF : (hideAll s.heap [it]).FunFrames hb (env :: outer) := funFrames_hideAll C.funs fun e he a ha hf => by
    obtain rfl : a = it := by simpa using ha
    obtain ⟨_, o, ho, hne⟩ := fun_mem C.funs (List.mem_filterMap.mpr ⟨e, he, hf⟩)
    rw [C.here] at ho; cases ho; exact hne _ rfl
  have hlist : (hideAll s.heap [it]).IsList l (all.map strV).toArray := by
    obtain ⟨o, ho, hd⟩ := C.lst
    refine ⟨o, hg l o ho (fun z => ?_), hd⟩
    subst z
    rw [C.here] at ho; cases ho
    obtain ⟨_, hd⟩ := hd
    revert hd
    simp [itObj]
  have hsize : (hideAll s.heap [it]).objs.size = s.heap.objs.size := hideAll_size _ _
  have hdp := C.depth
  refine wpC_call (enter_parse Xs Ts (by omega) ha ?_)
  intro pk h₁ F0
  have F : Fr (hideAll s.heap [it]) s.heap.objs.size h₁ _ := ⟨F0.ns, fun b o q => F0.keep b o (of_hideAll _ q), Nat.le_of_eq hsize⟩
  have N : News (hideAll s.heap [it]) s.heap.objs.size h₁ [(it, itObj l i)] := fun p hp => by
    cases hp with
    | head => exact ⟨F0.keep _ _ C.here, Nat.ne_of_lt (Heap.lt_size C.here), hideAll_none _ (.head _)⟩
    | tail _ hp => cases hp
  have n1 : (fun y => [((Str.ofString "tokens"), Value.ref it), ((Str.ofString "priority"), Value.int pr pk)].reverse.lookup y) "tokens" = some (.ref it) := rfl
  have n2 : (fun y => [((Str.ofString "tokens"), Value.ref it), ((Str.ofString "priority"), Value.int pr pk)].reverse.lookup y) "priority" = some (.int pr pk) := rfl
  revert F n1 n2
  generalize (fun y => [((Str.ofString "tokens"), Value.ref it), ((Str.ofString "priority"), Value.int pr pk)].reverse.lookup y) = m
  intro F n1 n2
  clear F0
  rw [show bodyOf (Mine.hd.heap_39 w.params) 85 = (bodyOf (Mine.hd.heap_39 w.params) 85).take 3 ++ (bodyOf (Mine.hd.heap_39 w.params) 85).drop 3 from (List.take_append_drop 3 _).symm]
  have erF : ∀ e h' tk', Flies ps all it l (envP w s.heap.objs.size :: env :: outer) (hideAll s.heap [it]) e h' → wpAny (model PySem.Challenge.rw_dv0011_01.row.prog w) (A.deeper (envP w s.heap.objs.size)) (leaving (envP w s.heap.objs.size) (.ref e)) (fun _ s'' => E (.ref e) s'') (fun e s'' => E e s'') ⟨h', s.gens, s.drawn, tk', s.os⟩ :=
    fun e h' tk' fl => leave_fly (s := s) C.frames rfl (Nat.le_refl _) hg C.here er fl
  have erN : ∀ e h' tk', Fresh ps all it l (envP w s.heap.objs.size :: env :: outer) (hideAll s.heap [it]) e h' → wpAny (model PySem.Challenge.rw_dv0011_01.row.prog w) (A.deeper (envP w s.heap.objs.size)) (leaving (envP w s.heap.objs.size) (.ref e)) (fun _ s'' => E (.ref e) s'') (fun e s'' => E e s'') ⟨h', s.gens, s.drawn, tk', s.os⟩ :=
    fun e h' tk' fl => leave_fresh (s := s) C.frames rfl (Nat.le_refl _) hg C.here er fl
  have hE : PassesOwn (model PySem.Challenge.rw_dv0011_01.row.prog w) (A.deeper (envP w s.heap.objs.size)) (envP w s.heap.objs.size) (fun e s' => wpAny (model PySem.Challenge.rw_dv0011_01.row.prog w) (A.deeper (envP w s.heap.objs.size)) (leaving (envP w s.heap.objs.size) e) (fun _ s'' => E e s'') (fun e s'' => E e s'') s') := PassesOwn.leaving (Q₁ := E)
  have hE2 : ∀ x, PassesOwnAt (model PySem.Challenge.rw_dv0011_01.row.prog w) ((A.deeper (envP w s.heap.objs.size)).mark x) (A.deeper (envP w s.heap.objs.size)) (envP w s.heap.objs.size) (fun e s' => wpAny (model PySem.Challenge.rw_dv0011_01.row.prog w) (A.deeper (envP w s.heap.objs.size)) (leaving (envP w s.heap.objs.size) e) (fun _ s'' => E e s'') (fun e s'' => E e s'') s') := fun x => PassesOwnAt.leaving (Q₁ := E)
  have Xg : (Mine.hd.heap_39 w.params).In (hideAll s.heap [it]) := C.X.keeps kbg
  have Tg : Top Mine.hd.view_39 looseN mean mg mb (hideAll s.heap [it]) := C.T.keeps kbg
  refine wpC_front (seg0 Xg Tg hE F N hlist n1 n2 C.drop C.len C.last ?_)
  clear F N n1 n2
  intro h1 m1 tk1 r1 rk1 t1 tk1' rest1 j1 F N n1 n2 n3 n4 hdr a1 ht1
  refine seg1 IH C.X C.T C.low C.nit kbg FF hE hE2 F N hlist C.frames C.calm C.depth C.units C.len hn C.sub n1 n2 n3 n4 hdr a1 ht1 erF erN ?_
  clear F N n1 n2 n3 n4
  intro h2 m2 tk2 r2 rk2 rest2 j2 F N n1 n2 n3 hdr a3
  refine seg2 IH C.X C.T C.low C.nit kbg FF hE F N hlist C.frames C.calm C.depth C.units C.len hn C.sub n1 n2 n3 hdr a3 hp1 hp2 erF ?_
  clear F N n1 n2 n3
  intro h3 m3 tk3 r3 rk3 t3 tk3' rest3 j3 jv jk F N n1 n2 n3 n4 n5 hdr a4 hst
  refine seg3 IH C.X C.T C.low C.nit kbg FF F N hlist C.frames C.calm C.depth C.units C.len hn C.sub n1 n2 n3 n4 n5 hdr a4 hst hp1 hp2 erF erN ?_
  clear F N n1 n2 n3 n4 n5
  intro h4 m4 tk4 r4 rk4 t4 tk4' rest4 j4 F N n3 n4 hdr a2
  refine segR C.X C.T kbg F N n3 n4 ?_
  clear F N n3 n4
  intro h5 m5 tk5 tup F N
  have hN1 := N _ (.head _)
  have hN2 := N _ (.tail _ (.head _))
  have hne : tup ≠ it := fun z => by
    have q1 := hN1.1
    have q2 := hN2.1
    dsimp only at q1 q2
    rw [z, q2] at q1
    exact absurd (congrArg (fun o => match o with | some (Obj.mk _ _ (.fields _) _) => true | _ => false) q1) (by simp [itObj, tupO])
  refine ok r4 rk4 t4 tk4' rest4 j4 tup h5 tk5 a2 hdr hN1.1 ?_ (fun b o q hb => F.keep b o (hg b o q hb)) hN2.1
  cases q : s.heap.get? tup with
  | none => rfl
  | some o => exact absurd (hg tup o q hne) (by rw [show (hideAll s.heap [it]).get? tup = none from hN1.2.2]; exact fun z => by cases z)
theorem parse_all (w : World) : ∀ n, Parses w n
  | 0 => by
    intro mean mg mb A env outer hb it l i all ps s pr args Q E hn C
    obtain ⟨p, r, e⟩ := C.last.cons
    rw [e] at hn
    exact absurd hn (by simp)
  | n + 1 => parse_step (parse_all w n)
theorem fresh_PvLoop : True := by w_top off; trivial
set_option maxRecDepth 100000
set_option maxHeartbeats 400000
section
variable {prog : Program} {w : World} {A : Around} {E : Value → Shared → Prop} {s : Shared} {env : Env} {g : Heap} {x : Str} {body : List Stmt} {Q : Flow → Shared → Prop} {op : Addr} {o0 : Obj} {m : Str → Option Value}
theorem ex9 {T1 T2 T3 T4 T5 T6 T7 T8 T9 : Type} {R : T1 → T2 → T3 → T4 → T5 → T6 → T7 → T8 → T9 → Prop} (a1 : T1) (a2 : T2) (a3 : T3) (a4 : T4) (a5 : T5) (a6 : T6) (a7 : T7) (a8 : T8) (a9 : T9) (h : R a1 a2 a3 a4 a5 a6 a7 a8 a9) :
    ∃ x1 x2 x3 x4 x5 x6 x7 x8 x9, R x1 x2 x3 x4 x5 x6 x7 x8 x9 := ⟨a1, a2, a3, a4, a5, a6, a7, a8, a9, h⟩
/-- how a turn ends -/
def TurnEnd (s : Shared) (g : Heap) (L I op : Addr) (io : Obj) (Q : Flow → Shared → Prop) (Jn : (Str → Option Value) → Obj → Prop) (f : Flow) (s₂ : Shared) : Prop :=
  (∃ v, f = .ret v ∧ Q (.ret v) s₂) ∨ (f = .next ∧ ∃ h' tk' m₂ o₂, s₂ = { s with heap := h', toks := tk' } ∧ Fr g L h' m₂ ∧ News g L h' [(op, o₂), (I, io)] ∧ Jn m₂ o₂)
theorem turn_step {s s₁ s₂ : Shared} {g : Heap} {L I op : Addr} {io : Obj} {Q : Flow → Shared → Prop} {Jn : (Str → Option Value) → Obj → Prop} {f : Flow} {own : List (Addr × Obj)} (hs : ∃ h tk, s₁ = { s with heap := h, toks := tk }) (ho : ∀ p ∈ own, p = (I, io)) (hne : I ≠ op) (h : TurnEnd s g L I op io Q Jn f s₂) :
    LoopStepV g L [I] own (fun m news => ∃ o, news = [(op, o)] ∧ Jn m o) s₁ (fun v s' => Q (.ret v) s') (fun s' => Q .next s') f s₂ := by
  rcases h with ⟨v, rfl, hq⟩ | ⟨rfl, h', tk', m₂, o₂, rfl, F, N, hJ⟩
  · exact hq
  · obtain ⟨h9, tk9, rfl⟩ := hs
    refine ⟨rfl, h', tk', m₂, [(op, o₂)], rfl, F, fun p hp => ?_, fun p hp => ?_, _, rfl, hJ⟩
    · rcases List.mem_append.mp hp with hp | hp
      · rw [ho p hp]; exact N _ (.tail _ (.head _))
      · rw [List.mem_singleton.mp hp]; exact N _ (.head _)
    · rw [List.mem_singleton.mp hp]
      exact fun q => hne (List.mem_singleton.mp q).symm
theorem loop_range {r : Addr} {n : Nat} {t u v : Tok} (hh : A.handled = none) (hr : IsRange s.heap r 0 (n : Int) 1 t u v) (hn : n ≤ 1000) (F : Fr g env.locals s.heap m) (N : News g env.locals s.heap [(op, o0)]) (J : Nat → (Str → Option Value) → Obj → Prop) (h0 : J 0 m o0)
    (turn : ∀ I io i tk h tk1 m₁ o₁, i < n → J i m₁ o₁ → I ≠ op → Fr g env.locals h (fun y => if y = x then some (.int (i : Nat) tk) else m₁ y) → News g env.locals h [(op, o₁), (I, io)] →
      wpAny (model prog w) A (execs body env) (TurnEnd s g env.locals I op io Q (J (i + 1))) E { s with heap := h, toks := tk1 })
    (done : ∀ h' tk m' o', Fr g env.locals h' m' → J n m' o' → Q .next { s with heap := h', toks := tk }) :
    wpAny (model prog w) A (pyIter (.ref r)) (fun it s₂ => LoopAtV prog w A g env x body Q E it s₂) E s := by
  have hsz : Builtin.Range.rangeSize 0 (n : Int) 1 = (n : Int) := by unfold Builtin.Range.rangeSize; split <;> first | (split <;> omega) | omega
  have hsm : Builtin.Range.small 0 (n : Int) 1 = true := small_one (by omega) (by omega) (by omega) (by omega)
  refine wpAny_pyIter_range hr hsm ?_
  have hlo : op ≠ s.heap.objs.size := Nat.ne_of_lt (Heap.lt_size (N _ (.head _)).1)
  have W := Walks.range (prog := prog) (w := w) hh s.heap.objs.size 0 1 n
  refine ex9 s.heap.objs.size [s.heap.objs.size] [s.heap.objs.size] n _ _ m [(op, o0)] (fun i m news => ∃ o, news = [(op, o)] ∧ J i m o) ⟨rfl, W, ?_, ?_, ?_, ?_, F.push _, (fun p hp => ⟨Heap.get?_push_of_some _ (N p hp).1, (N p hp).2⟩), ⟨_, rfl, h0⟩, ?_, ?_⟩
  · intro hm
    exact absurd F.ns.lt ((List.mem_singleton.mp hm) ▸ Nat.lt_irrefl _)
  · intro b hb
    rw [List.mem_singleton.mp hb]; exact next_is_new F
  · intro p hp hI
    rw [List.mem_singleton.mp hp] at hI
    exact hlo (List.mem_singleton.mp hI)
  · show IsRangeIter _ _ _ _ _
    rw [hsz]
    have := Heap.get?_push_size s.heap (o := { cls := .type "range_iterator", data := .fields #[rawInt 0, rawInt (n : Int), rawInt 1] }) rfl
    simpa [IsRangeIter] using this
  · rintro i v m₁ news₁ s₁ own ⟨h, tk, rfl⟩ hi ⟨t9, rfl⟩ ⟨o₁, rfl, hJ⟩ hoff hsub hown hall hst F₁ N₁
    have hst' := hst
    obtain ⟨io, hio⟩ : ∃ io, h.get? s.heap.objs.size = some io := ⟨_, hst⟩
    have e0 : ∀ p ∈ own, p = (s.heap.objs.size, io) := fun p hp => by
      have e1 : p.1 = s.heap.objs.size := List.mem_singleton.mp (hsub p hp)
      have e2 := hown p hp
      rw [e1] at e2
      have e3 : some io = some p.2 := hio.symm.trans e2
      exact Prod.ext e1 (Option.some.inj e3).symm
    have NI : (s.heap.objs.size, io) ∈ own := hall _ (.head _) (next_is_new F) io hio
    refine wpAny_mono (turn s.heap.objs.size io i t9 h tk m₁ o₁ hi hJ (Ne.symm hlo) ?_ (fun p hp => ?_)) (fun f s₂ hf => turn_step ⟨_, _, rfl⟩ e0 (Ne.symm hlo) hf) fun _ _ q => q
    · simpa using F₁
    · cases hp with
      | head => exact N₁ _ (List.mem_append.mpr (.inr (.head _)))
      | tail _ hp => rw [List.mem_singleton.mp hp]; exact N₁ _ (List.mem_append.mpr (.inl NI))
  · rintro h' tk m' news' F' N' _ ⟨o, rfl, hJ⟩
    exact done h' tk m' o F' hJ
end
theorem fresh_PvWalk : True := by w_top off; trivial
set_option maxRecDepth 100000
set_option maxHeartbeats 400000
section
variable {w : World} {A : Around} {s : Shared} {mean : ExcName → Option Value} {mg mb : Str → Option Value} {E : Value → Shared → Prop}
theorem refused_call {x : Str} {t : Tok} {Q : Value → Shared → Prop} (X : (Mine.hd.heap_39 w.params).In s.heap) (T : Top Mine.hd.view_39 looseN mean mg mb s.heap) (hroom : A.depth < recursionLimit) (hx : x.length ≤ 20)
    (h : ∀ h' tk tk', (∀ b o, s.heap.get? b = some o → h'.get? b = some o) → Q (.str (refusedMsg x) tk') { s with heap := h', toks := tk }) :
    wpAny (model PySem.Challenge.rw_dv0011_01.row.prog w) A (call (.ref 92) [.str x t]) Q E s := by
  revert X; k_fill; intro X
  obtain ⟨hp, gg, dd, tk, os⟩ := s
  refine wpAny_call ?_
  refine' enterA (binds := [(Str.ofString "token", Value.str x t)]) X T.nolimit ?k6 ?k7 hroom ?k9 ?kB ?_ ?c2 ?c3 ?c4 ?c5; (case k6 => k_is); (case k7 => k_is); (case k9 => exact BindsTo.of_eq rfl); (case c5 => decide); (case kB => exact locs rfl); (case c2 => exact rfl); (case c3 => exact rfl); (case c4 => exact rfl)
  intro L' h₁ eL F'
  have N' : News hp L' h₁ [] := News.nil
  clear eL
  dsimp only at *
  refine wpAny_execs_cons (wpAny_If ?_)
  iterate 5 (first | (k_unfold; (try dsimp only)) | walk1 | (dsimp only; walk1))
  by_cases hx0 : x = ""
  · subst hx0
    refine ite_pos (by decide) ?_
    repeat ((first | (k_unfold; (try dsimp only)) | walk1 | (dsimp only; walk1)))
    exact h _ _ _ (fun b o hb => F'.keep b o hb)
  · refine ite_neg (fun e => hx0 (by simpa using e)) ?_
    refine wpAny_execs_nil ?_
    repeat ((first | (k_unfold; (try dsimp only)) | walk1 | (dsimp only; walk1)))
    have hr : refusedMsg x = (Str.ofString "unexpected token in plural form: ") ++ x := if_neg hx0
    dsimp only
    rw [← hr]
    exact h _ _ _ (fun b o hb => F'.keep b o hb)
theorem strs_of : ∀ l : List (Str × Tok), StrsAre (l.map strV) (l.map Prod.fst)
  | [] => .nil
  | p :: l => .cons p.1 p.2 (strs_of l)
theorem any_mem {l : List Str} {t : Str} : l.any (· == t) = decide (t ∈ l) := by
  rw [Bool.eq_iff_iff, List.any_eq_true, decide_eq_true_iff]
  exact ⟨fun ⟨x, hx, e⟩ => (by simpa using e : x = t) ▸ hx, fun h => ⟨t, h, by simp⟩⟩
theorem digit_menu : ∀ t ∈ menu, Txt.isdigit t = decide (t ∈ digsL) := by decide +kernel
theorem fr_ext {g h h' : Heap} {L : Addr} {m : Str → Option Value} (F : Fr g L h m) (k : ∀ b o, h.get? b = some o → h'.get? b = some o) : Fr g L h' m := ⟨F.ns.at' fun o e => k _ o e, fun b o e => k b o (F.keep b o e), F.above⟩
theorem news_ext {g h h' : Heap} {L : Addr} {news : List (Addr × Obj)} (N : News g L h news) (k : ∀ b o, h.get? b = some o → h'.get? b = some o) : News g L h' news := fun p hp => ⟨k _ _ (N p hp).1, (N p hp).2⟩
theorem last_at {prog : Program} {value slice : Expr} {l : Addr} {pre : List Value} {x : Value} {u : Tok} {Q : Value → Shared → Prop} (hl : s.heap.IsList l (pre ++ [x]).toArray) (h : Q x s)
    (hs : subscripted slice false (.ref l) (.int (-1) u) = operate [.ref l, .int (-1) u] (getItem (.ref l) (.int (-1) u))) :
    wpAny (model prog w) A (subscriptTail value slice (.ref l) (.int (-1) u)) Q E s :=
  subscriptTail_builtinR (x := x) hl.typeIs PySem.F.slot_list_getitem.lookup (wpAny_getItem_list_neg (Q := fun r s' => r = x ∧ Q r s') hl (by decide) (by simp; omega) (by decide) (by simp; rw [show (-1 + ((pre.length : Int) + 1)).toNat = pre.length by omega]; simp) ⟨rfl, h⟩) hs
theorem walk_some : ∀ (ps : List (Str × Tok)), HasEnd ps → ∀ (b : Bool) (st : List Str), (∀ o ∈ st, o = "(" ∨ o = "?") → ∃ r, walk b st (firsts ps) = some r
  | [], h, _, _, _ => by obtain ⟨_, h, _⟩ := h; exact nomatch h
  | p :: ps, h, true, st, hst => by
    show ∃ r, walk true st (p.1 :: firsts ps) = some r
    have hr : p.1 ≠ "" → HasEnd ps := fun hne => by
      obtain ⟨q, hq, e⟩ := h
      cases hq with
      | head => exact absurd e hne
      | tail _ hq => exact ⟨q, hq, e⟩
    rw [walk]
    split
    · rename_i e; exact walk_some ps (hr (by rw [e]; decide)) true _ (fun o ho => by cases ho with | head => exact .inl rfl | tail _ ho => exact hst o ho)
    · split
      · rename_i e; exact walk_some ps (hr (fun z => by rw [z] at e; exact absurd e (by decide))) false st hst
      · split
        · exact ⟨_, rfl⟩
        · rename_i e; exact walk_some ps (hr (fun z => by rw [z] at e; exact absurd e (by decide))) true st hst
  | p :: ps, h, false, st, hst => by
    show ∃ r, walk false st (p.1 :: firsts ps) = some r
    have hr : p.1 ≠ "" → HasEnd ps := fun hne => by
      obtain ⟨q, hq, e⟩ := h
      cases hq with
      | head => exact absurd e hne
      | tail _ hq => exact ⟨q, hq, e⟩
    rw [walk.eq_def]
    dsimp only
    split
    · rename_i e; exact walk_some ps (hr (fun z => by rw [z] at e; exact absurd e (by decide))) true st hst
    · split
      · rename_i e; exact walk_some ps (hr (by rw [e]; decide)) true _ (fun o ho => by cases ho with | head => exact .inr rfl | tail _ ho => exact hst o ho)
      · cases st with
        | nil => exact ⟨_, rfl⟩
        | cons o st =>
          dsimp only
          split
          · rename_i e; exact walk_some ps (hr (fun z => by rw [z] at e; rcases hst o (.head _) with q | q <;> rw [q] at e <;> exact absurd e (by decide))) _ st (fun o ho => hst o (.tail _ ho))
          · split
            · exact ⟨_, rfl⟩
            · exact ⟨_, rfl⟩
/-- where the law's walk stands before a turn -/
structure WalkAt (tl ol op : Addr) (all : List (Str × Tok)) (i : Nat) (m : Str → Option Value) (o : Obj) (b : Bool) (st : List (Str × Tok)) (k : Nat) : Prop where
  n1 : m "tokens" = some (.ref tl)
  n2 : m "ops" = some (.ref ol)
  n3 : m "opened" = some (.ref op)
  n4 : m "wanted" = some (.bool b)
  ho : o = W.listOf (st.reverse.map strV).toArray k
  hst : ∀ p ∈ st, p.1 = "(" ∨ p.1 = "?"
  hlen : st.length ≤ i
  same : walk true [] (firsts all) = walk b (firsts st) (firsts (all.drop i))
set_option maxHeartbeats 8000000 in
theorem walk_call {tl ol : Addr} {all ops : List (Str × Tok)} {Q : Value → Shared → Prop} (X : (Mine.hd.heap_39 w.params).In s.heap) (T : Top Mine.hd.view_39 looseN mean mg mb s.heap) (hh : A.handled = none) (hroom : A.depth + 1 < recursionLimit) (hun : A.units + 10 < cLine)
    (h1 : s.heap.IsList tl (all.map strV).toArray) (h2 : s.heap.IsList ol (ops.map strV).toArray) (ho : ops.map Prod.fst = opsL) (hm : ∀ p ∈ all, p.1 ∈ menu) (hl : all.length ≤ 100) (hend : HasEnd all)
    (hk : ∀ h' tk b msg mk left pl pk tup, walk true [] (firsts all) = some (b, msg, left) → pl + left + 1 = all.length → (∀ b o, s.heap.get? b = some o → h'.get? b = some o) → s.heap.get? tup = none →
       h'.get? tup = some { cls := .type "tuple", data := .seq #[.bool b, .str msg mk, .int (pl : Nat) pk] } → Q (.ref tup) { s with heap := h', toks := tk }) :
    wpAny (model PySem.Challenge.rw_dv0011_01.row.prog w) A (call (.ref 99) [.ref tl, .ref ol]) Q E s := by
  revert X; k_fill; intro X
  obtain ⟨hp, gg, dd, tk, os⟩ := s
  refine wpAny_call ?_
  refine' enterA (binds := [(Str.ofString "tokens", Value.ref tl), (Str.ofString "ops", Value.ref ol)]) X T.nolimit ?k6 ?k7 (by omega) ?k9 ?kB ?_ ?c2 ?c3 ?c4 ?c5; (case k6 => k_is); (case k7 => k_is); (case k9 => exact BindsTo.of_eq rfl); (case c5 => decide); (case kB => exact locs rfl); (case c2 => exact rfl); (case c3 => exact rfl); (case c4 => exact rfl)
  intro L' h₁ eL F'
  have N' : News hp L' h₁ [] := News.nil
  clear eL
  dsimp only at *
  refine wpAny_seal ?_
  intro Q7 hQ7
  repeat ((first | (k_unfold; (try dsimp only)) | walk1 | (dsimp only; walk1)))
  (with_reducible rename IsRange _ _ _ _ _ _ _ _ => hr)
  (with_reducible rename Fr hp L' _ _ => F0)
  rename News hp L' _ _ => N0
  refine loop_range hh hr (by omega) F0 N0 (fun i m o => ∃ b st k, WalkAt tl ol _ all i m o b st k) ⟨true, [], 0, rfl, rfl, rfl, rfl, rfl, (fun _ h => nomatch h), Nat.le_refl _, rfl⟩ ?_ ?_
  · clear F0 N0 hr
    rintro I io i tk h tk1 m₁ o₁ hi ⟨b, st, k, n1, n2, n3, n4, rfl, hst, hlen, same⟩ hne F N
    have hd0 : ∃ p rest, all.drop i = p :: rest := by
      cases hq : all.drop i with
      | nil => exact absurd (List.drop_eq_nil_iff.mp hq) (by omega)
      | cons p rest => exact ⟨p, rest, rfl⟩
    obtain ⟨p, rest, hdr⟩ := hd0
    obtain ⟨hx, hd'⟩ := get_at hdr
    have hmt : p.1 ∈ menu := hm p (List.mem_of_mem_drop (hdr ▸ List.mem_cons_self ..))
    have htl : p.1.length ≤ 3 := menu_len _ hmt
    obtain ⟨m2, F2, o1, o2, o3, o4, o5⟩ : ∃ m2, Fr hp _ h m2 ∧ m2 "tokens" = some (.ref tl) ∧ m2 "ops" = some (.ref ol) ∧ m2 "opened" = some (.ref _) ∧ m2 "wanted" = some (.bool b) ∧ m2 "place" = some (.int (i : Nat) tk) := ⟨_, F, n1, n2, n3, n4, rfl⟩
    clear F n1 n2 n3 n4
    change Fr hp L' h m2 at F2
    change News hp L' h _ at N
    refine wpAny_seal2 ?_
    intro Q8 E8 hQ8
    iterate 7 (first | (k_unfold; (try dsimp only)) | walk1 | (dsimp only; walk1))
    (with_reducible rename Fr _ _ _ _ => F3)
    (with_reducible rename News _ _ _ _ => N3)
    rename_i y ty hy h5
    have hy : y = p.1 := by
      have e1 : all[i]? = some p := by
        have := congrArg (fun l => l[0]?) hdr
        simpa using this
      simp [e1] at hy
      exact hy.symm
    subst hy
    dsimp only at F3 ⊢
    obtain ⟨m3, F4, q1, q2, q3, q4, q5, q6⟩ : ∃ m3, Fr hp L' h5 m3 ∧ m3 "tokens" = some (.ref tl) ∧ m3 "ops" = some (.ref ol) ∧ m3 "opened" = some (.ref _) ∧ m3 "wanted" = some (.bool b) ∧ m3 "place" = some (.int (i : Nat) tk) ∧ m3 "token" = some (.str p.1 ty) := ⟨_, F3, o1, o2, o3, o4, o5, rfl⟩
    clear F3 o1 o2 o3 o4 o5 m₁ m2
    replace same : walk true [] (firsts all) = walk b (firsts st) (p.1 :: firsts rest) := by rw [same, hdr]; rfl
    clear hx hy
    generalize p.1 = t at *
    iterate 5 (first | (k_unfold; (try dsimp only)) | walk1 | (dsimp only; walk1))
    have ho : ops.map Prod.fst = opsL := by assumption
    have hpl : i + rest.length + 1 = all.length := by
      have := congrArg List.length hdr
      rw [List.length_drop, List.length_cons] at this
      omega
    have hS := strs_of ops
    rw [ho] at hS
    cases b
    · refine ite_neg (by decide) ?_
      (repeat ((fail_if_success (with_reducible refine ite_pos ?_ ?_)); (first | (k_unfold; (try dsimp only)) | walk1 | (dsimp only; walk1))))
      rw [any_mem]
      by_cases hop : t ∈ opsL
      · refine ite_pos (decide_eq_true hop) ?_
        repeat ((first | (k_unfold; (try dsimp only)) | walk1 | (dsimp only; walk1)))
        (with_reducible rename Fr _ _ _ _ => F5)
        (with_reducible rename News _ _ _ _ => N5)
        refine hQ8 _ _ ?_
        exact .inr ⟨rfl, _, _, _, _, rfl, F5, N5, true, st, k, q1, q2, q3, rfl, rfl, hst, by omega, by rw [hd', same, walk_oper hop]⟩
      · refine ite_neg (fun e => hop (of_decide_eq_true e)) ?_
        (repeat ((fail_if_success (with_reducible refine ite_pos ?_ ?_)); (first | (k_unfold; (try dsimp only)) | walk1 | (dsimp only; walk1))))
        by_cases hq : t = "?"
        · refine ite_pos (by rw [hq]; decide) ?_
          repeat ((first | (k_unfold; (try dsimp only)) | walk1 | (dsimp only; walk1)))
          (with_reducible rename Fr _ _ _ _ => F5)
          (with_reducible rename News _ _ _ _ => N5)
          refine append_K F5 N5 (Upd.head (fun p hp => by rw [List.mem_singleton.mp hp]; exact hne)) (fun h' F' N' => ?_) ?_
          · dsimp only at F' N' ⊢
            repeat ((first | (k_unfold; (try dsimp only)) | walk1 | (dsimp only; walk1)))
            (with_reducible rename Fr _ _ _ _ => F5)
            (with_reducible rename News _ _ _ _ => N5)
            refine hQ8 _ _ ?_
            refine .inr ⟨rfl, _, _, _, _, rfl, F5, N5, true, ("?", _) :: st, k + 1, q1, q2, q3, rfl, by simp; rfl, ?_, by rw [List.length_cons]; omega, by rw [hd', same, hq, walk_ask]; rfl⟩
            intro q hq
            cases hq with
            | head => exact .inr rfl
            | tail _ hq => exact hst q hq
          · rw [List.size_toArray, List.length_map, List.length_reverse, sizeLine_eq]; omega
        · refine ite_neg (fun e => hq (by simpa using e)) ?_
          iterate 8 (first | (k_unfold; (try dsimp only)) | walk1 | (dsimp only; walk1))
          (with_reducible rename Fr _ _ _ _ => F5)
          (with_reducible rename News _ _ _ _ => N5)
          cases st with
          | nil =>
            refine SeqAt.eq_listAt (items := #[]) (items2 := #[]) (e := fun _ => true) ⟨_, (N5 _ (.tail _ (.head _))).1, rfl, _, rfl⟩ ⟨_, (N5 _ (.head _)).1, rfl, _, rfl⟩ rfl (by show A.units + 3 < _; omega) (fun j h1 => absurd h1 (Nat.not_lt_zero _)) ?_
            (first | (k_unfold; (try dsimp only)) | walk1 | (dsimp only; walk1))
            refine ite_pos (by decide) ?_
            repeat ((first | (k_unfold; (try dsimp only)) | walk1 | (dsimp only; walk1)))
            (with_reducible rename Fr _ _ _ _ => F7)
            (with_reducible rename News _ _ _ _ => N7)
            refine hQ8 _ _ ?_
            exact .inl ⟨_, rfl, hQ7 _ _ (hk _ _ _ _ _ rest.length i _ _ (by rw [same, walk.eq_def]; show (if _ then _ else _) = _; rw [if_neg hop, if_neg hq]; simp) hpl (fun b o e => F7.keep b o e) (N7 _ (.head _)).2.2 (N7 _ (.head _)).1)⟩
          | cons q st =>
            obtain ⟨o, ot⟩ := q
            have hoo : o = "(" ∨ o = "?" := hst (o, ot) (.head _)
            have hst' : ∀ p ∈ st, p.1 = "(" ∨ p.1 = "?" := fun p hp => hst p (.tail _ hp)
            rw [show List.map strV ((o, ot) :: st).reverse = List.map strV st.reverse ++ [.str o ot] by simp] at N5
            refine SeqAt.eq_list_lengthsAt (items2 := #[]) ⟨_, (N5 _ (.tail _ (.head _))).1, rfl, _, rfl⟩ ⟨_, (N5 _ (.head _)).1, rfl, _, rfl⟩ (by simp) (by show A.units + 3 < _; omega) ?_
            (first | (k_unfold; (try dsimp only)) | walk1 | (dsimp only; walk1))
            refine ite_neg (by decide) ?_
            iterate 10 (first | (k_unfold; (try dsimp only)) | walk1 | (dsimp only; walk1))
            have hL5 : Heap.IsList _ _ (List.map strV st.reverse ++ [Value.str o ot]).toArray := ⟨_, (N5 _ (.tail _ (.head _))).1, rfl, _, rfl⟩
            refine last_at hL5 ?_ (by with_unfolding_all rfl)
            have hol : o.length ≤ 3 := by rcases hoo with rfl | rfl <;> decide
            (repeat ((fail_if_success (with_reducible refine ite_pos ?_ ?_)); (first | (k_unfold; (try dsimp only)) | walk1 | (dsimp only; walk1))))
            by_cases hj : o ++ t = "()" ∨ o ++ t = "?:"
            · refine ite_pos (by rw [any_mem]; exact decide_eq_true (by rcases hj with e | e <;> rw [e] <;> decide)) ?_
              repeat ((first | (k_unfold; (try dsimp only)) | walk1 | (dsimp only; walk1)))
              (with_reducible rename Fr _ _ _ _ => F6)
              (with_reducible rename News _ _ _ _ => N6)
              replace N6 := News.tail (News.tail N6)
              dsimp only
              refine' kl_pop (p := List.map strV st.reverse) (y := Value.str o ot) ?F ?N ?e ?U ?z ?_
              case F => exact F6
              case N => exact N6
              case e => exact kpa_last _ _
              case U =>
                refine Upd.head ?_
                intro p hp
                rw [List.mem_singleton.mp hp]
                exact hne
              case z =>
                show List.length (List.map strV st.reverse ++ [Value.str o ot]) ≤ _
                rw [List.length_append, List.length_map, List.length_reverse, sizeLine_eq]
                rw [List.length_cons] at hlen
                simp
                omega
              intro h' F' N'
              clear F6 N6
              dsimp only at F' N' ⊢
              repeat ((first | (k_unfold; (try dsimp only)) | walk1 | (dsimp only; walk1)))
              (with_reducible rename Fr _ _ _ _ => F6)
              (with_reducible rename News _ _ _ _ => N6)
              refine hQ8 _ _ ?_
              refine .inr ⟨rfl, _, _, _, _, rfl, F6, N6, _, st, k + 1, q1, q2, q3, rfl, rfl, hst', by rw [List.length_cons] at hlen; omega, ?_⟩
              rw [hd', same]
              show walk false (o :: firsts st) _ = _
              rw [walk, if_neg hop, if_neg hq]
              show (if _ then _ else _) = _
              rw [if_pos hj]
              congr 1 <;> (rw [Bool.eq_iff_iff]; simp)
            · refine ite_neg (by rw [any_mem]; exact fun e => hj (by simpa using of_decide_eq_true e)) ?_
              iterate 9 (first | (k_unfold; (try dsimp only)) | walk1 | (dsimp only; walk1))
              (with_reducible rename Fr _ _ _ _ => F6)
              (with_reducible rename News _ _ _ _ => N6)
              replace N6 := News.tail (News.tail N6)
              have hL6 : Heap.IsList _ _ (List.map strV st.reverse ++ [Value.str o ot]).toArray := ⟨_, (N6 _ (.head _)).1, rfl, _, rfl⟩
              refine last_at hL6 ?_ (by with_unfolding_all rfl)
              have hw : walk true [] (firsts all) = if o = "(" then some (false, unbalancedMsg, rest.length) else some (false, refusedMsg t, rest.length) := by
                rw [same]
                show walk false (o :: firsts st) _ = _
                rw [walk, if_neg hop, if_neg hq]
                show (if _ then _ else _) = _
                rw [if_neg hj, List.length_map]
              (repeat ((fail_if_success (with_reducible refine ite_pos ?_ ?_)); (first | (k_unfold; (try dsimp only)) | walk1 | (dsimp only; walk1))))
              by_cases ho1 : o = "("
              · refine ite_pos (by rw [ho1]; decide) ?_
                rw [if_pos ho1] at hw
                repeat ((first | (k_unfold; (try dsimp only)) | walk1 | (dsimp only; walk1)))
                (with_reducible rename Fr _ _ _ _ => F7)
                (with_reducible rename News _ _ _ _ => N7)
                refine hQ8 _ _ ?_
                exact .inl ⟨_, rfl, hQ7 _ _ (hk _ _ _ _ _ rest.length i _ _ hw hpl (fun b o e => F7.keep b o e) (N7 _ (.head _)).2.2 (N7 _ (.head _)).1)⟩
              · refine ite_neg (fun e => ho1 (by simpa using e)) ?_
                rw [if_neg ho1] at hw
                repeat ((first | (k_unfold; (try dsimp only)) | walk1 | (dsimp only; walk1)))
                (with_reducible rename Fr _ _ _ _ => F7)
                (with_reducible rename News _ _ _ _ => N7)
                refine refused_call (X.keeps F7.keep) (T.keeps F7.keep) (by show A.depth + 1 < _; omega) (by omega) ?_
                intro h6 tk6 tk6' hk6
                have F8 := fr_ext F7 hk6
                have N8 := news_ext N7 hk6
                clear F7 N7
                dsimp only
                repeat ((first | (k_unfold; (try dsimp only)) | walk1 | (dsimp only; walk1)))
                (with_reducible rename Fr _ _ _ _ => F7)
                (with_reducible rename News _ _ _ _ => N7)
                refine hQ8 _ _ ?_
                exact .inl ⟨_, rfl, hQ7 _ _ (hk _ _ _ _ _ rest.length i _ _ hw hpl (fun b o e => F7.keep b o e) (N7 _ (.head _)).2.2 (N7 _ (.head _)).1)⟩
    · refine ite_pos rfl ?_
      (repeat ((fail_if_success (with_reducible refine ite_pos ?_ ?_)); (first | (k_unfold; (try dsimp only)) | walk1 | (dsimp only; walk1))))
      by_cases ht : t = "("
      · refine ite_pos (by rw [ht]; decide) ?_
        repeat ((first | (k_unfold; (try dsimp only)) | walk1 | (dsimp only; walk1)))
        (with_reducible rename Fr _ _ _ _ => F5)
        (with_reducible rename News _ _ _ _ => N5)
        refine append_K F5 N5 (Upd.head (fun p hp => by rw [List.mem_singleton.mp hp]; exact hne)) (fun h' F' N' => ?_) ?_
        · dsimp only at F' N' ⊢
          repeat ((first | (k_unfold; (try dsimp only)) | walk1 | (dsimp only; walk1)))
          refine hQ8 _ _ ?_
          refine .inr ⟨rfl, _, _, _, _, rfl, F', N', true, ("(", _) :: st, k + 1, q1, q2, q3, q4, by simp; rfl, ?_, by rw [List.length_cons]; omega, by rw [hd', same, ht, walk_open]; rfl⟩
          intro q hq
          cases hq with
          | head => exact .inl rfl
          | tail _ hq => exact hst q hq
        · rw [List.size_toArray, List.length_map, List.length_reverse, sizeLine_eq]; omega
      · refine ite_neg (fun e => ht (by simpa using e)) ?_
        repeat' ((first | (k_unfold; (try dsimp only)) | walk1 | (dsimp only; walk1)))
        · have hn : t = "n" := by simpa using (show (t == Str.ofString "n") = true by assumption)
          (with_reducible rename Fr _ _ _ _ => F5)
          (with_reducible rename News _ _ _ _ => N5)
          refine hQ8 _ _ ?_
          exact .inr ⟨rfl, _, _, _, _, rfl, F5, N5, false, st, k, q1, q2, q3, rfl, rfl, hst, by omega, by rw [hd', same, walk, if_neg ht, if_pos (.inl hn)]⟩
        · have hd : Txt.isdigit t = true := by assumption
          rw [digit_menu t hmt] at hd
          have hd := of_decide_eq_true hd
          (with_reducible rename Fr _ _ _ _ => F5)
          (with_reducible rename News _ _ _ _ => N5)
          refine hQ8 _ _ ?_
          exact .inr ⟨rfl, _, _, _, _, rfl, F5, N5, false, st, k, q1, q2, q3, rfl, rfl, hst, by omega, by rw [hd', same, walk, if_neg ht, if_pos (.inr hd)]⟩
        · have hd : Txt.isdigit t = false := by assumption
          rw [digit_menu t hmt] at hd
          have hd := of_decide_eq_false hd
          have hn : t ≠ "n" := by simpa using (show (t == Str.ofString "n") = false by assumption)
          have hb : t ≠ "!" := by simpa using (show (t != Str.ofString "!") = true by assumption)
          refine refused_call (s := ⟨h5, gg, dd, _, os⟩) (X.keeps F4.keep) (T.keeps F4.keep) (by show A.depth + 1 < _; omega) (by omega) ?_
          intro h6 tk6 tk6' hk6
          have F6 := fr_ext F4 hk6
          have N6 := news_ext N3 hk6
          dsimp only
          repeat ((first | (k_unfold; (try dsimp only)) | walk1 | (dsimp only; walk1)))
          (with_reducible rename Fr _ _ _ _ => F7)
          (with_reducible rename News _ _ _ _ => N7)
          refine hQ8 _ _ ?_
          exact .inl ⟨_, rfl, hQ7 _ _ (hk _ _ _ _ _ rest.length i _ _ (by rw [same, walk, if_neg ht, if_neg (fun e => e.elim hn hd), if_pos hb, List.length_map]) hpl (fun b o e => F7.keep b o e) (N7 _ (.head _)).2.2 (N7 _ (.head _)).1)⟩
        · have hd : Txt.isdigit t = false := by assumption
          rw [digit_menu t hmt] at hd
          have hd := of_decide_eq_false hd
          have hn : t ≠ "n" := by simpa using (show (t == Str.ofString "n") = false by assumption)
          have hb : t = "!" := by simpa using (show (t != Str.ofString "!") = false by assumption)
          refine hQ8 _ _ ?_
          exact .inr ⟨rfl, _, _, _, _, rfl, F4, N3, true, st, k, q1, q2, q3, q4, rfl, hst, by omega, by rw [hd', same, walk, if_neg ht, if_neg (fun e => e.elim hn hd), if_neg (fun e => e hb)]⟩
  · rintro h' tk m' o' F' ⟨b, st, k, n1, n2, n3, n4, rfl, hst, hlen, same⟩
    obtain ⟨r, hr⟩ := walk_some all hend true [] (fun _ h => nomatch h)
    rw [List.drop_length, hr] at same
    exact absurd same (by rw [show walk b (firsts st) (firsts []) = none by show walk b _ [] = none; rw [walk.eq_def]]; exact fun z => by cases z)
end
theorem fresh_PvLoopL : True := by w_top off; trivial
set_option maxRecDepth 100000
set_option maxHeartbeats 400000
section
variable {prog : Program} {w : World} {A : Around} {E : Value → Shared → Prop} {s : Shared} {env : Env} {g : Heap} {x : Str} {body : List Stmt} {Q : Flow → Shared → Prop} {op : Addr} {o0 : Obj} {m : Str → Option Value} {fix : List (Addr × Obj)}
/-- how a turn ends: op is written, the rest of the ledger stands -/
def TurnEndL (s : Shared) (g : Heap) (L I op : Addr) (io : Obj) (fix : List (Addr × Obj)) (Jn : (Str → Option Value) → Obj → Prop) (f : Flow) (s₂ : Shared) : Prop :=
  f = .next ∧ ∃ h' tk' m₂ o₂, s₂ = { s with heap := h', toks := tk' } ∧ Fr g L h' m₂ ∧ News g L h' ((op, o₂) :: (I, io) :: fix) ∧ Jn m₂ o₂
theorem loop_list {ax : Addr} {items : Array Value} {k : Nat} (hh : A.handled = none) (F : Fr g env.locals s.heap m) (N : News g env.locals s.heap ((op, o0) :: fix)) (hax : (ax, PySem.W.listOf items k) ∈ fix) (hop : ∀ p ∈ fix, p.1 ≠ op) (J : Nat → (Str → Option Value) → Obj → Prop) (h0 : J 0 m o0)
    (turn : ∀ I io i v h tk1 m₁ o₁, items[i]? = some v → J i m₁ o₁ → I ≠ op → (∀ p ∈ fix, p.1 ≠ I) → Fr g env.locals h (fun y => if y = x then some v else m₁ y) → News g env.locals h ((op, o₁) :: (I, io) :: fix) →
      wpAny (model prog w) A (execs body env) (TurnEndL s g env.locals I op io fix (J (i + 1))) E { s with heap := h, toks := tk1 })
    (done : ∀ h' tk m' o', Fr g env.locals h' m' → News g env.locals h' ((op, o') :: fix) → J items.size m' o' → Q .next { s with heap := h', toks := tk }) :
    wpAny (model prog w) A (pyIter (.ref ax)) (fun it s₂ => LoopAtV prog w A g env x body Q E it s₂) E s := by
  have hgx := N _ (.tail _ hax)
  have hl : s.heap.IsList ax items := ⟨_, hgx.1, rfl, _, rfl⟩
  refine wpAny_pyIter_list hl ?_
  have hlo : op ≠ s.heap.objs.size := Nat.ne_of_lt (Heap.lt_size (N _ (.head _)).1)
  have hla : ax ≠ s.heap.objs.size := Nat.ne_of_lt (Heap.lt_size hgx.1)
  have hfx : ∀ p ∈ fix, p.1 ≠ s.heap.objs.size := fun p hp => Nat.ne_of_lt (Heap.lt_size (N _ (.tail _ hp)).1)
  have WW := Walks.list (prog := prog) (w := w) hh s.heap.objs.size ax hla items
  refine ex9 s.heap.objs.size [s.heap.objs.size, ax] [s.heap.objs.size] items.size _ _ m ((op, o0) :: fix) (fun i m news => ∃ o, news = (op, o) :: fix ∧ J i m o) ⟨rfl, WW, ?_, ?_, ?_, ?_, F.push _, (fun p hp => ⟨Heap.get?_push_of_some _ (N p hp).1, (N p hp).2⟩), ⟨_, rfl, h0⟩, ?_, ?_⟩
  · intro hm
    rcases List.mem_cons.mp hm with e | hm
    · exact absurd F.ns.lt (e ▸ Nat.lt_irrefl _)
    · exact hgx.2.1 (List.mem_singleton.mp hm).symm
  · intro b hb
    rw [List.mem_singleton.mp hb]; exact next_is_new F
  · intro p hp hI
    rcases List.mem_cons.mp hp with rfl | hp
    · exact hlo (List.mem_singleton.mp hI)
    · exact hfx p hp (List.mem_singleton.mp hI)
  · exact ⟨⟨_, Heap.get?_push_size _ rfl, rfl, rfl⟩, hl.at fun o e => Heap.get?_push_of_some _ e⟩
  · rintro i v m₁ news₁ s₁ own ⟨h, tk, rfl⟩ hi hP ⟨o₁, rfl, hJ⟩ hoff hsub hown hall hst F₁ N₁
    obtain ⟨io, hio⟩ : ∃ io, h.get? s.heap.objs.size = some io := by
      obtain ⟨⟨o, ho, _⟩, _⟩ := hst
      exact ⟨o, ho⟩
    have hxx : h.get? ax = some (PySem.W.listOf items k) := (N₁ _ (List.mem_append.mpr (.inr (.tail _ hax)))).1
    have e0 : ∀ p ∈ own, p = (s.heap.objs.size, io) ∨ p = (ax, PySem.W.listOf items k) := fun p hp => by
      have e2 := hown p hp
      rcases List.mem_cons.mp (hsub p hp) with e1 | e1
      · rw [e1] at e2
        have e3 : some io = some p.2 := hio.symm.trans e2
        exact .inl (Prod.ext e1 (Option.some.inj e3).symm)
      · have e1 := List.mem_singleton.mp e1
        rw [e1] at e2
        have e3 : some (PySem.W.listOf items k) = some p.2 := hxx.symm.trans e2
        exact .inr (Prod.ext e1 (Option.some.inj e3).symm)
    have NI : (s.heap.objs.size, io) ∈ own := hall _ (.head _) (next_is_new F) io hio
    refine wpAny_mono (turn s.heap.objs.size io i v h tk m₁ o₁ hP hJ (Ne.symm hlo) hfx F₁ (fun p hp => ?_)) (fun f s₂ hf => ?_) fun _ _ q => q
    · cases hp with
      | head => exact N₁ _ (List.mem_append.mpr (.inr (.head _)))
      | tail _ hp => cases hp with
        | head => exact N₁ _ (List.mem_append.mpr (.inl NI))
        | tail _ hp => exact N₁ _ (List.mem_append.mpr (.inr (.tail _ hp)))
    · obtain ⟨rfl, h', tk', m₂, o₂, rfl, F', N', hJ'⟩ := hf
      refine ⟨rfl, h', tk', m₂, (op, o₂) :: fix, rfl, F', fun p hp => ?_, fun p hp => ?_, _, rfl, hJ'⟩
      · rcases List.mem_append.mp hp with hp | hp
        · rcases e0 p hp with rfl | rfl
          · exact N' _ (.tail _ (.head _))
          · exact N' _ (.tail _ (.tail _ hax))
        · cases hp with
          | head => exact N' _ (.head _)
          | tail _ hp => exact N' _ (.tail _ (.tail _ hp))
      · intro hI
        rcases List.mem_cons.mp hp with rfl | hp
        · exact hlo (List.mem_singleton.mp hI)
        · exact hfx p hp (List.mem_singleton.mp hI)
  · rintro h' tk m' news' F' N' _ ⟨o, rfl, hJ⟩
    exact done h' tk m' o F' N' hJ
end
theorem fresh_PvLaw1 : True := by w_top off; trivial
set_option maxRecDepth 100000
set_option maxHeartbeats 4000000
noncomputable abbrev envL (w : World) (L fa : Addr) (cd : Value) : Env := envOf (Str.ofString "law") (scopeOf (Mine.hd.heap_39 w.params) 106) L fa cd
section
variable {w : World} {A : Around} {mean : ExcName → Option Value} {mg mb : Str → Option Value} {E : Value → Shared → Prop} {g : Heap} {L fa sl : Addr} {cd : Value} {m : Str → Option Value} {vs : List Value} {xs : List Int}
  {h : Heap} {gg : Array GenState} {dd : Drawn} {tk : Nat} {os : OsState} {Q : Flow → Shared → Prop}
noncomputable def operandsL : List Str := ["n", "n", "7", "012", "305", "(", "(", "(", "(", "!", "!", "n", "%d", ")", "?", ""]
noncomputable def othersL : List Str := ["&&", "==", "!=", "<", ">", "<=", ">=", "+", "?", "?", "?", ":", ":", ")", ")", ""]
theorem strs_news {A1 A4 A5 : Array Value} {k1 k4 k5 : Nat} {tl xl t1 t2 pl ol : Addr} {o2 o3 : Obj} (N : News g L h [(tl, W.listOf #[] 0), (xl, W.listOf A1 k1), (t1, o2), (t2, o3), (pl, W.listOf A4 k4), (ol, W.listOf A5 k5)]) (e1 : StrsAre A1.toList othersL) (e4 : StrsAre A4.toList operandsL) (e5 : StrsAre A5.toList opsL) :
    ∃ (xP pP oP : List (Str × Tok)), xP.map Prod.fst = othersL ∧ pP.map Prod.fst = operandsL ∧ oP.map Prod.fst = opsL ∧ News g L h [(tl, W.listOf #[] 0), (xl, W.listOf (xP.map strV).toArray k1), (pl, W.listOf (pP.map strV).toArray k4), (ol, W.listOf (oP.map strV).toArray k5)] := by
  obtain ⟨xP, a1, b1⟩ := strsAre_values e1
  obtain ⟨pP, a4, b4⟩ := strsAre_values e4
  obtain ⟨oP, a5, b5⟩ := strsAre_values e5
  have c1 : A1 = (xP.map strV).toArray := by rw [show xP.map strV = A1.toList from a1.symm]
  have c4 : A4 = (pP.map strV).toArray := by rw [show pP.map strV = A4.toList from a4.symm]
  have c5 : A5 = (oP.map strV).toArray := by rw [show oP.map strV = A5.toList from a5.symm]
  subst c1 c4 c5
  exact ⟨xP, pP, oP, b1, b4, b5, by repeat (first | exact News.nil | refine News.cons (N _ (by k_mem)) ?_)⟩
/-- the lists are made, no token yet -/
theorem law0 (X : (Mine.hd.heap_39 w.params).In g) (T : Top Mine.hd.view_39 looseN mean mg mb g) (F : Fr g L h m) (m1 : m "script" = some (.ref sl))
    (hQ : ∀ h' m' tk' tl xl pl ol (xP pP oP : List (Str × Tok)), xP.map Prod.fst = othersL → pP.map Prod.fst = operandsL → oP.map Prod.fst = opsL → Fr g L h' m' → News g L h' [(tl, W.listOf #[] 0), (xl, W.listOf (xP.map strV).toArray 0), (pl, W.listOf (pP.map strV).toArray 0), (ol, W.listOf (oP.map strV).toArray 0)] →
      xl < tl ∧ pl < tl ∧ ol < tl → m' "script" = some (.ref sl) → m' "ops" = some (.ref ol) → m' "operands" = some (.ref pl) → m' "others" = some (.ref xl) → m' "tokens" = some (.ref tl) → Q .next ⟨h', gg, dd, tk', os⟩) :
    wpAny (model PySem.Challenge.rw_dv0011_01.row.prog w) A (execs ((bodyOf (Mine.hd.heap_39 w.params) 106).take 4) (envL w L fa cd)) Q E ⟨h, gg, dd, tk, os⟩ := by
  ((have hf9 : PySem.Challenge.rw_dv0011_01.row.prog = PySem.Challenge.rw_dv0011_01.row.prog ∧ Mine.hd.heap_39 = Mine.hd.heap_39 := by (k_fill; exact ⟨rfl, rfl⟩)); clear hf9)
  unfold envL at *
  rw [bodyOf_eq (a := 106) (by k_is) rfl, scopeOf_eq (a := 106) (by k_is)]
  have N : News g L h [] := News.nil
  dsimp only [List.take]
  repeat ((first | (k_unfold; (try dsimp only)) | walk1 | (dsimp only; walk1)))
  (with_reducible rename Fr _ _ _ _ => F2)
  (with_reducible rename News _ _ _ _ => N2)
  obtain ⟨xP, pP, oP, b1, b4, b5, N3⟩ := strs_news N2 (by repeat (first | exact .nil | refine .cons _ _ ?_)) (by repeat (first | exact .nil | refine .cons _ _ ?_)) (by repeat (first | exact .nil | refine .cons _ _ ?_))
  dsimp only
  refine hQ _ _ _ _ _ _ _ xP pP oP b1 b4 b5 F2 N3 ?_ m1 rfl rfl rfl rfl
  rename (_ < _ ∧ _ < _ ∧ _ < _ ∧ _ < _ ∧ _ < _) => l9
  exact ⟨l9.1, l9.2.2.2.1, l9.2.2.2.2⟩
theorem menu_ok : ∀ t ∈ menu, PyData.strOk t = true := by decide +kernel
theorem canLay_strs : ∀ (l : List Str), (∀ t ∈ l, PyData.strOk t = true) → PyData.canLayAll0 (l.map PyData.str) = true
  | [], _ => rfl
  | t :: l, h => by
    show (PyData.canLay0 (.str t) && PyData.canLayAll0 (l.map PyData.str)) = true
    rw [canLay_strs l (fun t ht => h t (.tail _ ht))]
    rw [show PyData.canLay0 (.str t) = PyData.strOk t by rw [PyData.canLay0], h t (.head _)]; rfl
theorem depth_strs : ∀ (l : List Str), PyData.depthAll (l.map PyData.str) = 0
  | [] => rfl
  | t :: l => by
    show max (PyData.depth (.str t)) (PyData.depthAll (l.map PyData.str)) = 0
    rw [depth_strs l, show PyData.depth (.str t) = 0 by rw [PyData.depth]]; rfl
theorem shaped_strs (l : List Str) (h : ∀ t ∈ l, PyData.strOk t = true) : PySem.SeqAt.shaped (.list (l.map PyData.str)) = true := by
  unfold PySem.SeqAt.shaped
  rw [show PyData.canLay0 (.list (l.map PyData.str)) = PyData.canLayAll0 (l.map PyData.str) by rw [PyData.canLay0], canLay_strs l h]
  rw [show PyData.depth (.list (l.map PyData.str)) = PyData.depthAll (l.map PyData.str) + 1 by rw [PyData.depth], depth_strs]; rfl
theorem reads_strs {h : Heap} {l : Addr} {ts : List (Str × Tok)} {k : Nat} (hl : h.get? l = some (W.listOf (ts.map strV).toArray k)) : Reads h (.ref l) (.list ((ts.map Prod.fst).map PyData.str)) [l] :=
  reads_list_at hl rfl rfl (StrsAre.reads h (strs_of ts))
theorem ne_empty {prog : Program} {s : Shared} {l e : Addr} {ts : List (Str × Tok)} {k k' : Nat} {Q : Value → Shared → Prop} (hm : ∀ p ∈ ts, p.1 ∈ menu) (hl : s.heap.get? l = some (W.listOf (ts.map strV).toArray k)) (he : s.heap.get? e = some (W.listOf #[] k')) (hu : A.units + 64 < cLine) (h : Q (.bool (!ts.isEmpty)) s) :
    wpAny (model prog w) A (compareOp .NotEq (.ref l) (.ref e)) Q E s := by
  refine ne_dataH (reads_strs hl) (reads_strs (ts := []) he) (shaped_strs _ fun t ht => ?_) rfl hu ?_
  · obtain ⟨p, hp, rfl⟩ := List.mem_map.mp ht
    exact menu_ok _ (hm p hp)
  · cases ts with
    | nil => exact h
    | cons p ts => exact h
/-- a list, at a place -/
theorem item_at {prog : Program} {s : Shared} {value slice : Expr} {l : Addr} {vs : Array Value} {j : Int} {u : Tok} {Q : Value → Shared → Prop} (hl : s.heap.IsList l vs) (h0 : 0 ≤ j) (h1 : j < vs.size) (hz : vs.size ≤ 1000) (h : ∀ v ∈ vs, Q v s)
    (hs : subscripted slice false (.ref l) (.int j u) = operate [.ref l, .int j u] (getItem (.ref l) (.int j u))) :
    wpAny (model prog w) A (subscriptTail value slice (.ref l) (.int j u)) Q E s := by
  have hlt : j.toNat < vs.size := by omega
  refine subscriptTail_builtinR (x := vs[j.toNat]) hl.typeIs PySem.F.slot_list_getitem.lookup (wpAny_getItem_list (Q := fun r s' => r = vs[j.toNat] ∧ Q r s') (x := vs[j.toNat]) hl h0 (by omega) (by simp [hlt]) ⟨rfl, h _ (Array.getElem_mem hlt)⟩) hs
theorem fmod_in (x : Int) {n : Int} (hn : 0 < n) : 0 ≤ x.fmod n ∧ x.fmod n < n := by
  rw [Int.fmod_eq_emod_of_nonneg x (Int.le_of_lt hn)]
  exact ⟨Int.emod_nonneg _ (by omega), Int.emod_lt_of_pos _ hn⟩
theorem in_menu {l : List Str} {ps : List (Str × Tok)} (e : ps.map Prod.fst = l) (hl : ∀ t ∈ l, t ∈ menu) {v : Value} (hv : v ∈ (ps.map strV).toArray) : ∃ y t, v = .str y t ∧ y ∈ menu := by
  rw [List.mem_toArray] at hv
  obtain ⟨p, hp, rfl⟩ := List.mem_map.mp hv
  exact ⟨p.1, p.2, rfl, hl _ (e ▸ List.mem_map.mpr ⟨p, hp, rfl⟩)⟩
theorem cat_menu {lits : List Value} {oP : List (Str × Tok)} (b5 : oP.map Prod.fst = opsL) (hl : ∀ v ∈ lits, ∃ y t, v = .str y t ∧ y ∈ menu) {v : Value} (hv : v ∈ (lits ++ oP.map strV).toArray) : ∃ y t, v = .str y t ∧ y ∈ menu := by
  rw [List.mem_toArray] at hv
  rcases List.mem_append.mp hv with h | h
  · exact hl v h
  · obtain ⟨p, hp, rfl⟩ := List.mem_map.mp h
    have hin : ∀ t ∈ opsL, t ∈ menu := by decide +kernel
    exact ⟨p.1, p.2, rfl, hin _ (b5 ▸ List.mem_map.mpr ⟨p, hp, rfl⟩)⟩
theorem others_in : ∀ t ∈ othersL, t ∈ menu := by decide +kernel
theorem operands_in : ∀ t ∈ operandsL, t ∈ menu := by decide +kernel
theorem ops_in : ∀ t ∈ opsL, t ∈ menu := by decide +kernel
/-- where the building stands before a turn -/
structure BuildAt (sl tl xl pl ol : Addr) (i : Nat) (m : Str → Option Value) (o : Obj) (ts : List (Str × Tok)) (k : Nat) : Prop where
  n2 : m "ops" = some (.ref ol)
  n3 : m "operands" = some (.ref pl)
  n4 : m "others" = some (.ref xl)
  n5 : m "tokens" = some (.ref tl)
  ho : o = W.listOf (ts.map strV).toArray k
  hm : ∀ p ∈ ts, p.1 ∈ menu
  hlen : ts.length = i
inductive Mid1 (g : Heap) (L : Addr) (gg : Array GenState) (dd : Drawn) (os : OsState) (news : List (Addr × Obj)) (ol pl xl tl : Addr) (x : Int) (tx : Tok) : Shared → Prop
  | mk (h : Heap) (m : Str → Option Value) (y : Str) (ty : Tok) (tk : Nat) (F : Fr g L h m) (N : News g L h news) (o1 : m "ops" = some (.ref ol)) (o2 : m "operands" = some (.ref pl)) (o3 : m "others" = some (.ref xl)) (o4 : m "tokens" = some (.ref tl)) (o5 : m "x" = some (.int x tx)) (o6 : m "last" = some (.str y ty)) (hy : y.length ≤ 3) :
    Mid1 g L gg dd os news ol pl xl tl x tx ⟨h, gg, dd, tk, os⟩
inductive Mid2 (g : Heap) (L : Addr) (gg : Array GenState) (dd : Drawn) (os : OsState) (news : List (Addr × Obj)) (ol pl xl tl : Addr) : Shared → Prop
  | mk (h : Heap) (m : Str → Option Value) (y : Str) (ty : Tok) (tk : Nat) (F : Fr g L h m) (N : News g L h news) (o1 : m "ops" = some (.ref ol)) (o2 : m "operands" = some (.ref pl)) (o3 : m "others" = some (.ref xl)) (o4 : m "tokens" = some (.ref tl)) (o5 : m "token" = some (.str y ty)) (hy : y ∈ menu) :
    Mid2 g L gg dd os news ol pl xl tl ⟨h, gg, dd, tk, os⟩
theorem law1 (X : (Mine.hd.heap_39 w.params).In g) (T : Top Mine.hd.view_39 looseN mean mg mb g) (hh : A.handled = none) (hun : A.units + 64 < cLine) (hE : PassesOwn (model PySem.Challenge.rw_dv0011_01.row.prog w) A (envL w L fa cd) E) (hl : g.IsList sl vs.toArray) (hi : IntsAre vs xs) (hlen : ¬ ((63 : Int) < xs.length))
    {tl xl pl ol : Addr} {xP pP oP : List (Str × Tok)} (b1 : xP.map Prod.fst = othersL) (b4 : pP.map Prod.fst = operandsL) (b5 : oP.map Prod.fst = opsL) (F : Fr g L h m) (N : News g L h [(tl, W.listOf #[] 0), (xl, W.listOf (xP.map strV).toArray 0), (pl, W.listOf (pP.map strV).toArray 0), (ol, W.listOf (oP.map strV).toArray 0)])
    (hlt : xl < tl ∧ pl < tl ∧ ol < tl) (n1 : m "script" = some (.ref sl)) (n2 : m "ops" = some (.ref ol)) (n3 : m "operands" = some (.ref pl)) (n4 : m "others" = some (.ref xl)) (n5 : m "tokens" = some (.ref tl))
    (hQ : ∀ h' m' tk' (ts : List (Str × Tok)) k, Fr g L h' m' → News g L h' [(tl, W.listOf (ts.map strV).toArray k), (ol, W.listOf (oP.map strV).toArray 0)] → (∀ p ∈ ts, p.1 ∈ menu) → ts.length ≤ 63 → m' "ops" = some (.ref ol) → m' "tokens" = some (.ref tl) → Q .next ⟨h', gg, dd, tk', os⟩) :
    wpAny (model PySem.Challenge.rw_dv0011_01.row.prog w) A (execs (((bodyOf (Mine.hd.heap_39 w.params) 106).drop 4).take 1) (envL w L fa cd)) Q E ⟨h, gg, dd, tk, os⟩ := by
  ((have hf9 : PySem.Challenge.rw_dv0011_01.row.prog = PySem.Challenge.rw_dv0011_01.row.prog ∧ Mine.hd.heap_39 = Mine.hd.heap_39 := by (k_fill; exact ⟨rfl, rfl⟩)); clear hf9)
  unfold envL at *
  rw [bodyOf_eq (a := 106) (by k_is) rfl, scopeOf_eq (a := 106) (by k_is)]
  rw [scopeOf_eq (a := 106) (by k_is)] at hE
  dsimp only [List.take, List.drop] at hE ⊢
  refine wpAny_execs_cons (For_invV g rfl rfl ?_ (by intro _; rfl) hE)
  repeat ((first | (k_unfold; (try dsimp only)) | walk1 | (dsimp only; walk1)))
  (with_reducible rename Fr _ _ _ _ => F2)
  (with_reducible rename News _ _ _ _ => N2)
  rename_i D ws h2 hI hC hL l1
  obtain ⟨l1, l2, l3, l4⟩ := l1
  have N3 : News g L h2 ((tl, W.listOf #[] 0) :: [(D, W.listOf ws.toArray 0), (xl, W.listOf (xP.map strV).toArray 0), (pl, W.listOf (pP.map strV).toArray 0), (ol, W.listOf (oP.map strV).toArray 0)]) := by repeat (first | exact News.nil | refine News.cons (N2 _ (by k_mem)) ?_)
  clear N2
  have hxl : xP.length = 16 := by have := congrArg List.length b1; rw [List.length_map] at this; exact this
  have hol : oP.length = 13 := by have := congrArg List.length b5; rw [List.length_map] at this; exact this
  have hpl : pP.length = 16 := by have := congrArg List.length b4; rw [List.length_map] at this; exact this
  refine loop_list (op := tl) hh F2 N3 (.head _) ?_ (fun i m o => ∃ ts k, BuildAt sl tl xl pl ol i m o ts k) ⟨[], 0, n2, n3, n4, n5, rfl, (fun _ h => nomatch h), rfl⟩ ?_ ?_
  · exact List.forall_mem_cons.mpr ⟨Nat.ne_of_gt l1, List.forall_mem_cons.mpr ⟨Nat.ne_of_lt hlt.1, List.forall_mem_cons.mpr ⟨Nat.ne_of_lt hlt.2.1, List.forall_mem_cons.mpr ⟨Nat.ne_of_lt hlt.2.2, fun _ h => nomatch h⟩⟩⟩⟩
  · clear F2 N3
    rintro I io i v h tk1 m₁ o₁ hv ⟨ts, k, n2, n3, n4, n5, rfl, hmt, hln⟩ hI1 hI2 F N
    obtain ⟨x, tx, rfl, _⟩ := hI.at i v (by simpa using hv)
    have hi63 : i < 63 := by
      have h1 : i < ws.length := by
        have := (Array.getElem?_eq_some_iff.mp hv).1
        simpa using this
      have h2 := hI.length
      omega
    obtain ⟨m2, F2, o1, o2, o3, o4, o5⟩ : ∃ m2, Fr g L h m2 ∧ m2 "ops" = some (.ref ol) ∧ m2 "operands" = some (.ref pl) ∧ m2 "others" = some (.ref xl) ∧ m2 "tokens" = some (.ref tl) ∧ m2 "x" = some (.int x tx) := ⟨_, F, n2, n3, n4, n5, rfl⟩
    clear F n2 n3 n4 n5
    change News g L h _ at N
    refine wpAny_joinS (Mid1 g L gg dd os [(tl, W.listOf (ts.map strV).toArray k), (I, io), (D, W.listOf ws.toArray 0), (xl, W.listOf (xP.map strV).toArray 0), (pl, W.listOf (pP.map strV).toArray 0), (ol, W.listOf (oP.map strV).toArray 0)] ol pl xl tl x tx) ?_ ?_
    · intro Q9 hQ9
      iterate 7 (first | (k_unfold; (try dsimp only)) | walk1 | (dsimp only; walk1))
      (with_reducible rename Fr _ _ _ _ => F3)
      (with_reducible rename News _ _ _ _ => N3)
      refine ne_empty hmt (N3 _ (.tail _ (.head _))).1 (N3 _ (.head _)).1 hun ?_
      (first | (k_unfold; (try dsimp only)) | walk1 | (dsimp only; walk1))
      rcases List.eq_nil_or_concat ts with hts | ⟨ts', q, hts⟩
      · subst hts
        refine ite_neg (by decide) ?_
        repeat ((first | (k_unfold; (try dsimp only)) | walk1 | (dsimp only; walk1)))
        (with_reducible rename Fr _ _ _ _ => F4)
        (with_reducible rename News _ _ _ _ => N4)
        exact hQ9 _ (.mk _ _ _ _ _ F4 (News.tail N4) o1 o2 o3 o4 o5 rfl (by decide))
      · rw [List.concat_eq_append] at hts
        refine ite_pos (by rw [hts]; simp) ?_
        iterate 5 (first | (k_unfold; (try dsimp only)) | walk1 | (dsimp only; walk1))
        have hq1 := (N3 (tl, W.listOf (ts.map strV).toArray k) (.tail _ (.head _))).1
        rw [hts, List.map_append] at hq1
        have hL6 : Heap.IsList _ tl (List.map strV ts' ++ [strV q]).toArray := ⟨_, hq1, rfl, k, rfl⟩
        refine last_at hL6 ?_ (by with_unfolding_all rfl)
        repeat ((first | (k_unfold; (try dsimp only)) | walk1 | (dsimp only; walk1)))
        (with_reducible rename Fr _ _ _ _ => F4)
        (with_reducible rename News _ _ _ _ => N4)
        exact hQ9 _ (.mk _ _ _ _ _ F4 (News.tail N4) o1 o2 o3 o4 o5 rfl (menu_len _ (hmt q (by rw [hts]; simp))))
    · rintro _ ⟨h, m, y, ty, tk, F, N, o1, o2, o3, o4, o5, o6, hy⟩
      refine wpAny_joinS (Mid2 g L gg dd os [(tl, W.listOf (ts.map strV).toArray k), (I, io), (D, W.listOf ws.toArray 0), (xl, W.listOf (xP.map strV).toArray 0), (pl, W.listOf (pP.map strV).toArray 0), (ol, W.listOf (oP.map strV).toArray 0)] ol pl xl tl) ?_ ?_
      · intro Q9 hQ9
        repeat' ((first | (k_unfold; (try dsimp only)) | walk1 | (dsimp only; walk1)))
        · (with_reducible rename Fr _ _ _ _ => F4)
          (with_reducible rename News _ _ _ _ => N4)
          have hL6 : Heap.IsList _ xl (xP.map strV).toArray := ⟨_, (N4 (xl, W.listOf (xP.map strV).toArray 0) (by k_mem)).1, rfl, 0, rfl⟩
          refine item_at hL6 (fmod_in x (by decide)).1 (by rw [List.size_toArray, List.length_map, hxl]; exact (fmod_in x (by decide)).2) (by rw [List.size_toArray, List.length_map, hxl]; decide) ?_ (by with_unfolding_all rfl)
          intro v hv
          obtain ⟨y, t, rfl, hy⟩ := in_menu b1 others_in hv
          have hyl := menu_len y hy
          repeat' ((first | (k_unfold; (try dsimp only)) | walk1 | (dsimp only; walk1)))
          · (with_reducible rename Fr _ _ _ _ => F5)
            (with_reducible rename News _ _ _ _ => N5)
            have hL7 : Heap.IsList _ _ _ := ⟨_, (N5 _ (.head _)).1, rfl, 0, rfl⟩
            have hb9 := (fmod_in (x.fdiv 16) (n := 19) (by decide)).2
            refine item_at hL7 (fmod_in _ (by decide)).1 (by simp only [List.size_toArray, List.length_cons, List.length_map, hol]; omega) (by simp only [List.size_toArray, List.length_cons, List.length_map, hol]; omega) ?_ (by with_unfolding_all rfl)
            intro v hv
            have hv9 : ∃ y t, v = .str y t ∧ y ∈ menu := by
              rw [List.mem_toArray] at hv
              repeat (cases hv with | head => exact ⟨_, _, rfl, by decide⟩ | tail _ hv => ?_)
              exact in_menu b5 ops_in (List.mem_toArray.mpr hv)
            obtain ⟨y, t, rfl, hy⟩ := hv9
            repeat' ((first | (k_unfold; (try dsimp only)) | walk1 | (dsimp only; walk1)))
            (with_reducible rename Fr _ _ _ _ => F8)
            (with_reducible rename News _ _ _ _ => N8)
            exact hQ9 _ (.mk _ _ _ _ _ F8 (by repeat (first | exact News.nil | refine News.cons (N8 _ (by k_mem)) ?_)) o1 o2 o3 o4 rfl hy)
          · (with_reducible rename Fr _ _ _ _ => F8)
            (with_reducible rename News _ _ _ _ => N8)
            exact hQ9 _ (.mk _ _ _ _ _ F8 (by repeat (first | exact News.nil | refine News.cons (N8 _ (by k_mem)) ?_)) o1 o2 o3 o4 rfl hy)
        · (with_reducible rename Fr _ _ _ _ => F4)
          (with_reducible rename News _ _ _ _ => N4)
          have hL6 : Heap.IsList _ xl (xP.map strV).toArray := ⟨_, (N4 (xl, W.listOf (xP.map strV).toArray 0) (by k_mem)).1, rfl, 0, rfl⟩
          refine item_at hL6 (fmod_in x (by decide)).1 (by rw [List.size_toArray, List.length_map, hxl]; exact (fmod_in x (by decide)).2) (by rw [List.size_toArray, List.length_map, hxl]; decide) ?_ (by with_unfolding_all rfl)
          intro v hv
          obtain ⟨y, t, rfl, hy⟩ := in_menu b1 others_in hv
          have hyl := menu_len y hy
          repeat' ((first | (k_unfold; (try dsimp only)) | walk1 | (dsimp only; walk1)))
          · (with_reducible rename Fr _ _ _ _ => F5)
            (with_reducible rename News _ _ _ _ => N5)
            have hL7 : Heap.IsList _ _ _ := ⟨_, (N5 _ (.head _)).1, rfl, 0, rfl⟩
            have hb9 := (fmod_in (x.fdiv 16) (n := 19) (by decide)).2
            refine item_at hL7 (fmod_in _ (by decide)).1 (by simp only [List.size_toArray, List.length_cons, List.length_map, hol]; omega) (by simp only [List.size_toArray, List.length_cons, List.length_map, hol]; omega) ?_ (by with_unfolding_all rfl)
            intro v hv
            have hv9 : ∃ y t, v = .str y t ∧ y ∈ menu := by
              rw [List.mem_toArray] at hv
              repeat (cases hv with | head => exact ⟨_, _, rfl, by decide⟩ | tail _ hv => ?_)
              exact in_menu b5 ops_in (List.mem_toArray.mpr hv)
            obtain ⟨y, t, rfl, hy⟩ := hv9
            repeat' ((first | (k_unfold; (try dsimp only)) | walk1 | (dsimp only; walk1)))
            (with_reducible rename Fr _ _ _ _ => F8)
            (with_reducible rename News _ _ _ _ => N8)
            exact hQ9 _ (.mk _ _ _ _ _ F8 (by repeat (first | exact News.nil | refine News.cons (N8 _ (by k_mem)) ?_)) o1 o2 o3 o4 rfl hy)
          · (with_reducible rename Fr _ _ _ _ => F8)
            (with_reducible rename News _ _ _ _ => N8)
            exact hQ9 _ (.mk _ _ _ _ _ F8 (by repeat (first | exact News.nil | refine News.cons (N8 _ (by k_mem)) ?_)) o1 o2 o3 o4 rfl hy)
        · (with_reducible rename Fr _ _ _ _ => F4)
          (with_reducible rename News _ _ _ _ => N4)
          have hL6 : Heap.IsList _ pl (pP.map strV).toArray := ⟨_, (N4 (pl, W.listOf (pP.map strV).toArray 0) (by k_mem)).1, rfl, 0, rfl⟩
          refine item_at hL6 (fmod_in x (by decide)).1 (by rw [List.size_toArray, List.length_map, hpl]; exact (fmod_in x (by decide)).2) (by rw [List.size_toArray, List.length_map, hpl]; decide) ?_ (by with_unfolding_all rfl)
          intro v hv
          obtain ⟨y, t, rfl, hy⟩ := in_menu b4 operands_in hv
          have hyl := menu_len y hy
          repeat' ((first | (k_unfold; (try dsimp only)) | walk1 | (dsimp only; walk1)))
          · (with_reducible rename Fr _ _ _ _ => F5)
            (with_reducible rename News _ _ _ _ => N5)
            have hL7 : Heap.IsList _ _ _ := ⟨_, (N5 _ (.head _)).1, rfl, 0, rfl⟩
            have hb9 := (fmod_in (x.fdiv 16) (n := 17) (by decide)).2
            refine item_at hL7 (fmod_in _ (by decide)).1 (by simp only [List.size_toArray, List.length_cons, List.length_map, hol]; omega) (by simp only [List.size_toArray, List.length_cons, List.length_map, hol]; omega) ?_ (by with_unfolding_all rfl)
            intro v hv
            have hv9 : ∃ y t, v = .str y t ∧ y ∈ menu := by
              rw [List.mem_toArray] at hv
              repeat (cases hv with | head => exact ⟨_, _, rfl, by decide⟩ | tail _ hv => ?_)
              exact in_menu b5 ops_in (List.mem_toArray.mpr hv)
            obtain ⟨y, t, rfl, hy⟩ := hv9
            repeat' ((first | (k_unfold; (try dsimp only)) | walk1 | (dsimp only; walk1)))
            (with_reducible rename Fr _ _ _ _ => F8)
            (with_reducible rename News _ _ _ _ => N8)
            exact hQ9 _ (.mk _ _ _ _ _ F8 (by repeat (first | exact News.nil | refine News.cons (N8 _ (by k_mem)) ?_)) o1 o2 o3 o4 rfl hy)
          · (with_reducible rename Fr _ _ _ _ => F8)
            (with_reducible rename News _ _ _ _ => N8)
            exact hQ9 _ (.mk _ _ _ _ _ F8 (by repeat (first | exact News.nil | refine News.cons (N8 _ (by k_mem)) ?_)) o1 o2 o3 o4 rfl hy)
      · clear F N o1 o2 o3 o4 o5 o6
        rintro _ ⟨h, m, y, ty, tk, F, N, o1, o2, o3, o4, o5, hy⟩
        repeat ((first | (k_unfold; (try dsimp only)) | walk1 | (dsimp only; walk1)))
        refine append_K F N (Upd.head ?hd) (fun h' F' N' => ?_) ?hz
        case hd =>
          exact List.forall_mem_cons.mpr ⟨hI1, List.forall_mem_cons.mpr ⟨Nat.ne_of_gt l1, List.forall_mem_cons.mpr ⟨Nat.ne_of_lt hlt.1, List.forall_mem_cons.mpr ⟨Nat.ne_of_lt hlt.2.1, List.forall_mem_cons.mpr ⟨Nat.ne_of_lt hlt.2.2, fun _ h => nomatch h⟩⟩⟩⟩⟩
        case hz => rw [List.size_toArray, List.length_map, sizeLine_eq]; omega
        dsimp only at F' N' ⊢
        repeat ((first | (k_unfold; (try dsimp only)) | walk1 | (dsimp only; walk1)))
        refine ⟨rfl, _, _, _, _, rfl, F', N', ts ++ [(y, ty)], k + 1, o1, o2, o3, o4, by simp, ?_, by rw [List.length_append, hln]; rfl⟩
        intro p hp
        rcases List.mem_append.mp hp with hp | hp
        · exact hmt p hp
        · rw [List.mem_singleton.mp hp]; exact hy
  · rintro h' tk m' o' F' N' ⟨ts, k, n2, n3, n4, n5, rfl, hmt, hln⟩
    have h2 := hI.length
    exact wpAny_execs_nil (hQ _ _ _ ts k F' (by repeat (first | exact News.nil | refine News.cons (N' _ (by k_mem)) ?_)) hmt (by simp at hln; omega) n2 n5)
end
theorem fresh_PvLaw2 : True := by w_top off; trivial
set_option maxRecDepth 100000
set_option maxHeartbeats 4000000
section
variable {w : World} {A : Around} {mean : ExcName → Option Value} {mg mb : Str → Option Value} {E : Value → Shared → Prop} {g : Heap} {L fa sl tl ol : Addr} {cd : Value} {m : Str → Option Value} {ts oP : List (Str × Tok)} {k : Nat}
  {h : Heap} {gg : Array GenState} {dd : Drawn} {tk : Nat} {os : OsState} {Q : Flow → Shared → Prop}
noncomputable abbrev dueO (b : Bool) (msg : Str) (mk : Tok) (pl : Nat) (pk : Tok) : Obj := { cls := .type "tuple", data := .seq #[.bool b, .str msg mk, .int (pl : Nat) pk] }
theorem all_made {a b c : Tok} : (ts.map strV ++ [Value.str (Str.ofString "") a, Value.str (Str.ofString "n") b, Value.str (Str.ofString "*") c]) = (ts ++ [(Str.ofString "", a), (Str.ofString "n", b), (Str.ofString "*", c)]).map strV := by simp
theorem all_facts (hm : ∀ p ∈ ts, p.1 ∈ menu) (hlen : ts.length ≤ 63) (a b c : Tok) : (∀ p ∈ ts ++ [(Str.ofString "", a), (Str.ofString "n", b), (Str.ofString "*", c)], p.1 ∈ menu) ∧ (ts ++ [(Str.ofString "", a), (Str.ofString "n", b), (Str.ofString "*", c)]).length ≤ 66 ∧ HasEnd (ts ++ [(Str.ofString "", a), (Str.ofString "n", b), (Str.ofString "*", c)]) := by
  refine ⟨fun p hp => ?_, by rw [List.length_append]; show ts.length + 3 ≤ 66; omega, ⟨_, List.mem_append.mpr (.inr (.head _)), rfl⟩⟩
  rcases List.mem_append.mp hp with h | h
  · exact hm p h
  · simp only [List.mem_cons, List.not_mem_nil, or_false] at h
    rcases h with rfl | rfl | rfl
    · exact (by decide : Str.ofString "" ∈ menu)
    · exact (by decide : Str.ofString "n" ∈ menu)
    · exact (by decide : Str.ofString "*" ∈ menu)
theorem iter_list {prog : Program} {s : Shared} {news : List (Addr × Obj)} {l : Addr} {items : Array Value} {Q : Value → Shared → Prop} (F : Fr g L s.heap m) (N : News g L s.heap news) (hl : s.heap.IsList l items)
    (h : ∀ (I : Addr) h', Fr g L h' m → News g L h' ((I, itObj l 0) :: news) → Q (.ref I) { s with heap := h' }) : wpAny (model prog w) A (call (.builtin "iter") [.ref l]) Q E s := by
  refine call_function_entry (by decide +kernel) (by decide +kernel) kdk_entry_iter (kdk_args_iter _) ?_
  unfold Builtin.«iter»
  refine wpAny_bind (m := someArgs "iter" 1 2 _) (wpAny_of_eq (a := [Value.ref l]) (by first | rfl | kernel_rfl!) ?_)
  show wpAny _ _ (pyIter (.ref l) >>= _) _ _ _
  refine wpAny_bind (wpAny_pyIter_list hl ?_)
  exact wpAny_pure ⟨_, rfl, h _ _ (F.push _) (News.push F N _ rfl)⟩
theorem law2 (X : (Mine.hd.heap_39 w.params).In g) (T : Top Mine.hd.view_39 looseN mean mg mb g) (hh : A.handled = none) (hun : A.units + 64 < cLine) (hroom : A.depth + 2 < recursionLimit) (b5 : oP.map Prod.fst = opsL) (F : Fr g L h m) (N : News g L h [(tl, W.listOf (ts.map strV).toArray k), (ol, W.listOf (oP.map strV).toArray 0)])
    (hm : ∀ p ∈ ts, p.1 ∈ menu) (hlen : ts.length ≤ 63) (n2 : m "ops" = some (.ref ol)) (n5 : m "tokens" = some (.ref tl))
    (hQ : ∀ h' m' tk' (all : List (Str × Tok)) l it due b msg mk left pl pk, Fr g L h' m' → News g L h' [(it, itObj l 0), (due, dueO b msg mk pl pk), (l, W.listOf (all.map strV).toArray 0)] → (∀ p ∈ all, p.1 ∈ menu) → all.length ≤ 66 → HasEnd all → walk true [] (firsts all) = some (b, msg, left) → pl + left + 1 = all.length →
      m' "tokens" = some (.ref l) → m' "due" = some (.ref due) → m' "given" = some (.ref it) → Q .next ⟨h', gg, dd, tk', os⟩) :
    wpAny (model PySem.Challenge.rw_dv0011_01.row.prog w) A (execs (((bodyOf (Mine.hd.heap_39 w.params) 106).drop 5).take 3) (envL w L fa cd)) Q E ⟨h, gg, dd, tk, os⟩ := by
  ((have hf9 : PySem.Challenge.rw_dv0011_01.row.prog = PySem.Challenge.rw_dv0011_01.row.prog ∧ Mine.hd.heap_39 = Mine.hd.heap_39 := by (k_fill; exact ⟨rfl, rfl⟩)); clear hf9)
  unfold envL at *
  rw [bodyOf_eq (a := 106) (by k_is) rfl, scopeOf_eq (a := 106) (by k_is)]
  dsimp only [List.take, List.drop]
  repeat ((first | (k_unfold; (try dsimp only)) | walk1 | (dsimp only; walk1)))
  (with_reducible rename Fr _ _ _ _ => F2)
  (with_reducible rename News _ _ _ _ => N2)
  dsimp only at F2 N2 ⊢
  rw [all_made] at N2
  obtain ⟨f1, f2, f3⟩ := all_facts hm hlen _ _ _
  refine walk_call (ops := oP) (X.keeps F2.keep) (T.keeps F2.keep) hh (by omega) (by omega) ⟨_, (N2 _ (.head _)).1, rfl, 0, rfl⟩ ⟨_, (N2 (ol, W.listOf (oP.map strV).toArray 0) (by k_mem)).1, rfl, 0, rfl⟩ b5 f1 (by omega) f3 ?_
  intro h5 tk5 b msg mk left pl pk tup hw hpl hk5 hnew hget
  have F3 := fr_ext F2 hk5
  have N3 := news_ext N2 hk5
  have hne : tup ≠ L := fun z => by
    obtain ⟨oL, _, _, hoL, _⟩ := F2.ns
    rw [← z] at hoL
    exact absurd (hoL.symm.trans hnew) (by simp)
  have N4 := News.cons (p := (tup, dueO b msg mk pl pk)) ⟨hget, hne, none_of_keep F2.keep hnew⟩ N3
  clear N3 N2 F2
  dsimp only at N4 ⊢
  repeat ((first | (k_unfold; (try dsimp only)) | walk1 | (dsimp only; walk1)))
  (with_reducible rename Fr _ _ _ _ => F5)
  (with_reducible rename News _ _ _ _ => N5)
  refine' iter_list ?F ?N ?hl ?_
  case F => exact F5
  case N => exact N5
  case hl => exact ⟨_, (N5 _ (.tail _ (.head _))).1, rfl, 0, rfl⟩
  clear N5 F5
  intro I h7 F7 N7
  dsimp only at F7 N7 ⊢
  repeat ((first | (k_unfold; (try dsimp only)) | walk1 | (dsimp only; walk1)))
  (with_reducible rename Fr _ _ _ _ => F8)
  (with_reducible rename News _ _ _ _ => N8)
  exact hQ _ _ _ _ _ _ _ _ _ mk left pl pk F8 (by repeat (first | exact News.nil | refine News.cons (N8 _ (by k_mem)) ?_)) f1 f2 f3 hw hpl rfl rfl rfl
end
theorem fresh_PvC3 : True := by w_top off; trivial
set_option maxRecDepth 100000
set_option maxHeartbeats 400000
section
variable {M : Model} {A : Around} {E : Value → Shared → Prop} {s : Shared} {env : Env}
theorem splicedC_last {e : Expr} {pos : Pos} {Q : List Value → Shared → Prop} (h : wpC M A (eval e env) (fun v s₁ => Q [v] s₁) E s) (he : starEach [e] env = [(false, eval e env)]) : wpC M A (spliced (backTo pos (starEach [e] env))) Q E s := by
  rw [he]
  show wpC M A (do let v ← eval e env; let here ← pure [v]; return here ++ (← holding here (spliced []))) Q E s
  refine wpC_bind (wpC_mono h (fun v s₁ h₁ => ?_) fun _ _ x => x)
  refine wpC_bindA (wpAny_pure ?_)
  exact wpC_of (wpAny_bind (wpAny_holding (wpAny_pure (wpAny_pure h₁))))
theorem splicedC_first {e : Expr} {rest : List Expr} {pos : Pos} {Q : List Value → Shared → Prop} (h : wpAny M A (eval e env) (fun v s₁ => wpC M A (spliced (backTo pos (starEach rest env))) (fun vs s₂ => Q (v :: vs) s₂) E s₁) E s) (he : starEach (e :: rest) env = (false, eval e env) :: starEach rest env) : wpC M A (spliced (backTo pos (starEach (e :: rest) env))) Q E s := by
  rw [he]
  show wpC M A (do let v ← eval e env; let here ← pure [v]; return here ++ (← holding here (spliced (backTo pos (starEach rest env))))) Q E s
  refine wpC_bindA (wpAny_mono h (fun v s₁ h₁ => ?_) fun _ _ x => x)
  refine wpC_bindA (wpAny_pure ?_)
  exact wpC_bind (wpC_holding (wpC_mono h₁ (fun vs s₂ q => wpC_pure q) fun _ _ x => x))
theorem wpC_Tuple {elts : List Expr} {k : Nat} {pos : Pos} {Q : Value → Shared → Prop} (h : wpC M A (spliced (backTo pos (starEach elts env))) (fun vs s₁ => wpAny M A (newTuple vs) Q E s₁) E s) : wpC M A (eval (.Tuple elts k pos) env) Q E s := by
  rw [arm_eval_Tuple]
  exact wpC_bindA (wpAny_standAt (wpC_bind (wpC_mono h (fun vs s₁ h₁ => wpC_of h₁) fun _ _ x => x)))
theorem wpC_Subscript {value slice : Expr} {pos : Pos} {Q : Value → Shared → Prop} (h : wpC M A (eval value env) (fun o s₁ => wpAny M A (eval slice env) (fun i s₂ => wpAny M A (subscriptTail value slice o i) Q E s₂) E s₁) E s) : wpC M A (eval (.Subscript value slice pos) env) Q E s := by
  rw [arm_eval_Subscript]
  refine wpC_bind (wpC_mono h (fun o s₁ h₁ => wpC_of ?_) fun _ _ x => x)
  exact wpAny_bind (wpAny_holding (wpAny_mono h₁ (fun i s₂ h₂ => wpAny_bind (wpAny_standAt h₂)) fun _ _ x => x))
end
theorem fresh_PvIter : True := by w_top off; trivial
set_option maxRecDepth 100000
/-! list(iterator): what a list's iterator has left -/
theorem walks_from {prog : Program} {w : World} {A : Around} (hh : A.handled = none) (I ax : Addr) (hne : ax ≠ I) (items : Array Value) (j : Nat) :
    Walks prog w A I [I, ax] [I] (items.size - j) (fun i v => items[j + i]? = some v) (fun i h => h.IsListIter I ax (j + i) ∧ h.IsList ax items) where
  sub := fun b hb => by simp at hb; simp [hb]
  frame := fun _ _ _ st hk => ⟨st.1.at fun o e => hk I (by simp) o e, st.2.at fun o e => hk ax (by simp) o e⟩
  item := fun i s Q E hi st hQ => by
    have hlt : j + i < items.size := by omega
    refine wpAny_pyNext_list_item st.1 st.2 (x := items[j + i]) (by simp [hlt]) fun h' hit' hs' => ?_
    exact hQ _ h' s.toks (by simp [hlt]) ⟨by rw [← Nat.add_assoc]; exact hit', st.2.extBut hs'.extBut hne⟩ fun b o hb e => hs'.extBut b o (fun h => hb (by simp [h])) e
  done := fun s Q E st hQ => wpAny_pyNext_list_end hh st.1 st.2 (Array.getElem?_eq_none (by omega)) fun h' he' => hQ h' s.toks fun b o hb e => he' b o (fun h => hb (by simp [h])) e
  self := fun _ _ _ _ st hQ => wpAny_pyIter_listiter st.1 hQ
section
variable {prog : Program} {w : World} {A : Around} {E : Value → Shared → Prop} {s : Shared} {R : Result → Shared → Prop}
variable {I : Addr} {fp wr : List Addr} {G : Array GenState → Array GenState → Prop} {n : Nat} {P : Nat → Value → Prop} {St : Nat → Shared → Prop}
theorem extend_iter (W : WalksS prog w A.in1 I fp wr G n P St) (hT : ∀ i s, St i s → s.TypeIs (.ref I) "list_iterator") (S : Addr) (res : Value) (c₀ : Nat) (hst : St 0 s) (hSf : S ∉ fp) (hI : I ∈ fp)
    (hS : s.heap.get? S = some { cls := .type "list", data := .seq #[] c₀ })
    (hR : ∀ s' acc' c', Moved (S :: wr) G s s' → s'.heap.get? S = some { cls := .type "list", dict := none, data := .seq acc' c', slots := #[] } → ItemsOf P acc' n → R (.ok (.ret res)) s') (hn : n ≤ sizeLine) :
    wpAny (model prog w) A.in1 (Builtin.List.listExtendWith (.ref S) (.ref I) res)
      (fun fin s' => match fin with | .done f => R (.ok f) s' | .again c' => c'.quiet = true ∧ codeAny (model prog w) A c' R s') (fun e s' => R (.error e) s') s := by
  have hSI : S ≠ I := fun e => hSf (e ▸ hI)
  unfold Builtin.List.listExtendWith
  refine wpAny_bind (wpAny_typeOf (hT 0 _ hst) ?_)
  have h1 : Builtin.List.listSameRef (.ref S) (.ref I) = false := by simp [Builtin.List.listSameRef, hSI]
  have h2 : (Value.type "list_iterator" == Value.type "list") = false := by decide
  have h3 : (Value.type "list_iterator" == Value.type "tuple") = false := by decide
  simp only [h1, h2, h3, Bool.or_false, Bool.false_eq_true, if_false]
  refine wpAny_bind (W.self 0 _ _ _ hst ?_)
  refine wpAny_bind (wpAny_holding ?_)
  unfold Builtin.List.listLengthHint
  refine wpAny_bind (wpAny_specialOf (hT 0 _ hst) PySem.F.nolen_li ?_)
  show wpAny _ A.in1 (specialOf (Value.ref I) (Str.ofString "__length_hint__") >>= _) _ _ _
  refine wpAny_bind (wpAny_specialOf (hT 0 _ hst) PySem.F.hint_li ?_)
  (generalize hid : ("list_iterator.__length_hint__" : String) = id0; (fail_if_success (clear hid id0)); wp_delta; rw [show splitId id0 = some ("list_iterator", "__length_hint__") from by subst hid; decide +kernel]; subst hid)
  refine wpAny_bind (wpAny_isInstance (b := true) (hT 0 _ hst) (by rw [isSubtype_type]; kernel_rfl) ?_)
  refine wpAny_pure ?_
  rw [if_neg (by decide)]
  refine wpAny_pure ⟨plainId_quiet PySem.F.plain_extend_loop _, codeAny_extend_loopS W hn _ hSf _ n 0 _ _ _ rfl (Nat.zero_le _) hst hS (ItemsOf.nil P) fun s' acc' c' hm hS' hacc => hR s' acc' c' hm hS' hacc⟩
theorem call_list_iter {Q : Value → Shared → Prop} (W : WalksS prog w A.in1.in1 I fp wr G n P St) (hT : ∀ i s, St i s → s.TypeIs (.ref I) "list_iterator") (hst : St 0 s) (hfp : ∀ b ∈ fp, b < s.heap.objs.size) (hI : I ∈ fp)
    (hQ : ∀ s' acc' c', Moved (s.heap.objs.size :: wr) G { s with heap := s.heap.push { cls := .type "list", data := .seq #[] } } s' →
      s'.heap.get? s.heap.objs.size = some { cls := .type "list", dict := none, data := .seq acc' c', slots := #[] } → ItemsOf P acc' n → Q (.ref s.heap.objs.size) s') (hn : n ≤ sizeLine) :
    wpAny (model prog w) A (call (.type "list") [.ref I]) Q E s := by
  have hSf : s.heap.objs.size ∉ fp := fun hm => Nat.lt_irrefl _ (hfp _ hm)
  refine callType_codes (Q₁ := fun obj s₁ => obj = .ref s.heap.objs.size ∧ s₁ = { s with heap := s.heap.push { cls := .type "list", data := .seq #[] } }) PySem.F.called_list (PySem.F.typeCall_list_1 _) PySem.F.entry_list_init
    (code_list_new _ ⟨rfl, rfl⟩) fun obj s₁ h₁ => ?_
  obtain ⟨rfl, rfl⟩ := h₁
  have hS : (s.heap.push { cls := .type "list", data := .seq #[] }).get? s.heap.objs.size = some { cls := .type "list", data := .seq #[] } := Heap.get?_push_size _ rfl
  refine ⟨⟨_, hS, rfl⟩, PySem.F.args_list_init_2 _ _, ?_⟩
  have hst1 := W.frame 0 s (s.heap.push { cls := .type "list", data := .seq #[] }) s.toks hst (Nat.le_refl _) fun b _ o e => Heap.get?_push_of_some _ e
  generalize hs1 : ({ s with heap := s.heap.push { cls := .type "list", data := .seq #[] } } : Shared) = s1 at hQ hst1 ⊢
  have hS : s1.heap.get? s.heap.objs.size = some { cls := .type "list", data := .seq #[] } := by rw [← hs1]; exact hS
  show wpAny _ _ (do let old ← Builtin.List.listItems (.ref s.heap.objs.size); Builtin.List.listUpdate (.ref s.heap.objs.size) (fun _ => #[]); letGo old.toList.reverse; Builtin.List.listExtendWith (.ref s.heap.objs.size) (.ref I) .none) _ _ _
  refine wpAny_bind ?_
  unfold Builtin.List.listItems
  refine wpAny_bind (wpAny_seqItems hS rfl (wpAny_pure ?_))
  show wpAny _ _ (updateSeq s.heap.objs.size (fun _ => #[]) >>= fun _ => letGo (#[] : Array Value).toList.reverse >>= fun _ => Builtin.List.listExtendWith (.ref s.heap.objs.size) (.ref I) .none) _ _ s1
  refine wpAny_bind (wpAny_updateSeq hS rfl ?_)
  have hS₂ := Heap.get?_update_self (Obj.mapSeq (fun _ => (#[] : Array Value))) hS rfl
  have oth : ∀ b o, b ≠ s.heap.objs.size → s1.heap.get? b = some o → (s1.heap.update s.heap.objs.size (Obj.mapSeq (fun _ => (#[] : Array Value)))).get? b = some o :=
    fun b o hb e => (Heap.get?_update_other _ _ (Ne.symm hb)).trans e
  refine wpAny_bind (wpAny_letGo ?_)
  refine extend_iter (A := A.in1) (hn := hn) W hT _ .none _ (W.frame 0 s1 _ s1.toks hst1 (Nat.le_refl _) fun b hb o e => oth b o (fun h => hSf (h ▸ hb)) e) hSf hI hS₂ fun s' acc' c' hm hS' hacc => ?_
  exact ⟨rfl, hQ s' acc' c' (Moved.trans W.gtrans ((Moved.refl W.grefl).then_heap (Nat.le_refl _) fun b o hb e => oth b o (fun h => hb (h ▸ List.mem_cons_self)) e) hm) hS' hacc⟩
end
theorem fresh_PvIter2 : True := by w_top off; trivial
set_option maxRecDepth 100000
section
variable {prog : Program} {w : World} {A : Around} {E : Value → Shared → Prop} {s : Shared} {g : Heap} {L : Addr} {m : Str → Option Value}
theorem items_drop {all : List (Str × Tok)} {j : Nat} {acc : Array Value} (h : ItemsOf (fun i v => ((all.map strV).toArray)[j + i]? = some v) acc ((all.map strV).toArray.size - j)) : acc = ((all.drop j).map strV).toArray := by
  obtain ⟨h1, h2⟩ := h
  apply Array.ext
  · rw [h1]; simp
  · intro i hi hi2
    have h3 := h2 i acc[i] (by simp [hi])
    dsimp only at h3
    rw [List.getElem?_toArray] at h3
    have h4 : ((all.drop j).map strV)[i]? = some acc[i] := by rw [List.map_drop, List.getElem?_drop]; exact h3
    have h5 : ((all.drop j).map strV)[i]? = some (((all.drop j).map strV).toArray[i]) := by
      rw [← List.getElem?_toArray]; exact Array.getElem?_eq_getElem hi2
    rw [h4] at h5
    exact Option.some.inj h5
/-- what is left of the tokens, as a list -/
theorem list_rest {all : List (Str × Tok)} {it l : Addr} {j k : Nat} {news : List (Addr × Obj)} {Q : Value → Shared → Prop} (hh : A.handled = none) (hz : all.length ≤ 66) (F : Fr g L s.heap m) (hit : s.heap.get? it = some (itObj l j) ∧ it ≠ L ∧ g.get? it = none) (hl : s.heap.get? l = some (W.listOf (all.map strV).toArray k))
    (N : News g L s.heap news) (hne : ∀ p ∈ news, p.1 ≠ it)
    (h : ∀ (D : Addr) c h' tk, Fr g L h' m → News g L h' ((D, W.listOf ((all.drop j).map strV).toArray c) :: news) → Q (.ref D) { s with heap := h', toks := tk }) : wpAny (model prog w) A (call (.type "list") [.ref it]) Q E s := by
  have hli : l ≠ it := fun z => by
    have q2 := hit.1
    rw [← z, hl] at q2
    exact absurd (congrArg (fun o => match o with | some (Obj.mk _ _ (.fields _) _) => true | _ => false) q2) (by simp)
  have W := (walks_from (prog := prog) (w := w) (A := A.in1.in1) hh it l hli (all.map strV).toArray j).toS
  refine call_list_iter (s := s) W (fun i s st => st.1.typeIs) ⟨⟨_, hit.1, rfl, rfl⟩, ⟨_, hl, rfl, k, rfl⟩⟩ ?_ (.head _) ?_ ?_
  · intro b hb
    simp only [List.mem_cons, List.not_mem_nil, or_false] at hb
    rcases hb with rfl | rfl
    · exact Heap.lt_size hit.1
    · exact Heap.lt_size hl
  · intro s' acc c hm hD hacc
    rw [Moved.eq_with hm]
    have hkeep : ∀ b o, b ≠ it → s.heap.get? b = some o → s'.heap.get? b = some o := fun b o hb e => hm.heap b o (by
      intro q
      simp only [List.mem_cons, List.not_mem_nil, or_false] at q
      rcases q with q | q
      · exact absurd (Heap.lt_size e) (by rw [q]; exact Nat.lt_irrefl _)
      · exact hb q) (Heap.get?_push_of_some _ e)
    have hgi : ∀ b o, g.get? b = some o → b ≠ it := fun b o q z => by subst z; rw [hit.2.2] at q; cases q
    refine h s.heap.objs.size c s'.heap s'.toks ⟨F.ns.at' fun o e => hkeep L o (Ne.symm hit.2.1) e, fun b o q => hkeep b o (hgi b o q) (F.keep b o q), F.above⟩ (fun p hp => ?_)
    rcases List.mem_cons.mp hp with rfl | hp
    · refine ⟨?_, Nat.ne_of_gt F.ns.lt, none_at_size F⟩
      rw [← items_drop hacc]; exact hD
    · exact ⟨hkeep _ _ (hne p hp) (N p hp).1, (N p hp).2⟩
  · rw [sizeLine_eq]; simp; omega
end
theorem fresh_PvLaw3 : True := by w_top off; trivial
set_option maxRecDepth 100000
set_option maxHeartbeats 4000000
section
variable {w : World} {mean : ExcName → Option Value} {mg mb : Str → Option Value} {E : Value → Shared → Prop} {g : Heap} {L fa sl l it due : Addr} {cd : Value} {m : Str → Option Value} {all : List (Str × Tok)} {b : Bool} {msg : Str} {mk pk : Tok} {left pl : Nat}
  {h : Heap} {gg : Array GenState} {dd : Drawn} {tk : Nat} {os : OsState} {Q : Flow → Shared → Prop}
noncomputable abbrev toldO (b : Bool) (msg : Str) (mk : Tok) : Obj := { cls := .type "tuple", data := .seq #[.bool b, .str msg mk] }
theorem raised_of {B h' : Heap} {e t : Addr} {j : Nat} {frs : List Env} {mk' : Tok} (F : Fr g L h m) (hfr : framesOf frs = [L]) (hnit : h.get? it = some (itObj l 0) ∧ it ≠ L ∧ g.get? it = none) (hdue : h.get? due = some (dueO b msg mk pl pk) ∧ due ≠ L ∧ g.get? due = none)
    (hll : h.get? l = some (W.listOf (all.map strV).toArray 0) ∧ l ≠ L ∧ g.get? l = none) (hdi : due ≠ it) (hli : l ≠ it) (h3 : Heap.FlyingW B frs e VE (.ref t) h') (h4 : B.get? t = none) (h5 : h'.TupAt t [.str msg mk'])
    (h6 : ∀ b o, h.get? b = some o → b ≠ it → b ∉ framesOf frs → B.get? b = some o) (h7 : B.get? it = some (itObj l j)) :
    RaisedK g frs e VE t [.str msg mk'] [(it, itObj l j), (due, dueO b msg mk pl pk), (l, W.listOf (all.map strV).toArray 0)] h' := by
  have gL : g.get? L = none := Heap.get?_none_of_le F.above
  have nfr : ∀ b, b ≠ L → b ∉ framesOf frs := fun b hb hm => hb (by rw [hfr] at hm; exact List.mem_singleton.mp hm)
  have hne_it : ∀ b o, g.get? b = some o → b ≠ it := fun b o q z => by subst z; rw [hnit.2.2] at q; cases q
  refine ⟨⟨B, fun b o q => h6 b o (F.keep b o q) (hne_it b o q) (nfr b fun z => ?_), fun q hq => ?_, h3, h4⟩, h5⟩
  · rw [z, gL] at q; cases q
  · simp only [List.mem_cons, List.not_mem_nil, or_false] at hq
    rcases hq with rfl | rfl | rfl
    · exact ⟨h7, hnit.2.2⟩
    · exact ⟨h6 _ _ hdue.1 hdi (nfr _ hdue.2.1), hdue.2.2⟩
    · exact ⟨h6 _ _ hll.1 hli (nfr _ hll.2.1), hll.2.2⟩
theorem law3 (X : (Mine.hd.heap_39 w.params).In g) (T : Top Mine.hd.view_39 looseN mean mg mb g) (F : Fr g L h m) (N : News g L h [(it, itObj l 0), (due, dueO b msg mk pl pk), (l, W.listOf (all.map strV).toArray 0)])
    (f1 : ∀ p ∈ all, p.1 ∈ menu) (f2 : all.length ≤ 66) (f3 : HasEnd all) (hw : walk true [] (firsts all) = some (b, msg, left)) (n1 : m "tokens" = some (.ref l)) (n2 : m "due" = some (.ref due)) (n3 : m "given" = some (.ref it))
    (k : ∀ h' m' tk' told mk' j (rest : List (Str × Tok)), Fr g L h' m' → News g L h' [(told, toldO b msg mk'), (it, itObj l j), (due, dueO b msg mk pl pk), (l, W.listOf (all.map strV).toArray 0)] → all.drop j = rest → rest.length = left →
      m' "tokens" = some (.ref l) → m' "due" = some (.ref due) → m' "given" = some (.ref it) → m' "told" = some (.ref told) →
      wpC (model PySem.Challenge.rw_dv0011_01.row.prog w) (callerA.deeper (envL w L fa cd)) (execs ((bodyOf (Mine.hd.heap_39 w.params) 106).drop 9) (envL w L fa cd)) Q E ⟨h', gg, dd, tk', os⟩) :
    wpC (model PySem.Challenge.rw_dv0011_01.row.prog w) (callerA.deeper (envL w L fa cd)) (execs ((bodyOf (Mine.hd.heap_39 w.params) 106).drop 8) (envL w L fa cd)) Q E ⟨h, gg, dd, tk, os⟩ := by
  ((have hf9 : PySem.Challenge.rw_dv0011_01.row.prog = PySem.Challenge.rw_dv0011_01.row.prog ∧ Mine.hd.heap_39 = Mine.hd.heap_39 := by (k_fill; exact ⟨rfl, rfl⟩)); clear hf9)
  unfold envL at *
  rw [bodyOf_eq (a := 106) (by k_is) rfl] at *
  rw [scopeOf_eq (a := 106) (by k_is)] at *
  dsimp only [List.drop] at *
  refine wpC_execs_cons (wpC_Try ?_)
  refine wpC_execs_cons (wpC_Assign_Name (wpC_Tuple (splicedC_first ?_ (by with_unfolding_all rfl))) (by with_unfolding_all rfl))
  (first | (k_unfold; (try dsimp only)) | walk1 | (dsimp only; walk1))
  refine splicedC_last (wpC_Subscript (wpC_Call_ofName ?_)) (by with_unfolding_all rfl)
  (first | (k_unfold; (try dsimp only)) | walk1 | (dsimp only; walk1))
  refine callWithC_K (K := Mine.hd.heap_39 w.params) (by k_is) ?_ (by with_unfolding_all rfl) (by with_unfolding_all rfl)
  iterate 3 (first | (k_unfold; (try dsimp only)) | walk1 | (dsimp only; walk1))
  refine ⟨by k_in, ?_⟩
  have hnit := N _ (.head _)
  have hdue := N _ (.tail _ (.head _))
  have hll := N _ (.tail _ (.tail _ (.head _)))
  have hne_it : ∀ b o, g.get? b = some o → b ≠ it := fun b o q z => by subst z; rw [hnit.2.2] at q; cases q
  have hdi : due ≠ it := fun z => by
    have q1 := hdue.1
    have q2 := hnit.1
    dsimp only at q1 q2
    rw [z, q2] at q1
    exact absurd (congrArg (fun o => match o with | some (Obj.mk _ _ (.fields _) _) => true | _ => false) q1) (by simp)
  have hli : l ≠ it := fun z => by
    have q1 := hll.1
    have q2 := hnit.1
    dsimp only at q1 q2
    rw [z, q2] at q1
    exact absurd (congrArg (fun o => match o with | some (Obj.mk _ _ (.fields _) _) => true | _ => false) q1) (by simp)
  refine parse_all w 100 mean mg mb _ _ [] g it l 0 all all ⟨h, gg, dd, tk, os⟩ (-1) [.ref it] _ _ (by omega) ⟨rfl, rfl, ?_, ?_, (Below.push (below_caller g) F rfl).frames, Nat.le_trans F.above (Nat.le_of_lt F.ns.lt), X, T, F.keep, hnit.2.2, hnit.1, ⟨_, (N (l, W.listOf (all.map strV).toArray 0) (by k_mem)).1, rfl, 0, rfl⟩, rfl, by omega, f3, f1⟩ (.inl ⟨rfl, rfl⟩) (by decide) (by decide) ?ok ?er
  · show 302 + all.length < 1000
    omega
  · show 7 + 10 * all.length + 50 < 9900
    omega
  case ok =>
    intro r rk t tk0 rest j tup h' tk' a2 hdr htup hnew hkeep hit
    have F' : Fr g L h' m := ⟨F.ns.at' fun o e => hkeep L o e (Ne.symm hnit.2.1), fun b o q => hkeep b o (F.keep b o q) (hne_it b o q), F.above⟩
    have htL : tup ≠ L := fun z => by
      obtain ⟨oL, _, _, hoL, _⟩ := F.ns
      rw [← z] at hoL
      exact absurd (hoL.symm.trans hnew) (by simp)
    have N' : News g L h' [(tup, tupO r rk t tk0), (it, itObj l j), (due, dueO b msg mk pl pk), (l, W.listOf (all.map strV).toArray 0)] :=
      News.cons ⟨htup, htL, none_of_keep F.keep hnew⟩ (News.cons ⟨hit, hnit.2⟩ (News.cons ⟨hkeep _ _ hdue.1 hdi, hdue.2⟩ (News.cons ⟨hkeep _ _ hll.1 hli, hll.2⟩ News.nil)))
    obtain ⟨s1, s2⟩ := a2.stop (by decide)
    have hw2 := a2.same []
    rw [hw, walk.eq_def] at hw2
    dsimp only at hw2
    rw [if_neg s1, if_neg s2] at hw2
    (try dsimp only at hw2)
    injection hw2 with hw2
    injection hw2 with e1 e2
    injection e2 with e2 e3
    rw [List.length_map] at e3
    dsimp only
    repeat ((first | (k_unfold; (try dsimp only)) | walk1 | (dsimp only; walk1)))
    (with_reducible rename Fr _ _ _ _ => F8)
    (with_reducible rename News _ _ _ _ => N8)
    dsimp only at F8 ⊢
    refine wpC_execs_nil (wpC_execs_nil ?_)
    subst e1 e2
    exact k _ _ _ _ tk0 j rest F8 (by repeat (first | exact News.nil | refine News.cons (N8 _ (by k_mem)) ?_)) hdr e3.symm n1 n2 n3 rfl
  case er =>
    intro e h' tk' fl
    obtain ⟨⟨msg', mk', t, j, rest, B, h1, h2, h3, h4, h5, h6, h7⟩, hu⟩ := fl
    have hw2 := h1 []
    rw [hw] at hw2
    injection hw2 with hw2
    injection hw2 with e1 e2
    injection e2 with e2 e3
    subst e1 e2
    have R := raised_of F rfl hnit hdue hll hdi hli h3 h4 h5 h6 h7
    refine caught_KB (s' := ⟨h', gg, dd, tk', os⟩) (below_caller g) F hu R (topRead_of T) PyProof.Rows.Boot.«ValueError» PySem.F.isExc_ValueError PySem.F.notTuple_ValueError (by rw [isSubtype_type]; kernel_rfl) ?_
    clear R h1 h3 h4 h5 h6 h7 hu hw N F
    intro h9 news2 tk9 F9 N9 G9 N10
    dsimp only at N10
    obtain ⟨oe, ot, ws, nt, me, mt, c1, c2, c3, c4, c5⟩ := G9
    have N11 : News g L h9 [(e, oe), (t, ot), (it, itObj l j), (due, dueO false msg mk pl pk), (l, W.listOf (all.map strV).toArray 0)] := News.cons (N9 _ me) (News.cons (N9 _ mt) N10)
    have G11 : Got [(e, oe), (t, ot), (it, itObj l j), (due, dueO false msg mk pl pk), (l, W.listOf (all.map strV).toArray 0)] e t VE [.str msg mk'] := ⟨oe, ot, ws, nt, .head _, .tail _ (.head _), c1, c2, c3, c4, c5⟩
    clear N9 N10 me mt c1 c2 c3 c4 c5
    refine wpAny_seal2 ?_
    intro Q8 E8 hQ8
    repeat ((first | (k_unfold; (try dsimp only)) | walk1 | (dsimp only; walk1)))
    refine' type_got ?N ?G ?hnb ?_
    case N => assumption
    case G => exact Got.more (by assumption) _
    case hnb => decide
    rename_i gX D1 h10 l10 h11 F11 N11
    have gY := Got.more gX (D1, toldO false msg mk')
    clear gX
    (repeat ((fail_if_success (with_reducible refine ite_pos ?_ ?_)); (first | (k_unfold; (try dsimp only)) | walk1 | (dsimp only; walk1))))
    (first | (k_unfold; (try dsimp only)) | walk1 | (dsimp only; walk1))
    (repeat ((fail_if_success (with_reducible refine ite_pos ?_ ?_)); (first | (k_unfold; (try dsimp only)) | walk1 | (dsimp only; walk1))))
    refine ite_neg (by simp) ?_
    repeat ((first | (k_unfold; (try dsimp only)) | walk1 | (dsimp only; walk1)))
    refine hQ8 _ _ ?_
    dsimp only
    repeat ((first | (k_unfold; (try dsimp only)) | walk1 | (dsimp only; walk1)))
    rename_i F12 N12
    exact k _ _ _ _ mk' j rest F12 (by repeat (first | exact News.nil | refine News.cons (N12 _ (by k_mem)) ?_)) h2 e3.symm n1 n2 n3 rfl
end
theorem fresh_PvTup : True := by w_top off; trivial
set_option maxRecDepth 100000
/-! the first two of a tuple of three -/
section
variable {prog : Program} {w : World} {A : Around} {E : Value → Shared → Prop} {s : Shared}
theorem applied_two {sl : Addr} {u : Tok} {Q : Int × Int × Nat → Shared → Prop} (hs : s.heap.IsSliceOf sl .none (.int 2 u) .none) (h : Q ((0 : Int), 1, 2) s) :
    wpAny (model prog w) A (Builtin.Slice.sliceApplied (.ref sl) (pure ((3 : Nat) : Int))) Q E s := by
  obtain ⟨os, hos, hcs, hds⟩ := id hs
  unfold Builtin.Slice.sliceApplied Builtin.Slice.sliceFields
  refine wpAny_bind (wpAny_bind (wpAny_field hos hds (x := .none) rfl (wpAny_bind (wpAny_field hos hds (x := .int 2 u) rfl (wpAny_bind (wpAny_field hos hds (x := .none) rfl (wpAny_pure ?_)))))))
  refine wpAny_bind (slicePart_none ?_)
  show wpAny _ _ (if ((1 : Int) == 0) = true then _ else _) _ _ s
  rw [if_neg (by decide)]
  refine wpAny_bind (slicePart_none (wpAny_bind (slicePart_int (wpAny_bind (wpAny_pure ?_)))))
  exact wpAny_pure h
theorem getItem_two {t sl : Addr} {x y z : Value} {u : Tok} {Q : Value → Shared → Prop} (ht : IsTup s.heap t #[x, y, z]) (hs : s.heap.IsSliceOf sl .none (.int 2 u) .none)
    (h : Q (.ref s.heap.objs.size) { s with heap := s.heap.push { cls := .type "tuple", data := .seq #[x, y] } }) : wpAny (model prog w) A (getItem (.ref t) (.ref sl)) Q E s := by
  have hok : sizeOk (.seq #[x, y]) := by
    show (2 : Nat) ≤ sizeLine
    rw [sizeLine_eq]; decide
  obtain ⟨os, hos, hcs, hds⟩ := id hs
  have hTs : s.TypeIs (.ref sl) "slice" := ⟨os, hos, hcs⟩
  unfold getItem
  try with_reducible refine wpAny_holding ?_
  first | refine wpAny_bind (wpAny_pure ?_) | skip
  refine wpAny_bind (wpAny_sequenceKey ht.typeIs (by decide) ?_)
  refine wpAny_bind (wpAny_callSpecial?_slot (name := Str.ofString "__getitem__") ht.typeIs slot_tuple_getitem
    (wpAny_call_entry slot_tuple_getitem ht.typeIs entry_tuple_getitem ?_ (args_tuple_getitem _ _)))
  show wpAny _ _ (Builtin.Tuple.tupleItemsOf (.ref t) >>= _) _ _ s
  refine wpAny_bind (tupleItemsOf_ ht ?_)
  refine wpAny_bind (wpAny_typeOf hTs ?_)
  rw [if_pos (by decide)]
  refine wpAny_bind (applied_two hs ?_)
  show wpAny _ _ (if ((0 : Int) == 0 && (1 : Int) == 1 && (2 : Nat) == 3) = true then _ else _) _ _ s
  rw [if_neg (by decide)]
  have e : ((List.range 2).filterMap fun (k : Nat) => (#[x, y, z])[((0 : Int) + (k : Int) * 1).toNat]?).toArray = #[x, y] := rfl
  rw [e]
  first
    | exact wpAny_bind (m := Builtin.Tuple.tupleExact _) (wpAny_newObj_type (wpAny_pure ⟨_, rfl, wpAny_pure h⟩) hok)
    | exact wpAny_bind (m := Builtin.Tuple.tupleExact _) (wpAny_newObj_type (wpAny_bind (wpAny_pure (wpAny_pure ⟨_, rfl, wpAny_pure h⟩))) hok)
    | exact wpAny_bind (wpAny_bind (m := Builtin.Tuple.tupleExact _) (wpAny_newObj_type (wpAny_pure (wpAny_pure ⟨_, rfl, wpAny_pure h⟩)) hok))
    | exact wpAny_bind (wpAny_bind (m := Builtin.Tuple.tupleExact _) (wpAny_newObj_type (wpAny_pure ⟨_, rfl, wpAny_pure h⟩) hok))
end
section
variable {prog : Program} {w : World} {A : Around} {E : Value → Shared → Prop} {s : Shared} {h₀ : Heap} {L : Addr} {m : Str → Option Value} {news : List (Addr × Obj)}
theorem slice_two {value slice : Expr} {t : Addr} {x y z : Value} {u : Tok} {Q : Value → Shared → Prop} (F : Fr h₀ L s.heap m) (N : News h₀ L s.heap news) (ht : IsTup s.heap t #[x, y, z])
    (h : ∀ D h', Fr h₀ L h' m → News h₀ L h' ((D, { cls := .type "tuple", data := .seq #[x, y] }) :: news) → Q (.ref D) { s with heap := h' })
    (hs : subscripted slice false (.ref t) (.ref s.heap.objs.size) = operate [.ref s.heap.objs.size, .ref t] (getItem (.ref t) (.ref s.heap.objs.size)))
    (hg : ∀ r, letTemporaryGo value (.ref t) r = pure ()) :
    wpAny (model prog w) A (subscriptTail value slice (.ref t) (.ref s.heap.objs.size)) Q E { s with heap := s.heap.push { cls := .type "slice", data := .fields #[.none, .int 2 u, .none] } } := by
  have ht' : IsTup (s.heap.push { cls := .type "slice", data := .fields #[.none, .int 2 u, .none] }) t #[x, y, z] := ht.keeps fun _ _ e => Heap.get?_push_of_some _ e
  refine subscriptTail_ops (s := { s with heap := s.heap.push { cls := .type "slice", data := .fields #[.none, .int 2 u, .none] } }) ht'.typeIs slot_tuple_getitem.lookup
    (getItem_two ht' (Heap.IsSliceOf.new ..) ?_) hs hg
  have N1 := News.push (F.push { cls := .type "slice", data := .fields #[.none, .int 2 u, .none] }) (N.grown fun _ _ e => Heap.get?_push_of_some _ e) { cls := .type "tuple", data := .seq #[x, y] }
  exact h _ _ ((F.push _).push _) N1
end
theorem fresh_PvLaw4 : True := by w_top off; trivial
set_option maxRecDepth 100000
set_option maxHeartbeats 4000000
section
variable {w : World} {A : Around} {mean : ExcName → Option Value} {mg mb : Str → Option Value} {E : Value → Shared → Prop} {g : Heap} {L fa sl l it due told : Addr} {cd : Value} {m : Str → Option Value} {all rest : List (Str × Tok)} {b : Bool} {msg : Str} {mk mk' pk : Tok} {left pl j : Nat}
  {h : Heap} {gg : Array GenState} {dd : Drawn} {tk : Nat} {os : OsState} {Q : Flow → Shared → Prop}
theorem refused_ok : ∀ t ∈ menu, PyData.strOk t = true ∧ PyData.strOk (refusedMsg t) = true := by decide +kernel
theorem walk_ok : ∀ (l : List Str), (∀ t ∈ l, t ∈ menu) → ∀ (q : Bool) (st : List Str) r, walk q st l = some r → PyData.strOk r.2.1 = true := by
  intro l
  induction l with
  | nil => intro _ q st r h; cases q <;> (rw [walk.eq_def] at h; cases h)
  | cons t ts ih =>
    intro hm q st r h
    have h1 := refused_ok t (hm t (.head _))
    have ih := ih fun t ht => hm t (.tail _ ht)
    rw [walk.eq_def] at h
    cases q with
    | true =>
      dsimp only at h
      split at h
      · exact ih _ _ _ h
      · split at h
        · exact ih _ _ _ h
        · split at h
          · cases h; exact h1.2
          · exact ih _ _ _ h
    | false =>
      dsimp only at h
      split at h
      · exact ih _ _ _ h
      · split at h
        · exact ih _ _ _ h
        · split at h
          · cases h; exact h1.1
          · split at h
            · exact ih _ _ _ h
            · split at h
              · cases h; exact (by decide +kernel : PyData.strOk unbalancedMsg = true)
              · cases h; exact h1.2
theorem shaped_two (b : Bool) {msg : Str} (h : PyData.strOk msg = true) : PySem.SeqAt.shaped (.tuple [.bool b, .str msg]) = true := by
  unfold PySem.SeqAt.shaped
  rw [show PyData.canLay0 (.tuple [.bool b, .str msg]) = true by simp only [PyData.canLay0, PyData.canLayAll0, h, Bool.and_self]]
  rw [show PyData.depth (.tuple [.bool b, .str msg]) = 1 by simp only [PyData.depth, PyData.depthAll]; rfl]
  decide
theorem reads_two {h : Heap} {a : Addr} {b : Bool} {msg : Str} {mk : Tok} (ha : h.get? a = some (toldO b msg mk)) : Reads h (.ref a) (.tuple [.bool b, .str msg]) [] :=
  reads_tuple_at ha rfl rfl (.cons (.bool b) (.cons (.str msg mk) .nil))
theorem slice_eq {all : List (Str × Tok)} {n : Nat} : slicePick (all.map strV).toArray (some (n : Int)) none none = ((all.drop n).map strV).toArray := by
  rw [slicePick_from', List.map_drop]
theorem rest_at (hd1 : all.drop j = rest) (hd2 : rest.length = left) (hpl : pl + left + 1 = all.length) : all.drop (pl + 1) = rest := by
  have h1 := congrArg List.length hd1
  rw [List.length_drop] at h1
  rcases Nat.lt_or_ge all.length j with hj | hj
  · rw [List.drop_of_length_le (Nat.le_of_lt hj)] at hd1
    rw [← hd1]
    exact List.drop_of_length_le (by subst hd1; subst hd2; exact Nat.le_of_eq hpl.symm)
  · rw [← hd1, show j = pl + 1 by omega]
theorem law4 (X : (Mine.hd.heap_39 w.params).In g) (T : Top Mine.hd.view_39 looseN mean mg mb g) (hh : A.handled = none) (hun : A.units + 64 < cLine) (F : Fr g L h m) (N : News g L h [(told, toldO b msg mk'), (it, itObj l j), (due, dueO b msg mk pl pk), (l, W.listOf (all.map strV).toArray 0)])
    (f1 : ∀ p ∈ all, p.1 ∈ menu) (f2 : all.length ≤ 66) (hd1 : all.drop j = rest) (hd2 : rest.length = left) (hpl : pl + left + 1 = all.length) (hok : PyData.strOk msg = true) (n1 : m "tokens" = some (.ref l)) (n2 : m "due" = some (.ref due)) (n3 : m "given" = some (.ref it)) (n4 : m "told" = some (.ref told))
    (hQ : ∀ h' tk', (∀ b o, g.get? b = some o → h'.get? b = some o) → Q (.ret (.bool true)) ⟨h', gg, dd, tk', os⟩) :
    wpAny (model PySem.Challenge.rw_dv0011_01.row.prog w) A (execs ((bodyOf (Mine.hd.heap_39 w.params) 106).drop 9) (envL w L fa cd)) Q E ⟨h, gg, dd, tk, os⟩ := by
  ((have hf9 : PySem.Challenge.rw_dv0011_01.row.prog = PySem.Challenge.rw_dv0011_01.row.prog ∧ Mine.hd.heap_39 = Mine.hd.heap_39 := by (k_fill; exact ⟨rfl, rfl⟩)); clear hf9)
  unfold envL at *
  rw [bodyOf_eq (a := 106) (by k_is) rfl] at *
  rw [scopeOf_eq (a := 106) (by k_is)] at *
  dsimp only [List.drop] at *
  repeat ((first | (k_unfold; (try dsimp only)) | walk1 | (dsimp only; walk1)))
  refine' slice_two (s := ⟨h, gg, dd, tk + 1, os⟩) F N ⟨_, (N _ (.tail _ (.tail _ (.head _)))).1, rfl, _, rfl⟩ ?_ (by with_unfolding_all rfl) (by intro _; with_unfolding_all rfl)
  clear F N
  intro D h2 F N
  refine eq_dataH (reads_two (N _ (.tail _ (.head _))).1) (reads_two (N _ (.head _)).1) (shaped_two b hok) (shaped_two b hok) hun ?_
  rw [PySem.SeqAt.eqv_refl _ (by simp only [PyData.canLay0, PyData.canLayAll0, hok, Bool.and_self])]
  repeat ((first | (k_unfold; (try dsimp only)) | walk1 | (dsimp only; walk1)))
  have hit := N (it, itObj l j) (by k_mem)
  have hl := N (l, W.listOf (all.map strV).toArray 0) (by k_mem)
  have hdue := N (due, dueO b msg mk pl pk) (by k_mem)
  have hdi : due ≠ it := fun z => by
    have q1 := hdue.1
    have q2 := hit.1
    dsimp only at q1 q2
    rw [z, q2] at q1
    exact absurd (congrArg (fun o => match o with | some (Obj.mk _ _ (.fields _) _) => true | _ => false) q1) (by simp)
  have hli : l ≠ it := fun z => by
    have q1 := hl.1
    have q2 := hit.1
    dsimp only at q1 q2
    rw [z, q2] at q1
    exact absurd (congrArg (fun o => match o with | some (Obj.mk _ _ (.fields _) _) => true | _ => false) q1) (by simp)
  refine list_rest (k := 0) (news := [(due, dueO b msg mk pl pk), (l, W.listOf (all.map strV).toArray 0)]) hh f2 F hit hl.1 (News.cons hdue (News.cons hl News.nil)) (fun p hp => ?_) ?_
  · simp only [List.mem_cons, List.not_mem_nil, or_false] at hp
    rcases hp with rfl | rfl
    · exact hdi
    · exact hli
  clear N F hit hl hdue
  rw [hd1]
  intro D2 c2 h3 tk3 F N
  dsimp only
  (repeat ((fail_if_success (with_reducible show wpAny _ _ (subscriptTail _ (PySem.Expr.Slice _ _ _ _) _ _) _ _ _)); (first | (k_unfold; (try dsimp only)) | walk1 | (dsimp only; walk1))))
  dsimp only
  refine' kmk_slice (s := ⟨h3, gg, dd, _, os⟩) F N ⟨_, (N (l, W.listOf (all.map strV).toArray 0) (by k_mem)).1, rfl, 0, rfl⟩ (IsPart.int _ _) IsPart.none ?_ (by with_unfolding_all rfl) (by intro _; with_unfolding_all rfl) ?sz
  case sz => rw [sizeLine_eq]; simp; omega
  clear N F
  intro D3 h4 F N _
  rw [show ((pl : Nat) : Int) + 1 = ((pl + 1 : Nat) : Int) from rfl, slice_eq, rest_at hd1 hd2 hpl] at N
  have hr : ∀ t ∈ rest.map Prod.fst, PyData.strOk t = true := fun t ht => by
    obtain ⟨p, hp, rfl⟩ := List.mem_map.mp ht
    exact menu_ok _ (f1 p (List.mem_of_mem_drop (hd1 ▸ hp)))
  have hs := shaped_strs _ hr
  refine eq_dataH (reads_strs (N _ (.tail _ (.head _))).1) (reads_strs (N _ (.head _)).1) hs hs hun ?_
  rw [PySem.SeqAt.eqv_refl _ (PySem.SeqAt.canLay_of_shaped hs)]
  exact hQ _ _ F.keep
end
theorem fresh_PvAll : True := by w_top off; trivial
set_option maxRecDepth 100000
set_option maxHeartbeats 400000
section
variable {M : Model} {A : Around} {E : Value → Shared → Prop} {s : Shared} {env : Env}
theorem execs_app (l₂ : List Stmt) : ∀ l₁ : List Stmt, execs (l₁ ++ l₂) env = execs l₁ env >>= fun f => match f with | .next => execs l₂ env | f => pure f
  | [] => rfl
  | st :: l₁ => by
    show execs (st :: (l₁ ++ l₂)) env = _
    rw [execs_cons, execs_cons, execs_app l₂ l₁, bind_assoc]
    congr
    funext f
    cases f <;> simp only [pure_bind]
theorem wpC_part {l₁ l₂ : List Stmt} {Q : Flow → Shared → Prop} (h : wpAny M A (execs l₁ env) (fun f s' => match f with | .next => wpC M A (execs l₂ env) Q E s' | f => Q f s') E s) : wpC M A (execs (l₁ ++ l₂) env) Q E s := by
  rw [execs_app]
  refine wpC_bindA (wpAny_mono h (fun f s' h' => ?_) fun _ _ x => x)
  cases f <;> first | exact h' | exact wpC_pure h'
end
section
variable {w : World} {mean : ExcName → Option Value} {mg mb : Str → Option Value} {E : Value → Shared → Prop} {g : Heap} {L fa sl : Addr} {cd : Value} {m : Str → Option Value} {vs : List Value} {xs : List Int}
  {h : Heap} {gg : Array GenState} {dd : Drawn} {tk : Nat} {os : OsState} {Q : Flow → Shared → Prop}
/-- the law's whole body -/
theorem law_body (X : (Mine.hd.heap_39 w.params).In g) (T : Top Mine.hd.view_39 looseN mean mg mb g) (hE : PassesOwn (model PySem.Challenge.rw_dv0011_01.row.prog w) (callerA.deeper (envL w L fa cd)) (envL w L fa cd) E) (hl : g.IsList sl vs.toArray) (hi : IntsAre vs xs) (hlen : ¬ ((63 : Int) < xs.length)) (F : Fr g L h m) (m1 : m "script" = some (.ref sl))
    (hQ : ∀ h' tk', (∀ b o, g.get? b = some o → h'.get? b = some o) → Q (.ret (.bool true)) ⟨h', gg, dd, tk', os⟩) :
    wpC (model PySem.Challenge.rw_dv0011_01.row.prog w) (callerA.deeper (envL w L fa cd)) (execs (bodyOf (Mine.hd.heap_39 w.params) 106) (envL w L fa cd)) Q E ⟨h, gg, dd, tk, os⟩ := by
  have hh : (callerA.deeper (envL w L fa cd)).handled = none := rfl
  have hun : (callerA.deeper (envL w L fa cd)).units + 64 < cLine := by
    show 7 + 64 < 9900
    decide
  have hroom : (callerA.deeper (envL w L fa cd)).depth + 2 < recursionLimit := by
    show 302 + 2 < 1000
    decide
  rw [← List.take_append_drop 4 (bodyOf (Mine.hd.heap_39 w.params) 106)]
  refine wpC_part ?_
  refine @law0 w (callerA.deeper (envL w L fa cd)) mean mg mb E g L fa sl cd m h gg dd tk os _ X T F m1 ?_
  intro h1 M1 tk1 tl xl pl ol xP pP oP e1 e2 e3 F1 N1 hlt a1 a2 a3 a4 a5
  dsimp only
  rw [← List.take_append_drop 1 (List.drop 4 (bodyOf (Mine.hd.heap_39 w.params) 106)), List.drop_drop]
  refine wpC_part ?_
  refine @law1 w (callerA.deeper (envL w L fa cd)) mean mg mb E g L fa sl cd M1 vs xs h1 gg dd tk1 os _ X T hh hun hE hl hi hlen tl xl pl ol xP pP oP e1 e2 e3 F1 N1 hlt a1 a2 a3 a4 a5 ?_
  clear F1 N1 hlt a1 a2 a3 a4 a5
  intro h2 M2 tk2 ts k F2 N2 f1 f2 a2 a5
  dsimp only
  rw [← List.take_append_drop 3 (List.drop (4 + 1) (bodyOf (Mine.hd.heap_39 w.params) 106)), List.drop_drop]
  refine wpC_part ?_
  refine @law2 w (callerA.deeper (envL w L fa cd)) mean mg mb E g L fa tl ol cd M2 ts oP k h2 gg dd tk2 os _ X T hh hun hroom e3 F2 N2 f1 f2 a2 a5 ?_
  clear F2 N2 f1 f2 a2 a5
  intro h3 M3 tk3 all l it due b msg mk left pl pk F3 N3 f1 f2 f3 hw hpl a1 a2 a3
  dsimp only
  have hok := walk_ok (firsts all) (fun t ht => by obtain ⟨p, hp, rfl⟩ := List.mem_map.mp ht; exact f1 p hp) true [] _ hw
  refine @law3 w mean mg mb E g L fa l it due cd M3 all b msg mk pk left pl h3 gg dd tk3 os _ X T F3 N3 f1 f2 f3 hw a1 a2 a3 ?_
  clear F3 N3 a1 a2 a3
  intro h4 M4 tk4 told mk' j rest F4 N4 hd1 hd2 a1 a2 a3 a4
  refine wpC_of ?_
  exact (@law4 w (callerA.deeper (envL w L fa cd)) mean mg mb E g L fa l it due told cd M4 all rest b msg mk mk' pk left pl j h4 gg dd tk4 os _ X T hh hun F4 N4 f1 f2 hd1 hd2 hpl hok a1 a2 a3 a4 hQ)
end
theorem fresh_PvEnd : True := by w_top off; trivial
set_option maxRecDepth 100000
set_option maxHeartbeats 400000
theorem good_end {s0 s1 s' : Shared} {args : List WData} (hk : ∀ b o, s1.heap.get? b = some o → s'.heap.get? b = some o) (hos : s'.os = s1.os) (hg : s'.gens = #[]) :
    GoodWG PySem.Challenge.rw_dv0011_01.row.claim (classAt s0.heap) (ExcName.means s0.heap) args s1 (.ok (.ret (.bool true))) s' := by
  refine ⟨.inl ⟨.bool true, .bool true, [], rfl, ?raises, .bool true, ?post, ?uns⟩, .of_keep hk, hos, .of_eq hg⟩
  case raises => intro cls; rfl
  case uns => intro _; exact ⟨List.nodup_nil, fun _ h => nomatch h⟩
  case post => kernel_rfl
section
variable {prog : Program} {w : World} {A : Around} {s : Shared} {R : Result → Shared → Prop} {name : Str} {params : Arguments} {body : List Stmt} {scope : Scope} {doc pm cd : Value} {a : Addr} {o : Obj} {args : Args} {binds : List (Str × Value)}
/-- the law's own def is entered -/
theorem enterDoc (hroom : A.depth < recursionLimit) (ho : s.heap.get? a = some o) (hdata : o.data = .func { docDef name params body scope pm cd doc with defaults := .none, kwdefaults := .none }) (hlim : s.heap.NoLimit) (hcd : s.heap.CodeRec cd name)
    (hbind : BindsTo s { docDef name params body scope pm cd doc with defaults := .none, kwdefaults := .none } args binds) (hcell : ∀ x ∈ scope.names, x.2 ≠ .cell) (hloc : ∀ x ∈ binds, scope.names.lookup x.1 = some .local)
    (h : ∀ h₀, Fr s.heap s.heap.objs.size h₀ (fun x => binds.reverse.lookup x) →
      wpC (model prog w) (A.deeper (envOf name scope s.heap.objs.size a cd)) (execs body (envOf name scope s.heap.objs.size a cd)) (fun f s' => R (.ok (.ret (match f with | .ret v => v | _ => .none))) s') (fun _ _ => False) { s with heap := h₀, toks := s.toks + binds.length })
    (hco : scope.isCoroutine = false) (hgen : scope.isGenerator = false) (hk : scope.kind = .function) : codeC (model prog w) A (.call (.ref a) args) R s :=
  codeC_call_def hroom ho hdata hlim hcd rfl hbind hcell hloc (fun h₀ hns hk₀ => wpC_mono (h h₀ ⟨hns, hk₀, Nat.le_refl _⟩) (fun _ _ x => x) (fun _ _ x => x.elim)) hco hgen hk
end
section
variable {w : World} {s0 s1 : Shared} {mg mb : Str → Option Value} {params : Arguments} {body : List Stmt} {scope : Scope} {doc pm cd : Value} {fa sl : Addr} {o : Obj} {vs : List Value} {xs : List Int} {args : List WData}
theorem law_call (KX : (Mine.hd.heap_39 w.params).In s1.heap) (T : Top Mine.hd.view_39 looseN (ExcName.means s0.heap) mg mb s1.heap) (hg : s1.gens = #[]) (ho : s1.heap.get? fa = some o) (hdata : o.data = .func { docDef (Str.ofString "law") params body scope pm cd doc with defaults := .none, kwdefaults := .none })
    (hcd : s1.heap.CodeRec cd (Str.ofString "law")) (hb : body = bodyOf (Mine.hd.heap_39 w.params) 106) (hs : scope = scopeOf (Mine.hd.heap_39 w.params) 106)
    (hbind : BindsTo s1 { docDef (Str.ofString "law") params body scope pm cd doc with defaults := .none, kwdefaults := .none } ⟨[.ref sl], []⟩ [(Str.ofString "script", .ref sl)])
    (hL : s1.heap.IsList sl vs.toArray) (hI : IntsAre vs xs) (hlen : ¬ ((63 : Int) < xs.length)) :
    wpC (model PySem.Challenge.rw_dv0011_01.row.prog w) callerA (call (.ref fa) [.ref sl])
      (fun v s' => GoodWG PySem.Challenge.rw_dv0011_01.row.claim (classAt s0.heap) (ExcName.means s0.heap) args s1 (.ok (.ret v)) s')
      (fun e s' => GoodWG PySem.Challenge.rw_dv0011_01.row.claim (classAt s0.heap) (ExcName.means s0.heap) args s1 (.error e) s') s1 := by
  have sc : (∀ x ∈ scope.names, x.2 ≠ .cell) ∧ (∀ x ∈ [(Str.ofString "script", Value.ref sl)], scope.names.lookup x.1 = some .local) ∧ scope.isCoroutine = false ∧ scope.isGenerator = false ∧ scope.kind = .function := by
    ((have hf9 : PySem.Challenge.rw_dv0011_01.row.prog = PySem.Challenge.rw_dv0011_01.row.prog ∧ Mine.hd.heap_39 = Mine.hd.heap_39 := by (k_fill; exact ⟨rfl, rfl⟩)); clear hf9)
    rw [hs, scopeOf_eq (a := 106) (by k_is)]
    exact ⟨by decide, locs rfl, rfl, rfl, rfl⟩
  obtain ⟨c1, c2, c3, c4, c5⟩ := sc
  refine wpC_call ?_
  have room : callerA.depth < recursionLimit := by
    show 301 < 1000
    decide
  have nl : s1.heap.NoLimit := T.nolimit
  refine enterDoc room ho hdata nl hcd hbind c1 c2 ?_ c3 c4 c5
  intro h0 F0
  have key := @law_body w (ExcName.means s0.heap) mg mb (fun _ _ => False) s1.heap s1.heap.objs.size fa sl cd (fun x => [(Str.ofString "script", Value.ref sl)].reverse.lookup x) vs xs h0 s1.gens s1.drawn (s1.toks + 1) s1.os (fun f s' => f = Flow.ret (.bool true) ∧ (∀ b o, s1.heap.get? b = some o → s'.heap.get? b = some o) ∧ s'.os = s1.os ∧ s'.gens = s1.gens) KX T PassesOwn.never hL hI hlen F0 rfl (fun h' tk' hk => ⟨rfl, hk, rfl, rfl⟩)
  unfold envL at key
  rw [← hb, ← hs] at key
  clear hb hs KX T hdata
  refine wpC_mono key ?_ (fun _ _ x => x)
  rintro f s' ⟨rfl, hk, hos, hgs⟩
  exact good_end hk hos (hgs.trans hg)
end
theorem top : PySem.Challenge.rw_dv0011_01.Holds := by
  refine Mine.hd ?_
  intro w s0 s1 mg mb G Y fa o pm cd doc dV kV ho hd hcd hD hmg hg args vals as hpre hlay hrd hwl hlo
  have KX := kIn_of Y
  refine Ground.open G ?_
  intro T B D TE TW
  clear hmg
  wrow_args hpre hlay hrd hwl hlo
  (with_reducible rename Addr => sl)
  (with_reducible rename List Value => vs)
  (with_reducible rename List Int => xs)
  (with_reducible rename IntsAre _ _ => hI)
  (with_reducible rename Heap.IsList _ _ _ => hL)
  (with_reducible rename ¬ _ => hlen)
  obtain rfl := hD.none rfl
  obtain rfl := hD.noKw
  clear hD G Y D B TE TW
  ((have hf9 : PySem.Challenge.rw_dv0011_01.row.prog = PySem.Challenge.rw_dv0011_01.row.prog ∧ Mine.hd.heap_39 = Mine.hd.heap_39 := by (k_fill; exact ⟨rfl, rfl⟩)); clear hf9)
  refine law_call KX T hg ho hd hcd ?body9 ?scope9 ?bind9 hL hI hlen
  case body9 => exact (bodyOf_eq (a := 106) (by k_is) rfl).symm
  case scope9 => rw [scopeOf_eq (a := 106) (by k_is)]
  case bind9 => exact BindsTo.of_eq rfl
end Mine
theorem PySem.Challenge.cw_dv0011_01_holds : PySem.Challenge.rw_dv0011_01.Holds :=
  Mine.top
