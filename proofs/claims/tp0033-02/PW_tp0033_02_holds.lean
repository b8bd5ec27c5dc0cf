import PyProof.Rows.All
import Wide.All
import OpenK.AllK
import Wide.FinOn
import KE.KIntText
import Lean
import PySem.Challenge.RW_tp0033_02
set_option Elab.async false
set_option maxRecDepth 100000
set_option linter.unusedVariables false
set_option linter.unusedSimpArgs false
set_option genInjectivity false
set_option genSizeOfSpec false
-- C0
namespace Mine
open PySem PySem.W PySem.Calls PyProof.Rows
open Sem (wp)

noncomputable def cal (b : Bool) (Γ : Ctx) : Prop := b = true → (Γ.code.isCaller || Γ.below.any fun c => c.1.isCaller) = true
noncomputable def calB (b : Bool) (Γ : Ctx) : Prop := b = true → (Γ.below.any fun c => c.1.isCaller) = true
theorem calB.cal {b : Bool} {Γ : Ctx} (h : calB b Γ) : cal b Γ := fun e => by rw [h e, Bool.or_true]

noncomputable def wpS {α : Type} (b : Bool) (M : Model) (A : Around) (t : Sem α) (Q : α → Shared → Prop) (E : Value → Shared → Prop) (s : Shared) : Prop :=
  ∀ Γ p, Γ.In A → cal b Γ → wp M Γ t (fun a _ s' => Q a s') (fun e _ s' => E e s') p s
noncomputable def codeS (b : Bool) (M : Model) (A : Around) (c : Code) (R : Result → Shared → Prop) (s : Shared) : Prop :=
  ∀ Γ p, Γ.code = c → Γ.Below A → calB b Γ → wpCode M Γ R p s

section
variable {α β : Type} {b : Bool} {M : Model} {A : Around} {E : Value → Shared → Prop} {s : Shared}
theorem wpS_of {t : Sem α} {Q : α → Shared → Prop} (h : wpAny M A t Q E s) : wpS b M A t Q E s := fun Γ p hΓ _ => h Γ p hΓ
theorem wpS_all {t : Sem α} {Q : α → Shared → Prop} (h : wpS false M A t Q E s) : wpAny M A t Q E s := fun Γ p hΓ => h Γ p hΓ fun e => nomatch e
theorem codeS_of {c : Code} {R : Result → Shared → Prop} (h : codeAny M A c R s) : codeS b M A c R s := fun Γ p hc hΓ _ => h Γ p hc hΓ
theorem codeS_all {c : Code} {R : Result → Shared → Prop} (h : codeS false M A c R s) : codeAny M A c R s := fun Γ p hc hΓ => h Γ p hc hΓ fun e => nomatch e
theorem wpS_pure {a : α} {Q : α → Shared → Prop} (h : Q a s) : wpS b M A (pure a) Q E s := fun _ _ _ _ => h
theorem wpS_mono {t : Sem α} {Q Q' : α → Shared → Prop} {E' : Value → Shared → Prop} (h : wpS b M A t Q E s) (hQ : ∀ a s, Q a s → Q' a s) (hE : ∀ e s, E e s → E' e s) : wpS b M A t Q' E' s :=
  fun Γ p hΓ hc => Sem.wp_mono M Γ t (fun a _ s => hQ a s) (fun e _ s => hE e s) p s (h Γ p hΓ hc)
theorem wpS_bind {m : Sem α} {f : α → Sem β} {Q : β → Shared → Prop} (h : wpS b M A m (fun a s' => wpS b M A (f a) Q E s') E s) : wpS b M A (m >>= f) Q E s := fun Γ p hΓ hc => by
  rw [Sem.wp_bind']
  exact Sem.wp_mono M Γ m (fun a p' s' h' => h' Γ p' hΓ hc) (fun _ _ _ h' => h') p s (h Γ p hΓ hc)
theorem wpS_lib {m : Sem α} {f : α → Sem β} {Q : β → Shared → Prop} (h : wpAny M A m (fun a s' => wpS b M A (f a) Q E s') E s) : wpS b M A (m >>= f) Q E s := wpS_bind (wpS_of h)
theorem wpS_standAt {f : Unit → Sem β} {pos : Pos} {Q : β → Shared → Prop} (h : wpS b M A (f ()) Q E s) : wpS b M A (standAt pos >>= f) Q E s := wpS_lib (wpAny_standAt h)
theorem wpS_onRaise {m : Sem α} {k : Value → Sem Unit} {Q : α → Shared → Prop} (h : wpS b M A m Q (fun e s' => wpS b M A (k e) (fun _ s'' => E e s'') E s') s) : wpS b M A (m.onRaise k) Q E s := fun Γ p hΓ hc => by
  rw [Sem.wp_onRaise]
  exact Sem.wp_mono M Γ m (fun _ _ _ h' => h') (fun e p' s' h' => h' Γ p' hΓ hc) p s (h Γ p hΓ hc)
theorem wpS_attempt {m : Sem α} {Q : Except Value α → Shared → Prop} (h : wpS b M A m (fun a => Q (.ok a)) (fun e => Q (.error e)) s) : wpS b M A m.attempt Q E s := fun Γ p hΓ hc => by rw [Sem.wp_attempt]; exact h Γ p hΓ hc
theorem wpS_holding {vs : List Value} {m : Sem α} {Q : α → Shared → Prop} (h : wpS b M A m Q E s) : wpS b M A (holding vs m) Q E s := fun Γ p hΓ hc => by rw [Sem.wp_holding]; exact h Γ p hΓ hc
theorem wpS_operate {vs : List Value} {m : Sem Value} {Q : Value → Shared → Prop} (h : wpS b M A m Q E s) : wpS b M A (operate vs m) Q E s := fun Γ p hΓ hc => by rw [Sem.wp_operate]; exact h Γ p hΓ hc

theorem calB_enter {Γ : Ctx} (hc : cal b Γ) (c : Code) (hd : Option Value) (p : Pos) : calB b (Γ.enter c hd p) := fun e => by
  show ((Γ.code, p) :: Γ.below).any (fun c => c.1.isCaller) = true
  rw [List.any_cons]; exact hc e
theorem wpS_run {c : Code} {h : Option Value} {Q : Flow → Shared → Prop} (hc : codeS b M (A.mark h) c (fun r s' => match r with | .ok f => Q f s' | .error e => E e s') s) (hnb : h ≠ some byPass := by intro x; cases x) : wpS b M A (run c h) Q E s :=
  fun Γ p hΓ hl => by rw [Sem.wp_run]; exact hc _ p rfl (hΓ.enter c h p hnb) (calB_enter hl c h p)
theorem wpS_call {f : Value} {vs : List Value} {kw : List (PySem.Str × Value)} {Q : Value → Shared → Prop} (hc : codeS b M A (.call f ⟨vs, kw⟩) (fun r s' => match r with | .ok (.ret v) => Q v s' | .ok _ => False | .error e => E e s') s) :
    wpS b M A (call f vs kw) Q E s := fun Γ p hΓ hl => by
  show wp M Γ (runValue (.call f ⟨vs, kw⟩)) _ _ p s
  rw [Sem.wp_runValue]
  exact hc _ p rfl (hΓ.enter _ none p (by intro x; cases x)) (calB_enter hl _ none p)
theorem codeS_of_tree {c : Code} {R : Result → Shared → Prop} (h : wpS b M (A.under c) (M.den c) (fun fin s' => match fin with | .done f => R (.ok f) s' | .again c' => c'.quiet = true ∧ codeS b M A c' R s') (fun e s' => R (.error e) s') s) :
    codeS b M A c R s := fun Γ p hc hΓ hl => by
  rw [wpCode_iff_wp, hc]
  refine Sem.wp_mono M Γ _ (fun fin p' s' h' => ?_) (fun _ _ _ h' => h') p s (h Γ p (hc ▸ hΓ.in) hl.cal)
  cases fin with
  | done f => exact h'
  | again c' => exact ⟨h'.1, h'.2 (Γ.goto c') p' rfl (hΓ.goto c') hl⟩
theorem codeS_loop {c : Code} {R : Result → Shared → Prop} (hq : c.quiet = true) (I : Nat → Shared → Prop)
    (turn : ∀ n s, I n s → wpS b M (A.under c) (M.den c) (fun fin s' => match fin with
        | .done f => R (.ok f) s'
        | .again c' => (c' = c ∧ ∃ m, m < n ∧ I m s') ∨ (c'.quiet = true ∧ codeS b M A c' R s')) (fun e s' => R (.error e) s') s)
    (n : Nat) (h : I n s) : codeS b M A c R s := by
  induction n using Nat.strongRecOn generalizing s with
  | ind n ih =>
    refine codeS_of_tree (wpS_mono (turn n s h) (fun fin s' hf => ?_) fun _ _ h' => h')
    cases fin with
    | done f => exact hf
    | again c' => exact hf.elim (fun ⟨e, m, hm, hI⟩ => ⟨e ▸ hq, e ▸ ih m hm hI⟩) id
theorem wpS_noted {env : Env} {m : Sem α} {Q : α → Shared → Prop} (h : wpS b M A m Q (notedBy M A env E) s) : wpS b M A (m.onRaise fun x => do noteFrame x env; theTreesLotGoes x) Q E s :=
  wpS_onRaise (wpS_mono h (fun _ _ q => q) fun _ _ hx => wpS_lib (wpAny_mono hx (fun _ _ e => wpS_of (wpAny_theTreesLotGoes e)) fun _ _ e => e))
end

section
variable {b : Bool} {M : Model} {A : Around} {E : Value → Shared → Prop} {s : Shared} {env : Env}
theorem wpS_execs_cons {x : Stmt} {rest : List Stmt} {Q : Flow → Shared → Prop} (h : wpS b M A (exec x env) (fun f s' => match f with | .next => wpS b M A (execs rest env) Q E s' | f => Q f s') E s) : wpS b M A (execs (x :: rest) env) Q E s := by
  rw [execs_cons]
  refine wpS_bind (wpS_mono h (fun f s' h' => ?_) fun _ _ e => e)
  cases f <;> first | exact h' | exact wpS_pure h'
theorem wpS_If {test : Expr} {body orelse : List Stmt} {pos : Pos} {Q : Flow → Shared → Prop} (h : wpS b M A (isTrue test env (eval test env)) (fun c s₂ => if c then wpS b M A (execs body env) Q E s₂ else wpS b M A (execs orelse env) Q E s₂) E s) :
    wpS b M A (exec (.If test body orelse pos) env) Q E s := by
  rw [exec_If]
  refine wpS_standAt (wpS_bind (wpS_mono h (fun c s₂ h₂ => ?_) fun _ _ e => e))
  cases c <;> exact h₂
theorem wpS_Return {e : Expr} {pos : Pos} {Q : Flow → Shared → Prop} (h : wpS b M A (eval e env) (fun v => Q (.ret v)) E s) : wpS b M A (exec (.Return (some e) pos) env) Q E s := by
  rw [exec_Return_some]
  exact wpS_standAt (wpS_bind (wpS_mono h (fun v s₁ h₁ => wpS_pure h₁) fun _ _ e => e))
theorem wpS_Assign {x : PySem.Str} {p pos : Pos} {value : Expr} {Q : Flow → Shared → Prop} (h : wpS b M A (eval value env) (fun v s₁ => wpAny M A (storeName env x v) (fun _ => Q .next) E s₁) E s)
    (hs : swapsWith value (some (.Name x p)) pos.line env = pure false) : wpS b M A (exec (.Assign [.Name x p] value pos) env) Q E s := by
  rw [exec_Assign_Name env x p value pos hs]
  exact wpS_standAt (wpS_bind (wpS_mono h (fun v s₁ h₁ => wpS_standAt (wpS_lib (wpAny_bindName (wpAny_mono h₁ (fun _ _ q => wpS_pure q) fun _ _ e => e)))) fun _ _ e => e))
theorem wpS_or {x : Expr} {rest : List Expr} {pos : Pos} {whole : Sem Value} {Q : Bool → Shared → Prop} (h : wpS b M A (isTrue x env (eval x env)) (fun c s' => if c then Q true s' else wpS b M A (isTrue (.BoolOp .Or rest pos) env whole) Q E s') E s) :
    wpS b M A (isTrue (.BoolOp .Or (x :: rest) pos) env whole) Q E s := by
  show wpS b M A (do
    match BoolOp.Or, ← isTrue x env (eval x env) with
    | .And, false => pure false
    | .Or, true => pure true
    | _, _ => allTrue .Or rest env) Q E s
  refine wpS_bind (wpS_mono h (fun c s' h' => ?_) fun _ _ x => x)
  cases c with
  | false => exact h'
  | true => exact wpS_pure h'
theorem wpS_cmp {l r : Expr} {op : CmpOp} {pos : Pos} {whole : Sem Value} {Q : Bool → Shared → Prop}
    (h : wpS b M A (eval l env) (fun x s₁ => wpAny M A (eval r env) (fun y s₂ => wpAny M A (compareOp op x y) (fun c s₃ => wpAny M A (truthy c) Q E s₃) E s₂) E s₁) E s) (hm : behindInMarks op r = false) :
    wpS b M A (isTrue (.Compare l [op] [r] pos) env whole) Q E s := by
  rw [isTrue_Compare1]
  simp only [markedBehindIn_of_false hm]
  refine wpS_bind (wpS_mono h (fun x s₁ h₁ => ?_) fun _ _ e => e)
  exact wpS_bind (wpS_holding (wpS_of (wpAny_mono h₁ (fun y s₂ h₂ => wpS_standAt (wpS_bind (wpS_operate (wpS_of (wpAny_mono h₂ (fun c s₃ h₃ => wpS_holding (wpS_of h₃)) fun _ _ e => e))))) fun _ _ e => e)))
end
section
variable {b : Bool} {prog : Program} {w : World} {A : Around} {E : Value → Shared → Prop} {s : Shared} {env : Env} {R : Result → Shared → Prop}
theorem wpS_try {body : List Stmt} {h₀ : ExceptHandler} {hs : List ExceptHandler} {pos : Pos} {Q : Flow → Shared → Prop}
    (h : wpS b (model prog w) A (execs body env) (fun f s₁ => match f with | .next => False | f => Q f s₁)
      (fun e s₁ => wpAny (model prog w) A (noteFrame e env) (fun _ s₂ => wpAny (model prog w) A (setFlight e none) (fun _ s₃ => wpAny (model prog w) A (handleBy e env (h₀ :: hs)) Q E s₃) E s₂) E s₁) s) :
    wpS b (model prog w) A (exec (.Try body (h₀ :: hs) [] [] pos) env) Q E s := by
  rw [arm_exec_Try]
  refine wpS_standAt ?_
  unfold tryStmt
  simp only [List.isEmpty_nil, if_true, List.isEmpty_cons, Bool.false_and, Bool.false_eq_true, if_false]
  refine wpS_bind (wpS_attempt (wpS_mono h (fun f s₁ h₁ => ?_) fun e s₁ h₁ => ?_))
  · cases f <;> first | exact h₁.elim | exact wpS_pure h₁
  · exact wpS_of (wpAny_bind (wpAny_mono h₁ (fun _ _ h₂ => wpAny_bind h₂) fun _ _ x => x))
theorem codeS_func {body : List Stmt} (h : wpS b (model prog w) (A.deeper env) (execs body env) (fun f s' => R (.ok (.ret (match f with | .ret v => v | _ => .none))) s')
      (fun e s' => wpAny (model prog w) (A.deeper env) (leaving env e) (fun _ s'' => R (.error e) s'') (fun e' s'' => R (.error e') s'') s') s) : codeS b (model prog w) A (.func body env) R s := by
  refine codeS_of_tree ?_
  show wpS b _ (A.deeper env) (do point; match ← (execs body env).onRaise (leaving env) with | .ret v => ret v | _ => ret .none) _ _ s
  refine wpS_lib (wpAny_point (wpS_bind (wpS_onRaise (wpS_mono h (fun f s' h' => ?_) fun _ _ h' => wpS_of h'))))
  cases f <;> exact wpS_pure h'
theorem codeS_def {a : Addr} {args : Args} {o : Obj} {fd : FuncData} {body : List Stmt} (hroom : A.depth < recursionLimit) (ho : s.heap.get? a = some o)
    (hd : o.data = .func fd) (hco : fd.scope.isCoroutine = false) (hgen : fd.scope.isGenerator = false) (hbody : fd.body = .stmts body) (hcd : s.heap.CodeRec fd.code fd.qualname)
    (h : wpAny (model prog w) A.in1 (bindArgs fd args) (fun binds s₁ => wpAny (model prog w) A.in1 (newFunctionEnv fd.scope fd.globals fd.closure binds (fd.qualname ++ ".<locals>.") (some a) fd.code none fd.builtins)
        (fun env s₂ => s₂.heap.NoLimit ∧ codeS b (model prog w) A (.func body env) R s₂) (fun e s' => R (.error e) s') s₁) (fun e s' => R (.error e) s') s) :
    codeS b (model prog w) A (.call (.ref a) args) R s := by
  refine codeS_of_tree ?_
  show wpS b _ A.in1 (callAny (.ref a) args) _ _ s
  simp only [callAny]
  refine wpS_lib (wpAny_load ho ?_)
  obtain ⟨c, oc, vs, tq, hc, hoc, hdc, hq⟩ := hcd
  simp only [hd, callFunction, hco, hgen, hbody, hc]
  rw [hc] at h
  refine wpS_lib (m := field (.ref c) 1) (wpAny_field hoc hdc hq (wpS_lib (wpAny_pure ?_)))
  exact wpS_lib (wpAny_mono h (fun binds s₁ h₁ => wpS_lib (wpAny_mono h₁ (fun env s₂ h₂ => wpS_lib (wpAny_enterFrame h₂.1 hroom (wpS_pure (And.intro rfl h₂.2)))) fun _ _ e => e)) fun _ _ e => e)
theorem codeS_for {target : Expr} {it : Value} {body : List Stmt} (I : Nat → Shared → Prop)
    (turn : ∀ n s, I n s → wpAny (model prog w) A (pyNext it) (fun r s₁ => match r with
      | none => R (.ok .next) s₁
      | some v => wpAny (model prog w) A (letOwnedTupleGo target it v) (fun _ s₁' => wpAny (model prog w) A (assign target env v) (fun _ s₂ => wpS b (model prog w) A (execs body env) (fun f s₃ => match f with
            | .next | .cont => ∃ m, m < n ∧ I m s₃
            | .brk => R (.ok .next) s₃
            | .ret v => R (.ok (.ret v)) s₃) (notedBy (model prog w) A env fun e s' => R (.error e) s') s₂) (notedBy (model prog w) A env fun e s' => R (.error e) s') s₁') (notedBy (model prog w) A env fun e s' => R (.error e) s') s₁) (notedBy (model prog w) A env fun e s' => R (.error e) s') s)
    (n : Nat) (h : I n s) : codeS b (model prog w) A (.forLoop target it body [] env) R s := by
  refine codeS_loop rfl I (fun n s hI => ?_) n h
  show wpS b _ A ((forTurn target it body [] env).onRaise (fun x => do noteFrame x env; theTreesLotGoes x)) _ _ s
  refine wpS_noted ?_
  simp only [forTurn]
  refine wpS_standAt (wpS_lib (wpAny_onRaise (wpAny_mono (turn n s hI) (fun r s₁ h₁ => ?_) fun _ _ h' => wpAny_standAt h')))
  cases r with
  | none => exact wpS_pure (.inr ⟨rfl, codeS_of (codeAny_block (wpAny_execs_nil h₁))⟩)
  | some v =>
    refine wpS_lib (wpAny_mono h₁ (fun _ s₁' h₁' => ?_) fun _ _ h' => h')
    refine wpS_lib (wpAny_mono h₁' (fun _ s₂ h₂ => wpS_bind (wpS_mono h₂ (fun f s₃ h₃ => ?_) fun _ _ h' => h')) fun _ _ h' => h')
    cases f with
    | next => exact wpS_pure (.inl ⟨rfl, h₃⟩)
    | cont => exact wpS_pure (.inl ⟨rfl, h₃⟩)
    | brk => exact wpS_pure h₃
    | ret v => exact wpS_pure h₃
theorem wpS_For {target iter : Expr} {body : List Stmt} {pos : Pos} {Q : Flow → Shared → Prop}
    (h : wpAny (model prog w) A (eval iter env) (fun x s₁ => wpAny (model prog w) A (pyIter x) (fun it s₂ => codeS b (model prog w) A (.forLoop target it body [] env) (fun r s' => match r with | .ok f => Q f s' | .error e => cameBackBy (model prog w) A env E e s') s₂) E s₁) E s)
    (hs : ∀ x, foldedSetIterable iter env x = pure x) : wpS b (model prog w) A (exec (.For target iter body [] pos) env) Q E s := by
  rw [exec_For]
  refine wpS_standAt (wpS_lib (wpAny_mono h (fun x s₁ h₁ => wpS_lib (wpAny_of_eq (hs x) (wpS_standAt (wpS_lib (wpAny_holding (wpAny_mono h₁ (fun it s₂ h₂ => ?_) fun _ _ e => e)))))) fun _ _ e => e))
  unfold runOwn
  refine wpS_onRaise (wpS_run (h := none) fun Γ p hc hΓ hl => wpCode_mono (fun r s' hr => ?_) (h₂ Γ p hc hΓ hl))
  cases r with
  | ok f => exact hr
  | error e => exact wpS_of hr
end
end Mine

-- G0
namespace Mine
open PySem PySem.W PySem.Calls PyProof.Rows

structure Called (q : Program) (loose : List PySem.Str) (XP : (PySem.Str → Option Value) → Heap → Prop) (YP : World → Heap → Prop) (r : RowW) (w : World) (s₀ s₁ : Shared) (mg mb : PySem.Str → Option Value) (args : List WData) (vs : List Value) (as : List Addr) : Prop where
  ground : Ground q loose r.records XP w s₀ mg mb s₁.heap
  hook : YP w s₁.heap
  gens : s₁.gens = #[]
  asked : r.claim.pre args = true
  lays : WData.layableAll args = true
  reads : ReadsAllW r.records (classAt s₀.heap) s₁.heap vs args as
  well : WellAll w.params s₁.heap vs args
  low : ∀ a ∈ as, (a == sysModules) = false

noncomputable def WalkS (q : Program) (loose : List PySem.Str) (XP : (PySem.Str → Option Value) → Heap → Prop) (YP : World → Heap → Prop) (r : RowW) (x : PySem.Str) : Prop :=
  ∀ w s₀ s₁ mg mb a args vs as, Called q loose XP YP r w s₀ s₁ mg mb args vs as → mg x = some (.ref a) →
    wpS true (model r.prog w) callerA (call (.ref a) vs) (fun v s' => GoodW r.claim (classAt s₀.heap) (ExcName.means s₀.heap) args s₁ (.ok (.ret v)) s') (fun _ _ => False) s₁

theorem caller_S {p : Program} {w : World} {s : Shared} {x : PySem.Str} {f : Value} {vs : List Value} {mg : PySem.Str → Option Value} {G : Value → Shared → Prop} (z : s.asleep) (n : s.heap.Ns mainGlobals mg) (hx : mg x = some f)
    (bare : ∀ v s', G v s' → s'.gens = #[]) (m : wpS true (model p w) callerA (call f vs) G (fun _ _ => False) s) :
    ∃ k v s' s'', schedN (denote table) p w k (.single s (callStub x vs)) = .halted (.done (.ret v)) s' ∧ G v s'' ∧ s'.heap = s''.heap ∧ s'.os = s''.os ∧ s'.heap.life = s.heap.life := by
  have t : wpS true (model p w) callerA (do match ← nsGet mainNs x with
      | some f => do ret (← PySem.call f vs)
      | none => unsupported "claim.caller:no-such-global") (fun fin s' => ∃ v, fin = .done (.ret v) ∧ G v s') (fun _ _ => False) s := by
    refine wpS_lib (wpAny_nsGet n ?_)
    rw [hx]
    exact wpS_bind (wpS_mono m (fun v _ g => wpS_pure ⟨v, rfl, g⟩) fun _ _ no => no)
  have t := t _ default caller_in fun _ => rfl
  obtain ⟨k, res, s'', s', sched, run, same, v, e, g⟩ := wp_halts_full (M := model p w) (R := fun res s' => ∃ v, res = .ok (.ret v) ∧ G v s') z (Sem.wp_mono _ _ _ (fun fin _ s' y => by
    obtain ⟨v, rfl, g⟩ := y
    exact ⟨⟨v, rfl, g⟩, by rw [bare v s' g]; simp [leftWithCleanup]⟩) (fun _ _ _ no => no.elim) _ _ t)
  subst e
  have y := Shared.forget_eq same
  exact ⟨k, v, _, _, sched, g, y.1, y.2.2.2.1, runN_life _ _ _ run⟩

theorem holds_S {r : OpenRow} {q : Program} {loose : List PySem.Str} {Xt : Shared → Bool} {XP : (PySem.Str → Option Value) → Heap → Prop} {α : Type} {Yf : Shared → α} {Ya : World → α} {YP : World → Heap → Prop} {d : DefRec} {kwd : List (PySem.Str × Expr)} {N : Nat}
    (top : LeftO r.prog q loose Xt Yf Ya N) (said : r.wellSaid = true) (promised : r.toRowW.promised) (bare : r.prog.bare) (chains : chainsOk q = true) (opens : opensWell r.prog = true) (free : frees r.toRowW = true) (quiet : r.writes = false) (none : r.records = [])
    (theDef : defOf q r.name = some (d, kwd)) (inText : r.prog.theDef r.name = some (d.params, d.body, d.scope)) (kws : kwWritten? d.params.kwonlyargs d.params.kw_defaults = some kwd)
    (xOf : ∀ s, Xt s = true → XP (s.heap.nsMap mainGlobals) s.heap) (xKeeps : ∀ mg h h', XP mg h → (∀ b o, h.get? b = some o → h'.get? b = some o) → XP mg h')
    (yOf : ∀ w s, Yf s = Ya w → YP w s.heap) (yKeeps : ∀ w h h', YP w h → (∀ b o, h.get? b = some o → h'.get? b = some o) → YP w h')
    (walk : WalkS q loose XP YP r.toRowW r.name) : r.Holds := by
  have ⟨same, under, after, apart, makers⟩ := frees_parts free
  have recs : r.toRowW.claim.records = [] := none
  refine ⟨said, promised, ⟨bare, opens, congrArg (List.map _) makers⟩, promised.witness, fun w => ?_⟩
  have B := top.behind xOf chains w
  refine ⟨B.1, fun sI ran => ?_⟩
  obtain ⟨s₀, fenced, noGens, s, done, sleeps, rest, globals, ground, hook⟩ := B.2 sI ran
  refine ⟨s₀, fenced, noGens, s, done, fun n m => ?pinned, by rw [recs]; exact fun _ y => (nomatch y), by rw [recs]; exact fun _ y => (nomatch y), fun args pre lay ord perm => ?call⟩
  case pinned =>
    have : n = r.name := by
      cases pin : r.pinned <;> rw [pin] at m
      · cases m
      · exact List.mem_singleton.mp m
    exact this ▸ pinned_of_view globals ground theDef inText kws
  case call =>
    have R : Ground q loose r.toRowW.records XP w s _ _ s.heap := (show r.toRowW.records = [] from none) ▸ ground
    obtain ⟨⟨vs, s₁⟩, l⟩ := Option.isSome_iff_exists.mp (layAllW_isSome (P := w.params) (ord := ord) R.has args _ s (pre_splitW pre).1)
    have al := layAllW_rest _ _ _ l
    have kp := layAllW_keeps _ _ _ l
    have ge : s.gens = #[] := Array.eq_empty_of_size_eq_zero (beq_iff_eq.mp rest)
    obtain ⟨as, rd, inn, old⟩ := reads_layAllW perm args s _ l lay _ fun _ _ y => y
    have L : Laid r.toRowW.records w s s₁ args vs as := { laid := ⟨ord, perm, l⟩, reads := rd, within := inn, old := old, keeps := kp, gens := al.1.trans ge, os := al.2.2.1 }
    have R₁ := R.keeps xKeeps kp
    obtain ⟨a, _, _, _, _, _, _, named, _⟩ := R₁.fn theDef
    obtain ⟨k, v, s', s'', sched, g, eh, eo, life⟩ := caller_S (x := r.name) (Shared.asleep_of_life al.2.2.2 sleeps) R₁.T.g named (fun _ _ g => g.2.2.2)
      (walk w s s₁ _ _ a args vs as ⟨R₁, yKeeps _ _ _ (yOf w s hook) kp, L.gens, pre, lay, L.reads, L.well, L.low R.low⟩ named)
    obtain ⟨ends, os, _⟩ := g.laid same (ident_freeW under after apart) L lay
    refine ⟨vs, s₁, l, k, _, s', sched, .inl ?_, fun _ i x y => ?_, fun y => ?_, congrArg _ (life.trans al.2.2.2), Shared.rest_eq (eo.trans os)⟩
    · obtain ⟨_, e, noRaise, good, sameArg, stays, inside⟩ | ⟨_, _, _, e, _⟩ := ends
      · cases e
        rw [eh]
        exact ⟨v, rfl, noRaise, good, sameArg, fun b o y _ => stays b o y, inside⟩
      · cases e
    · rw [ge] at y; cases i <;> cases y
    · rw [quiet] at y; cases y
end Mine

-- Head4
namespace Mine
open PySem PySem.W PyProof.Rows

noncomputable def pick22 : List Stmt → List Stmt
  | [a0, a1, _, a3, a4, a5, a6, a7, _, a9, a10, a11, a12, _, a14, a15, a16, _, a18, _, a20, a21, a22, a23, a24, a25, a26] => [a0, a1, a3, a4, a5, a6, a7, a9, a10, a11, a12, a14, a15, a16, a18, a20, a21, a22, a23, a24, a25, a26]
  | l => l
noncomputable def qview : Program := { PySem.Challenge.pw_tp0033_02 with main := { PySem.Challenge.pw_tp0033_02.main with body := pick22 PySem.Challenge.pw_tp0033_02.main.body } }

theorem ends_quick (tb : String → Option Builtin) (p₀ p : Program) (hp : p₀ = p) (w : World) (N : Nat) {α : Type} (f : Shared → α) (g : Shared → α) (hf : f = g) (r : Option α)
    (h : (((PySem.W.Fast.tw10274390034422433532 tb (opening p) w N (PySem.W.Fast.tw1435165496053646825 (opening p)).1 (PySem.W.Fast.tw1435165496053646825 (opening p)).2).bind (PySem.W.Fast.tw14289696077712309145 p)).bind fun s₀ =>
      match s₀.heap.isNs mainGlobals && s₀.gens.size == 0 with
      | true => (PySem.W.Fast.tw14082659384304107361 tb p w s₀.heap.objs.size (PySem.W.Fast.tw8920871248978507458 s₀.heap mainGlobals "__annotations__") N s₀ (topStub p)).bind fun s₁ => match staticsOk (PySem.W.Fast.tw5923862056798008813 p.main.body) s₀.heap s₁.heap && namesBound p s₁.heap && gensDone s₁ && laidKept s₀.heap s₁.heap with
        | true => some s₁
        | false => none
      | false => none).map g = r) : (openEnds tb p₀ w N).map f = r := by
  subst hf
  subst hp
  rw [← h, ← PySem.W.Fast.te10274390034422433532, ← PySem.W.Fast.te1435165496053646825, ← PySem.W.Fast.te14289696077712309145, ← PySem.W.Fast.te14082659384304107361, ← PySem.W.Fast.te8920871248978507458, ← PySem.W.Fast.te5923862056798008813]
  rfl
theorem seen_quick (q : Program) (loose mods : List PySem.Str) (Xt : Shared → Bool) (g0 : Bool) {α : Type} (Yf : Shared → α) : (fun s => (openSeen q loose mods Xt g0 s, Yf s)) = fun s => (PySem.W.Fast.tw4187177175401517315 q loose mods Xt g0 s, Yf s) := by
  rw [PySem.W.Fast.te4187177175401517315]
local macro_rules | `(tactic| o_head $H) => `(tactic| (
  refine holds_S (q := qview) (loose := ["_twin_re_1", "_twin_re_2", "tspecials", "_name_disallowed_re", "_value_disallowed_re", "_formatparam"]) (Xt := xlAt qview []) (XP := XL qview []) (Yf := Hook.obs $H) (Ya := Hook.val $H) (YP := Hook.says $H) (N := 4390)
    ?hl (by assumption) ?hw ⟨rfl, rfl, rfl, rfl, rfl, by decide +kernel⟩ (by decide +kernel) (by decide +kernel) (by decide +kernel) rfl rfl (by rfl) (by rfl) (by rfl) xl_of XL.keeps (Hook.of $H) (Hook.keeps $H) ?hc
  case hl => (intro w; refine ends_quick _ _ _ rfl _ _ _ _ (seen_quick _ _ _ _ _ _) _ ?_; kernel_rfl)))

set_option maxHeartbeats 0 in
theorem said : PySem.Challenge.rw_tp0033_02.wellSaid = true := by kernel_rfl
local macro_rules | `(tactic| o_law) => `(tactic| refine holds_law said fun said => ?_)
set_option maxHeartbeats 0 in
open_top hd for PySem.Challenge.rw_tp0033_02
end Mine

-- N0
namespace Mine
open PySem PySem.W PySem.Calls PyProof.Rows

mutual
inductive Rd (g : Heap) : Value → PyData → Prop
  | none : Rd g .none .none
  | bool (b : Bool) : Rd g (.bool b) (.bool b)
  | int (i : Int) (t : Tok) : Rd g (.int i t) (.int i)
  | str (x : PySem.Str) (t : Tok) : Rd g (.str x t) (.str x)
  | list {a : Addr} {vs : Array Value} {xs : List PyData} : g.IsList a vs → RdAll g vs.toList xs → Rd g (.ref a) (.list xs)
  | tuple {a : Addr} {vs : Array Value} {xs : List PyData} : IsTup g a vs → RdAll g vs.toList xs → Rd g (.ref a) (.tuple xs)
inductive RdAll (g : Heap) : List Value → List PyData → Prop
  | nil : RdAll g [] []
  | cons {v : Value} {vs : List Value} {d : PyData} {ds : List PyData} : Rd g v d → RdAll g vs ds → RdAll g (v :: vs) (d :: ds)
end

noncomputable def SeqObj (o : Obj) : Prop := ∃ vs n, o.data = .seq vs n

mutual
theorem Rd.on {g g' : Heap} (hk : ∀ b o, SeqObj o → g.get? b = some o → g'.get? b = some o) : ∀ {v : Value} {d : PyData}, Rd g v d → Rd g' v d
  | _, _, .none => .none
  | _, _, .bool b => .bool b
  | _, _, .int i t => .int i t
  | _, _, .str x t => .str x t
  | _, _, .list ⟨o, h1, h2, n, h3⟩ r => .list ⟨o, hk _ _ ⟨_, n, h3⟩ h1, h2, n, h3⟩ (RdAll.on hk r)
  | _, _, .tuple ⟨o, h1, h2, n, h3⟩ r => .tuple ⟨o, hk _ _ ⟨_, n, h3⟩ h1, h2, n, h3⟩ (RdAll.on hk r)
theorem RdAll.on {g g' : Heap} (hk : ∀ b o, SeqObj o → g.get? b = some o → g'.get? b = some o) : ∀ {vs : List Value} {ds : List PyData}, RdAll g vs ds → RdAll g' vs ds
  | _, _, .nil => .nil
  | _, _, .cons h r => .cons (Rd.on hk h) (RdAll.on hk r)
end
theorem Rd.keeps {g g' : Heap} (hk : g.StaysIn g') {v : Value} {d : PyData} (r : Rd g v d) : Rd g' v d := r.on fun b o _ e => hk b o e
theorem RdAll.keeps {g g' : Heap} (hk : g.StaysIn g') {vs : List Value} {ds : List PyData} (r : RdAll g vs ds) : RdAll g' vs ds := r.on fun b o _ e => hk b o e

mutual
theorem Rd.reads {g : Heap} : ∀ {v : Value} {d : PyData}, Rd g v d → ∃ as, Reads g v d as
  | _, _, .none => ⟨_, .none⟩
  | _, _, .bool b => ⟨_, .bool b⟩
  | _, _, .int i t => ⟨_, .int i t⟩
  | _, _, .str x t => ⟨_, .str x t⟩
  | _, _, .list ⟨_, h1, h2, _, h3⟩ r => let ⟨_, q⟩ := RdAll.reads r; ⟨_, .list h1 h2 h3 q⟩
  | _, _, .tuple ⟨_, h1, h2, _, h3⟩ r => let ⟨_, q⟩ := RdAll.reads r; ⟨_, .tuple h1 h2 h3 q⟩
theorem RdAll.reads {g : Heap} : ∀ {vs : List Value} {ds : List PyData}, RdAll g vs ds → ∃ as, ReadsAll g vs ds as
  | _, _, .nil => ⟨_, .nil⟩
  | _, _, .cons h r => let ⟨_, p⟩ := Rd.reads h; let ⟨_, q⟩ := RdAll.reads r; ⟨_, .cons p q⟩
end

theorem RdAll.length {g : Heap} {vs : List Value} {ds : List PyData} (h : RdAll g vs ds) : vs.length = ds.length := by
  induction vs generalizing ds with
  | nil => cases h; rfl
  | cons v vs ih => cases h with | cons h r => exact congrArg (· + 1) (ih r)
theorem RdAll.append {g : Heap} {vs ws : List Value} {ds es : List PyData} (h : RdAll g vs ds) (q : RdAll g ws es) : RdAll g (vs ++ ws) (ds ++ es) := by
  induction vs generalizing ds with
  | nil => cases h; exact q
  | cons v vs ih => cases h with | cons h r => exact .cons h (ih r)
theorem RdAll.get {g : Heap} {vs : List Value} {ds : List PyData} (h : RdAll g vs ds) {i : Nat} {d : PyData} (e : ds[i]? = some d) : ∃ v, vs[i]? = some v ∧ Rd g v d := by
  induction vs generalizing ds i with
  | nil => cases h; cases e
  | cons v vs ih => cases h with
    | cons h r => cases i with
      | zero => cases e; exact ⟨_, rfl, h⟩
      | succ i => exact ih r e
theorem RdAll.take {g : Heap} {vs : List Value} {ds : List PyData} (h : RdAll g vs ds) (n : Nat) : RdAll g (vs.take n) (ds.take n) := by
  induction vs generalizing ds n with
  | nil => cases h; rw [List.take_nil, List.take_nil]; exact .nil
  | cons v vs ih => cases h with
    | cons h r => cases n with
      | zero => exact .nil
      | succ n => exact .cons h (ih r n)
theorem RdAll.drop {g : Heap} {vs : List Value} {ds : List PyData} (h : RdAll g vs ds) (n : Nat) : RdAll g (vs.drop n) (ds.drop n) := by
  induction vs generalizing ds n with
  | nil => cases h; rw [List.drop_nil, List.drop_nil]; exact .nil
  | cons v vs ih => cases h with
    | cons h r => cases n with
      | zero => exact .cons h r
      | succ n => exact ih r n

inductive V where
  | d (x : PyData)
  | c (n : Nat)
  | hdr (u : V)
  | ext (v : Value)
  | rng (a b : Int)
  | emp (b : Bool)

inductive Cell where
  | live (xs : List PyData)
  | fixed (o : Obj)
noncomputable abbrev Store := List Cell
noncomputable abbrev Vars := List (PySem.Str × V)

structure Cx where
  prog : Program
  w : World
  K : Frag
  base : Heap
  p : Program
  loose : List PySem.Str
  mean : ExcName → Option Value
  mg : PySem.Str → Option Value
  mb : PySem.Str → Option Value
  hC : Addr
  X : K.In base
  T : Top p loose mean mg mb base

variable (cx : Cx)

noncomputable def vw (h : Heap) (l : List Addr) : Heap := hideAll h l
theorem vw_get {h : Heap} {l : List Addr} {b : Addr} {o : Obj} : (vw h l).get? b = some o ↔ h.get? b = some o ∧ b ∉ l :=
  ⟨fun e => ⟨of_hideAll l e, fun m => by have := hideAll_none l (h := h) m; unfold vw at e; rw [this] at e; cases e⟩, fun ⟨e, n⟩ => hideAll_get l e n⟩
theorem vw_mono {h h' : Heap} {l l' : List Addr} (hk : ∀ b o, b ∉ l → h.get? b = some o → h'.get? b = some o ∧ b ∉ l') : (vw h l).StaysIn (vw h' l') :=
  fun b o e => let ⟨e1, e2⟩ := vw_get.mp e; vw_get.mpr (hk b o e2 e1)

noncomputable def HasH (od : Obj) (hv : Value) : Prop := ∃ hsh tok n, od = { cls := .type "dict", data := .dict #[⟨hsh, .str "_headers" tok, hv⟩] n }

noncomputable def VRep (g : Heap) (al : List Addr) (v : Value) : V → Prop
  | .d x => Rd g v x
  | .c n => ∃ a, al[n]? = some a ∧ v = .ref a
  | .hdr u => ∃ x dx od hv, v = .ref x ∧ g.get? x = some (instObj cx.hC dx) ∧ g.get? dx = some od ∧ HasH od hv ∧ VRep g al hv u
  | .ext u => v = u
  | .rng a b => ∃ r t u w, v = .ref r ∧ IsRange g r a b 1 t u w
  | .emp b => ∃ dd n, (dd == sysModules) = false ∧ g.get? dd = some { cls := .type "dict", data := .dict #[] n } ∧ ((b = false ∧ v = .ref dd) ∨ (b = true ∧ ∃ r, v = .ref r ∧ g.get? r = some { cls := .type "dict_items", data := .fields #[.ref dd] }))

inductive VRepAll (g : Heap) (al : List Addr) : List Value → List V → Prop
  | nil : VRepAll g al [] []
  | cons {v : Value} {vs : List Value} {x : V} {xs : List V} : VRep cx g al v x → VRepAll g al vs xs → VRepAll g al (v :: vs) (x :: xs)

theorem getElem?_append_some {α : Type} {l l' : List α} {n : Nat} {a : α} (e : l[n]? = some a) : (l ++ l')[n]? = some a := by
  rw [List.getElem?_append_left (List.getElem?_eq_some_iff.mp e).1]; exact e

variable {cx}
theorem VRep.mono {g g' : Heap} {al al' : List Addr} (hk : g.StaysIn g') {x : V} {v : Value} (r : VRep cx g al v x) : VRep cx g' (al ++ al') v x := by
  induction x generalizing v with
  | d _ => exact Rd.keeps hk r
  | c _ => exact r.elim fun a h => ⟨a, getElem?_append_some h.1, h.2⟩
  | hdr _ ih =>
    obtain ⟨x, dx, od, hv, h1, h2, h3, h4, h5⟩ := r
    exact ⟨x, dx, od, hv, h1, hk _ _ h2, hk _ _ h3, h4, ih h5⟩
  | ext _ => exact r
  | rng _ _ =>
    obtain ⟨r, t, u, w, h1, h2⟩ := r
    exact ⟨r, t, u, w, h1, hk _ _ h2⟩
  | emp _ =>
    obtain ⟨dd, n, h1, h2, h3⟩ := r
    exact ⟨dd, n, h1, hk _ _ h2, h3.imp id fun ⟨e, r, h4, h5⟩ => ⟨e, r, h4, hk _ _ h5⟩⟩
theorem VRepAll.mono {g g' : Heap} {al al' : List Addr} (hk : g.StaysIn g') {vs : List Value} {xs : List V} (h : VRepAll cx g al vs xs) : VRepAll cx g' (al ++ al') vs xs := by
  induction h with
  | nil => exact .nil
  | cons h _ ih => exact .cons (h.mono hk) ih
variable (cx)

noncomputable def LX (h : Heap) (a : Addr) (vs : Array Value) : Prop := ∃ o, h.get? a = some o ∧ o.cls = .type "list" ∧ ∃ n, o.data = .seq vs n ∧ o.dict = none ∧ o.slots = #[]
theorem LX.isList {h : Heap} {a : Addr} {vs : Array Value} (x : LX h a vs) : h.IsList a vs := let ⟨o, h1, h2, n, h3, _⟩ := x; ⟨o, h1, h2, n, h3⟩
theorem LX.obj {h : Heap} {a : Addr} {vs : Array Value} (x : LX h a vs) : ∃ n, h.get? a = some { cls := .type "list", dict := none, data := .seq vs n, slots := #[] } := by
  obtain ⟨⟨c, d, dt, sl⟩, h1, h2, n, h3, h4, h5⟩ := x
  simp only at h2 h3 h4 h5
  subst h2 h3 h4 h5
  exact ⟨n, h1⟩

noncomputable def CellOk (g h : Heap) (a : Addr) : Cell → Prop
  | .live xs => ∃ vs, LX h a vs ∧ RdAll g vs.toList xs
  | .fixed o => h.get? a = some o
theorem CellOk.on {g g' h h' : Heap} {a : Addr} (hk : ∀ ob, h.get? a = some ob → h'.get? a = some ob) (hg : ∀ b o, SeqObj o → g.get? b = some o → g'.get? b = some o) : ∀ {c : Cell}, CellOk g h a c → CellOk g' h' a c
  | .live _, ⟨vs, ⟨ob, q1, q2⟩, r⟩ => ⟨vs, ⟨ob, hk ob q1, q2⟩, r.on hg⟩
  | .fixed o, e => hk o e
theorem CellOk.mono {g g' h h' : Heap} {a : Addr} (hk : ∀ ob, h.get? a = some ob → h'.get? a = some ob) (hg : g.StaysIn g') {c : Cell} (x : CellOk g h a c) : CellOk g' h' a c := x.on hk fun b o _ e => hg b o e
theorem CellOk.obj {g h : Heap} {a : Addr} : ∀ {c : Cell}, CellOk g h a c → ∃ ob, h.get? a = some ob
  | .live _, ⟨_, ⟨ob, q1, _⟩, _⟩ => ⟨ob, q1⟩
  | .fixed o, e => ⟨o, e⟩
noncomputable def StOk (g : Heap) (h : Heap) (al : List Addr) (st : Store) : Prop :=
  al.length = st.length ∧ ∀ (i : Nat) (a : Addr) (c : Cell), al[i]? = some a → st[i]? = some c → CellOk g h a c

noncomputable def SlEq (o o' : Obj) : Prop := ∃ sl, o' = { o with slots := sl } ∧ ((∃ vs, o.data = .fields vs) → sl = o.slots)
theorem SlEq.refl (o : Obj) : SlEq o o := ⟨o.slots, rfl, fun _ => rfl⟩
theorem SlEq.trans {a b c : Obj} (x : SlEq a b) (y : SlEq b c) : SlEq a c := by
  obtain ⟨s, rfl, f⟩ := x
  obtain ⟨t, rfl, g⟩ := y
  exact ⟨t, rfl, fun q => (g q).trans (f q)⟩
theorem SlEq.data {a b : Obj} (x : SlEq a b) : b.data = a.data := by obtain ⟨s, rfl, _⟩ := x; rfl
noncomputable def Sl (l : List Addr) (h h' : Heap) : Prop := ∀ a ∈ l, ∀ o, h.get? a = some o → ∃ o', h'.get? a = some o' ∧ SlEq o o'
theorem Sl.of {l : List Addr} {h h' : Heap} (k : ∀ a ∈ l, ∀ o, h.get? a = some o → h'.get? a = some o) : Sl l h h' := fun a m o e => ⟨o, k a m o e, .refl o⟩
theorem Sl.refl {l : List Addr} {h : Heap} : Sl l h h := .of fun _ _ _ e => e
theorem Sl.trans {l : List Addr} {h h' h'' : Heap} (x : Sl l h h') (y : Sl l h' h'') : Sl l h h'' := fun a m o e =>
  let ⟨o', e', q⟩ := x a m o e; let ⟨o'', e'', q'⟩ := y a m o' e'; ⟨o'', e'', q.trans q'⟩
theorem Sl.sub {l l' : List Addr} {h h' : Heap} (x : Sl l h h') (k : ∀ a ∈ l', a ∈ l) : Sl l' h h' := fun a m => x a (k a m)
noncomputable def Stk (A : Around) (ow : List Addr) (h : Heap) : Prop := ∃ l, A.frames = some l ∧ ∀ env ∈ l, env.scope.kind ≠ .module ∧ ∃ L, L ∈ ow ∧ env.frame = some L ∧ ∃ o, h.get? L = some o ∧ ∀ vs, o.data ≠ .fields vs
theorem Stk.keep {A : Around} {ow ow' : List Addr} {h h' : Heap} (x : Stk A ow h) (hs : ∀ a ∈ ow, a ∈ ow') (k : ∀ a ∈ ow, ∀ o, h.get? a = some o → (∀ vs, o.data ≠ .fields vs) → ∃ o', h'.get? a = some o' ∧ ∀ vs, o'.data ≠ .fields vs) : Stk A ow' h' :=
  let ⟨l, e, f⟩ := x; ⟨l, e, fun env m => let ⟨q, L, hL, hf, o, ho, hd⟩ := f env m; ⟨q, L, hs L hL, hf, k L hL o ho hd⟩⟩
theorem Stk.stay {A : Around} {ow : List Addr} {h h' : Heap} (x : Stk A ow h) (k : Sl ow h h') : Stk A ow h' := x.keep (fun _ m => m) fun a m o e d => let ⟨o', e', q⟩ := k a m o e; ⟨o', e', fun vs => by rw [q.data]; exact d vs⟩
structure Ok (A : Around) (ow al : List Addr) (st : Store) (h : Heap) (tk : Nat) : Prop where
  stk : Stk A ow h
  tok : 0 ≤ tk
  base : cx.base.StaysIn (vw h (ow ++ al))
  nd : (ow ++ al).Nodup
  own : ∀ a ∈ ow, ∃ o, h.get? a = some o ∧ ¬ SeqObj o
  st : StOk (vw h (ow ++ al)) h al st

structure Nx (A : Around) (ow al al' : List Addr) (st' : Store) (h h' : Heap) (tk' : Nat) : Prop where
  ok : Ok cx A ow (al ++ al') st' h' tk'
  fr : Sl ow h h'
  vw : (vw h (ow ++ al)).StaysIn (vw h' (ow ++ (al ++ al')))

noncomputable def ow (env : Env) (hx : List Addr) : List Addr := env.locals :: (env.cells.map (·.2) ++ hx)

noncomputable def VarsOk (env : Env) (g : Heap) (al : List Addr) (ρ : Vars) (h : Heap) : Prop :=
  ∃ (m cm : PySem.Str → Option Value), h.Ns env.locals m ∧ (∀ n c, env.cells.lookup n = some c → h.IsCell c (cm n)) ∧
    ∀ x v, ρ.lookup x = some v → ∃ val, VRep cx g al val v ∧
      ((env.kindOf x = some .local ∧ m x = some val) ∨ ((env.kindOf x = some .cell ∨ env.kindOf x = some .free) ∧ (env.cells.lookup x).isSome = true ∧ cm x = some val))

structure At (A : Around) (env : Env) (hx al : List Addr) (ρ : Vars) (st : Store) (h : Heap) (tk : Nat) : Prop where
  ok : Ok cx A (ow env hx) al st h tk
  fn : env.scope.kind = .function
  gl : env.globals = mainGlobals
  bi : env.builtins = builtinsNs
  vars : VarsOk cx env (vw h (ow env hx ++ al)) al ρ h

structure Room (A : Around) (d : Nat) : Prop where
  hd : A.handled = none
  dp : A.depth + 4 * d + 8 < recursionLimit
  un : A.units + 20 * d + 200 < cLine

noncomputable def Op (A : Around) (t : Sem Value) (o al : List Addr) (st : Store) (s : Shared) (Post : V → Store → Prop) : Prop :=
  ∀ Q E, (∀ r st' val al' h' tk', Nx cx A o al al' st' s.heap h' tk' → VRep cx (vw h' (o ++ (al ++ al'))) (al ++ al') val r → Post r st' → Q val { s with heap := h', toks := tk' }) →
    wpAny (model cx.prog cx.w) A t Q E s

noncomputable def te (d : Nat) (env : Env) (ρ : Vars) (st : Store) (e : Expr) (Post : V → Store → Prop) : Prop :=
  ∀ A hx al s, Room A d → At cx A env hx al ρ st s.heap s.toks → Op cx A (eval e env) (ow env hx) al st s Post

noncomputable def tt (d : Nat) (env : Env) (ρ : Vars) (st : Store) (e : Expr) (Post : Bool → Store → Prop) : Prop :=
  ∀ A hx al s Q E, Room A d → At cx A env hx al ρ st s.heap s.toks →
    (∀ b st' al' h' tk', Nx cx A (ow env hx) al al' st' s.heap h' tk' → Post b st' → Q b { s with heap := h', toks := tk' }) →
    wpAny (model cx.prog cx.w) A (isTrue e env (eval e env)) Q E s

inductive Fl where
  | next | brk | cont | ret (v : V)
noncomputable def FlRep (g : Heap) (al : List Addr) : Flow → Fl → Prop
  | .next, .next => True
  | .brk, .brk => True
  | .cont, .cont => True
  | .ret v, .ret x => VRep cx g al v x
  | _, _ => False

structure Nxs (A : Around) (env : Env) (hx al al' : List Addr) (ρ' : Vars) (st' : Store) (h h' : Heap) (tk' : Nat) : Prop where
  hk : Sl hx h h'
  at' : At cx A env hx (al ++ al') ρ' st' h' tk'
  vw : (vw h (ow env hx ++ al)).StaysIn (vw h' (ow env hx ++ (al ++ al')))

noncomputable def tsem (d : Nat) (env : Env) (ρ : Vars) (st : Store) (t : Sem Flow) (Post : Fl → Vars → Store → Prop) : Prop :=
  ∀ A hx al s Q E, Room A d → At cx A env hx al ρ st s.heap s.toks →
    (∀ fl ρ' st' f al' h' tk', Nxs cx A env hx al al' ρ' st' s.heap h' tk' → FlRep cx (vw h' (ow env hx ++ (al ++ al'))) (al ++ al') f fl → Post fl ρ' st' → Q f { s with heap := h', toks := tk' }) →
    wpAny (model cx.prog cx.w) A t Q E s
noncomputable def ts (d : Nat) (env : Env) (ρ : Vars) (st : Store) (x : Stmt) (Post : Fl → Vars → Store → Prop) : Prop := tsem cx d env ρ st (exec x env) Post
noncomputable def tb (d : Nat) (env : Env) (ρ : Vars) (st : Store) (xs : List Stmt) (Post : Fl → Vars → Store → Prop) : Prop := tsem cx d env ρ st (execs xs env) Post

noncomputable def tcall (d : Nat) (f : V) (xs : List V) (kw : List (PySem.Str × V)) (st : Store) (Post : V → Store → Prop) : Prop :=
  ∀ A o al s fv vs ks, Room A d → Ok cx A o al st s.heap s.toks → VRep cx (vw s.heap (o ++ al)) al fv f → VRepAll cx (vw s.heap (o ++ al)) al vs xs →
    ks.map (·.1) = kw.map (·.1) → VRepAll cx (vw s.heap (o ++ al)) al (ks.map (·.2)) (kw.map (·.2)) →
    Op cx A (call fv vs ks) o al st s Post

variable {cx}
theorem Nx.refl {o al : List Addr} {st : Store} {h : Heap} {tk : Nat} (x : Ok cx A o al st h tk) : Nx cx A o al [] st h h tk :=
  ⟨by rw [List.append_nil]; exact x, .refl, by rw [List.append_nil]; exact fun _ _ e => e⟩
theorem Nx.trans {o al al₁ al₂ : List Addr} {st₁ st₂ : Store} {h h₁ h₂ : Heap} {tk₁ tk₂ : Nat} (x : Nx cx A o al al₁ st₁ h h₁ tk₁) (y : Nx cx A o (al ++ al₁) al₂ st₂ h₁ h₂ tk₂) : Nx cx A o al (al₁ ++ al₂) st₂ h h₂ tk₂ :=
  ⟨by rw [← List.append_assoc]; exact y.ok, x.fr.trans y.fr, fun b o e => by rw [← List.append_assoc al]; exact y.vw b o (x.vw b o e)⟩

theorem VarsOk.next {env : Env} {hx al al' : List Addr} {ρ : Vars} {st' : Store} {h h' : Heap} {tk' : Nat} (x : VarsOk cx env (vw h (ow env hx ++ al)) al ρ h) (n : Nx cx A (ow env hx) al al' st' h h' tk') :
    VarsOk cx env (vw h' (ow env hx ++ (al ++ al'))) (al ++ al') ρ h' := by
  obtain ⟨m, cm, hm, hc, hv⟩ := x
  refine ⟨m, cm, ?_, fun k c e => ?_, fun y v e => ?_⟩
  · obtain ⟨o, es, ep, ho, r⟩ := hm
    obtain ⟨o', ho', q⟩ := n.fr _ (.head _) _ ho
    exact ⟨o', es, ep, ho', q.data.trans r.1, r.2⟩
  · obtain ⟨o, ho, hd⟩ := hc k c e
    obtain ⟨o', ho', q⟩ := n.fr _ (.tail _ (List.mem_append.mpr (.inl (List.mem_map.mpr ⟨(k, c), mem_of_lookup e, rfl⟩)))) _ ho
    exact ⟨o', ho', q.data.trans hd⟩
  · obtain ⟨val, r, q⟩ := hv y v e
    exact ⟨val, r.mono n.vw, q⟩
theorem At.next {env : Env} {hx al al' : List Addr} {ρ : Vars} {st st' : Store} {h h' : Heap} {tk tk' : Nat} (x : At cx A env hx al ρ st h tk) (n : Nx cx A (ow env hx) al al' st' h h' tk') : At cx A env hx (al ++ al') ρ st' h' tk' :=
  ⟨n.ok, x.fn, x.gl, x.bi, x.vars.next n⟩
theorem At.nxs {env : Env} {hx al al' : List Addr} {ρ : Vars} {st st' : Store} {h h' : Heap} {tk tk' : Nat} (x : At cx A env hx al ρ st h tk) (n : Nx cx A (ow env hx) al al' st' h h' tk') : Nxs cx A env hx al al' ρ st' h h' tk' :=
  ⟨n.fr.sub fun a m => .tail _ (List.mem_append.mpr (.inr m)), x.next n, n.vw⟩
theorem Nxs.trans {env : Env} {hx al al₁ al₂ : List Addr} {ρ₁ ρ₂ : Vars} {st₁ st₂ : Store} {h h₁ h₂ : Heap} {tk₁ tk₂ : Nat} (x : Nxs cx A env hx al al₁ ρ₁ st₁ h h₁ tk₁) (y : Nxs cx A env hx (al ++ al₁) al₂ ρ₂ st₂ h₁ h₂ tk₂) :
    Nxs cx A env hx al (al₁ ++ al₂) ρ₂ st₂ h h₂ tk₂ :=
  ⟨x.hk.trans y.hk, by rw [← List.append_assoc]; exact y.at', fun b o e => by rw [← List.append_assoc al]; exact y.vw b o (x.vw b o e)⟩
theorem Nxs.refl {env : Env} {hx al : List Addr} {ρ : Vars} {st : Store} {h : Heap} {tk : Nat} (x : At cx A env hx al ρ st h tk) : Nxs cx A env hx al [] ρ st h h tk :=
  ⟨.refl, by rw [List.append_nil]; exact x, by rw [List.append_nil]; exact fun _ _ e => e⟩

theorem plain_k {Post : V → Store → Prop} {st : Store} {o al : List Addr} {s : Shared} {Q : Value → Shared → Prop} (ok : Ok cx A o al st s.heap s.toks)
    (k : ∀ r st' val al' h' tk', Nx cx A o al al' st' s.heap h' tk' → VRep cx (vw h' (o ++ (al ++ al'))) (al ++ al') val r → Post r st' → Q val { s with heap := h', toks := tk' }) :
    ∀ val h' tk' r, s.toks ≤ tk' → s.heap.StaysIn h' → VRep cx (vw h' (o ++ al)) al val r → Post r st → Q val { s with heap := h', toks := tk' } := by
  intro val h' tk' r ht hk hv hp
  have hvw : (vw s.heap (o ++ al)).StaysIn (vw h' (o ++ al)) := vw_mono fun b ob n e => ⟨hk b ob e, n⟩
  refine k r st val [] h' tk' ⟨?_, .of fun a _ ob e => hk a ob e, by rw [List.append_nil]; exact hvw⟩ (by rw [List.append_nil]; exact hv) hp
  rw [List.append_nil]
  exact ⟨ok.stk.stay (.of fun a _ ob e => hk a ob e), Nat.zero_le _, fun b ob e => hvw b ob (ok.base b ob e), ok.nd, fun a m => let ⟨ob, e, n⟩ := ok.own a m; ⟨ob, hk a ob e, n⟩,
    ok.st.1, fun i a c e1 e2 => (ok.st.2 i a c e1 e2).mono (fun ob q => hk a ob q) hvw⟩

theorem Op.ofVal {A : Around} {t : Sem Value} {o al : List Addr} {st : Store} {s : Shared} {P : V → Store → Prop}
    (ok : Ok cx A o al st s.heap s.toks)
    (h : ∀ Q E, (∀ val h' tk' r, s.heap.StaysIn h' → VRep cx (vw h' (o ++ al)) al val r → P r st → Q val { s with heap := h', toks := tk' }) → wpAny (model cx.prog cx.w) A t Q E s) : Op cx A t o al st s P := by
  intro Q E k
  exact wpAny_with_toks (Nat.le_refl _) (h _ _ fun val h' tk' r hk hv hp ht => plain_k ok k val h' tk' r ht hk hv hp)

end Mine

-- N1
namespace Mine
open PySem PySem.W PySem.Calls PyProof.Rows

variable {cx : Cx} {d : Nat} {env : Env} {ρ : Vars} {st : Store} {pos : Pos}

theorem Ok.lt {o al : List Addr} {st : Store} {h : Heap} {tk : Nat} (x : Ok cx A o al st h tk) {a : Addr} (m : a ∈ o ++ al) : a < h.objs.size := by
  rcases List.mem_append.mp m with m | m
  · obtain ⟨_, e, _⟩ := x.own a m
    exact Heap.lt_size e
  · obtain ⟨i, hi, e⟩ := List.getElem_of_mem m
    have e' : al[i]? = some a := by rw [List.getElem?_eq_getElem hi, e]
    have hi' : i < st.length := x.st.1 ▸ hi
    obtain ⟨_, q⟩ := (x.st.2 i a (st[i]'hi') e' (List.getElem?_eq_getElem hi')).obj
    exact Heap.lt_size q
theorem Ok.fresh {o al : List Addr} {st : Store} {h : Heap} {tk : Nat} (x : Ok cx A o al st h tk) {a : Addr} (m : h.objs.size ≤ a) : a ∉ o ++ al := fun q => absurd (x.lt q) (Nat.not_lt.mpr m)
theorem stays_push (h : Heap) (o : Obj) : h.StaysIn (h.push o) := fun b ob e => Heap.get?_push_of_some o e

theorem rd_int {g : Heap} {v : Value} {i : Int} (r : Rd g v (.int i)) : ∃ t, v = .int i t := by cases r; exact ⟨_, rfl⟩
theorem rd_str {g : Heap} {v : Value} {x : PySem.Str} (r : Rd g v (.str x)) : ∃ t, v = .str x t := by cases r; exact ⟨_, rfl⟩
theorem rd_bool {g : Heap} {v : Value} {b : Bool} (r : Rd g v (.bool b)) : v = .bool b := by cases r; rfl
theorem rd_none {g : Heap} {v : Value} (r : Rd g v .none) : v = .none := by cases r; rfl
theorem rd_list {g : Heap} {v : Value} {xs : List PyData} (r : Rd g v (.list xs)) : ∃ a vs, v = .ref a ∧ g.IsList a vs ∧ RdAll g vs.toList xs := by cases r with | list h1 h2 => exact ⟨_, _, rfl, h1, h2⟩
theorem rd_tuple {g : Heap} {v : Value} {xs : List PyData} (r : Rd g v (.tuple xs)) : ∃ a vs, v = .ref a ∧ IsTup g a vs ∧ RdAll g vs.toList xs := by cases r with | tuple h1 h2 => exact ⟨_, _, rfl, h1, h2⟩
theorem isList_of_vw {h : Heap} {l : List Addr} {a : Addr} {vs : Array Value} (x : (vw h l).IsList a vs) : h.IsList a vs := let ⟨o, e, r⟩ := x; ⟨o, (vw_get.mp e).1, r⟩
theorem isTup_of_vw {h : Heap} {l : List Addr} {a : Addr} {vs : Array Value} (x : IsTup (vw h l) a vs) : IsTup h a vs := let ⟨o, e, r⟩ := x; ⟨o, (vw_get.mp e).1, r⟩

theorem lift_k {A : Around} {o al al₁ : List Addr} {st₁ : Store} {s : Shared} {h₁ : Heap} {tk₁ : Nat} {Q : Value → Shared → Prop} {Post : V → Store → Prop} (n : Nx cx A o al al₁ st₁ s.heap h₁ tk₁)
    (k : ∀ r st' val al' h' tk', Nx cx A o al al' st' s.heap h' tk' → VRep cx (vw h' (o ++ (al ++ al'))) (al ++ al') val r → Post r st' → Q val { s with heap := h', toks := tk' }) :
    ∀ r st' val al' h' tk', Nx cx A o (al ++ al₁) al' st' ({ s with heap := h₁, toks := tk₁ } : Shared).heap h' tk' → VRep cx (vw h' (o ++ ((al ++ al₁) ++ al'))) ((al ++ al₁) ++ al') val r → Post r st' →
      Q val { ({ s with heap := h₁, toks := tk₁ } : Shared) with heap := h', toks := tk' } :=
  fun r st' val al' h' tk' m v p => k r st' val (al₁ ++ al') h' tk' (n.trans m) (by rw [← List.append_assoc al]; exact v) p

theorem lift_b {α : Type} {o al al₁ : List Addr} {st₁ : Store} {s : Shared} {h₁ : Heap} {tk₁ : Nat} {Q : α → Shared → Prop} {Post : α → Store → Prop} (n : Nx cx A o al al₁ st₁ s.heap h₁ tk₁)
    (k : ∀ b st' al' h' tk', Nx cx A o al al' st' s.heap h' tk' → Post b st' → Q b { s with heap := h', toks := tk' }) :
    ∀ b st' al' h' tk', Nx cx A o (al ++ al₁) al' st' ({ s with heap := h₁, toks := tk₁ } : Shared).heap h' tk' → Post b st' → Q b { ({ s with heap := h₁, toks := tk₁ } : Shared) with heap := h', toks := tk' } :=
  fun b st' al' h' tk' m p => k b st' (al₁ ++ al') h' tk' (n.trans m) p

section
variable {Post : V → Store → Prop}

theorem name_run {A : Around} {hx al : List Addr} {s : Shared} {x : PySem.Str} {v : V} {Q : Value → Shared → Prop} {E : Value → Shared → Prop} (a : At cx A env hx al ρ st s.heap s.toks) (hl : ρ.lookup x = some v) (k : ∀ val, VRep cx (vw s.heap (ow env hx ++ al)) al val v → Q val s)
    (hd : (x == ("__debug__" : PySem.Str)) = false) (hn : (x == ("__classdict__" : PySem.Str)) = false) : wpAny (model cx.prog cx.w) A (eval (.Name x pos) env) Q E s := by
  obtain ⟨m, cm, hm, hc, hv⟩ := a.vars
  obtain ⟨val, r, q⟩ := hv x v hl
  have fin : Q val s := k val r
  refine wpAny_Name ?_ hd
  rcases q with ⟨k1, k2⟩ | ⟨k1 | k1, k2, k3⟩
  · exact wpAny_loadName_local a.fn k1 hm k2 fin
  · obtain ⟨c, hcl⟩ := Option.isSome_iff_exists.mp k2
    exact wpAny_loadName_cell a.fn k1 hcl (k3 ▸ hc x c hcl) fin
  · obtain ⟨c, hcl⟩ := Option.isSome_iff_exists.mp k2
    exact wpAny_loadName_free a.fn k1 hcl (k3 ▸ hc x c hcl) fin hn
theorem te_name {x : PySem.Str} {v : V} (hl : ρ.lookup x = some v) (h : Post v st) (hd : (x == ("__debug__" : PySem.Str)) = false := by rfl) (hn : (x == ("__classdict__" : PySem.Str)) = false := by rfl) :
    te cx d env ρ st (.Name x pos) Post := by
  intro A hx al s R a
  exact Op.ofVal a.ok fun Q E k => name_run a hl (fun val r => k val s.heap s.toks v (fun _ _ e => e) r h) hd hn

theorem At.mg {hx al : List Addr} {h : Heap} {tk : Nat} (a : At cx A env hx al ρ st h tk) : h.Ns mainGlobals cx.mg :=
  cx.T.g.keeps fun b o e => (vw_get.mp (a.ok.base b o e)).1
theorem At.mb {hx al : List Addr} {h : Heap} {tk : Nat} (a : At cx A env hx al ρ st h tk) : h.Ns builtinsNs cx.mb :=
  cx.T.b.keeps fun b o e => (vw_get.mp (a.ok.base b o e)).1

theorem te_glob {x : PySem.Str} {v : Value} (e : nsIn cx.K mainGlobals x = some (some v)) (h : Post (.ext v) st)
    (hkx : env.kindOf x = some .globalImplicit := by rfl) (hd : (x == ("__debug__" : PySem.Str)) = false := by rfl) : te cx d env ρ st (.Name x pos) Post := by
  intro A hx al s R a
  refine Op.ofVal a.ok fun Q E k => ?_
  exact Name_function_global a.fn hkx (loadGlobal_global (by rw [a.gl]; exact a.mg) (mg_of cx.X cx.T.g e) (k v s.heap s.toks (.ext v) (fun _ _ e => e) rfl h)) hd
theorem te_globS {x y : PySem.Str} {t : Tok} (e : nsIn cx.K mainGlobals x = some (some (.str y t))) (h : Post (.d (.str y)) st)
    (hkx : env.kindOf x = some .globalImplicit := by rfl) (hd : (x == ("__debug__" : PySem.Str)) = false := by rfl) : te cx d env ρ st (.Name x pos) Post := by
  intro A hx al s R a
  refine Op.ofVal a.ok fun Q E k => ?_
  exact Name_function_global a.fn hkx (loadGlobal_global (by rw [a.gl]; exact a.mg) (mg_of cx.X cx.T.g e) (k _ s.heap s.toks (.d (.str y)) (fun _ _ e => e) (.str y t) h)) hd
theorem builtin_run {A : Around} {hx al : List Addr} {s : Shared} {x : PySem.Str} {v : Value} {Q : Value → Shared → Prop} {E : Value → Shared → Prop} (a : At cx A env hx al ρ st s.heap s.toks) (e : nsIn cx.K mainGlobals x = some none) (hv : bootBuiltins x = some v) (k : Q v s)
    (hkx : env.kindOf x = some .globalImplicit) (hn : x ≠ "__name__") (hd : (x == ("__debug__" : PySem.Str)) = false) : wpAny (model cx.prog cx.w) A (eval (.Name x pos) env) Q E s :=
  Name_function_global a.fn hkx (loadGlobal_builtin (by rw [a.gl]; exact a.mg) (mg_none_of cx.X cx.T.g e) (by rw [a.bi]; exact a.mb) ((cx.T.builtins x hn).trans hv) k) hd
theorem te_builtin {x : PySem.Str} {v : Value} (e : nsIn cx.K mainGlobals x = some none) (hv : bootBuiltins x = some v) (h : Post (.ext v) st)
    (hkx : env.kindOf x = some .globalImplicit := by rfl) (hn : x ≠ "__name__" := by decide) (hd : (x == ("__debug__" : PySem.Str)) = false := by rfl) : te cx d env ρ st (.Name x pos) Post := by
  intro A hx al s R a
  exact Op.ofVal a.ok fun Q E k => builtin_run a e hv (k v s.heap s.toks (.ext v) (fun _ _ e => e) rfl h) hkx hn hd

theorem te_int {i : Int} {kk : Nat} (h : Post (.d (.int i)) st) : te cx d env ρ st (.Constant (.int i) kk pos) Post := by
  intro A hx al s R a
  exact Op.ofVal a.ok fun Q E k => wpAny_Constant_int (k _ s.heap _ (.d (.int i)) (fun _ _ e => e) (.int i _) h)
theorem te_str {x : PySem.Str} {kk : Nat} (h : Post (.d (.str x)) st) : te cx d env ρ st (.Constant (.str x) kk pos) Post := by
  intro A hx al s R a
  exact Op.ofVal a.ok fun Q E k => Constant_str (k _ s.heap _ (.d (.str x)) (fun _ _ e => e) (.str x _) h)
theorem te_bool {b : Bool} {kk : Nat} (h : Post (.d (.bool b)) st) : te cx d env ρ st (.Constant (.bool b) kk pos) Post := by
  intro A hx al s R a
  exact Op.ofVal a.ok fun Q E k => Constant_bool (k _ s.heap s.toks (.d (.bool b)) (fun _ _ e => e) (.bool b) h)
theorem te_none {kk : Nat} (h : Post (.d .none) st) : te cx d env ρ st (.Constant .none kk pos) Post := by
  intro A hx al s R a
  exact Op.ofVal a.ok fun Q E k => Constant_none (k _ s.heap s.toks (.d .none) (fun _ _ e => e) .none h)
end

noncomputable def tbin (cx : Cx) (d : Nat) (op : Operator) (a b : V) (st : Store) (Post : V → Store → Prop) : Prop :=
  ∀ A o al s va vb, Room A d → Ok cx A o al st s.heap s.toks → VRep cx (vw s.heap (o ++ al)) al va a → VRep cx (vw s.heap (o ++ al)) al vb b → Op cx A (binaryOp op va vb) o al st s Post
noncomputable def tinp (cx : Cx) (d : Nat) (op : Operator) (a b : V) (st : Store) (Post : V → Store → Prop) : Prop :=
  ∀ A o al s va vb, Room A d → Ok cx A o al st s.heap s.toks → VRep cx (vw s.heap (o ++ al)) al va a → VRep cx (vw s.heap (o ++ al)) al vb b → Op cx A (inplaceOp op va vb) o al st s Post
noncomputable def tcmp (cx : Cx) (d : Nat) (op : CmpOp) (a b : V) (st : Store) (Post : V → Store → Prop) : Prop :=
  ∀ A o al s va vb, Room A d → Ok cx A o al st s.heap s.toks → VRep cx (vw s.heap (o ++ al)) al va a → VRep cx (vw s.heap (o ++ al)) al vb b → Op cx A (compareOp op va vb) o al st s Post
noncomputable def tun (cx : Cx) (d : Nat) (op : UnaryOp) (a : V) (st : Store) (Post : V → Store → Prop) : Prop :=
  ∀ A o al s va, Room A d → Ok cx A o al st s.heap s.toks → VRep cx (vw s.heap (o ++ al)) al va a → Op cx A (unaryOp op va) o al st s Post
noncomputable def ttr (cx : Cx) (d : Nat) (a : V) (st : Store) (Post : Bool → Store → Prop) : Prop :=
  ∀ A o al s va, Room A d → Ok cx A o al st s.heap s.toks → VRep cx (vw s.heap (o ++ al)) al va a → ∀ Q E,
    (∀ b st' al' h' tk', Nx cx A o al al' st' s.heap h' tk' → Post b st' → Q b { s with heap := h', toks := tk' }) → wpAny (model cx.prog cx.w) A (truthy va) Q E s

section
variable {Post : V → Store → Prop} {PostB : Bool → Store → Prop}
theorem te_bin {op : Operator} {l r : Expr} (h : te cx d env ρ st l fun a st₁ => te cx d env ρ st₁ r fun b st₂ => tbin cx d op a b st₂ Post) : te cx d env ρ st (.BinOp l op r pos) Post := by
  intro A hx al s R a Q E k
  refine wpAny_BinOp (h A hx al s R a _ E fun x st₁ va al₁ h₁ tk₁ n₁ v₁ p₁ => ?_)
  refine p₁ A _ _ _ R (a.next n₁) _ E fun y st₂ vb al₂ h₂ tk₂ n₂ v₂ p₂ => ?_
  exact p₂ A _ _ _ va vb R n₂.ok (v₁.mono n₂.vw) v₂ Q E (lift_k (A := A) n₂ (lift_k (A := A) n₁ k))
theorem te_un {op : UnaryOp} {l : Expr} (h : te cx d env ρ st l fun a st₁ => tun cx d op a st₁ Post) : te cx d env ρ st (.UnaryOp op l pos) Post := by
  intro A hx al s R a Q E k
  refine UnaryOp_ (h A hx al s R a _ E fun x st₁ va al₁ h₁ tk₁ n₁ v₁ p₁ => ?_)
  exact p₁ A _ _ _ va R n₁.ok v₁ Q E (lift_k (A := A) n₁ k)
theorem te_cmp {op : CmpOp} {l r : Expr} (h : te cx d env ρ st l fun a st₁ => te cx d env ρ st₁ r fun b st₂ => tcmp cx d op a b st₂ Post) (hm : behindInMarks op r = false := by with_unfolding_all rfl) :
    te cx d env ρ st (.Compare l [op] [r] pos) Post := by
  intro A hx al s R a Q E k
  refine wpAny_Compare1 (h A hx al s R a _ E fun x st₁ va al₁ h₁ tk₁ n₁ v₁ p₁ => ?_) hm
  refine p₁ A _ _ _ R (a.next n₁) _ E fun y st₂ vb al₂ h₂ tk₂ n₂ v₂ p₂ => ?_
  exact p₂ A _ _ _ va vb R n₂.ok (v₁.mono n₂.vw) v₂ Q E (lift_k (A := A) n₂ (lift_k (A := A) n₁ k))
theorem te_ifexp {t b o : Expr} (h : tt cx d env ρ st t fun c st₁ => (c = true → te cx d env ρ st₁ b Post) ∧ (c = false → te cx d env ρ st₁ o Post)) : te cx d env ρ st (.IfExp t b o pos) Post := by
  intro A hx al s R a Q E k
  refine IfExp_ (h A hx al s _ E R a fun c st₁ al₁ h₁ tk₁ n₁ p₁ => ?_)
  cases c
  · exact p₁.2 rfl A _ _ _ R (a.next n₁) Q E (lift_k (A := A) n₁ k)
  · exact p₁.1 rfl A _ _ _ R (a.next n₁) Q E (lift_k (A := A) n₁ k)

theorem tt_cmp {op : CmpOp} {l r : Expr} (h : te cx d env ρ st l fun a st₁ => te cx d env ρ st₁ r fun b st₂ => tcmp cx d op a b st₂ fun c st₃ => ttr cx d c st₃ PostB)
    (hm : behindInMarks op r = false := by with_unfolding_all rfl) : tt cx d env ρ st (.Compare l [op] [r] pos) PostB := by
  intro A hx al s Q E R a k
  refine wpAny_isTrue_Compare1 (h A hx al s R a _ E fun x st₁ va al₁ h₁ tk₁ n₁ v₁ p₁ => ?_) hm
  refine p₁ A _ _ _ R (a.next n₁) _ E fun y st₂ vb al₂ h₂ tk₂ n₂ v₂ p₂ => ?_
  refine p₂ A _ _ _ va vb R n₂.ok (v₁.mono n₂.vw) v₂ _ E fun z st₃ vc al₃ h₃ tk₃ n₃ v₃ p₃ => ?_
  exact p₃ A _ _ _ vc R n₃.ok v₃ Q E (lift_b n₃ (lift_b n₂ (lift_b n₁ k)))
theorem tt_and_nil (h : PostB true st) : tt cx d env ρ st (.BoolOp .And [] pos) PostB := by
  intro A hx al s Q E R a k
  exact isTrue_and_nil (k true st [] s.heap s.toks (Nx.refl a.ok) h)
theorem tt_or_nil (h : PostB false st) : tt cx d env ρ st (.BoolOp .Or [] pos) PostB := by
  intro A hx al s Q E R a k
  exact isTrue_or_nil (k false st [] s.heap s.toks (Nx.refl a.ok) h)
theorem tt_and {x : Expr} {r : List Expr} (h : tt cx d env ρ st x fun c st₁ => (c = true → tt cx d env ρ st₁ (.BoolOp .And r pos) PostB) ∧ (c = false → PostB false st₁)) : tt cx d env ρ st (.BoolOp .And (x :: r) pos) PostB := by
  intro A hx al s Q E R a k
  refine isTrue_and (h A hx al s _ E R a fun c st₁ al₁ h₁ tk₁ n₁ p₁ => ?_)
  cases c
  · exact k false st₁ al₁ h₁ tk₁ n₁ (p₁.2 rfl)
  · exact p₁.1 rfl A _ _ _ Q E R (a.next n₁) (lift_b n₁ k)
theorem tt_or {x : Expr} {r : List Expr} (h : tt cx d env ρ st x fun c st₁ => (c = true → PostB true st₁) ∧ (c = false → tt cx d env ρ st₁ (.BoolOp .Or r pos) PostB)) : tt cx d env ρ st (.BoolOp .Or (x :: r) pos) PostB := by
  intro A hx al s Q E R a k
  refine isTrue_or (h A hx al s _ E R a fun c st₁ al₁ h₁ tk₁ n₁ p₁ => ?_)
  cases c
  · exact p₁.2 rfl A _ _ _ Q E R (a.next n₁) (lift_b n₁ k)
  · exact k true st₁ al₁ h₁ tk₁ n₁ (p₁.1 rfl)
theorem tt_plain {e : Expr} (h : te cx d env ρ st e fun a st₁ => ttr cx d a st₁ PostB) (he : isTrue e env (eval e env) = (do let v ← eval e env; standAt e.pos; holding [v] (truthy v)) := by rfl) : tt cx d env ρ st e PostB := by
  intro A hx al s Q E R a k
  refine isTrue_plain (h A hx al s R a _ E fun x st₁ va al₁ h₁ tk₁ n₁ v₁ p₁ => ?_) he
  exact p₁ A _ _ _ va R n₁.ok v₁ Q E (lift_b n₁ k)
theorem ttr_bool {b : Bool} (h : PostB b st) : ttr cx d (.d (.bool b)) st PostB := by
  intro A o al s va R ok v Q E k
  rw [rd_bool v]
  exact wpAny_truthy_bool (k b st [] s.heap s.toks (Nx.refl ok) h)
theorem ttr_none (h : PostB false st) : ttr cx d (.d .none) st PostB := by
  intro A o al s va R ok v Q E k
  rw [rd_none v]
  exact truthy_none (k false st [] s.heap s.toks (Nx.refl ok) h)

theorem tbin_add {i j : Int} (h : Post (.d (.int (i + j))) st) : tbin cx d .Add (.d (.int i)) (.d (.int j)) st Post := by
  intro A o al s va vb R ok v1 v2
  obtain ⟨t, rfl⟩ := rd_int v1; obtain ⟨u, rfl⟩ := rd_int v2
  exact Op.ofVal ok fun Q E k => PyProof.Rows.add_int (k _ s.heap _ (.d (.int (i + j))) (fun _ _ e => e) (.int _ _) h)
theorem tbin_sub {i j : Int} (h : Post (.d (.int (i - j))) st) : tbin cx d .Sub (.d (.int i)) (.d (.int j)) st Post := by
  intro A o al s va vb R ok v1 v2
  obtain ⟨t, rfl⟩ := rd_int v1; obtain ⟨u, rfl⟩ := rd_int v2
  exact Op.ofVal ok fun Q E k => PyProof.Rows.sub_int (k _ s.heap _ (.d (.int (i - j))) (fun _ _ e => e) (.int _ _) h)
theorem tbin_mod {i j : Int} (hj : j ≠ 0) (h : Post (.d (.int (i.fmod j))) st) : tbin cx d .Mod (.d (.int i)) (.d (.int j)) st Post := by
  intro A o al s va vb R ok v1 v2
  obtain ⟨t, rfl⟩ := rd_int v1; obtain ⟨u, rfl⟩ := rd_int v2
  exact Op.ofVal ok fun Q E k => mod_int hj (k _ s.heap _ (.d (.int (i.fmod j))) (fun _ _ e => e) (.int _ _) h)
theorem tbin_div {i j : Int} (hj : j ≠ 0) (hp : Builtin.divisionGoesByPylong i j = false) (h : Post (.d (.int (i.fdiv j))) st) : tbin cx d .FloorDiv (.d (.int i)) (.d (.int j)) st Post := by
  intro A o al s va vb R ok v1 v2
  obtain ⟨t, rfl⟩ := rd_int v1; obtain ⟨u, rfl⟩ := rd_int v2
  exact Op.ofVal ok fun Q E k => floordiv_int hj (k _ s.heap _ (.d (.int (i.fdiv j))) (fun _ _ e => e) (.int _ _) h) (.inl hp)
theorem tbin_cat {x y : PySem.Str} (hz : x.length + y.length ≤ sizeLine) (h : Post (.d (.str (x ++ y))) st) : tbin cx d .Add (.d (.str x)) (.d (.str y)) st Post := by
  intro A o al s va vb R ok v1 v2
  obtain ⟨t, rfl⟩ := rd_str v1; obtain ⟨u, rfl⟩ := rd_str v2
  exact Op.ofVal ok fun Q E k => add_str (fun t' tk => k _ s.heap tk (.d (.str (x ++ y))) (fun _ _ e => e) (.str _ _) h) hz
theorem tinp_cat {x y : PySem.Str} (hz : x.length + y.length ≤ sizeLine) (h : Post (.d (.str (x ++ y))) st) : tinp cx d .Add (.d (.str x)) (.d (.str y)) st Post := by
  intro A o al s va vb R ok v1 v2
  obtain ⟨t, rfl⟩ := rd_str v1; obtain ⟨u, rfl⟩ := rd_str v2
  exact Op.ofVal ok fun Q E k => iadd_str (fun t' tk => k _ s.heap tk (.d (.str (x ++ y))) (fun _ _ e => e) (.str _ _) h) hz
end

end Mine

-- N2
namespace Mine
open PySem PySem.W PySem.Calls PyProof.Rows

variable {cx : Cx} {d : Nat} {env : Env} {ρ : Vars} {st : Store} {pos : Pos}

theorem Room.units {A : Around} {d : Nat} (R : Room A d) : A.units + 64 < cLine := by have := R.un; omega

section
variable {Post : V → Store → Prop} {PostB : Bool → Store → Prop}

theorem tcmp_eqS {x y : PySem.Str} (h : Post (.d (.bool (x == y))) st) : tcmp cx d .Eq (.d (.str x)) (.d (.str y)) st Post := by
  intro A o al s va vb R ok v1 v2
  obtain ⟨t, rfl⟩ := rd_str v1; obtain ⟨u, rfl⟩ := rd_str v2
  exact Op.ofVal ok fun Q E k => eq_str (k _ s.heap s.toks (.d (.bool _)) (fun _ _ e => e) (.bool _) h)
theorem tcmp_neS {x y : PySem.Str} (h : Post (.d (.bool (x != y))) st) : tcmp cx d .NotEq (.d (.str x)) (.d (.str y)) st Post := by
  intro A o al s va vb R ok v1 v2
  obtain ⟨t, rfl⟩ := rd_str v1; obtain ⟨u, rfl⟩ := rd_str v2
  exact Op.ofVal ok fun Q E k => ne_str (k _ s.heap s.toks (.d (.bool _)) (fun _ _ e => e) (.bool _) h)
theorem tcmp_eqD {x y : PyData} (hx : SeqAt.shaped x = true) (hy : SeqAt.shaped y = true) (h : Post (.d (.bool (PyData.eqv x y))) st) : tcmp cx d .Eq (.d x) (.d y) st Post := by
  intro A o al s va vb R ok v1 v2
  obtain ⟨as, r1⟩ := Rd.reads (Rd.keeps (fun b o e => (vw_get.mp e).1) v1)
  obtain ⟨bs, r2⟩ := Rd.reads (Rd.keeps (fun b o e => (vw_get.mp e).1) v2)
  exact Op.ofVal ok fun Q E k => eq_dataH r1 r2 hx hy R.units (k _ s.heap s.toks (.d (.bool _)) (fun _ _ e => e) (.bool _) h)
theorem tcmp_neD {x y : PyData} (hx : SeqAt.shaped x = true) (hy : SeqAt.shaped y = true) (h : Post (.d (.bool (!PyData.eqv x y))) st) : tcmp cx d .NotEq (.d x) (.d y) st Post := by
  intro A o al s va vb R ok v1 v2
  obtain ⟨as, r1⟩ := Rd.reads (Rd.keeps (fun b o e => (vw_get.mp e).1) v1)
  obtain ⟨bs, r2⟩ := Rd.reads (Rd.keeps (fun b o e => (vw_get.mp e).1) v2)
  exact Op.ofVal ok fun Q E k => ne_dataH r1 r2 hx hy R.units (k _ s.heap s.toks (.d (.bool _)) (fun _ _ e => e) (.bool _) h)
theorem tcmp_eqI {x y : Int} (h : Post (.d (.bool (x == y))) st) : tcmp cx d .Eq (.d (.int x)) (.d (.int y)) st Post := by
  intro A o al s va vb R ok v1 v2
  obtain ⟨t, rfl⟩ := rd_int v1; obtain ⟨u, rfl⟩ := rd_int v2
  exact Op.ofVal ok fun Q E k => eq_int (k _ s.heap s.toks (.d (.bool _)) (fun _ _ e => e) (.bool _) h)
theorem tcmp_neI {x y : Int} (h : Post (.d (.bool (x != y))) st) : tcmp cx d .NotEq (.d (.int x)) (.d (.int y)) st Post := by
  intro A o al s va vb R ok v1 v2
  obtain ⟨t, rfl⟩ := rd_int v1; obtain ⟨u, rfl⟩ := rd_int v2
  exact Op.ofVal ok fun Q E k => ne_int (k _ s.heap s.toks (.d (.bool _)) (fun _ _ e => e) (.bool _) h)
theorem tcmp_ltI {x y : Int} (h : Post (.d (.bool (decide (x < y)))) st) : tcmp cx d .Lt (.d (.int x)) (.d (.int y)) st Post := by
  intro A o al s va vb R ok v1 v2
  obtain ⟨t, rfl⟩ := rd_int v1; obtain ⟨u, rfl⟩ := rd_int v2
  exact Op.ofVal ok fun Q E k => lt_int (k _ s.heap s.toks (.d (.bool _)) (fun _ _ e => e) (.bool _) h)
theorem tcmp_geI {x y : Int} (h : Post (.d (.bool (decide (x ≥ y)))) st) : tcmp cx d .GtE (.d (.int x)) (.d (.int y)) st Post := by
  intro A o al s va vb R ok v1 v2
  obtain ⟨t, rfl⟩ := rd_int v1; obtain ⟨u, rfl⟩ := rd_int v2
  exact Op.ofVal ok fun Q E k => ge_int (k _ s.heap s.toks (.d (.bool _)) (fun _ _ e => e) (.bool _) h)

noncomputable def tsub (cx : Cx) (d : Nat) (value slice : Expr) (a b : V) (st : Store) (Post : V → Store → Prop) : Prop :=
  (∀ o i, subscripted slice false o i = operate [o, i] (getItem o i)) → ∀ A o al s va vb, Room A d → Ok cx A o al st s.heap s.toks → VRep cx (vw s.heap (o ++ al)) al va a → VRep cx (vw s.heap (o ++ al)) al vb b → Op cx A (subscriptTail value slice va vb) o al st s Post

theorem te_sub {value slice : Expr} (h : te cx d env ρ st value fun a st₁ => te cx d env ρ st₁ slice fun b st₂ => tsub cx d value slice a b st₂ Post)
    (hs : ∀ o i, subscripted slice false o i = operate [o, i] (getItem o i) := by intro _ _; rfl) : te cx d env ρ st (.Subscript value slice pos) Post := by
  intro A hx al s R a Q E k
  refine Subscript_ (h A hx al s R a _ E fun x st₁ va al₁ h₁ tk₁ n₁ v₁ p₁ => ?_)
  refine p₁ A _ _ _ R (a.next n₁) _ E fun y st₂ vb al₂ h₂ tk₂ n₂ v₂ p₂ => ?_
  exact p₂ hs A _ _ _ va vb R n₂.ok (v₁.mono n₂.vw) v₂ Q E (lift_k (A := A) n₂ (lift_k (A := A) n₁ k))

theorem tsub_str {value slice : Expr} {x : PySem.Str} {i : Int} {c : Nat} (hr : (decide (i < -(2 ^ 63 : Int)) || decide (i ≥ 2 ^ 63)) = false) (hc : (seqIndex? i x.length).bind (x.cps[·]?) = some c)
    (h : Post (.d (.str ⟨#[c]⟩)) st) : tsub cx d value slice (.d (.str x)) (.d (.int i)) st Post := by
  intro hs A o al s va vb R ok v1 v2
  obtain ⟨t, rfl⟩ := rd_str v1; obtain ⟨u, rfl⟩ := rd_int v2
  exact Op.ofVal ok fun Q E k => tail_any (typeIs_str s x t) F.slot_str_getitem.lookup (getItem_str hr hc (k _ s.heap _ (.d (.str _)) (fun _ _ e => e) (.str _ _) h)) (hs _ _)

theorem tsub_tuple {value slice : Expr} {xs : List PyData} {i : Int} {j : Nat} {x : PyData} (h1 : -(2 ^ 63 : Int) ≤ i) (h2 : i < 2 ^ 63) (hj : seqIndex? i xs.length = some j) (hx : xs[j]? = some x)
    (h : Post (.d x) st) : tsub cx d value slice (.d (.tuple xs)) (.d (.int i)) st Post := by
  intro hs A o al s va vb R ok v1 v2
  obtain ⟨a, vs, rfl, ht, hr⟩ := rd_tuple v1; obtain ⟨u, rfl⟩ := rd_int v2
  obtain ⟨v, e, r⟩ := hr.get hx
  have ht' := isTup_of_vw ht
  refine Op.ofVal ok fun Q E k => tail_any ht'.typeIs slot_tuple_getitem.lookup (getItem_tuple ht' h1 h2 (by rw [← Array.length_toList, hr.length]; exact hj) (by rw [← Array.getElem?_toList]; exact e)
    (k _ s.heap s.toks (.d x) (fun _ _ e => e) r h)) (hs _ _)

theorem getItem_listAny {prog : Program} {w : World} {A : Around} {E : Value → Shared → Prop} {s : Shared} {l : Addr} {items : Array Value} {i : Int} {t : Tok} {j : Nat} {x : Value} {Q : Value → Shared → Prop}
    (hl : s.heap.IsList l items) (h1 : -(2 ^ 63 : Int) ≤ i) (h2 : i < 2 ^ 63) (hj : seqIndex? i items.size = some j) (hx : items[j]? = some x) (h : Q x s) : wpAny (model prog w) A (getItem (.ref l) (.int i t)) Q E s := by
  unfold seqIndex? at hj
  by_cases h0 : i < 0
  · simp only [h0, if_true] at hj
    split at hj
    · rename_i hb
      simp only [Bool.and_eq_true, decide_eq_true_eq] at hb
      obtain rfl := Option.some.inj hj
      exact wpAny_getItem_list_neg hl h0 (by omega) h1 hx h
    · cases hj
  · simp only [h0, if_false] at hj
    split at hj
    · rename_i hb
      obtain rfl := Option.some.inj hj
      exact wpAny_getItem_list hl (by omega) h2 hx h
    · cases hj

theorem tsub_list {value slice : Expr} {xs : List PyData} {i : Int} {j : Nat} {x : PyData} (h1 : -(2 ^ 63 : Int) ≤ i) (h2 : i < 2 ^ 63) (hj : seqIndex? i xs.length = some j) (hx : xs[j]? = some x)
    (h : Post (.d x) st) : tsub cx d value slice (.d (.list xs)) (.d (.int i)) st Post := by
  intro hs A o al s va vb R ok v1 v2
  obtain ⟨a, vs, rfl, ht, hr⟩ := rd_list v1; obtain ⟨u, rfl⟩ := rd_int v2
  obtain ⟨v, e, r⟩ := hr.get hx
  have ht' := isList_of_vw ht
  refine Op.ofVal ok fun Q E k => tail_any ht'.typeIs slot_list_getitem.lookup (getItem_listAny ht' h1 h2 (by rw [← Array.length_toList, hr.length]; exact hj) (by rw [← Array.getElem?_toList]; exact e)
    (k _ s.heap s.toks (.d x) (fun _ _ e => e) r h)) (hs _ _)
theorem Ok.cell {o al : List Addr} {h : Heap} {n : Nat} {xs : List PyData} {v : Value} {tk : Nat} (ok : Ok cx A o al st h tk) (v1 : VRep cx (vw h (o ++ al)) al v (.c n)) (e : st[n]? = some (.live xs)) :
    ∃ a vs, al[n]? = some a ∧ v = .ref a ∧ h.IsList a vs ∧ RdAll (vw h (o ++ al)) vs.toList xs := by
  obtain ⟨a, h1, rfl⟩ := v1
  obtain ⟨vs, h2, h3⟩ : CellOk _ _ _ (.live xs) := ok.st.2 n a _ h1 e
  exact ⟨a, vs, h1, rfl, h2.isList, h3⟩
theorem tsub_cell {value slice : Expr} {n : Nat} {xs : List PyData} {i : Int} {j : Nat} {x : PyData} (e : st[n]? = some (.live xs)) (h1 : -(2 ^ 63 : Int) ≤ i) (h2 : i < 2 ^ 63) (hj : seqIndex? i xs.length = some j) (hx : xs[j]? = some x)
    (h : Post (.d x) st) : tsub cx d value slice (.c n) (.d (.int i)) st Post := by
  intro hs A o al s va vb R ok v1 v2
  obtain ⟨a, vs, _, rfl, ht, hr⟩ := ok.cell v1 e; obtain ⟨u, rfl⟩ := rd_int v2
  obtain ⟨v, e, r⟩ := hr.get hx
  refine Op.ofVal ok fun Q E k => tail_any ht.typeIs slot_list_getitem.lookup (getItem_listAny ht h1 h2 (by rw [← Array.length_toList, hr.length]; exact hj) (by rw [← Array.getElem?_toList]; exact e)
    (k _ s.heap s.toks (.d x) (fun _ _ e => e) r h)) (hs _ _)

noncomputable def tpart (cx : Cx) (d : Nat) (env : Env) (ρ : Vars) (st : Store) : Option Expr → (Option Int → Store → Prop) → Prop
  | none, P => P none st
  | some e, P => te cx d env ρ st e fun v st₁ => ∃ i, v = .d (.int i) ∧ P (some i) st₁
noncomputable def partV : Option Int → Value → Prop
  | none, v => v = .none
  | some i, v => ∃ t, v = .int i t

theorem tpart_run {e : Option Expr} {P : Option Int → Store → Prop} (h : tpart cx d env ρ st e P) {A : Around} {hx al : List Addr} {s : Shared} {Q : Value → Shared → Prop} {E : Value → Shared → Prop} (R : Room A d) (a : At cx A env hx al ρ st s.heap s.toks)
    (k : ∀ i st' v al' h' tk', Nx cx A (ow env hx) al al' st' s.heap h' tk' → partV i v → P i st' → Q v { s with heap := h', toks := tk' }) : wpAny (model cx.prog cx.w) A (evalPart e env) Q E s := by
  cases e with
  | none => exact wpAny_evalPart_none (k none st _ [] s.heap s.toks (Nx.refl a.ok) rfl h)
  | some e =>
    refine wpAny_evalPart_some (h A hx al s R a Q E fun r st' val al' h' tk' n v p => ?_)
    obtain ⟨i, rfl, p⟩ := p
    exact k (some i) st' val al' h' tk' n (rd_int v) p

noncomputable def tsl (cx : Cx) (d : Nat) (value slice : Expr) (a : V) (lo hi : Option Int) (st : Store) (Post : V → Store → Prop) : Prop :=
  (∀ o i, subscripted slice false o i = operate [i, o] (getItem o i)) → ∀ (A : Around) (o al : List Addr) (s : Shared) (va vl vu : Value), Room A d → Ok cx A o al st s.heap s.toks → VRep cx (vw s.heap (o ++ al)) al va a → partV lo vl → partV hi vu →
    ∀ Q E, (∀ val h' tk' r, s.toks ≤ tk' → s.heap.StaysIn h' → VRep cx (vw h' (o ++ al)) al val r → Post r st → Q val { s with heap := h', toks := tk' }) →
      wpAny (model cx.prog cx.w) A (subscriptTail value slice va (.ref s.heap.objs.size)) Q E { s with heap := s.heap.push { cls := .type "slice", data := .fields #[vl, vu, .none] } }

theorem te_slice {value : Expr} {lower upper : Option Expr} {p : Pos}
    (h : te cx d env ρ st value fun a st₁ => tpart cx d env ρ st₁ lower fun lo st₂ => tpart cx d env ρ st₂ upper fun hi st₃ => tsl cx d value (.Slice lower upper none p) a lo hi st₃ Post) :
    te cx d env ρ st (.Subscript value (.Slice lower upper none p) pos) Post := by
  intro A hx al s R a Q E k
  refine Subscript_ (h A hx al s R a _ E fun x st₁ va al₁ h₁ tk₁ n₁ v₁ p₁ => ?_)
  refine wpAny_Slice (tpart_run p₁ R (a.next n₁) fun lo st₂ vl al₂ h₂ tk₂ n₂ w₂ p₂ => ?_)
  refine tpart_run p₂ R ((a.next n₁).next n₂) fun hi st₃ vu al₃ h₃ tk₃ n₃ w₃ p₃ => wpAny_evalPart_none ?_
  exact p₃ (fun _ _ => rfl) A _ _ _ va vl vu R n₃.ok ((v₁.mono n₂.vw).mono n₃.vw) w₂ w₃ Q E (plain_k n₃.ok (lift_k (A := A) n₃ (lift_k (A := A) n₂ (lift_k (A := A) n₁ k))))

theorem tsl_ofItem {value slice : Expr} {a : V} {lo hi : Option Int}
    (h : ∀ (A : Around) (o al : List Addr) (s : Shared) (va vl vu : Value), Room A d → Ok cx A o al st s.heap s.toks → VRep cx (vw s.heap (o ++ al)) al va a → partV lo vl → partV hi vu →
      ∀ (Q : Value → Shared → Prop) (E : Value → Shared → Prop), (∀ val h' tk' r, s.heap.StaysIn h' → VRep cx (vw h' (o ++ al)) al val r → Post r st → Q val { s with heap := h', toks := tk' }) →
        ItemOn (model cx.prog cx.w) A E va (.ref s.heap.objs.size) Q { s with heap := s.heap.push { cls := .type "slice", data := .fields #[vl, vu, .none] } }) : tsl cx d value slice a lo hi st Post := by
  intro hs A o al s va vl vu R ok v1 w1 w2 Q E k
  obtain ⟨T, id, hl, hT, hg⟩ := h A o al s va vl vu R ok v1 w1 w2 (fun v s' => s.toks ≤ s'.toks → Q v s') (fun e s' => s.toks ≤ s'.toks → E e s') fun val h' tk' r h1 h2 h3 h4 => k val h' tk' r h4 h1 h2 h3
  exact wpAny_with_toks (n := s.toks) (Nat.le_refl _) (tail_any hT hl hg (hs _ _))

theorem tsl_str {value slice : Expr} {x : PySem.Str} {lo hi : Option Int} (hz : x.length ≤ sizeLine) (h : Post (.d (.str (Txt.slice x lo hi))) st) : tsl cx d value slice (.d (.str x)) lo hi st Post := by
  refine tsl_ofItem fun A o al s va vl vu R ok v1 w1 w2 Q E k => ?_
  obtain ⟨t, rfl⟩ := rd_str v1
  have fin : ∀ h' t' k', s.heap.StaysIn h' → Q (.str (Txt.slice x lo hi) t') { s with heap := h', toks := k' } := fun h' t' k' hs => k _ h' k' (.d (.str _)) hs (.str _ _) h
  have hk : KeptH fun h' => s.heap.StaysIn h' := fun h' ob e b o q => Heap.get?_push_of_some ob (e b o q)
  cases lo with
  | none =>
    obtain rfl : vl = .none := w1
    cases hi with
    | none => obtain rfl : vu = .none := w2; exact SBH.sliceItem_nn hk (fun _ _ e => e) fin hz
    | some j => obtain ⟨u, rfl⟩ := w2; exact SBH.sliceItem_ns hk (fun _ _ e => e) fin hz
  | some i =>
    obtain ⟨u, rfl⟩ := w1
    cases hi with
    | none => obtain rfl : vu = .none := w2; exact SBH.sliceItem_sn hk (fun _ _ e => e) fin hz
    | some j => obtain ⟨u', rfl⟩ := w2; exact SBH.sliceItem_ss hk (fun _ _ e => e) fin hz

noncomputable def pick {α : Type} (xs : List α) (lo hi : Option Int) : List α :=
  (xs.drop (lo.elim 0 (clipAt xs.length))).take (hi.elim xs.length (clipAt xs.length) - lo.elim 0 (clipAt xs.length))

end

end Mine

-- N3
namespace Mine
open PySem PySem.W PySem.Calls PyProof.Rows

variable {cx : Cx} {d : Nat} {env : Env} {ρ : Vars} {st : Store} {pos : Pos}

section
variable {prog : Program} {w : World} {A : Around} {E : Value → Shared → Prop} {s : Shared}

theorem sliceApplied_upto {sl : Addr} {b n : Nat} {u : Tok} {Q : Int × Int × Nat → Shared → Prop} (hs : s.heap.IsSliceOf sl .none (.int b u) .none) (hb : b ≤ n) (h : Q ((0 : Int), 1, b) s) :
    wpAny (model prog w) A (Builtin.Slice.sliceApplied (.ref sl) (pure (n : Int))) Q E s := by
  obtain ⟨os, hos, hcs, hds⟩ := id hs
  unfold Builtin.Slice.sliceApplied Builtin.Slice.sliceFields
  refine wpAny_bind (wpAny_bind (wpAny_field hos hds (x := .none) rfl (wpAny_bind (wpAny_field hos hds (x := .int b u) rfl (wpAny_bind (wpAny_field hos hds (x := .none) rfl (wpAny_pure ?_)))))))
  refine wpAny_bind (slicePart_none ?_)
  show wpAny _ _ (if ((1 : Int) == 0) = true then _ else _) _ _ s
  rw [if_neg (by decide)]
  refine wpAny_bind (slicePart_none (wpAny_bind (slicePart_int (wpAny_bind (wpAny_pure ?_)))))
  show wpAny _ _ (match Builtin.Slice.sliceAdjust none (some (b : Int)) 1 (n : Int) with | (lo, hi) => pure (lo, (1 : Int), Builtin.Slice.slicePlaces lo hi 1)) _ _ s
  have e1 : Builtin.Slice.sliceAdjust none (some (b : Int)) 1 (n : Int) = ((0 : Int), (b : Int)) := by
    unfold Builtin.Slice.sliceAdjust
    have h1 : ¬ ((1 : Int) < 0) := by omega
    have h2 : ¬ ((b : Int) < 0) := by omega
    simp only [h1, h2, if_false]
    congr 1
    omega
  have e2 : Builtin.Slice.slicePlaces (0 : Int) (b : Int) 1 = b := by
    unfold Builtin.Slice.slicePlaces
    have h1 : (1 : Int) > 0 := by omega
    simp only [h1, if_true, Int.ediv_one]
    split <;> omega
  rw [e1]
  show wpAny _ _ (pure ((0 : Int), (1 : Int), Builtin.Slice.slicePlaces (0 : Int) (b : Int) 1)) _ _ s
  rw [e2]
  exact wpAny_pure h

theorem pick_upto (xs : Array Value) (b : Nat) : ((List.range b).filterMap fun (k : Nat) => xs[((0 : Int) + (k : Int) * 1).toNat]?).toArray = (xs.toList.take b).toArray := by
  have e : (fun (k : Nat) => xs[((0 : Int) + (k : Int) * 1).toNat]?) = fun k => xs[0 + k]? := by
    funext k
    have : ((0 : Int) + (k : Int) * 1).toNat = 0 + k := by omega
    rw [this]
  rw [e]
  have := pick_run xs 0 b
  rw [List.filterMap_map] at this
  have e2 : ((fun x => xs[x]?) ∘ fun x => 0 + x) = fun k => xs[0 + k]? := rfl
  rw [e2] at this
  rw [this, List.drop_zero]

theorem getItem_tuple_upto {t sl : Addr} {items : Array Value} {b : Nat} {u : Tok} {Q : Value → Shared → Prop} (ht : IsTup s.heap t items) (hs : s.heap.IsSliceOf sl .none (.int b u) .none) (hb : b < items.size)
    (h : Q (.ref s.heap.objs.size) { s with heap := s.heap.push { cls := .type "tuple", data := .seq (items.toList.take b).toArray } })
    (hsz : items.size ≤ sizeLine) : wpAny (model prog w) A (getItem (.ref t) (.ref sl)) Q E s := by
  have htake : sizeOk (.seq (items.toList.take b).toArray) := by
    show (items.toList.take b).toArray.size ≤ sizeLine
    rw [List.size_toArray, List.length_take, Array.length_toList]
    omega
  obtain ⟨os, hos, hcs, hds⟩ := id hs
  have hTs : s.TypeIs (.ref sl) "slice" := ⟨os, hos, hcs⟩
  unfold getItem
  try with_reducible refine wpAny_holding ?_
  first | refine wpAny_bind (wpAny_pure ?_) | skip
  refine wpAny_bind (wpAny_sequenceKey ht.typeIs (by decide) ?_)
  refine wpAny_bind (wpAny_callSpecial?_slot (name := Str.ofString "__getitem__") ht.typeIs slot_tuple_getitem
    (wpAny_call_entry slot_tuple_getitem ht.typeIs entry_tuple_getitem ?_ (args_tuple_getitem _ _)))
  show wpAny _ _ (Builtin.Tuple.tupleItemsOf (.ref t) >>= _) _ _ s
  refine wpAny_bind (tupleItemsOf_ ht ?_)
  refine wpAny_bind (wpAny_typeOf hTs ?_)
  rw [if_pos (by decide)]
  refine wpAny_bind (sliceApplied_upto hs (Nat.le_of_lt hb) ?_)
  have hno : ¬ (((0 : Int) == 0 && (1 : Int) == 1 && b == items.size) = true) := by
    have : (b == items.size) = false := by rw [beq_eq_false_iff_ne]; omega
    rw [this]; simp
  show wpAny _ _ (if ((0 : Int) == 0 && (1 : Int) == 1 && b == items.size) = true then _ else _) _ _ s
  rw [if_neg hno, pick_upto items b]
  first
    | exact wpAny_bind (m := Builtin.Tuple.tupleExact _) (wpAny_newObj_type (wpAny_pure ⟨_, rfl, wpAny_pure h⟩) htake)
    | exact wpAny_bind (m := Builtin.Tuple.tupleExact _) (wpAny_newObj_type (wpAny_bind (wpAny_pure (wpAny_pure ⟨_, rfl, wpAny_pure h⟩))) htake)
    | exact wpAny_bind (wpAny_bind (m := Builtin.Tuple.tupleExact _) (wpAny_newObj_type (wpAny_pure (wpAny_pure ⟨_, rfl, wpAny_pure h⟩)) htake))
    | exact wpAny_bind (wpAny_bind (m := Builtin.Tuple.tupleExact _) (wpAny_newObj_type (wpAny_pure ⟨_, rfl, wpAny_pure h⟩) htake))
end

theorem rd_mono_h {h h' : Heap} {l : List Addr} (hk : h.StaysIn h') : (vw h l).StaysIn (vw h' l) := vw_mono fun b o n e => ⟨hk b o e, n⟩

theorem isList_new {h : Heap} {l : List Addr} {vs : Array Value} (hf : h.objs.size ∉ l) : (vw (h.push { cls := .type "list", data := .seq vs }) l).IsList h.objs.size vs :=
  ⟨_, vw_get.mpr ⟨Heap.get?_push_size _ rfl, hf⟩, rfl, 0, rfl⟩
theorem isTup_new {h : Heap} {l : List Addr} {vs : Array Value} (hf : h.objs.size ∉ l) : IsTup (vw (h.push { cls := .type "tuple", data := .seq vs }) l) h.objs.size vs :=
  ⟨_, vw_get.mpr ⟨Heap.get?_push_size _ rfl, hf⟩, rfl, 0, rfl⟩

section
variable {Post : V → Store → Prop} {PostB : Bool → Store → Prop}

theorem isPart_of {lo : Option Int} {v : Value} (h : partV lo v) : IsPart v lo := by
  cases lo with
  | none => obtain rfl : v = .none := h; exact .none
  | some i => obtain ⟨t, rfl⟩ := h; exact .int i t

theorem pick_rd {g : Heap} {vs : Array Value} {xs : List PyData} {lo hi : Option Int} (r : RdAll g vs.toList xs) : RdAll g (slicePick vs lo hi none).toList (pick xs lo hi) := by
  rw [slicePick_plain]
  have e : vs.size = xs.length := by rw [← Array.length_toList, r.length]
  unfold pick
  rw [e]
  exact (r.drop _).take _

theorem tsl_listAt {value slice : Expr} {xs : List PyData} {lo hi : Option Int} {A : Around} {o al : List Addr} {s : Shared} {a : Addr} {vs : Array Value} {vl vu : Value} (hz : xs.length ≤ sizeLine) (h : Post (.d (.list (pick xs lo hi))) st)
    (hf : ∀ b, s.heap.objs.size ≤ b → b ∉ o ++ al) (ht : s.heap.IsList a vs) (hr : RdAll (vw s.heap (o ++ al)) vs.toList xs) (w1 : partV lo vl) (w2 : partV hi vu)
    {Q : Value → Shared → Prop} {E : Value → Shared → Prop} (k : ∀ val h' tk' r, s.heap.StaysIn h' → VRep cx (vw h' (o ++ al)) al val r → Post r st → Q val { s with heap := h', toks := tk' }) :
    ItemOn (model cx.prog cx.w) A E (.ref a) (.ref s.heap.objs.size) Q { s with heap := s.heap.push { cls := .type "slice", data := .fields #[vl, vu, .none] } } := by
  have ht' : (s.heap.push { cls := .type "slice", data := .fields #[vl, vu, .none] }).IsList a vs := ht.at fun ob e => Heap.get?_push_of_some _ e
  refine ⟨"list", _, slot_list_getitem.lookup, ht'.typeIs, ?_⟩
  refine wpAny_getItem_list_slice ht' (Heap.IsSliceOf.new ..) (isPart_of w1) (isPart_of w2) .none (by simp) ?_ (by rw [← Array.length_toList, hr.length]; exact hz)
  have st1 : s.heap.StaysIn ((s.heap.push { cls := .type "slice", data := .fields #[vl, vu, .none] }).push { cls := .type "list", data := .seq (slicePick vs lo hi none) }) :=
    fun b ob e => Heap.get?_push_of_some _ (Heap.get?_push_of_some _ e)
  refine k _ _ s.toks (.d (.list (pick xs lo hi))) st1 ?_ h
  exact .list (isList_new (hf _ (by rw [Heap.size_push]; exact Nat.le_succ _))) (pick_rd (hr.keeps (rd_mono_h st1)))

theorem tsl_list {value slice : Expr} {xs : List PyData} {lo hi : Option Int} (hz : xs.length ≤ sizeLine) (h : Post (.d (.list (pick xs lo hi))) st) : tsl cx d value slice (.d (.list xs)) lo hi st Post := by
  refine tsl_ofItem fun A o al s va vl vu R ok v1 w1 w2 Q E k => ?_
  obtain ⟨a, vs, rfl, ht, hr⟩ := rd_list v1
  exact tsl_listAt (value := value) (slice := slice) hz h (fun b m => ok.fresh m) (isList_of_vw ht) hr w1 w2 k
theorem tsl_tupleUpto {value slice : Expr} {xs : List PyData} {b : Nat} (hb : b < xs.length) (hz : xs.length ≤ sizeLine) (h : Post (.d (.tuple (xs.take b))) st) : tsl cx d value slice (.d (.tuple xs)) none (some (b : Int)) st Post := by
  refine tsl_ofItem fun A o al s va vl vu R ok v1 w1 w2 Q E k => ?_
  obtain ⟨a, vs, rfl, ht, hr⟩ := rd_tuple v1
  obtain rfl : vl = .none := w1
  obtain ⟨u, rfl⟩ := w2
  have ht' : IsTup (s.heap.push { cls := .type "slice", data := .fields #[.none, .int b u, .none] }) a vs := (isTup_of_vw ht).push _
  have hl : vs.size = xs.length := by rw [← Array.length_toList, hr.length]
  refine ⟨"tuple", _, slot_tuple_getitem.lookup, ht'.typeIs, ?_⟩
  refine getItem_tuple_upto ht' (Heap.IsSliceOf.new ..) (by rw [hl]; exact hb) ?_ (by rw [hl]; exact hz)
  have st1 : s.heap.StaysIn ((s.heap.push { cls := .type "slice", data := .fields #[.none, .int b u, .none] }).push { cls := .type "tuple", data := .seq (vs.toList.take b).toArray }) :=
    fun b ob e => Heap.get?_push_of_some _ (Heap.get?_push_of_some _ e)
  refine k _ _ s.toks (.d (.tuple (xs.take b))) st1 ?_ h
  exact .tuple (isTup_new (ok.fresh (by rw [Heap.size_push]; exact Nat.le_succ _))) (by rw [List.toList_toArray]; exact (hr.keeps (rd_mono_h st1)).take b)

noncomputable def plainArgs : List Expr → Bool
  | [] => true
  | .Starred _ _ :: _ => false
  | _ :: r => plainArgs r
noncomputable def tes (cx : Cx) (d : Nat) (env : Env) (ρ : Vars) : List Expr → Store → (List V → Store → Prop) → Prop
  | [], st, P => P [] st
  | e :: r, st, P => te cx d env ρ st e fun v st₁ => tes cx d env ρ r st₁ fun vs st₂ => P (v :: vs) st₂

theorem starEach_plain {e : Expr} {r : List Expr} {env : Env} (hp : plainArgs (e :: r) = true) : starEach (e :: r) env = (false, eval e env) :: starEach r env ∧ plainArgs r = true := by
  cases e <;> first | exact ⟨rfl, hp⟩ | cases hp

theorem tes_run {A : Around} {hx : List Addr} {E : Value → Shared → Prop} (R : Room A d) : ∀ (es : List Expr) {st : Store} {P : List V → Store → Prop} (al : List Addr) (s : Shared) (Q : List Value → Shared → Prop), plainArgs es = true → tes cx d env ρ es st P → At cx A env hx al ρ st s.heap s.toks →
    (∀ xs st' vals al' h' tk', Nx cx A (ow env hx) al al' st' s.heap h' tk' → VRepAll cx (vw h' (ow env hx ++ (al ++ al'))) (al ++ al') vals xs → P xs st' → Q vals { s with heap := h', toks := tk' }) →
    wpAny (model cx.prog cx.w) A (spliced (backTo pos (starEach es env))) Q E s
  | [], st, P, al, s, Q, hp, h, a, k => spliced_nil (k [] st [] [] s.heap s.toks (Nx.refl a.ok) .nil h)
  | e :: r, st, P, al, s, Q, hp, h, a, k => by
    obtain ⟨e1, e2⟩ := starEach_plain (env := env) hp
    rw [e1]
    refine spliced_cons (h A hx al s R a _ E fun x st₁ va al₁ h₁ tk₁ n₁ v₁ p₁ => ?_)
    refine tes_run R r (al ++ al₁) _ _ e2 p₁ (a.next n₁) fun xs st' vals al' h' tk' n v p => ?_
    exact k (x :: xs) st' (va :: vals) (al₁ ++ al') h' tk' (n₁.trans n) (by rw [← List.append_assoc al]; exact .cons (v₁.mono n.vw) v) p

noncomputable def datas : List V → Option (List PyData)
  | [] => some []
  | .d x :: r => (datas r).map (x :: ·)
  | _ :: _ => none
theorem rdAll_of {g : Heap} {al : List Addr} {vals : List Value} {xs : List V} {ds : List PyData} (h : VRepAll cx g al vals xs) (e : datas xs = some ds) : RdAll g vals ds := by
  induction h generalizing ds with
  | nil => cases e; exact .nil
  | @cons v vs x xs hx hr ih =>
    cases x with
    | d y =>
      simp only [datas] at e
      cases q : datas xs with
      | none => rw [q] at e; cases e
      | some es => rw [q] at e; cases e; exact .cons hx (ih q)
    | c n => cases e
    | hdr n => cases e
    | ext v => cases e
    | rng a b => cases e
    | emp _ => cases e

theorem te_tuple {es : List Expr} {n : Nat} (hp : plainArgs es = true) (h : tes cx d env ρ es st fun xs st₁ => ∃ ds, datas xs = some ds ∧ ds.length ≤ sizeLine ∧ Post (.d (.tuple ds)) st₁) : te cx d env ρ st (.Tuple es n pos) Post := by
  intro A hx al s R a Q E k
  refine Tuple_ (tes_run R es al s _ hp h a fun xs st' vals al' h' tk' n v p => ?_)
  obtain ⟨ds, e, hz, p⟩ := p
  have r := rdAll_of v e
  refine wpAny_newTuple ?_ (by rw [r.length]; exact hz)
  refine plain_k n.ok (lift_k (A := A) n k) _ _ tk' (.d (.tuple ds)) (Nat.le_refl _) (stays_push _ _) (.tuple (isTup_new (n.ok.fresh (Nat.le_refl _))) ?_) p
  exact r.keeps (rd_mono_h (stays_push _ _))
theorem te_list {es : List Expr} (hp : plainArgs es = true) (h : tes cx d env ρ es st fun xs st₁ => ∃ ds, datas xs = some ds ∧ ds.length ≤ sizeLine ∧ Post (.d (.list ds)) st₁) : te cx d env ρ st (.List es pos) Post := by
  intro A hx al s R a Q E k
  refine List_ (tes_run R es al s _ hp h a fun xs st' vals al' h' tk' n v p => ?_)
  obtain ⟨ds, e, hz, p⟩ := p
  have r := rdAll_of v e
  refine wpAny_newList ?_ (by rw [r.length]; exact hz)
  refine plain_k n.ok (lift_k (A := A) n k) _ _ tk' (.d (.list ds)) (Nat.le_refl _) (stays_push _ _) (.list (isList_new (n.ok.fresh (Nat.le_refl _))) ?_) p
  exact r.keeps (rd_mono_h (stays_push _ _))

theorem keeps_any {M : Model} {h : Heap} {v : Value} (hv : ∀ a, v ≠ .ref a) : ∃ k, (k = Keeper.frame ∨ k = Keeper.machine ∨ k = Keeper.boundFrame) ∧ Looks M h (keeperOf v) k := by
  refine ⟨.machine, .inr (.inl rfl), Looks.of_pure ?_⟩
  unfold keeperOf
  cases v <;> first | rfl | exact absurd rfl (hv _)

noncomputable def calm (K : Frag) (v : Value) : Bool := match v with
  | .ref _ => keepIn K v
  | _ => true
theorem keeps_calm {M : Model} {K : Frag} {v : Value} (hc : calm K v = true) (h : Heap) (X : K.In h) : ∃ k, (k = Keeper.frame ∨ k = Keeper.machine ∨ k = Keeper.boundFrame) ∧ Looks M h (keeperOf v) k := by
  cases v with
  | ref a => exact keeps_K (K := K) (f := .ref a) hc h X
  | _ => exact keeps_any (by intro a e; cases e)

theorem Ok.K {o al : List Addr} {h : Heap} {tk : Nat} (ok : Ok cx A o al st h tk) : cx.K.In h := cx.X.keeps fun b o e => (vw_get.mp (ok.base b o e)).1

theorem stars_plain {es : List Expr} (hp : plainArgs es = true) : (backTo pos (starEach es env)).any (·.1) = false := by
  induction es with
  | nil => rfl
  | cons e r ih =>
    obtain ⟨e1, e2⟩ := starEach_plain (env := env) hp
    rw [e1]
    exact ih e2
theorem args_gen {A : Around} {E : Value → Shared → Prop} {Q : Args → Shared → Prop} {hx al : List Addr} {s : Shared} {fv : Value} {es : List Expr} {P : List V → Store → Prop} (R : Room A d) (hp : plainArgs es = true)
    (a : At cx A env hx al ρ st s.heap s.toks) (h : tes cx d env ρ es st P)
    (k : ∀ xs st' vals al' h' tk', Nx cx A (ow env hx) al al' st' s.heap h' tk' → VRepAll cx (vw h' (ow env hx ++ (al ++ al'))) (al ++ al') vals xs → P xs st' → Q ⟨vals, []⟩ { s with heap := h', toks := tk' }) :
    wpAny (model cx.prog cx.w) A (evalArgs fv true (backTo pos (starEach es env)) []) Q E s := by
  cases es with
  | nil => exact evalArgs_nil3 (k [] st [] [] s.heap s.toks (Nx.refl a.ok) .nil h)
  | cons e r =>
    have sp := tes_run (pos := pos) (E := E) R (e :: r) al s (fun vals s' => Q ⟨vals, []⟩ s') hp h a k
    obtain ⟨e1, e2⟩ := starEach_plain (env := env) hp
    rw [e1] at sp ⊢
    exact evalArgs_plain sp
theorem callWith_gen {A : Around} {E : Value → Shared → Prop} {Q : Value → Shared → Prop} {hx al : List Addr} {s : Shared} {fv : Value} {firsts : List Value} {es : List Expr} {P : List V → Store → Prop} (R : Room A d) (hp : plainArgs es = true) (hc : calm cx.K fv = true)
    (a : At cx A env hx al ρ st s.heap s.toks) (h : tes cx d env ρ es st P)
    (k : ∀ xs st' vals al' h' tk', Nx cx A (ow env hx) al al' st' s.heap h' tk' → VRepAll cx (vw h' (ow env hx ++ (al ++ al'))) (al ++ al') vals xs → P xs st' → wpAny (model cx.prog cx.w) A (call fv (firsts ++ vals) []) Q E { s with heap := h', toks := tk' }) :
    wpAny (model cx.prog cx.w) A (callWith pos fv firsts (backTo pos (starEach es env)) []) Q E s :=
  callWith_of (P := fun h => cx.K.In h) (by rw [stars_plain hp]; rfl) (keeps_calm hc) (args_gen R hp a h fun xs st' vals al' h' tk' n v p => ⟨n.ok.K, k xs st' vals al' h' tk' n v p⟩)
theorem VRepAll.app {g : Heap} {al : List Addr} {vs ws : List Value} {xs ys : List V} (h1 : VRepAll cx g al vs xs) (h2 : VRepAll cx g al ws ys) : VRepAll cx g al (vs ++ ws) (xs ++ ys) := by
  induction h1 with
  | nil => exact h2
  | cons h _ ih => exact .cons h ih
theorem callWith_run {A : Around} {E : Value → Shared → Prop} {Q : Value → Shared → Prop} {hx al : List Addr} {s : Shared} {fv : Value} {firsts : List Value} {xs₀ : List V} {es : List Expr} (R : Room A d) (hp : plainArgs es = true) (hc : calm cx.K fv = true)
    (a : At cx A env hx al ρ st s.heap s.toks) (hv : VRepAll cx (vw s.heap (ow env hx ++ al)) al firsts xs₀) (h : tes cx d env ρ es st fun xs st₁ => tcall cx d (.ext fv) (xs₀ ++ xs) [] st₁ Post)
    (k : ∀ r st' val al' h' tk', Nx cx A (ow env hx) al al' st' s.heap h' tk' → VRep cx (vw h' (ow env hx ++ (al ++ al'))) (al ++ al') val r → Post r st' → Q val { s with heap := h', toks := tk' }) :
    wpAny (model cx.prog cx.w) A (callWith pos fv firsts (backTo pos (starEach es env)) []) Q E s :=
  callWith_gen R hp hc a h fun xs st' vals al' h' tk' n v p => p A (ow env hx) _ _ fv _ [] R n.ok rfl ((hv.mono n.vw).app v) rfl .nil Q E (lift_k (A := A) n k)

theorem te_call {f : Expr} {es : List Expr} (hp : plainArgs es = true)
    (h : te cx d env ρ st f fun fv st₁ => ∃ v, fv = .ext v ∧ calm cx.K v = true ∧ tes cx d env ρ es st₁ fun xs st₂ => tcall cx d (.ext v) xs [] st₂ Post)
    (he : eval (.Call f es [] pos) env = (do callWith pos (← eval f env) [] (backTo pos (starEach es env)) (backToKw pos (keywordEach [] env))) := by rfl) : te cx d env ρ st (.Call f es [] pos) Post := by
  intro A hx al s R a Q E k
  refine Call_ (h A hx al s R a _ E fun x st₁ va al₁ h₁ tk₁ n₁ v₁ p₁ => ?_) he
  obtain ⟨v, rfl, hc, p⟩ := p₁
  obtain rfl : va = v := v₁
  exact callWith_run (xs₀ := []) R hp hc (a.next n₁) .nil p (lift_k (A := A) n₁ k)

theorem Ok.raise {o al : List Addr} {h : Heap} {tk tk' : Nat} (x : Ok cx A o al st h tk) (l : tk ≤ tk') : Ok cx A o al st h tk' := ⟨x.stk, Nat.zero_le _, x.base, x.nd, x.own, x.st⟩
theorem Nx.raise {o al al' : List Addr} {h h' : Heap} {tk tk' : Nat} (x : Nx cx A o al al' st h h' tk) (l : tk ≤ tk') : Nx cx A o al al' st h h' tk' := ⟨x.ok.raise l, x.fr, x.vw⟩
theorem At.raise {hx al : List Addr} {h : Heap} {tk tk' : Nat} (x : At cx A env hx al ρ st h tk) (l : tk ≤ tk') : At cx A env hx al ρ st h tk' := ⟨x.ok.raise l, x.fn, x.gl, x.bi, x.vars⟩

noncomputable def tgm (cx : Cx) (d : Nat) (a : V) (name : PySem.Str) (f : Value) (first : List V) (st : Store) : Prop :=
  ∀ (A : Around) (o al : List Addr) (s : Shared) (va : Value) (pl : Sem Bool), Room A d → Ok cx A o al st s.heap s.toks → VRep cx (vw s.heap (o ++ al)) al va a →
    ∀ (Q : Value × List Value → Shared → Prop) (E : Value → Shared → Prop), (∀ fs tk, s.toks ≤ tk → VRepAll cx (vw s.heap (o ++ al)) al fs first → Q (f, fs) { s with toks := tk }) → wpAny (model cx.prog cx.w) A (getMethod va name pl) Q E s

theorem te_meth {ob : Expr} {name : PySem.Str} {es : List Expr} {apos : Pos} (hp : plainArgs es = true)
    (h : te cx d env ρ st ob fun v st₁ => ∃ f first, calm cx.K f = true ∧ tgm cx d v name f first st₁ ∧ tes cx d env ρ es st₁ fun xs st₂ => tcall cx d (.ext f) (first ++ xs) [] st₂ Post)
    (hbase : attributeBase ob name env (eval ob env) = eval ob env := by rfl) (hline : (apos.endLine == pos.line) = true := by rfl)
    (hfew : decide (es.length < 30) = true := by rfl) : te cx d env ρ st (.Call (.Attribute ob name apos) es [] pos) Post := by
  intro A hx al s R a Q E k
  have hform : methodCallForm (es.length + ([] : List Keyword).length) (backTo pos (starEach es env)) (backToKw pos (keywordEach [] env)) = true := by
    have h2 : (backTo pos (starEach es env)).all (fun x => !x.1) = true := by
      clear h hfew
      induction es with
      | nil => rfl
      | cons e r ih =>
        obtain ⟨e1, e2⟩ := starEach_plain (env := env) hp
        rw [e1]
        exact ih e2
    unfold methodCallForm
    rw [h2]
    have h3 : es.length < 30 := of_decide_eq_true hfew
    simp [backToKw, keywordEach, h3]
  have hpos : methodCallPos true ob env apos pos = pure pos := by unfold methodCallPos; simp [hline]
  rw [arm_eval_Call, hbase]
  refine wpAny_bind (h A hx al s R a _ E fun x st₁ va al₁ h₁ tk₁ n₁ v₁ p₁ => ?_)
  obtain ⟨f, first, hc, hg, ht⟩ := p₁
  refine wpAny_bind (wpAny_standAt ?_)
  unfold methodCall
  rw [hform]
  refine wpAny_bind (wpAny_holding ?_)
  refine hg A (ow env hx) _ _ va _ R n₁.ok v₁ _ E fun fs tk htk hfs => ?_
  refine wpAny_bind (wpAny_of_eq hpos ?_)
  exact callWith_run (s := { s with heap := h₁, toks := tk }) R hp hc ((a.next n₁).raise htk) hfs ht (lift_k (A := A) (n₁.raise htk) k)
end

end Mine

-- N4
namespace Mine
open PySem PySem.W PySem.Calls PyProof.Rows

variable {cx : Cx} {d : Nat} {env : Env} {ρ : Vars} {st : Store} {pos : Pos}

theorem bindL_keep {ko : PySem.Str → Option NameKind} {x : PySem.Str} : ∀ {binds : List (PySem.Str × Value)} {m : PySem.Str → Option Value}, x ∉ binds.map (·.1) → bindL ko binds m x = m x
  | [], m, _ => rfl
  | (n, v) :: r, m, h => by
    have h1 : x ≠ n := fun e => h (by rw [e]; exact List.mem_map.mpr ⟨(n, v), .head _, rfl⟩)
    have h2 : x ∉ r.map (·.1) := fun q => h (by rw [List.map_cons]; exact .tail _ q)
    unfold bindL
    rw [bindL_keep h2]
    split
    · exact if_neg h1
    · rfl
theorem bindC_keep {ko : PySem.Str → Option NameKind} {x : PySem.Str} : ∀ {binds : List (PySem.Str × Value)} {m : PySem.Str → Option Value}, x ∉ binds.map (·.1) → bindC ko binds m x = m x
  | [], m, _ => rfl
  | (n, v) :: r, m, h => by
    have h1 : x ≠ n := fun e => h (by rw [e]; exact List.mem_map.mpr ⟨(n, v), .head _, rfl⟩)
    have h2 : x ∉ r.map (·.1) := fun q => h (by rw [List.map_cons]; exact .tail _ q)
    unfold bindC
    rw [bindC_keep h2]
    split
    · rfl
    · exact if_neg h1
theorem bindL_get {ko : PySem.Str → Option NameKind} {x : PySem.Str} {v : Value} (hk : ko x = some .local) : ∀ {binds : List (PySem.Str × Value)} {m : PySem.Str → Option Value}, (binds.map (·.1)).Nodup → (x, v) ∈ binds → bindL ko binds m x = some v
  | (n, u) :: r, m, hn, hm => by
    rw [List.map_cons, List.nodup_cons] at hn
    unfold bindL
    rcases List.mem_cons.mp hm with e | hm
    · cases e
      rw [bindL_keep hn.1, if_pos hk]
      exact if_pos rfl
    · exact bindL_get hk hn.2 hm
theorem bindC_get {ko : PySem.Str → Option NameKind} {x : PySem.Str} {v : Value} (hk : ko x ≠ some .local) : ∀ {binds : List (PySem.Str × Value)} {m : PySem.Str → Option Value}, (binds.map (·.1)).Nodup → (x, v) ∈ binds → bindC ko binds m x = some v
  | (n, u) :: r, m, hn, hm => by
    rw [List.map_cons, List.nodup_cons] at hn
    unfold bindC
    rcases List.mem_cons.mp hm with e | hm
    · cases e
      rw [bindC_keep hn.1, if_neg hk]
      exact if_pos rfl
    · exact bindC_get hk hn.2 hm

theorem VRepAll.length {g : Heap} {al : List Addr} {vs : List Value} {xs : List V} (h : VRepAll cx g al vs xs) : vs.length = xs.length := by
  induction h with
  | nil => rfl
  | cons _ _ ih => simp [ih]
theorem VRepAll.zip {g : Heap} {al : List Addr} {vs : List Value} {xs : List V} (h : VRepAll cx g al vs xs) : ∀ {names : List PySem.Str} {x : PySem.Str} {v : V}, (names.zip xs).lookup x = some v → ∃ val, (x, val) ∈ names.zip vs ∧ VRep cx g al val v := by
  induction h with
  | nil => intro names x v e; simp at e
  | cons hx hr ih =>
    intro names x v e
    cases names with
    | nil => simp at e
    | cons n names =>
      rw [List.zip_cons_cons, List.lookup_cons] at e
      cases hb : x == n with
      | true => rw [hb] at e; cases e; rw [eq_of_beq hb]; exact ⟨_, by rw [List.zip_cons_cons]; exact .head _, hx⟩
      | false => rw [hb] at e; obtain ⟨val, m, r⟩ := ih e; exact ⟨val, by rw [List.zip_cons_cons]; exact .tail _ m, r⟩

noncomputable def fin (n : Nat) (st : Store) : Fl → Option V
  | .ret (.d x) => some (.d x)
  | .ret (.c m) => if m < n then some (.c m) else match st[m]? with | some (.live xs) => some (.d (.list xs)) | _ => none
  | .ret (.ext v) => some (.ext v)
  | .ret (.hdr _) => none
  | .ret (.rng _ _) => none
  | .ret (.emp _) => none
  | .next => some (.d .none)
  | _ => none

theorem rd_out {h : Heap} {o o' al al' : List Addr} (own : ∀ a ∈ o, ∃ ob, h.get? a = some ob ∧ ¬ SeqObj ob) {b : Addr} {ob : Obj} (hs : SeqObj ob) (e : (vw h (o' ++ (al ++ al'))).get? b = some ob) : (vw h (o ++ al)).get? b = some ob := by
  obtain ⟨e1, e2⟩ := vw_get.mp e
  refine vw_get.mpr ⟨e1, fun m => ?_⟩
  rcases List.mem_append.mp m with m | m
  · obtain ⟨ob', q1, q2⟩ := own b m
    rw [e1] at q1
    cases q1
    exact q2 hs
  · exact e2 (List.mem_append.mpr (.inr (List.mem_append.mpr (.inl m))))

theorem mem_zip_fst {α β : Type} {names : List α} {vs : List β} {p : α × β} (h : p ∈ names.zip vs) : p.1 ∈ names := by
  obtain ⟨a, b⟩ := p
  exact (List.of_mem_zip h).1

theorem zip_fst_nodup {α β : Type} : ∀ {names : List α} {vs : List β}, names.Nodup → ((names.zip vs).map (·.1)).Nodup
  | [], _, _ => by simp
  | _ :: _, [], _ => by simp
  | n :: names, v :: vs, h => by
    rw [List.nodup_cons] at h
    rw [List.zip_cons_cons, List.map_cons, List.nodup_cons]
    refine ⟨fun m => ?_, zip_fst_nodup h.2⟩
    obtain ⟨p, hp, e⟩ := List.mem_map.mp m
    have := mem_zip_fst hp
    rw [e] at this
    exact h.1 this

noncomputable def Binds (cx : Cx) (fd : FuncData) (np : Nat) (kn : List PySem.Str) (names : List PySem.Str) (ex : List Value) : Prop :=
  ∀ (s : Shared) (vals : List Value) (ks : List (PySem.Str × Value)), cx.K.In s.heap → vals.length = np → ks.map (·.1) = kn → BindsTo s fd ⟨vals, ks⟩ (names.zip (vals ++ (ks.map (·.2) ++ ex)))
noncomputable def BindsG (cx : Cx) (fd : FuncData) (np : Nat) (kn : List PySem.Str) (names : List PySem.Str) (exV : List V) : Prop :=
  ∀ (A : Around) (s : Shared) (vals : List Value) (ks : List (PySem.Str × Value)) (Q : List (PySem.Str × Value) → Shared → Prop) (E : Value → Shared → Prop), cx.base.StaysIn s.heap → cx.K.In s.heap → vals.length = np → ks.map (·.1) = kn →
    (∀ h' ex, s.heap.StaysIn h' → (∀ l al, (∀ a ∈ l, a < s.heap.objs.size) → VRepAll cx (vw h' l) al ex exV) → Q (names.zip (vals ++ (ks.map (·.2) ++ ex))) { s with heap := h' }) → wpAny (model cx.prog cx.w) A (bindArgs fd ⟨vals, ks⟩) Q E s
theorem Binds.g {fd : FuncData} {np : Nat} {kn names : List PySem.Str} {ex : List Value} {exV : List V} (h : Binds cx fd np kn names ex) (hex : ∀ g al, VRepAll cx g al ex exV) : BindsG cx fd np kn names exV :=
  fun _ s vals ks _ _ _ K hl hk k => h s vals ks K hl hk _ _ _ _ (k s.heap ex (fun _ _ e => e) fun _ _ _ => hex _ _)
theorem Ok.grow {A : Around} {o al : List Addr} {h h' : Heap} {tk : Nat} (ok : Ok cx A o al st h tk) (hk : h.StaysIn h') : Nx cx A o al [] st h h' tk := by
  have hvw : (vw h (o ++ al)).StaysIn (vw h' (o ++ al)) := vw_mono fun b ob n e => ⟨hk b ob e, n⟩
  refine ⟨?_, .of fun a _ ob e => hk a ob e, by rw [List.append_nil]; exact hvw⟩
  rw [List.append_nil]
  exact ⟨ok.stk.stay (.of fun a _ ob e => hk a ob e), ok.tok, fun b ob e => hvw b ob (ok.base b ob e), ok.nd, fun a m => let ⟨ob, e, n⟩ := ok.own a m; ⟨ob, hk a ob e, n⟩,
    ok.st.1, fun i a c e1 e2 => (ok.st.2 i a c e1 e2).mono (fun ob q => hk a ob q) hvw⟩

noncomputable def tsemM (b : Bool) (cx : Cx) (d : Nat) (env : Env) (ρ : Vars) (st : Store) (t : Sem Flow) (Post : Fl → Vars → Store → Prop) (PE : Value → List PyData → Store → Prop) : Prop :=
  ∀ A hx al s Q E, (∃ l, A.frames = some (env :: l)) → Room A d → At cx A env hx al ρ st s.heap s.toks →
    (∀ fl ρ' st' f al' h' tk', Nxs cx A env hx al al' ρ' st' s.heap h' tk' → FlRep cx (vw h' (ow env hx ++ (al ++ al'))) (al ++ al') f fl → Post fl ρ' st' → Q f { s with heap := h', toks := tk' }) →
    (∀ ρ' st' al' h₁ h' tk' e cls ws xs, Nxs cx A env hx al al' ρ' st' s.heap h₁ tk' → Heap.MadeExcOf h₁ h' e cls ws → RdAll (vw h₁ (ow env hx ++ (al ++ al'))) ws xs → PE cls xs st' → E (.ref e) { s with heap := h', toks := tk' }) →
    wpS b (model cx.prog cx.w) A t Q E s
noncomputable def tsM (b : Bool) (cx : Cx) (d : Nat) (env : Env) (ρ : Vars) (st : Store) (x : Stmt) (Post : Fl → Vars → Store → Prop) (PE : Value → List PyData → Store → Prop) : Prop := tsemM b cx d env ρ st (exec x env) Post PE
noncomputable def tbM (b : Bool) (cx : Cx) (d : Nat) (env : Env) (ρ : Vars) (st : Store) (xs : List Stmt) (Post : Fl → Vars → Store → Prop) (PE : Value → List PyData → Store → Prop) : Prop := tsemM b cx d env ρ st (execs xs env) Post PE
theorem tsemM_of {b : Bool} {t : Sem Flow} {Post : Fl → Vars → Store → Prop} {PE : Value → List PyData → Store → Prop} (h : tsem cx d env ρ st t Post) : tsemM b cx d env ρ st t Post PE :=
  fun A hx al s Q E _ R a k _ => wpS_of (h A hx al s Q E R a k)

noncomputable def Fly (A : Around) (h₁ h' : Heap) (e : Addr) (cls : Value) (ws : List Value) : Prop :=
  ∃ B l t, A.frames = some l ∧ Heap.FlyingW B l e cls (.ref t) h' ∧ h'.TupAt t ws ∧ B.get? t = none ∧ (∀ b ob, h₁.get? b = some ob → b ∉ l.filterMap (·.frame) → B.get? b = some ob) ∧ h₁.UpToSlots h'
noncomputable def tcallX (b : Bool) (cx : Cx) (d : Nat) (f : V) (xs : List V) (kw : List (PySem.Str × V)) (st : Store) (Post : V → Store → Prop) (PE : Value → List PyData → Store → Prop) : Prop :=
  ∀ A o al s fv vs ks, Room A d → Ok cx A o al st s.heap s.toks → VRep cx (vw s.heap (o ++ al)) al fv f → VRepAll cx (vw s.heap (o ++ al)) al vs xs →
    ks.map (·.1) = kw.map (·.1) → VRepAll cx (vw s.heap (o ++ al)) al (ks.map (·.2)) (kw.map (·.2)) →
    ∀ Q E, (∀ r st' val al' h' tk', Nx cx A o al al' st' s.heap h' tk' → VRep cx (vw h' (o ++ (al ++ al'))) (al ++ al') val r → Post r st' → Q val { s with heap := h', toks := tk' }) →
    (∀ st' h₁ h' tk' e cls ws ys, Nx cx A o al [] st' s.heap h₁ tk' → Fly A h₁ h' e cls ws → RdAll (vw h₁ (o ++ (al ++ []))) ws ys → PE cls ys st' → E (.ref e) { s with heap := h', toks := tk' }) →
    wpS b (model cx.prog cx.w) A (call fv vs ks) Q E s

theorem frame_own {A : Around} {o : List Addr} {h : Heap} {l : List Env} (stk : Stk A o h) (hl : A.frames = some l) {b : Addr} (m : b ∈ l.filterMap (·.frame)) : b ∈ o ∧ ∃ ob, h.get? b = some ob ∧ ∀ vs, ob.data ≠ .fields vs := by
  obtain ⟨l', e, f⟩ := stk
  rw [hl] at e
  cases e
  obtain ⟨env, hm, hf⟩ := List.mem_filterMap.mp m
  obtain ⟨q, L, hL, hfr, ob, ho, hd⟩ := f env hm
  rw [hfr] at hf
  cases hf
  exact ⟨hL, ob, ho, hd⟩
theorem Ok.slots {A : Around} {o al : List Addr} {h h' : Heap} {tk : Nat} {l : List Env} (ok : Ok cx A o al st h tk) (hl : A.frames = some l) (hB : ∀ b ob, h.get? b = some ob → b ∉ l.filterMap (·.frame) → h'.get? b = some ob) (hs : h.UpToSlots h') :
    Nx cx A o al [] st h h' tk := by
  have hf := fun {b} => frame_own ok.stk hl (b := b)
  have sl : Sl o h h' := fun a m ob e => by
    by_cases hm : a ∈ l.filterMap (·.frame)
    · obtain ⟨_, ob', e', hd⟩ := hf hm
      rw [e] at e'
      cases e'
      obtain ⟨sl, q⟩ := hs a ob e hd
      exact ⟨_, q, sl, rfl, fun ⟨vs, z⟩ => absurd z (hd vs)⟩
    · exact ⟨ob, hB a ob e hm, .refl ob⟩
  have view : (vw h (o ++ al)).StaysIn (vw h' (o ++ al)) := vw_mono fun b ob n e => ⟨hB b ob e fun m => n (List.mem_append.mpr (.inl (hf m).1)), n⟩
  have nd := List.nodup_append.mp ok.nd
  refine ⟨?_, sl, by rw [List.append_nil]; exact view⟩
  rw [List.append_nil]
  refine ⟨ok.stk.stay sl, ok.tok, fun b ob e => view b ob (ok.base b ob e), ok.nd, fun a m => ?_, ok.st.1, fun i b ys e1 e2 => (ok.st.2 i b ys e1 e2).mono (fun ob q => hB b ob q fun m => ?_) view⟩
  · obtain ⟨ob, q1, q2⟩ := ok.own a m
    obtain ⟨ob', q3, q4⟩ := sl a m ob q1
    exact ⟨ob', q3, fun ⟨vs, n, q⟩ => q2 ⟨vs, n, q4.data.symm.trans q⟩⟩
  · exact nd.2.2 b (hf m).1 b (List.mem_of_getElem? e1) rfl
theorem funFrames_of {A : Around} {o : List Addr} {h B : Heap} : ∀ {l : List Env}, (∀ env ∈ l, env.scope.kind ≠ .module ∧ ∃ L, L ∈ o ∧ env.frame = some L ∧ ∃ ob, h.get? L = some ob ∧ ∀ vs, ob.data ≠ .fields vs) → (∀ b ∈ l.filterMap (·.frame), B.get? b = none) → h.FunFrames B l
  | [], _, _ => trivial
  | env :: r, h1, h2 => by
    obtain ⟨q, L, hL, hf, ob, ho, hd⟩ := h1 env (.head _)
    rw [List.filterMap_cons, hf] at h2
    exact ⟨q, ⟨L, ob, hf, h2 L (.head _), ho, hd⟩, funFrames_of (A := A) (fun e m => h1 e (.tail _ m)) fun b m => h2 b (.tail _ m)⟩

section
variable {Post : V → Store → Prop}
theorem tcallX_defG {b : Bool} {f : Addr} {oc : Value} {od : Option Addr} {osl : Array (Option Value)} {name qual : PySem.Str} {params : Arguments} {body : List Stmt} {scope : Scope} {dV kV doc pm cdv ct : Value} {an : Option Addr}
    {xs : List V} {kw : List (PySem.Str × V)} {exV : List V} {names : List PySem.Str} {PE : Value → List PyData → Store → Prop}
    (ho : cx.K.lookup f = some ⟨oc, od, .func (fnOf name qual params body scope dV kV doc pm an cdv ct), osl⟩) (hcd : codeIn cx.K cdv qual = true)
    (hbind : BindsG cx (fnOf name qual params body scope dV kV doc pm an cdv ct) xs.length (kw.map (·.1)) names exV)
    (hco : scope.isCoroutine = false) (hgen : scope.isGenerator = false) (hk : scope.kind = .function)
    (hnames : (names.all fun y => scope.names.lookup y == some .local || scope.names.lookup y == some .cell) = true) (hnn : names.Nodup)
    (hnd : ((cellsFrom 0 scope.names []).map (·.1)).Nodup)
    (h : ∀ L, tbM b cx d (envOfC qual scope L f cdv) (names.zip (xs ++ (kw.map (·.2) ++ exV))) st body (fun fl _ st' => ∃ r, fin st.length st' fl = some r ∧ Post r (st'.take st.length)) fun cls ys st' => PE cls ys (st'.take st.length)) :
    tcallX b cx (d + 1) (.ext (.ref f)) xs kw st Post PE := by
  intro A o al s₀ fv vs ks R ok₀ hf hv₀ hkn hks₀ Q E k₀ kE₀
  obtain rfl : fv = .ref f := hf
  refine wpS_call (codeS_def (by have := R.dp; omega) (ok₀.K _ _ ho) rfl hco hgen rfl (codeRec_of ok₀.K hcd) (hbind _ s₀ vs ks _ _ (fun b ob e => (vw_get.mp (ok₀.base b ob e)).1) ok₀.K hv₀.length hkn fun h0 ex hst hex => ?_))
  have n₀ := ok₀.grow hst
  obtain ⟨s, es⟩ : ∃ s : Shared, s = { s₀ with heap := h0 } := ⟨_, rfl⟩
  have ok : Ok cx A o al st s.heap s.toks := by have := n₀.ok; rw [List.append_nil] at this; rw [es]; exact this
  have w₀ : (vw s₀.heap (o ++ al)).StaysIn (vw s.heap (o ++ al)) := by have := n₀.vw; rw [List.append_nil] at this; rw [es]; exact this
  have hv := VRepAll.mono (al' := []) w₀ hv₀
  have hks := VRepAll.mono (al' := []) w₀ hks₀
  have hx := hex (o ++ al) al fun a m => ok₀.lt m
  rw [List.append_nil] at hv hks
  have nn : ∀ {al' : List Addr} {st' : Store} {h' : Heap} {tk' : Nat}, Nx cx A o al al' st' s.heap h' tk' → Nx cx A o al al' st' s₀.heap h' tk' := fun n => by
    rw [es] at n
    have := Nx.trans n₀ (by rw [List.append_nil]; exact n)
    exact this
  have k : ∀ r st' val al' h' tk', Nx cx A o al al' st' s.heap h' tk' → VRep cx (vw h' (o ++ (al ++ al'))) (al ++ al') val r → Post r st' → Q val { s with heap := h', toks := tk' } := fun r st' val al' h' tk' n v p => by
    have := k₀ r st' val al' h' tk' (nn n) v p
    rw [es]; exact this
  have kE : ∀ st' h₁ h' tk' e cls ws ys, Nx cx A o al [] st' s.heap h₁ tk' → Fly A h₁ h' e cls ws → RdAll (vw h₁ (o ++ (al ++ []))) ws ys → PE cls ys st' → E (.ref e) { s with heap := h', toks := tk' } := fun st' h₁ h' tk' e cls ws ys n fl r p => by
    have := kE₀ st' h₁ h' tk' e cls ws ys (nn n) fl r p
    rw [es]; exact this
  have all := hv.app (hks.app (show VRepAll cx (vw s.heap (o ++ al)) al ex exV by rw [es]; exact hx))
  have hbase : ∀ b ob, cx.base.get? b = some ob → s.heap.get? b = some ob := fun b ob e => (vw_get.mp (ok.base b ob e)).1
  have KI : cx.K.In s.heap := ok.K
  rw [← es]
  clear es k₀ kE₀ nn n₀ w₀ hv₀ hks₀ hex hst hx ok₀
  have hlk : ∀ n, scope.names.lookup n = some .cell → ((cellsFrom (s.heap.objs.size + 1) scope.names []).lookup n).isSome = true := by
    intro n e
    exact (cellsFrom_some scope.names (s.heap.objs.size + 1) [] (.inl e))
  show wpAny _ _ (newFunctionEnv scope mainGlobals [] (names.zip (vs ++ (ks.map (·.2) ++ ex))) (qual ++ Str.ofString ".<locals>.") (some f) cdv none builtinsNs) _ _ s
  refine wpAny_with_toks (n := s.toks) (Nat.le_refl _) (wpAny_newFunctionEnv_cells hk (fun y hy => ?_) fun env' he s' x htk => ?_)
  · have := List.all_eq_true.mp hnames y.1 (mem_zip_fst hy)
    rcases Bool.or_eq_true_iff.mp this with q | q
    · exact .inl (by simpa using q)
    · have q' : scope.names.lookup y.1 = some .cell := by simpa using q
      exact .inr ⟨q', hlk y.1 q'⟩
  · have hnd' : ((cellsFrom (s.heap.objs.size + 1) scope.names []).map (·.1)).Nodup := cellsFrom_names scope.names 0 (s.heap.objs.size + 1) [] [] rfl ▸ hnd
    have he' : env' = envOfC qual scope s.heap.objs.size f cdv := he
    clear he
    subst he'
    have keep := x.toInCall.keep
    have hgeF : ∀ a, a = s.heap.objs.size ∨ a ∈ (cellsFrom (s.heap.objs.size + 1) scope.names []).map (·.2) → s.heap.objs.size ≤ a := by
      intro a ha
      rcases ha with rfl | ha
      · exact Nat.le_refl _
      · obtain ⟨p, hp, rfl⟩ := List.mem_map.mp ha
        exact Nat.le_of_lt (x.above p.1 p.2 hp)
    have hcase : ∀ a ∈ ow (envOfC qual scope s.heap.objs.size f cdv) o, s.heap.objs.size ≤ a ∨ a ∈ o := by
      intro a ha
      rcases List.mem_cons.mp ha with rfl | ha
      · exact .inl (Nat.le_refl _)
      · rcases List.mem_append.mp ha with ha | ha
        · exact .inl (hgeF a (.inr ha))
        · exact .inr ha
    have hown : ∀ b ob, s.heap.get? b = some ob → b ∉ o ++ al → s'.heap.get? b = some ob ∧ b ∉ ow (envOfC qual scope s.heap.objs.size f cdv) o ++ al := by
      intro b ob e hn
      refine ⟨keep b ob e, fun m => ?_⟩
      rcases List.mem_append.mp m with m | m
      · rcases hcase b m with q | q
        · exact absurd (Heap.lt_size e) (Nat.not_lt.mpr q)
        · exact hn (List.mem_append.mpr (.inl q))
      · exact hn (List.mem_append.mpr (.inr m))
    have view : (vw s.heap (o ++ al)).StaysIn (vw s'.heap (ow (envOfC qual scope s.heap.objs.size f cdv) o ++ al)) := vw_mono fun b ob n e => hown b ob e n
    have nda := List.nodup_append.mp ok.nd
    have ok' : Ok cx (A.deeper (envOfC qual scope s.heap.objs.size f cdv)) (ow (envOfC qual scope s.heap.objs.size f cdv) o) al st s'.heap s'.toks := by
      have inO : ∀ a, a ∈ o → a ∈ ow (envOfC qual scope s.heap.objs.size f cdv) o := fun a m => .tail _ (List.mem_append.mpr (.inr m))
      refine ⟨?_, Nat.zero_le _, fun b ob e => view b ob (ok.base b ob e), ?_, ?_, ok.st.1, fun i a ys e1 e2 => ?_⟩
      · obtain ⟨l, hl, hf⟩ := ok.stk
        refine ⟨envOfC qual scope s.heap.objs.size f cdv :: l, by show A.frames.map _ = _; rw [hl]; rfl, fun env m => ?_⟩
        rcases List.mem_cons.mp m with rfl | m
        · obtain ⟨ob, es, ep, q1, q2, _⟩ := x.toInCall.ns
          refine ⟨by show scope.kind ≠ .module; rw [hk]; decide, s.heap.objs.size, .head _, rfl, ob, q1, fun vs q => by rw [q2] at q; cases q⟩
        · obtain ⟨q, L, hL, hfr, ob, ho', hd⟩ := hf env m
          exact ⟨q, L, inO L hL, hfr, ob, keep _ _ ho', hd⟩
      · refine List.nodup_append.mpr ⟨?_, nda.2.1, fun a ha b hb e => ?_⟩
        · refine List.nodup_cons.mpr ⟨fun m => ?_, ?_⟩
          · rcases List.mem_append.mp m with m | m
            · obtain ⟨p, hp, e⟩ := List.mem_map.mp m
              exact absurd (x.above p.1 p.2 hp) (by rw [e]; exact Nat.lt_irrefl _)
            · exact absurd (ok.lt (List.mem_append.mpr (.inl m))) (Nat.lt_irrefl _)
          · refine List.nodup_append.mpr ⟨List.pairwise_map.mpr (x.apart.imp fun q => q), nda.1, fun a ha b hb e => ?_⟩
            have h1 := hgeF a (.inr ha)
            have h2 := ok.lt (List.mem_append.mpr (.inl hb))
            rw [e] at h1
            exact absurd h2 (Nat.not_lt.mpr h1)
        · rcases hcase a ha with h1 | h1
          · have h2 := ok.lt (List.mem_append.mpr (.inr hb))
            rw [e] at h1
            exact absurd h2 (Nat.not_lt.mpr h1)
          · exact nda.2.2 a h1 b hb e
      · intro a ha
        rcases List.mem_cons.mp ha with rfl | ha
        · obtain ⟨ob, es, ep, q1, q2, _⟩ := x.toInCall.ns
          exact ⟨ob, q1, fun ⟨vs, n, q⟩ => by rw [q2] at q; cases q⟩
        · rcases List.mem_append.mp ha with ha | ha
          · obtain ⟨p, hp, rfl⟩ := List.mem_map.mp ha
            obtain ⟨ob, q1, q2⟩ := x.cell p.1 p.2 (lookup_of_mem_nodup hnd' hp)
            exact ⟨ob, q1, fun ⟨vs, n, q⟩ => by rw [q2] at q; cases q⟩
          · obtain ⟨ob, q1, q2⟩ := ok.own a ha
            exact ⟨ob, keep _ _ q1, q2⟩
      · exact (ok.st.2 i a ys e1 e2).mono (fun ob q => keep _ _ q) view
    have at0 : At cx (A.deeper (envOfC qual scope s.heap.objs.size f cdv)) (envOfC qual scope s.heap.objs.size f cdv) o al (names.zip (xs ++ (kw.map (·.2) ++ exV))) st s'.heap s'.toks := by
      refine ⟨ok', hk, rfl, rfl, _, _, x.toInCall.ns, x.cell, fun y v e => ?_⟩
      obtain ⟨val, m, r⟩ := all.zip e
      refine ⟨val, by have := r.mono (al' := []) view; rwa [List.append_nil] at this, ?_⟩
      have hn := List.all_eq_true.mp hnames y (mem_zip_fst m)
      have hnd2 : ((names.zip (vs ++ (ks.map (·.2) ++ ex))).map (·.1)).Nodup := zip_fst_nodup hnn
      rcases Bool.or_eq_true_iff.mp hn with q | q
      · have q1 : scope.names.lookup y = some .local := by simpa using q
        have q' : (envOfC qual scope s.heap.objs.size f cdv).kindOf y = some .local := q1
        exact .inl ⟨q', bindL_get q' hnd2 m⟩
      · have q1 : scope.names.lookup y = some .cell := by simpa using q
        have q' : (envOfC qual scope s.heap.objs.size f cdv).kindOf y = some .cell := q1
        exact .inr ⟨.inl q', hlk y q1, bindC_get (by rw [q']; decide) hnd2 m⟩
    obtain ⟨h₁, tk₁, es'⟩ := x.toInCall.same
    refine ⟨(cx.T.nolimit.keeps fun b ob e => keep b ob (hbase b ob e)), codeS_func ?_⟩
    have R' : Room (A.deeper (envOfC qual scope s.heap.objs.size f cdv)) d := ⟨R.hd, by have := R.dp; show A.depth + 1 + 4 * d + 8 < recursionLimit; omega, by have := R.un; show A.units + 3 + 20 * d + 200 < cLine; omega⟩
    have back : ∀ {ρ' : Vars} {st' : Store} {al' : List Addr} {h₁ h' : Heap} {tk' : Nat}, Nxs cx (A.deeper (envOfC qual scope s.heap.objs.size f cdv)) (envOfC qual scope s.heap.objs.size f cdv) o al al' ρ' st' s'.heap h₁ tk' → (∀ b ob, b ≠ s.heap.objs.size → h₁.get? b = some ob → h'.get? b = some ob) →
        Nx cx A o al [] (st'.take st.length) s.heap h' tk' ∧ (∀ b ob, SeqObj ob → (vw h₁ (ow (envOfC qual scope s.heap.objs.size f cdv) o ++ (al ++ al'))).get? b = some ob → (vw h' (o ++ (al ++ []))).get? b = some ob) ∧ ∀ a ∈ o, ∃ ob, h'.get? a = some ob ∧ ¬ SeqObj ob := by
      intro ρ' st' al' h₁ h' tk' n sub
      have okc := n.at'.ok
      have olt : ∀ a ∈ o ++ al, a ≠ s.heap.objs.size := fun a m q => absurd (ok.lt m) (by rw [q]; exact Nat.lt_irrefl _)
      -- what stood before the call stands
      have out : ∀ b ob, s.heap.get? b = some ob → b ∉ o ++ al → h'.get? b = some ob := by
        intro b ob e hn
        obtain ⟨q1, q2⟩ := hown b ob e hn
        exact sub b ob (Nat.ne_of_lt (Heap.lt_size e)) (vw_get.mp (n.vw b ob (vw_get.mpr ⟨q1, q2⟩))).1
      have fr : Sl o s.heap h' := fun a ha ob e => let ⟨o', e', q⟩ := n.hk a ha ob (keep a ob e); ⟨o', sub a o' (olt a (List.mem_append.mpr (.inl ha))) e', q⟩
      have own' : ∀ a ∈ o, ∃ ob, h'.get? a = some ob ∧ ¬ SeqObj ob := fun a ha => let ⟨ob, q1, q2⟩ := ok.own a ha; let ⟨ob', q3, q4⟩ := fr a ha ob q1; ⟨ob', q3, fun ⟨vs, n, q⟩ => q2 ⟨vs, n, q4.data.symm.trans q⟩⟩
      have view' : (vw s.heap (o ++ al)).StaysIn (vw h' (o ++ al)) := vw_mono fun b ob hn e => ⟨out b ob e hn, hn⟩
      have hlen : al.length = (st'.take st.length).length := by
        rw [List.length_take, ok.st.1, Nat.min_eq_left]
        have := okc.st.1
        rw [List.length_append, ok.st.1] at this
        omega
      have rdo : ∀ b ob, SeqObj ob → (vw h₁ (ow (envOfC qual scope s.heap.objs.size f cdv) o ++ (al ++ al'))).get? b = some ob → (vw h' (o ++ al)).get? b = some ob := fun b ob hs e => by
        obtain ⟨e1, e2⟩ := vw_get.mp e
        have e3 := sub b ob (fun q => e2 (q ▸ .head _)) e1
        refine vw_get.mpr ⟨e3, fun m => ?_⟩
        rcases List.mem_append.mp m with m | m
        · obtain ⟨ob', q1, q2⟩ := own' b m
          rw [e3] at q1
          cases q1
          exact q2 hs
        · exact e2 (List.mem_append.mpr (.inr (List.mem_append.mpr (.inl m))))
      refine ⟨⟨?_, fr, by rw [List.append_nil]; exact view'⟩, fun b ob hs e => by rw [List.append_nil]; exact rdo b ob hs e, own'⟩
      rw [List.append_nil]
      refine ⟨ok.stk.stay fr, okc.tok, fun b ob e => view' b ob (ok.base b ob e), ok.nd, own', hlen, fun i a ys e1 e2 => ?_⟩
      have hi : i < st.length := ok.st.1 ▸ (List.getElem?_eq_some_iff.mp e1).1
      have e2' : st'[i]? = some ys := by rw [List.getElem?_take, if_pos hi] at e2; exact e2
      exact (okc.st.2 i a ys (getElem?_append_some e1) e2').on (fun ob q => sub a ob (olt a (List.mem_append.mpr (.inr (List.mem_of_getElem? e1)))) q) rdo
    have hfr : ∃ l, (A.deeper (envOfC qual scope s.heap.objs.size f cdv)).frames = some (envOfC qual scope s.heap.objs.size f cdv :: l) := by
      obtain ⟨l, hl, _⟩ := ok.stk
      exact ⟨l, by show A.frames.map _ = _; rw [hl]; rfl⟩
    refine h s.heap.objs.size _ o al s' _ _ hfr R' at0 (fun fl ρ' st' fw al' h' tk' n w p => ?_) fun ρ' st' al' h₁ h' tk' e cls ws ys n mk ry p => ?_
    rotate_left
    · have sub : ∀ b ob, (hideAll h₁ [s.heap.objs.size]).get? b = some ob → h₁.get? b = some ob ∧ b ≠ s.heap.objs.size := fun b ob e => ⟨of_hideAll _ e, fun q => by rw [q, hideAll_none _ (.head _)] at e; cases e⟩
      obtain ⟨nx, hrd, own'⟩ := back n (h' := hideAll h₁ [s.heap.objs.size]) fun b ob hb e => hideAll_get _ e fun m => hb (List.mem_singleton.mp m)
      obtain ⟨l, hl, hfs⟩ := ok.stk
      have okc := n.at'.ok
      have fr1 : (A.deeper (envOfC qual scope s.heap.objs.size f cdv)).frames = some (envOfC qual scope s.heap.objs.size f cdv :: l) := by show A.frames.map _ = _; rw [hl]; rfl
      obtain ⟨l₂, hl₂, hfs₂⟩ := okc.stk
      rw [fr1] at hl₂
      cases hl₂
      have es'' : ({ s' with heap := h', toks := tk' } : Shared) = { s with heap := h', toks := tk' } := by rw [es']
      rw [es'']
      refine wpAny_leaves_madeW (base := hideAll h₁ ((envOfC qual scope s.heap.objs.size f cdv :: l).filterMap (·.frame))) (h := h₁) fr1 rfl (fun b ob q => of_hideAll _ q) (funFrames_of (A := A) hfs₂ fun b m => hideAll_none _ m) mk fun h₂ t x1 x2 x3 x4 => ?_
      refine kE _ _ h₂ tk' e cls ws ys nx ⟨_, l, t, hl, x1, x2, x3, fun b ob q nm => hideAll_get _ (sub b ob q).1 fun m => ?_, (Heap.UpToSlots.of_keeps fun b ob q => mk.keeps b ob (sub b ob q).1).trans x4⟩ (RdAll.on hrd ry) p
      rw [List.filterMap_cons] at m
      exact (List.mem_cons.mp m).elim (fun z => (sub b ob q).2 z) nm
    obtain ⟨r, hr, hp⟩ := p
    obtain ⟨nx, hrd, own'⟩ := back n fun _ _ _ e => e
    have okc := n.at'.ok
    have rep : ∀ {x : PyData} {v : Value}, Rd (vw h' (ow (envOfC qual scope s.heap.objs.size f cdv) o ++ (al ++ al'))) v x → Rd (vw h' (o ++ (al ++ []))) v x := fun r => r.on hrd
    have key : ∀ val, VRep cx (vw h' (o ++ (al ++ []))) (al ++ []) val r → Q val { s with heap := h', toks := tk' } := fun val hv => k r _ val [] h' tk' nx hv hp
    have es'' : ({ s' with heap := h', toks := tk' } : Shared) = { s with heap := h', toks := tk' } := by rw [es']
    rw [es'']
    cases fl with
    | next =>
      cases hr
      cases fw with
      | next => exact key .none .none
      | _ => exact w.elim
    | brk => cases hr
    | cont => cases hr
    | ret v =>
      cases fw with
      | ret u =>
        have w' : VRep cx (vw h' (ow (envOfC qual scope s.heap.objs.size f cdv) o ++ (al ++ al'))) (al ++ al') u v := w
        cases v with
        | d y => cases hr; exact key u (rep w')
        | ext y => cases hr; exact key u w'
        | hdr m => cases hr
        | rng _ _ => cases hr
        | emp _ => cases hr
        | c m =>
          obtain ⟨a, e1, rfl⟩ := w'
          have hr' : (if m < st.length then some (V.c m) else match st'[m]? with | some (.live xs) => some (V.d (.list xs)) | _ => none) = some r := hr
          by_cases hm : m < st.length
          · rw [if_pos hm] at hr'
            cases hr'
            refine key (.ref a) ⟨a, ?_, rfl⟩
            rw [List.getElem?_append_left (by rw [ok.st.1]; exact hm)] at e1
            rw [List.append_nil]; exact e1
          · rw [if_neg hm] at hr'
            cases q : st'[m]? with
            | none => rw [q] at hr'; cases hr'
            | some cc =>
              rw [q] at hr'
              cases cc with
              | fixed o => cases hr'
              | live ys =>
              cases hr'
              obtain ⟨vs', ⟨ob, l1, l2, nn, l3, _⟩, rr⟩ : CellOk _ _ _ (.live ys) := okc.st.2 m a _ e1 q
              refine key (.ref a) (.list ⟨ob, ?_, l2, nn, l3⟩ ?_)
              · rw [List.append_nil]
                refine vw_get.mpr ⟨l1, fun mm => ?_⟩
                rcases List.mem_append.mp mm with mm | mm
                · obtain ⟨ob', q1, q2⟩ := own' a mm
                  rw [l1] at q1
                  cases q1
                  exact q2 ⟨_, _, l3⟩
                · -- the list is the def's own
                  have ndc := (List.nodup_append.mp okc.nd).2.1
                  obtain ⟨i, hi, e⟩ := List.getElem_of_mem mm
                  have hi' : i < (al ++ al').length := by rw [List.length_append]; omega
                  have e3 : (al ++ al')[i]? = some a := getElem?_append_some (by rw [List.getElem?_eq_getElem hi, e])
                  have hm' := (List.getElem?_eq_some_iff.mp e1)
                  have hi'' := (List.getElem?_eq_some_iff.mp e3)
                  have : i = m := (List.getElem_inj ndc).mp (hi''.2.trans hm'.2.symm)
                  rw [ok.st.1] at hi
                  omega
              · rw [List.append_nil]
                exact rr.on fun b ob hs e => rd_out own' hs e
      | _ => exact w.elim
theorem tcallX_def {b : Bool} {f : Addr} {oc : Value} {od : Option Addr} {osl : Array (Option Value)} {name qual : PySem.Str} {params : Arguments} {body : List Stmt} {scope : Scope} {dV kV doc pm cdv ct : Value} {an : Option Addr}
    {xs : List V} {kw : List (PySem.Str × V)} {ex : List Value} {exV : List V} {names : List PySem.Str} {PE : Value → List PyData → Store → Prop}
    (ho : cx.K.lookup f = some ⟨oc, od, .func (fnOf name qual params body scope dV kV doc pm an cdv ct), osl⟩) (hcd : codeIn cx.K cdv qual = true)
    (hbind : Binds cx (fnOf name qual params body scope dV kV doc pm an cdv ct) xs.length (kw.map (·.1)) names ex) (hex : ∀ g al, VRepAll cx g al ex exV)
    (hco : scope.isCoroutine = false) (hgen : scope.isGenerator = false) (hk : scope.kind = .function)
    (hnames : (names.all fun y => scope.names.lookup y == some .local || scope.names.lookup y == some .cell) = true) (hnn : names.Nodup)
    (hnd : ((cellsFrom 0 scope.names []).map (·.1)).Nodup)
    (h : ∀ L, tbM b cx d (envOfC qual scope L f cdv) (names.zip (xs ++ (kw.map (·.2) ++ exV))) st body (fun fl _ st' => ∃ r, fin st.length st' fl = some r ∧ Post r (st'.take st.length)) fun cls ys st' => PE cls ys (st'.take st.length)) :
    tcallX b cx (d + 1) (.ext (.ref f)) xs kw st Post PE := tcallX_defG ho hcd (hbind.g hex) hco hgen hk hnames hnn hnd h
theorem tcallX_plain {f : V} {xs : List V} {kw : List (PySem.Str × V)} (h : tcallX false cx d f xs kw st Post fun _ _ _ => False) : tcall cx d f xs kw st Post :=
  fun A o al s fv vs ks R ok hf hv hkn hks Q E k => wpS_all <| h A o al s fv vs ks R ok hf hv hkn hks Q E k fun _ _ _ _ _ _ _ _ _ _ _ p => p.elim
theorem tcall_def {f : Addr} {oc : Value} {od : Option Addr} {osl : Array (Option Value)} {name qual : PySem.Str} {params : Arguments} {body : List Stmt} {scope : Scope} {dV kV doc pm cdv ct : Value} {an : Option Addr}
    {xs : List V} {kw : List (PySem.Str × V)} {ex : List Value} {exV : List V} {names : List PySem.Str}
    (ho : cx.K.lookup f = some ⟨oc, od, .func (fnOf name qual params body scope dV kV doc pm an cdv ct), osl⟩) (hcd : codeIn cx.K cdv qual = true)
    (hbind : Binds cx (fnOf name qual params body scope dV kV doc pm an cdv ct) xs.length (kw.map (·.1)) names ex) (hex : ∀ g al, VRepAll cx g al ex exV)
    (hco : scope.isCoroutine = false) (hgen : scope.isGenerator = false) (hk : scope.kind = .function)
    (hnames : (names.all fun y => scope.names.lookup y == some .local || scope.names.lookup y == some .cell) = true) (hnn : names.Nodup)
    (hnd : ((cellsFrom 0 scope.names []).map (·.1)).Nodup)
    (h : ∀ L, tb cx d (envOfC qual scope L f cdv) (names.zip (xs ++ (kw.map (·.2) ++ exV))) st body fun fl _ st' => ∃ r, fin st.length st' fl = some r ∧ Post r (st'.take st.length)) :
    tcall cx (d + 1) (.ext (.ref f)) xs kw st Post := tcallX_plain (tcallX_def ho hcd hbind hex hco hgen hk hnames hnn hnd fun L => tsemM_of (h L))
end

end Mine

-- N5
namespace Mine
open PySem PySem.W PySem.Calls PyProof.Rows

variable {cx : Cx} {d : Nat} {env : Env} {ρ : Vars} {st : Store} {pos : Pos}

noncomputable def upd : Vars → PySem.Str → V → Vars
  | [], x, v => [(x, v)]
  | (y, u) :: r, x, v => if y == x then (y, v) :: r else (y, u) :: upd r x v
theorem upd_get (x : PySem.Str) (v : V) (y : PySem.Str) : ∀ ρ : Vars, (upd ρ x v).lookup y = if y == x then some v else ρ.lookup y
  | [] => by
    unfold upd
    rw [List.lookup_cons]
    cases y == x <;> rfl
  | (z, u) :: r => by
    unfold upd
    cases hz : z == x with
    | true =>
      rw [if_pos rfl, List.lookup_cons, List.lookup_cons]
      have := eq_of_beq hz
      subst this
      cases y == z <;> rfl
    | false =>
      rw [if_neg (by decide), List.lookup_cons, List.lookup_cons, upd_get x v y r]
      cases hy : y == z with
      | true =>
        have := eq_of_beq hy
        subst this
        rw [hz]; rfl
      | false => rfl
noncomputable def updAll : Vars → List (PySem.Str × V) → Vars
  | ρ, [] => ρ
  | ρ, (x, v) :: r => updAll (upd ρ x v) r

theorem Ok.touch {o al : List Addr} {h h' : Heap} {a : Addr} {tk tk' : Nat} (ok : Ok cx A o al st h tk) (htk : tk ≤ tk') (ha : a ∈ o) (hs : Heap.SameBut a h h') (hn : ∃ ob, h'.get? a = some ob ∧ ¬ SeqObj ob)
    (hd : ∀ ob, h.get? a = some ob → (∀ vs, ob.data ≠ .fields vs) → ∃ ob', h'.get? a = some ob' ∧ ∀ vs, ob'.data ≠ .fields vs) :
    Ok cx A o al st h' tk' ∧ (vw h (o ++ al)).StaysIn (vw h' (o ++ al)) := by
  have view : (vw h (o ++ al)).StaysIn (vw h' (o ++ al)) := vw_mono fun b ob n e => ⟨(hs.2 b fun q => n (q ▸ List.mem_append.mpr (.inl ha))).trans e, n⟩
  refine ⟨⟨ok.stk.keep (fun _ m => m) (fun b m ob e d => ?_), Nat.zero_le _, fun b ob e => view b ob (ok.base b ob e), ok.nd, fun b m => ?_, ok.st.1, fun i b xs e1 e2 => ?_⟩, view⟩
  · by_cases hb : b = a
    · subst hb; exact hd ob e d
    · exact ⟨ob, (hs.2 b hb).trans e, d⟩
  · by_cases hb : b = a
    · subst hb; exact hn
    · obtain ⟨ob, q1, q2⟩ := ok.own b m
      exact ⟨ob, (hs.2 b hb).trans q1, q2⟩
  · have hb : b ≠ a := fun q => by
      have := (List.nodup_append.mp ok.nd).2.2 a ha b (List.mem_of_getElem? e1)
      exact this q.symm
    exact (ok.st.2 i b xs e1 e2).mono (fun ob q => (hs.2 b hb).trans q) view

noncomputable def stores (env : Env) (x : PySem.Str) : Bool := env.kindOf x == some .local || (env.kindOf x == some .cell && (env.cells.lookup x).isSome)

theorem At.apart {hx al : List Addr} {h : Heap} {tk : Nat} (a : At cx A env hx al ρ st h tk) {n : PySem.Str} {c : Addr} (e : env.cells.lookup n = some c) : env.locals ≠ c := by
  have nd := (List.nodup_append.mp a.ok.nd).1
  have := (List.nodup_cons.mp nd).1
  exact fun q => this (q ▸ List.mem_append.mpr (.inl (List.mem_map.mpr ⟨(n, c), PySem.mem_of_lookup e, rfl⟩)))
theorem At.cellsApart {hx al : List Addr} {h : Heap} {tk : Nat} (a : At cx A env hx al ρ st h tk) : env.cells.Pairwise fun x y => x.2 ≠ y.2 := by
  have nd := (List.nodup_append.mp a.ok.nd).1
  have := (List.nodup_append.mp (List.nodup_cons.mp nd).2).1
  exact List.pairwise_map.mp this

theorem store_run {A : Around} {hx al : List Addr} {s : Shared} {x : PySem.Str} {v : V} {val : Value} (a : At cx A env hx al ρ st s.heap s.toks) (r : VRep cx (vw s.heap (ow env hx ++ al)) al val v) (hk : stores env x = true)
    {Q : Unit → Shared → Prop} {E : Value → Shared → Prop} (k : ∀ h' tk', Nxs cx A env hx al [] (upd ρ x v) st s.heap h' tk' → Q () { s with heap := h', toks := tk' }) : wpAny (model cx.prog cx.w) A (storeName env x val) Q E s := by
  obtain ⟨m, cm, hm, hc, hv⟩ := a.vars
  have nx : ∀ (h' : Heap) (tk' : Nat), (∀ b ∈ hx, ∀ ob, s.heap.get? b = some ob → h'.get? b = some ob) → Ok cx A (ow env hx) al st h' tk' → (vw s.heap (ow env hx ++ al)).StaysIn (vw h' (ow env hx ++ al)) →
      VarsOk cx env (vw h' (ow env hx ++ al)) al (upd ρ x v) h' → Nxs cx A env hx al [] (upd ρ x v) st s.heap h' tk' :=
    fun h' tk' hh o w vo => ⟨.of hh, by rw [List.append_nil]; exact ⟨o, a.fn, a.gl, a.bi, vo⟩, by rw [List.append_nil]; exact w⟩
  have nd := (List.nodup_append.mp a.ok.nd).1
  rcases Bool.or_eq_true_iff.mp hk with q | q
  · have hl : env.kindOf x = some .local := by simpa using q
    refine wpAny_storeName_local hl hm (fun h' hn hs => ?_) (by rw [a.fn]; rfl)
    obtain ⟨ok', w⟩ := a.ok.touch (Nat.le_succ _) (List.mem_cons_self) hs (let ⟨ob, es, ep, q1, q2, _⟩ := hn; ⟨ob, q1, fun ⟨vs, n, z⟩ => by rw [q2] at z; cases z⟩) (fun _ _ _ => let ⟨ob, es, ep, q1, q2, _⟩ := hn; ⟨ob, q1, fun vs z => by rw [q2] at z; cases z⟩)
    refine k h' _ (nx h' _ (fun b hb ob e => (hs.2 b fun z => ?_).trans e) ok' w ⟨_, cm, hn, fun n c e => ?_, fun y u e => ?_⟩)
    · exact (List.nodup_cons.mp nd).1 (z ▸ List.mem_append.mpr (.inr hb))
    · exact (hc n c e).sameBut hs (fun z => a.apart e z.symm)
    · rw [upd_get] at e
      cases hy : y == x with
      | true =>
        rw [hy] at e
        cases e
        have := eq_of_beq hy
        subst this
        exact ⟨val, by have := r.mono (al' := []) w; rwa [List.append_nil] at this, .inl ⟨hl, if_pos rfl⟩⟩
      | false =>
        rw [hy] at e
        obtain ⟨u', r', z⟩ := hv y u e
        refine ⟨u', by have := r'.mono (al' := []) w; rwa [List.append_nil] at this, ?_⟩
        rcases z with ⟨z1, z2⟩ | z
        · exact .inl ⟨z1, by show (if y = x then some val else m y) = some u'; rw [if_neg (fun p => by rw [p] at hy; simp at hy)]; exact z2⟩
        · exact .inr z
  · obtain ⟨q1, q2⟩ := Bool.and_eq_true_iff.mp q
    have hl : env.kindOf x = some .cell := by simpa using q1
    obtain ⟨c, hcl⟩ := Option.isSome_iff_exists.mp q2
    refine wpAny_storeName_cell a.fn hl hcl (hc x c hcl) fun h' hv' hs => ?_
    have hcm : c ∈ ow env hx := .tail _ (List.mem_append.mpr (.inl (List.mem_map.mpr ⟨(x, c), PySem.mem_of_lookup hcl, rfl⟩)))
    obtain ⟨ok', w⟩ := a.ok.touch (Nat.le_refl _) hcm hs (let ⟨ob, z1, z2⟩ := hv'; ⟨ob, z1, fun ⟨vs, n, z⟩ => by rw [z2] at z; cases z⟩) (fun _ _ _ => let ⟨ob, z1, z2⟩ := hv'; ⟨ob, z1, fun vs z => by rw [z2] at z; cases z⟩)
    refine k h' s.toks (nx h' _ (fun b hb ob e => (hs.2 b fun z => ?_).trans e) ok' w ⟨m, fun y => if y = x then some val else cm y, ?_, fun n c' e => ?_, fun y u e => ?_⟩)
    · have := (List.nodup_append.mp (List.nodup_cons.mp nd).2).2.2 c (List.mem_map.mpr ⟨(x, c), PySem.mem_of_lookup hcl, rfl⟩) b hb
      exact this z.symm
    · exact hm.sameBut hs (a.apart hcl)
    · by_cases hn : n = x
      · subst hn
        rw [hcl] at e; cases e
        simpa using hv'
      · show h'.IsCell c' (if n = x then some val else cm n)
        rw [if_neg hn]
        exact (hc n c' e).sameBut hs fun z => hn (name_of_addr a.cellsApart (PySem.mem_of_lookup e) (z ▸ PySem.mem_of_lookup hcl))
    · rw [upd_get] at e
      cases hy : y == x with
      | true =>
        rw [hy] at e
        cases e
        have := eq_of_beq hy
        subst this
        exact ⟨val, by have := r.mono (al' := []) w; rwa [List.append_nil] at this, .inr ⟨.inl hl, q2, if_pos rfl⟩⟩
      | false =>
        rw [hy] at e
        obtain ⟨u', r', z⟩ := hv y u e
        refine ⟨u', by have := r'.mono (al' := []) w; rwa [List.append_nil] at this, ?_⟩
        rcases z with z | ⟨z1, z2, z3⟩
        · exact .inl z
        · exact .inr ⟨z1, z2, by show (if y = x then some val else cm y) = some u'; rw [if_neg (fun p => by rw [p] at hy; simp at hy)]; exact z3⟩

theorem lift_s {env : Env} {hx al al₁ : List Addr} {ρ₁ : Vars} {st₁ : Store} {s : Shared} {h₁ : Heap} {tk₁ : Nat} {Q : Flow → Shared → Prop} {Post : Fl → Vars → Store → Prop} (n : Nxs cx A env hx al al₁ ρ₁ st₁ s.heap h₁ tk₁)
    (k : ∀ fl ρ' st' f al' h' tk', Nxs cx A env hx al al' ρ' st' s.heap h' tk' → FlRep cx (vw h' (ow env hx ++ (al ++ al'))) (al ++ al') f fl → Post fl ρ' st' → Q f { s with heap := h', toks := tk' }) :
    ∀ fl ρ' st' f al' h' tk', Nxs cx A env hx (al ++ al₁) al' ρ' st' ({ s with heap := h₁, toks := tk₁ } : Shared).heap h' tk' → FlRep cx (vw h' (ow env hx ++ ((al ++ al₁) ++ al'))) ((al ++ al₁) ++ al') f fl → Post fl ρ' st' →
      Q f { ({ s with heap := h₁, toks := tk₁ } : Shared) with heap := h', toks := tk' } :=
  fun fl ρ' st' f al' h' tk' m v p => k fl ρ' st' f (al₁ ++ al') h' tk' (n.trans m) (by rw [← List.append_assoc al]; exact v) p

section
variable {Post : Fl → Vars → Store → Prop}

theorem tb_nil (h : Post .next ρ st) : tb cx d env ρ st [] Post := by
  intro A hx al s Q E R a k
  exact wpAny_execs_nil (k .next ρ st .next [] s.heap s.toks (Nxs.refl a) trivial h)
@[reducible] noncomputable def Then (cx : Cx) (d : Nat) (env : Env) (r : List Stmt) (Post : Fl → Vars → Store → Prop) (fl : Fl) (ρ₁ : Vars) (st₁ : Store) : Prop := match fl with | .next => tb cx d env ρ₁ st₁ r Post | fl => Post fl ρ₁ st₁
theorem tb_cons {x : Stmt} {r : List Stmt} (h : ts cx d env ρ st x (Then cx d env r Post)) : tb cx d env ρ st (x :: r) Post := by
  intro A hx al s Q E R a k
  refine wpAny_execs_cons (h A hx al s _ E R a fun fl ρ₁ st₁ f al₁ h₁ tk₁ n₁ w p => ?_)
  cases fl with
  | next => cases f with
    | next => exact p A _ _ _ Q E R n₁.at' (lift_s n₁ k)
    | _ => exact w.elim
  | brk => cases f with
    | brk => exact k _ ρ₁ st₁ _ al₁ h₁ tk₁ n₁ w p
    | _ => exact w.elim
  | cont => cases f with
    | cont => exact k _ ρ₁ st₁ _ al₁ h₁ tk₁ n₁ w p
    | _ => exact w.elim
  | ret v => cases f with
    | ret u => exact k (.ret v) ρ₁ st₁ _ al₁ h₁ tk₁ n₁ w p
    | _ => exact w.elim

theorem ts_assign {x : PySem.Str} {e : Expr} {p : Pos} (h : te cx d env ρ st e fun v st₁ => Post .next (upd ρ x v) st₁) (hk : stores env x = true := by rfl)
    (hs : swapsWith e (some (.Name x p)) pos.line env = pure false := by rfl) : ts cx d env ρ st (.Assign [.Name x p] e pos) Post := by
  intro A hx al s Q E R a k
  refine wpAny_Assign_Name (h A hx al s R a _ E fun v st₁ val al₁ h₁ tk₁ n₁ v₁ p₁ => ?_) hs
  refine store_run (s := { s with heap := h₁, toks := tk₁ }) (a.next n₁) v₁ hk fun h₂ tk₂ n₂ => ?_
  exact k .next _ st₁ .next (al₁ ++ []) h₂ tk₂ ((a.nxs n₁).trans n₂) trivial p₁

theorem ts_aug {x : PySem.Str} {op : Operator} {e : Expr} {p : Pos} {v₀ : V} (hl : ρ.lookup x = some v₀) (h : te cx d env ρ st e fun v st₁ => tinp cx d op v₀ v st₁ fun r st₂ => Post .next (upd ρ x r) st₂) (hk : stores env x = true := by rfl)
    (hn : (x == ("__classdict__" : PySem.Str)) = false := by rfl) : ts cx d env ρ st (.AugAssign (.Name x p) op e pos) Post := by
  intro A hx al s Q E R a k
  refine wpAny_AugAssign_Name ?_
  obtain ⟨m, cm, hm, hc, hv⟩ := a.vars
  obtain ⟨val, r, q⟩ := hv x v₀ hl
  have fin : wpAny (model cx.prog cx.w) A (eval e env) (fun v s₂ => wpAny (model cx.prog cx.w) A (inplaceOp op val v) (fun r s₃ => wpAny (model cx.prog cx.w) A (storeName env x r) (fun _ => Q .next) E s₃) E s₂) E s := by
    refine h A hx al s R a _ E fun v st₁ u al₁ h₁ tk₁ n₁ v₁ p₁ => ?_
    refine p₁ A _ _ _ val u R n₁.ok (r.mono n₁.vw) v₁ _ E fun w st₂ z al₂ h₂ tk₂ n₂ v₂ p₂ => ?_
    refine store_run (s := { s with heap := h₂, toks := tk₂ }) ((a.next n₁).next n₂) v₂ hk fun h₃ tk₃ n₃ => ?_
    exact k .next _ st₂ .next (al₁ ++ (al₂ ++ [])) h₃ tk₃ ((a.nxs n₁).trans (((a.next n₁).nxs n₂).trans n₃)) trivial p₂
  rcases q with ⟨k1, k2⟩ | ⟨k1 | k1, k2, k3⟩
  · exact wpAny_loadName_local a.fn k1 hm k2 fin
  · obtain ⟨c, hcl⟩ := Option.isSome_iff_exists.mp k2
    exact wpAny_loadName_cell a.fn k1 hcl (k3 ▸ hc x c hcl) fin
  · obtain ⟨c, hcl⟩ := Option.isSome_iff_exists.mp k2
    exact wpAny_loadName_free a.fn k1 hcl (k3 ▸ hc x c hcl) fin hn

theorem ts_expr {e : Expr} (h : te cx d env ρ st e fun _ st₁ => Post .next ρ st₁) (hi : interactive env = false := by rfl) (hs : swapsWith e none pos.line env = pure false := by rfl) : ts cx d env ρ st (.Expr e pos) Post := by
  intro A hx al s Q E R a k
  refine wpAny_Expr_any (h A hx al s R a _ E fun v st₁ val al₁ h₁ tk₁ n₁ v₁ p₁ => ?_) hi hs
  exact k .next ρ st₁ .next al₁ h₁ tk₁ (a.nxs n₁) trivial p₁
@[reducible] noncomputable def Ways (cx : Cx) (d : Nat) (env : Env) (ρ : Vars) (b o : List Stmt) (Post : Fl → Vars → Store → Prop) (c : Bool) (st₁ : Store) : Prop := (c = true → tb cx d env ρ st₁ b Post) ∧ (c = false → tb cx d env ρ st₁ o Post)
theorem ts_if {t : Expr} {b o : List Stmt} (h : tt cx d env ρ st t (Ways cx d env ρ b o Post)) : ts cx d env ρ st (.If t b o pos) Post := by
  intro A hx al s Q E R a k
  refine wpAny_If (h A hx al s _ E R a fun c st₁ al₁ h₁ tk₁ n₁ p₁ => ?_)
  cases c
  · exact p₁.2 rfl A _ _ _ Q E R (a.next n₁) (lift_s (a.nxs n₁) k)
  · exact p₁.1 rfl A _ _ _ Q E R (a.next n₁) (lift_s (a.nxs n₁) k)
theorem ts_ret {e : Expr} (h : te cx d env ρ st e fun v st₁ => Post (.ret v) ρ st₁) : ts cx d env ρ st (.Return (some e) pos) Post := by
  intro A hx al s Q E R a k
  refine wpAny_Return_some (h A hx al s R a _ E fun v st₁ val al₁ h₁ tk₁ n₁ v₁ p₁ => ?_)
  exact k (.ret v) ρ st₁ (.ret val) al₁ h₁ tk₁ (a.nxs n₁) v₁ p₁
theorem ts_break (h : Post .brk ρ st) : ts cx d env ρ st (.Break pos) Post := by
  intro A hx al s Q E R a k
  exact wpAny_Break (k .brk ρ st .brk [] s.heap s.toks (Nxs.refl a) trivial h)
end

noncomputable def tasg (cx : Cx) (d : Nat) (env : Env) (ρ : Vars) (st : Store) (target : Expr) (v : V) (Post : Vars → Prop) : Prop :=
  ∀ A hx al s val Q E, Room A d → At cx A env hx al ρ st s.heap s.toks → VRep cx (vw s.heap (ow env hx ++ al)) al val v →
    (∀ ρ' h' tk', Nxs cx A env hx al [] ρ' st s.heap h' tk' → Post ρ' → Q () { s with heap := h', toks := tk' }) → wpAny (model cx.prog cx.w) A (assign target env val) Q E s

theorem tasg_name {x : PySem.Str} {v : V} {Post : Vars → Prop} (h : Post (upd ρ x v)) (hk : stores env x = true := by rfl) : tasg cx d env ρ st (.Name x pos) v Post := by
  intro A hx al s val Q E R a r k
  exact wpAny_assign_Name (store_run a r hk fun h' tk' n => k _ h' tk' n h)

noncomputable def namesOf? : List Expr → Option (List PySem.Str)
  | [] => some []
  | .Name x _ :: r => (namesOf? r).map (x :: ·)
  | _ :: _ => none

theorem assignNames_run {A : Around} {hx al : List Addr} {E : Value → Shared → Prop} : ∀ (es : List Expr) (names : List PySem.Str) (vals : List Value) (xs : List V) (ρ : Vars) (s : Shared) (Q : Unit → Shared → Prop), namesOf? es = some names → vals.length = es.length →
    (names.all (stores env)) = true → At cx A env hx al ρ st s.heap s.toks → VRepAll cx (vw s.heap (ow env hx ++ al)) al vals xs →
    (∀ h' tk', Nxs cx A env hx al [] (updAll ρ (names.zip xs)) st s.heap h' tk' → Q () { s with heap := h', toks := tk' }) →
    wpAny (model cx.prog cx.w) A (assignInOrder ((assignEach es env).map (·.2)) vals) Q E s
  | [], names, vals, xs, ρ, s, Q, hn, hl, hk, a, r, k => by
    cases hn
    cases r with
    | nil => exact wpAny_assignInOrder_none (k s.heap s.toks (Nxs.refl a))
    | cons _ _ => cases hl
  | e :: es, names, vals, xs, ρ, s, Q, hn, hl, hk, a, r, k => by
    cases e with
    | Name x p =>
      simp only [namesOf?] at hn
      cases q : namesOf? es with
      | none => rw [q] at hn; cases hn
      | some ns =>
        rw [q] at hn
        cases hn
        cases r with
        | nil => cases hl
        | @cons v vs y ys hv hvs =>
          rw [List.all_cons, Bool.and_eq_true_iff] at hk
          show wpAny _ A (assignInOrder (assign (.Name x p) env :: (assignEach es env).map (·.2)) (v :: vs)) Q E s
          refine wpAny_assignInOrder_more (wpAny_assign_Name (store_run a hv hk.1 fun h₁ tk₁ n₁ => ?_))
          have a₁ := n₁.at'
          have w₁ := n₁.vw
          rw [List.append_nil] at a₁ w₁
          refine assignNames_run es ns vs ys _ _ Q q (by simpa using hl) hk.2 a₁ (by have := hvs.mono (al' := []) w₁; rwa [List.append_nil] at this) fun h₂ tk₂ n₂ => ?_
          refine k h₂ tk₂ ?_
          have n₂' : Nxs cx A env hx (al ++ []) [] (updAll (upd ρ x y) (ns.zip ys)) st h₁ h₂ tk₂ := by rw [List.append_nil]; exact n₂
          exact n₁.trans n₂'
    | _ => simp only [namesOf?] at hn; cases hn

theorem rdAll_vrep {g : Heap} {al : List Addr} {vs : List Value} {xs : List PyData} (h : RdAll g vs xs) : VRepAll cx g al vs (xs.map .d) := by
  induction vs generalizing xs with
  | nil => cases h; exact .nil
  | cons v vs ih => cases h with | cons h r => exact .cons h (ih r)

theorem assignEach_names (env : Env) : ∀ {es : List Expr} {names : List PySem.Str}, namesOf? es = some names → (assignEach es env).length = es.length ∧ (assignEach es env).findIdx? (·.1) = none ∧ names.length = es.length
  | [], _, h => by cases h; exact ⟨rfl, rfl, rfl⟩
  | e :: es, names, h => by
    cases e with
    | Name x p =>
      simp only [namesOf?] at h
      cases q : namesOf? es with
      | none => rw [q] at h; cases h
      | some ns =>
        rw [q] at h
        cases h
        obtain ⟨h1, h2, h3⟩ := assignEach_names env q
        refine ⟨?_, ?_, by simp [h3]⟩
        · show ((false, assign (.Name x p) env) :: assignEach es env).length = _
          simp [h1]
        · show ((false, assign (.Name x p) env) :: assignEach es env).findIdx? (·.1) = none
          rw [List.findIdx?_cons]
          simp [h2]
    | _ => simp only [namesOf?] at h; cases h

theorem nxs_grow {hx al : List Addr} {h h' : Heap} {tk tk' : Nat} (a : At cx A env hx al ρ st h tk) (hk : h.StaysIn h') (htk : tk ≤ tk') : Nxs cx A env hx al [] ρ st h h' tk' := by
  have view := rd_mono_h (l := ow env hx ++ al) hk
  have nx : Nx cx A (ow env hx) al [] st h h' tk' := by
    refine ⟨?_, .of fun a' _ ob e => hk a' ob e, by rw [List.append_nil]; exact view⟩
    rw [List.append_nil]
    exact ⟨a.ok.stk.stay (.of fun a' _ ob e => hk a' ob e), Nat.zero_le _, fun b ob e => view b ob (a.ok.base b ob e), a.ok.nd, fun b m => let ⟨ob, e, n⟩ := a.ok.own b m; ⟨ob, hk b ob e, n⟩,
      a.ok.st.1, fun i b xs e1 e2 => (a.ok.st.2 i b xs e1 e2).mono (fun ob q => hk b ob q) view⟩
  exact a.nxs nx

theorem tasg_tuple {es : List Expr} {n : Nat} {names : List PySem.Str} {xs : List PyData} {Post : Vars → Prop} (hn : namesOf? es = some names) (hl : xs.length = names.length) (h : Post (updAll ρ (names.zip (xs.map .d))))
    (hk : names.all (stores env) = true := by rfl) : tasg cx d env ρ st (.Tuple es n pos) (.d (.tuple xs)) Post := by
  intro A hx al s val Q E R a r k
  obtain ⟨t, vs, rfl, ht, hr⟩ := rd_tuple r
  obtain ⟨e1, e2, e3⟩ := assignEach_names env hn
  have hlen : vs.toList.length = es.length := by rw [hr.length, hl, e3]
  refine wpAny_assign_Tuple R.hd (isTup_of_vw ht) (by rw [e1, ← hlen, Array.length_toList]) e2 fun h₁ hx₁ => ?_
  have hk₁ : s.heap.StaysIn h₁ := fun b ob e => hx₁ b ob (Nat.ne_of_lt (Heap.lt_size e)) e
  have n₁ := nxs_grow a hk₁ (Nat.le_refl _)
  have a₁ := n₁.at'
  have w₁ := n₁.vw
  rw [List.append_nil] at a₁ w₁
  refine assignNames_run es names _ _ ρ { s with heap := h₁ } Q hn hlen hk a₁ (by have := (rdAll_vrep (cx := cx) (al := al) hr).mono (al' := []) w₁; rwa [List.append_nil] at this) fun h₂ tk₂ n₂ => ?_
  refine k _ h₂ tk₂ ?_ h
  have n₂' : Nxs cx A env hx (al ++ []) [] (updAll ρ (names.zip (xs.map .d))) st h₁ h₂ tk₂ := by rw [List.append_nil]; exact n₂
  exact n₁.trans n₂'

theorem ts_assignT {es : List Expr} {n : Nat} {p : Pos} {e : Expr} {Post : Fl → Vars → Store → Prop} (h : te cx d env ρ st e fun v st₁ => tasg cx d env ρ st₁ (.Tuple es n p) v fun ρ₁ => Post .next ρ₁ st₁)
    (hs : swapsWithSole [.Tuple es n p] e pos.line env = pure false := by rfl) (hw : swappedStores [.Tuple es n p] e env = pure none := by rfl) : ts cx d env ρ st (.Assign [.Tuple es n p] e pos) Post := by
  intro A hx al s Q E R a k
  refine PyProof.Rows.Assign_Tuple (h A hx al s R a _ E fun v st₁ val al₁ h₁ tk₁ n₁ v₁ p₁ => ?_) hs hw
  refine p₁ A hx _ _ val _ E R (a.next n₁) v₁ fun ρ' h₂ tk₂ n₂ q => ?_
  exact k .next ρ' st₁ .next (al₁ ++ []) h₂ tk₂ ((a.nxs n₁).trans n₂) trivial q

end Mine

-- N6
namespace Mine
open PySem PySem.W PySem.Calls PyProof.Rows

variable {cx : Cx} {d : Nat} {env : Env} {ρ : Vars} {st : Store} {pos : Pos}

noncomputable def TurnPost (goOn : Vars → Store → Prop) (Post : Fl → Vars → Store → Prop) : Fl → Vars → Store → Prop
  | .next, ρ, st => goOn ρ st
  | .cont, ρ, st => goOn ρ st
  | .brk, ρ, st => Post .next ρ st
  | .ret v, ρ, st => Post (.ret v) ρ st

section
variable {Post : Fl → Vars → Store → Prop}

theorem ts_while {test : Expr} {body : List Stmt} (Inv : Nat → Vars → Store → Prop) (n : Nat) (h0 : Inv n ρ st)
    (turn : ∀ n ρ st, Inv n ρ st → tt cx d env ρ st test fun c st₁ => (c = true → tb cx d env ρ st₁ body (TurnPost (fun ρ₂ st₂ => ∃ m, m < n ∧ Inv m ρ₂ st₂) Post)) ∧ (c = false → Post .next ρ st₁)) :
    ts cx d env ρ st (.While test body [] pos) Post := by
  intro A hx al s Q E R a k
  refine wpAny_While (codeAny_whileLoop (fun n s' => ∃ al' ρ' st' h' tk', s' = { s with heap := h', toks := tk' } ∧ Nxs cx A env hx al al' ρ' st' s.heap h' tk' ∧ Inv n ρ' st') ?_ n
    ⟨[], ρ, st, s.heap, s.toks, rfl, Nxs.refl a, h0⟩)
  rintro n s' ⟨al₁, ρ₁, st₁, h₁, tk₁, rfl, n₁, i₁⟩
  refine turn n ρ₁ st₁ i₁ A _ _ _ _ _ R n₁.at' fun c st₂ al₂ h₂ tk₂ n₂ p₂ => ?_
  have n₁₂ := n₁.trans (n₁.at'.nxs n₂)
  cases c with
  | false =>
    simp only [Bool.false_eq_true, if_false]
    exact wpAny_execs_nil (k .next ρ₁ st₂ .next _ h₂ tk₂ n₁₂ trivial (p₂.2 rfl))
  | true =>
    simp only [if_true]
    refine p₂.1 rfl A _ _ _ _ _ R (n₁.at'.next n₂) fun fl ρ₃ st₃ f al₃ h₃ tk₃ n₃ w₃ p₃ => ?_
    have n₁₃ : Nxs cx A env hx al (al₁ ++ (al₂ ++ al₃)) ρ₃ st₃ s.heap h₃ tk₃ := n₁.trans ((n₁.at'.nxs n₂).trans n₃)
    cases fl with
    | next => cases f with
      | next => obtain ⟨m, hm, im⟩ := p₃; exact ⟨m, hm, _, ρ₃, st₃, h₃, tk₃, rfl, n₁₃, im⟩
      | _ => exact w₃.elim
    | cont => cases f with
      | cont => obtain ⟨m, hm, im⟩ := p₃; exact ⟨m, hm, _, ρ₃, st₃, h₃, tk₃, rfl, n₁₃, im⟩
      | _ => exact w₃.elim
    | brk => cases f with
      | brk => exact k .next ρ₃ st₃ .next _ h₃ tk₃ n₁₃ trivial p₃
      | _ => exact w₃.elim
    | ret v => cases f with
      | ret u =>
        refine k (.ret v) ρ₃ st₃ (.ret u) _ h₃ tk₃ n₁₃ ?_ p₃
        have e : (al ++ al₁) ++ al₂ ++ al₃ = al ++ (al₁ ++ (al₂ ++ al₃)) := by simp only [List.append_assoc]
        rw [← e]; exact w₃
      | _ => exact w₃.elim

noncomputable def Fld (ob : Obj) : Prop := ∃ vs, ob.data = .fields vs
theorem Fld.notSeq {ob : Obj} (x : Fld ob) : ¬ SeqObj ob := fun ⟨vs, n, q⟩ => by obtain ⟨ws, e⟩ := x; rw [e] at q; cases q
theorem SlEq.fld {o o' : Obj} (x : SlEq o o') (f : Fld o) : o' = o := by
  obtain ⟨sl, rfl, q⟩ := x
  rw [q f]
theorem At.add {hx al : List Addr} {h h' : Heap} {I : Addr} {tk tk' : Nat} (a : At cx A env hx al ρ st h tk) (htk : tk ≤ tk') (hk : h.StaysIn h') (hI : h.objs.size ≤ I) (hn : ∃ ob, h'.get? I = some ob ∧ ¬ SeqObj ob) :
    At cx A env (I :: hx) al ρ st h' tk' ∧ (vw h (ow env hx ++ al)).StaysIn (vw h' (ow env (I :: hx) ++ al)) := by
  have fresh : ∀ b ∈ ow env hx ++ al, b ≠ I := fun b m e => absurd (a.ok.lt m) (by rw [e]; exact Nat.not_lt.mpr hI)
  have view : (vw h (ow env hx ++ al)).StaysIn (vw h' (ow env (I :: hx) ++ al)) := vw_mono fun b ob n e => ⟨hk b ob e, fun m => by
    have hb : b ≠ I := fun q => absurd (Heap.lt_size e) (by rw [q]; exact Nat.not_lt.mpr hI)
    apply n
    simp only [ow, List.cons_append, List.mem_cons, List.mem_append] at m ⊢
    rcases m with m | (m | m | m) | m
    · exact .inl m
    · exact .inr (.inl (.inl m))
    · exact absurd m hb
    · exact .inr (.inl (.inr m))
    · exact .inr (.inr m)⟩
  obtain ⟨m, cm, hm, hc, hv⟩ := a.vars
  have inc : ∀ b, b ∈ ow env hx → b ∈ ow env (I :: hx) := fun b m => by
    simp only [ow, List.mem_cons, List.mem_append] at m ⊢
    rcases m with m | m | m
    · exact .inl m
    · exact .inr (.inl m)
    · exact .inr (.inr (.inr m))
  refine ⟨⟨⟨a.ok.stk.keep inc (fun b m ob e d => ⟨ob, hk b ob e, d⟩), Nat.zero_le _, fun b ob e => view b ob (a.ok.base b ob e), ?_, ?_, a.ok.st.1, fun i b xs e1 e2 => ?_⟩, a.fn, a.gl, a.bi, m, cm, hm.keeps hk, fun n c e => (hc n c e).keeps hk, fun y v e => ?_⟩, view⟩
  · have nd := a.ok.nd
    have hp : (ow env (I :: hx) ++ al).Perm (I :: (ow env hx ++ al)) := by
      simp only [ow, List.cons_append]
      refine (List.Perm.cons _ ?_).trans (List.Perm.swap _ _ _)
      rw [List.append_assoc, List.append_assoc, List.cons_append]
      exact List.perm_middle
    refine hp.nodup_iff.mpr (List.nodup_cons.mpr ⟨fun q => fresh I q rfl, nd⟩)
  · intro b hb
    simp only [ow, List.mem_cons, List.mem_append] at hb
    have old : b ∈ ow env hx → ∃ o, h'.get? b = some o ∧ ¬ SeqObj o := fun q => let ⟨ob, e, n⟩ := a.ok.own b q; ⟨ob, hk b ob e, n⟩
    rcases hb with q | q | q | q
    · exact old (by simp [ow, q])
    · exact old (by simp only [ow, List.mem_cons, List.mem_append]; exact .inr (.inl q))
    · rw [q]; exact hn
    · exact old (by simp only [ow, List.mem_cons, List.mem_append]; exact .inr (.inr q))
  · exact (a.ok.st.2 i b xs e1 e2).mono (fun ob q => hk b ob q) view
  · obtain ⟨val, r, q⟩ := hv y v e
    exact ⟨val, by have := r.mono (al' := []) view; rwa [List.append_nil] at this, q⟩

theorem At.walk {hx al : List Addr} {h h' : Heap} {I : Addr} {tk tk' : Nat} (a : At cx A env (I :: hx) al ρ st h tk) (htk : tk ≤ tk') (hk : ∀ b o, b ≠ I → h.get? b = some o → h'.get? b = some o) (hn : ∃ ob, h'.get? I = some ob ∧ ¬ SeqObj ob) (hf : ∃ ob, h.get? I = some ob ∧ Fld ob) :
    At cx A env (I :: hx) al ρ st h' tk' ∧ (vw h (ow env (I :: hx) ++ al)).StaysIn (vw h' (ow env (I :: hx) ++ al)) := by
  have mI : I ∈ ow env (I :: hx) := .tail _ (List.mem_append.mpr (.inr (.head _)))
  have view : (vw h (ow env (I :: hx) ++ al)).StaysIn (vw h' (ow env (I :: hx) ++ al)) := vw_mono fun b ob n e => ⟨hk b ob (fun q => n (by rw [q]; exact List.mem_append.mpr (.inl mI))) e, n⟩
  have nd1 := (List.nodup_append.mp a.ok.nd).1
  obtain ⟨m, cm, hm, hc, hv⟩ := a.vars
  have lI : env.locals ≠ I := fun q => (List.nodup_cons.mp nd1).1 (q ▸ List.mem_append.mpr (.inr (.head _)))
  have cI : ∀ n c, env.cells.lookup n = some c → c ≠ I := fun n c e q => by
    have := (List.nodup_append.mp (List.nodup_cons.mp nd1).2).2.2 c (List.mem_map.mpr ⟨(n, c), PySem.mem_of_lookup e, rfl⟩) I (.head _)
    exact this q
  have stk' : Stk A (ow env (I :: hx)) h' := a.ok.stk.keep (fun _ m => m) fun b m o e d => by
    by_cases hb : b = I
    · subst hb
      obtain ⟨ob, q1, vs, q2⟩ := hf
      rw [q1] at e
      cases e
      exact absurd q2 (d vs)
    · exact ⟨o, hk b o hb e, d⟩
  refine ⟨⟨⟨stk', Nat.zero_le _, fun b ob e => view b ob (a.ok.base b ob e), a.ok.nd, fun b m => ?_, a.ok.st.1, fun i b xs e1 e2 => ?_⟩, a.fn, a.gl, a.bi, m, cm, ?_, fun n c e => ?_, fun y v e => ?_⟩, view⟩
  · by_cases hb : b = I
    · subst hb; exact hn
    · obtain ⟨ob, q1, q2⟩ := a.ok.own b m
      exact ⟨ob, hk b ob hb q1, q2⟩
  · have hb : b ≠ I := fun q => (List.nodup_append.mp a.ok.nd).2.2 I mI b (List.mem_of_getElem? e1) q.symm
    exact (a.ok.st.2 i b xs e1 e2).mono (fun ob q => hk b ob hb q) view
  · obtain ⟨ob, es, ep, q1, q2⟩ := hm
    exact ⟨ob, es, ep, hk _ ob lI q1, q2⟩
  · obtain ⟨ob, q1, q2⟩ := hc n c e
    exact ⟨ob, hk c ob (cI n c e) q1, q2⟩
  · obtain ⟨val, r, q⟩ := hv y v e
    exact ⟨val, by have := r.mono (al' := []) view; rwa [List.append_nil] at this, q⟩

theorem At.rest0 {hx al : List Addr} {h h' : Heap} {I : Addr} {tk tk' : Nat} (a : At cx A env (I :: hx) al ρ st h tk) (htk : tk ≤ tk') (hk : ∀ b o, b ≠ I → h.get? b = some o → h'.get? b = some o) (stk' : Stk A (ow env hx) h') :
    At cx A env hx al ρ st h' tk' ∧ (vw h (ow env (I :: hx) ++ al)).StaysIn (vw h' (ow env hx ++ al)) := by
  have sub : ∀ b, b ∈ ow env hx ++ al → b ∈ ow env (I :: hx) ++ al := by
    intro b m
    simp only [ow, List.cons_append, List.mem_cons, List.mem_append] at m ⊢
    rcases m with m | (m | m) | m
    · exact .inl m
    · exact .inr (.inl (.inl m))
    · exact .inr (.inl (.inr (.inr m)))
    · exact .inr (.inr m)
  have mI : I ∈ ow env (I :: hx) ++ al := List.mem_append.mpr (.inl (.tail _ (List.mem_append.mpr (.inr (.head _)))))
  have view : (vw h (ow env (I :: hx) ++ al)).StaysIn (vw h' (ow env hx ++ al)) := vw_mono fun b ob n e => ⟨hk b ob (fun q => n (q ▸ mI)) e, fun m => n (sub b m)⟩
  have hp : (ow env (I :: hx) ++ al).Perm (I :: (ow env hx ++ al)) := by
    simp only [ow, List.cons_append]
    refine (List.Perm.cons _ ?_).trans (List.Perm.swap _ _ _)
    rw [List.append_assoc, List.append_assoc, List.cons_append]
    exact List.perm_middle
  have nd := List.nodup_cons.mp (hp.nodup_iff.mp a.ok.nd)
  have ne : ∀ b, b ∈ ow env hx ++ al → b ≠ I := fun b m q => nd.1 (q ▸ m)
  obtain ⟨m, cm, hm, hc, hv⟩ := a.vars
  refine ⟨⟨⟨stk', Nat.zero_le _, fun b ob e => view b ob (a.ok.base b ob e), nd.2, fun b m => ?_, a.ok.st.1, fun i b xs e1 e2 => ?_⟩, a.fn, a.gl, a.bi, m, cm, ?_, fun n c e => ?_, fun y v e => ?_⟩, view⟩
  · have mo : b ∈ ow env (I :: hx) := by
      simp only [ow, List.mem_cons, List.mem_append] at m ⊢
      rcases m with q | q | q
      · exact .inl q
      · exact .inr (.inl q)
      · exact .inr (.inr (.inr q))
    obtain ⟨ob, q1, q2⟩ := a.ok.own b mo
    exact ⟨ob, hk b ob (ne b (List.mem_append.mpr (.inl m))) q1, q2⟩
  · exact (a.ok.st.2 i b xs e1 e2).mono (fun ob q => hk b ob (ne b (List.mem_append.mpr (.inr (List.mem_of_getElem? e1)))) q) view
  · obtain ⟨ob, es, ep, q1, q2⟩ := hm
    exact ⟨ob, es, ep, hk _ ob (ne _ (List.mem_append.mpr (.inl (.head _)))) q1, q2⟩
  · obtain ⟨ob, q1, q2⟩ := hc n c e
    exact ⟨ob, hk c ob (ne c (List.mem_append.mpr (.inl (.tail _ (List.mem_append.mpr (.inl (List.mem_map.mpr ⟨(n, c), PySem.mem_of_lookup e, rfl⟩))))))) q1, q2⟩
  · obtain ⟨val, r, q⟩ := hv y v e
    exact ⟨val, by have := r.mono (al' := []) view; rwa [List.append_nil] at this, q⟩

theorem At.rest {hx al : List Addr} {h h' : Heap} {I : Addr} {tk tk' : Nat} (a : At cx A env (I :: hx) al ρ st h tk) (htk : tk ≤ tk') (hk : ∀ b o, b ≠ I → h.get? b = some o → h'.get? b = some o) (hf : ∃ ob, h.get? I = some ob ∧ Fld ob) :
    At cx A env hx al ρ st h' tk' ∧ (vw h (ow env (I :: hx) ++ al)).StaysIn (vw h' (ow env hx ++ al)) := by
  have stk' : Stk A (ow env hx) h' := by
    obtain ⟨l, e, f⟩ := a.ok.stk
    refine ⟨l, e, fun env' m' => ?_⟩
    obtain ⟨q, L, hL, hfr, o, ho, d⟩ := f env' m'
    have hLI : L ≠ I := fun z => by
      subst z
      obtain ⟨ob, q1, vs, q2⟩ := hf
      rw [q1] at ho
      cases ho
      exact d vs q2
    refine ⟨q, L, ?_, hfr, o, hk L o hLI ho, d⟩
    simp only [ow, List.mem_cons, List.mem_append] at hL ⊢
    rcases hL with z | z | z | z
    · exact .inl z
    · exact .inr (.inl z)
    · exact absurd z hLI
    · exact .inr (.inr z)
  exact a.rest0 htk hk stk'

noncomputable def Feeds (cx : Cx) (A : Around) (I : Addr) (target : Expr) (fx : List Addr) (g : Heap) (items : List PyData) (h : Heap) : Prop :=
  ∃ fp P St, Walks cx.prog cx.w A I fp [I] items.length P St ∧ St 0 h ∧ (∀ b ∈ fp, b = I ∨ (∃ o, g.get? b = some o) ∨ b ∈ fx) ∧ (∀ i v, i < items.length → P i v → ∃ x, items[i]? = some x ∧ Rd g v x) ∧
    (∀ i h, St i h → ∃ ob, h.get? I = some ob ∧ Fld ob) ∧
    ∀ i v (s' : Shared) (Q : Unit → Shared → Prop) (E : Value → Shared → Prop), St i s'.heap → Q () s' → wpAny (model cx.prog cx.w) A (letOwnedTupleGo target (.ref I) v) Q E s'

noncomputable def bodyS (b : Bool) (cx : Cx) (A : Around) (env : Env) (body : List Stmt) (ρ : Vars) (st : Store) (Post : Fl → Vars → Store → Prop) : Prop :=
  ∀ hx al s Q E, At cx A env hx al ρ st s.heap s.toks →
    (∀ fl ρ' st' f al' h' tk', Nxs cx A env hx al al' ρ' st' s.heap h' tk' → FlRep cx (vw h' (ow env hx ++ (al ++ al'))) (al ++ al') f fl → Post fl ρ' st' → Q f { s with heap := h', toks := tk' }) →
    wpS b (model cx.prog cx.w) A (execs body env) Q E s
theorem forLoop_run {c : Bool} {A : Around} {hx al : List Addr} {s s₁ : Shared} {I : Addr} {items : List PyData} {target : Expr} {body : List Stmt} {Rr : Result → Shared → Prop} {fx : List Addr} (R : Room A d)
    (a : At cx A env hx al ρ st s.heap s.toks) (hs₁ : ∃ h tk, s₁ = { s with heap := h, toks := tk }) (htk₁ : s.toks ≤ s₁.toks) (hk₁ : s.heap.StaysIn s₁.heap) (hI : s.heap.objs.size ≤ I)
    (F : Feeds cx A I target fx (vw s.heap (ow env hx ++ al)) items s₁.heap)
    (Inv : List PyData → Vars → Store → Prop) (h0 : Inv items ρ st) (hfx : ∀ b ∈ fx, ∃ (n : Nat) (o : Obj), al[n]? = some b ∧ ∀ xs ρ' st', Inv xs ρ' st' → st'[n]? = some (Cell.fixed o))
    (turn : ∀ x rest ρ st, Inv (x :: rest) ρ st → tasg cx d env ρ st target (.d x) fun ρ₁ => bodyS c cx A env body ρ₁ st (TurnPost (Inv rest) Post))
    (stop : ∀ ρ st, Inv [] ρ st → Post .next ρ st)
    (k : ∀ fl ρ' st' f al' h' tk', Nxs cx A env hx al al' ρ' st' s.heap h' tk' → FlRep cx (vw h' (ow env hx ++ (al ++ al'))) (al ++ al') f fl → Post fl ρ' st' → Rr (.ok f) { s with heap := h', toks := tk' }) :
    codeS c (model cx.prog cx.w) A (.forLoop target (.ref I) body [] env) Rr s₁ := by
  obtain ⟨fp, P, St, W, st0, hfp, hP, hns, hgo⟩ := F
  obtain ⟨h₁, tk₁, rfl⟩ := hs₁
  obtain ⟨a₁, v₁⟩ := a.add htk₁ hk₁ hI (let ⟨ob, e, f⟩ := hns 0 _ st0; ⟨ob, e, f.notSeq⟩)
  -- the state between the turns
  let L (al' : List Addr) (ρ' : Vars) (st' : Store) (h' : Heap) (tk' : Nat) : Prop :=
    At cx A env (I :: hx) (al ++ al') ρ' st' h' tk' ∧ Sl hx s.heap h' ∧ (vw s.heap (ow env hx ++ al)).StaysIn (vw h' (ow env (I :: hx) ++ (al ++ al')))
  have hIx : I ∉ hx := fun m => absurd (a.ok.lt (List.mem_append.mpr (.inl (.tail _ (List.mem_append.mpr (.inr m)))))) (Nat.not_lt.mpr hI)
  have out : ∀ {fl ρ' st' f al' h' h'' tk tk'}, L al' ρ' st' h' tk → (∃ ob, h'.get? I = some ob ∧ Fld ob) → tk ≤ tk' → (∀ b o, b ≠ I → h'.get? b = some o → h''.get? b = some o) → FlRep cx (vw h' (ow env (I :: hx) ++ (al ++ al'))) (al ++ al') f fl → Post fl ρ' st' → Rr (.ok f) { s with heap := h'', toks := tk' } := by
    rintro fl ρ' st' f al' h' h'' tk tk' ⟨l1, l2, l3⟩ hfI htk hk w p
    obtain ⟨b1, b2⟩ := l1.rest htk hk hfI
    refine k fl ρ' st' f al' h'' tk' ⟨l2.trans (.of fun b m o e => hk b o (fun q => hIx (q ▸ m)) e), b1, fun b o e => b2 b o (l3 b o e)⟩ ?_ p
    cases fl with
    | ret v => cases f with
      | ret u =>
        have w' : VRep cx (vw h' (ow env (I :: hx) ++ (al ++ al'))) (al ++ al') u v := w
        have := w'.mono (al' := []) b2
        rw [List.append_nil] at this
        exact this
      | _ => exact w.elim
    | next => cases f <;> first | trivial | exact w.elim
    | brk => cases f <;> first | trivial | exact w.elim
    | cont => cases f <;> first | trivial | exact w.elim
  have Lstep : ∀ {al' al₂ : List Addr} {ρ' ρ₂ : Vars} {st' st₂ : Store} {h' h₂ : Heap} {tk' tk₂ : Nat}, L al' ρ' st' h' tk' → Nxs cx A env (I :: hx) (al ++ al') al₂ ρ₂ st₂ h' h₂ tk₂ → L (al' ++ al₂) ρ₂ st₂ h₂ tk₂ := by
    rintro al' al₂ ρ' ρ₂ st' st₂ h' h₂ tk' tk₂ ⟨l1, l2, l3⟩ n
    refine ⟨by rw [← List.append_assoc]; exact n.at', l2.trans (n.hk.sub fun b m => .tail _ m), fun b o e => ?_⟩
    rw [← List.append_assoc al]
    exact n.vw b o (l3 b o e)
  have Istep : ∀ {i : Nat} {al' al₂ : List Addr} {ρ₂ : Vars} {st₂ : Store} {h' h₂ : Heap} {tk₂ : Nat}, Nxs cx A env (I :: hx) (al ++ al') al₂ ρ₂ st₂ h' h₂ tk₂ → St i h' → ∃ ob, h₂.get? I = some ob ∧ Fld ob := by
    intro i al' al₂ ρ₂ st₂ h' h₂ tk₂ n hst
    obtain ⟨ob, q1, q2⟩ := hns _ _ hst
    obtain ⟨o', e', q⟩ := n.hk _ (.head _) ob q1
    exact ⟨ob, by rw [q.fld q2] at e'; exact e', q2⟩
  have Ststep : ∀ {i : Nat} {al' al₂ : List Addr} {ρ' ρ₂ : Vars} {st' st₂ : Store} {h' h₂ : Heap} {tk' tk₂ : Nat}, L al' ρ' st' h' tk' → Nxs cx A env (I :: hx) (al ++ al') al₂ ρ₂ st₂ h' h₂ tk₂ →
      (∀ b ∈ fx, ∃ (n : Nat) (o : Obj), al[n]? = some b ∧ st'[n]? = some (Cell.fixed o) ∧ st₂[n]? = some (Cell.fixed o)) → St i h' → St i h₂ := by
    rintro i al' al₂ ρ' ρ₂ st' st₂ h' h₂ tk' tk₂ ⟨l1, l2, l3⟩ n fxs hst
    refine W.frame i h' h₂ hst fun b hb o e => ?_
    rcases hfp b hb with rfl | ⟨o', q⟩ | q
    · obtain ⟨o', e', q⟩ := n.hk _ (.head _) o e
      obtain ⟨ob, q1, q2⟩ := hns _ _ hst
      rw [e] at q1
      cases q1
      rw [q.fld q2] at e'
      exact e'
    · have q2 := l3 b o' q
      have e' := (vw_get.mp q2).1
      rw [e] at e'
      cases e'
      exact (vw_get.mp (n.vw b o q2)).1
    · obtain ⟨m, o', e1, e2, e3⟩ := fxs b q
      have q1 : h'.get? b = some o' := l1.ok.st.2 m b _ (getElem?_append_some e1) e2
      have q2 : h₂.get? b = some o' := n.at'.ok.st.2 m b _ (getElem?_append_some (getElem?_append_some e1)) e3
      rw [e] at q1
      cases q1
      exact q2
  refine codeS_for (fun n s' => ∃ i al' ρ' st' h' tk', s' = { s with heap := h', toks := tk' } ∧ L al' ρ' st' h' tk' ∧ St i h' ∧ Inv (items.drop i) ρ' st' ∧ i + n = items.length) ?_ items.length
    ⟨0, [], ρ, st, h₁, tk₁, rfl, ⟨by rw [List.append_nil]; exact a₁, Sl.of (fun b m o e => hk₁ b o e), by rw [List.append_nil]; exact v₁⟩, st0, by rw [List.drop_zero]; exact h0, Nat.zero_add _⟩
  rintro n s' ⟨i, al', ρ', st', h', tk', rfl, l, hst, hinv, hin⟩
  cases n with
  | zero =>
    have hi : i = items.length := by omega
    subst hi
    refine wpAny_with_toks (Nat.le_refl _) (W.done _ _ _ hst fun h₂ tk₂ hk₂ htk₂ => ?_)
    refine out (fl := .next) (f := .next) l (hns _ _ hst) htk₂ (fun b o hb e => hk₂ b o (fun m => hb (List.mem_singleton.mp m)) e) trivial (stop ρ' st' ?_)
    rw [List.drop_length] at hinv; exact hinv
  | succ n =>
    have hi : i < items.length := by omega
    refine wpAny_with_toks (Nat.le_refl _) (W.item i _ _ _ hi hst fun v h₂ tk₂ hv hst₂ hk₂ htk₂ => ?_)
    obtain ⟨x, ex, rx⟩ := hP i v hi hv
    have edrop : items.drop i = x :: items.drop (i + 1) := by
      rw [List.drop_eq_getElem_cons hi]
      rw [List.getElem?_eq_getElem hi] at ex
      rw [Option.some.inj ex]
    rw [edrop] at hinv
    obtain ⟨w1, w2⟩ := l.1.walk htk₂ (fun b o hb e => hk₂ b o (fun m => hb (List.mem_singleton.mp m)) e) (let ⟨ob, e, f⟩ := hns _ _ hst₂; ⟨ob, e, f.notSeq⟩) (hns _ _ hst)
    have l₂ : L al' ρ' st' h₂ tk₂ := ⟨w1, l.2.1.trans (.of fun b m o e => hk₂ b o (fun q => hIx ((List.mem_singleton.mp q) ▸ m)) e), fun b o e => w2 b o (l.2.2 b o e)⟩
    refine hgo (i + 1) v _ _ _ hst₂ ?_
    refine turn x _ ρ' st' hinv A (I :: hx) (al ++ al') { s with heap := h₂, toks := tk₂ } v _ _ R w1 (rx.keeps l₂.2.2) fun ρ₃ h₃ tk₃ n₃ p₃ => ?_
    have l₃ := Lstep l₂ n₃
    have st₃ := Ststep l₂ n₃ (fun b hb => let ⟨m, o, e1, e2⟩ := hfx b hb; ⟨m, o, e1, e2 _ _ _ hinv, e2 _ _ _ hinv⟩) hst₂
    rw [List.append_nil] at l₃
    have a₃ := l₃.1
    refine p₃ (I :: hx) (al ++ al') { s with heap := h₃, toks := tk₃ } _ _ a₃ fun fl ρ₄ st₄ f al₄ h₄ tk₄ n₄ w₄ p₄ => ?_
    have l₄ := Lstep l₃ n₄
    have i₄ := Istep n₄ st₃
    have st₄ : ∀ {ρ₄ st₄}, Nxs cx A env (I :: hx) (al ++ al') al₄ ρ₄ st₄ h₃ h₄ tk₄ → Inv (items.drop (i + 1)) ρ₄ st₄ → St (i + 1) h₄ := fun n₄ hv => Ststep l₃ n₄ (fun b hb => let ⟨m, o, e1, e2⟩ := hfx b hb; ⟨m, o, e1, e2 _ _ _ hinv, e2 _ _ _ hv⟩) st₃
    have e4 : (al ++ al') ++ al₄ = al ++ (al' ++ al₄) := List.append_assoc ..
    rw [e4] at w₄
    cases fl with
    | next => cases f with
      | next => exact ⟨n, Nat.lt_succ_self n, i + 1, al' ++ al₄, ρ₄, _, h₄, tk₄, rfl, l₄, st₄ n₄ p₄, p₄, by omega⟩
      | _ => exact w₄.elim
    | cont => cases f with
      | cont => exact ⟨n, Nat.lt_succ_self n, i + 1, al' ++ al₄, ρ₄, _, h₄, tk₄, rfl, l₄, st₄ n₄ p₄, p₄, by omega⟩
      | _ => exact w₄.elim
    | brk => cases f with
      | brk => exact out (fl := .next) (f := .next) l₄ i₄ (Nat.le_refl _) (fun b o _ e => e) trivial p₄
      | _ => exact w₄.elim
    | ret v => cases f with
      | ret u => exact out (fl := .ret v) (f := .ret u) l₄ i₄ (Nat.le_refl _) (fun b o _ e => e) w₄ p₄
      | _ => exact w₄.elim

theorem go_list {A : Around} {I l : Addr} {i : Nat} {target : Expr} {v : Value} {s' : Shared} {Q : Unit → Shared → Prop} {E : Value → Shared → Prop} (hit : s'.heap.IsListIter I l i) (q : Q () s') :
    wpAny (model cx.prog cx.w) A (letOwnedTupleGo target (.ref I) v) Q E s' := by
  have rest : ∀ {elts : List Expr} {x1 : Nat} {pos : Pos}, wpAny (model cx.prog cx.w) A (letOwnedTupleGo (.Tuple elts x1 pos) (.ref I) v) Q E s' := by
    intro elts x1 pos
    cases v with
    | ref T => exact wpAny_letOwnedTupleGo_listiter hit q
    | _ => exact wpAny_pure q
  have rest' : ∀ {elts : List Expr} {pos : Pos}, wpAny (model cx.prog cx.w) A (letOwnedTupleGo (.List elts pos) (.ref I) v) Q E s' := by
    intro elts pos
    exact rest (elts := elts) (x1 := 0) (pos := pos)
  cases target <;> first | exact rest | exact rest' | exact wpAny_pure q

theorem feeds_list {A : Around} {h : Heap} {g : Heap} {a : Addr} {vs : Array Value} {xs : List PyData} {target : Expr} (hh : A.handled = none) (hg : g.StaysIn h) (hl : g.IsList a vs) (hr : RdAll g vs.toList xs) :
    Feeds cx A h.objs.size target [] g xs (h.push { cls := .type "list_iterator", data := .fields #[.ref a, .int 0 0] }) := by
  have hlt : a < h.objs.size := let ⟨_, e, _⟩ := hl; Heap.lt_size (hg _ _ e)
  have hsz : vs.size = xs.length := by rw [← Array.length_toList, hr.length]
  refine ⟨[h.objs.size, a], _, _, hsz ▸ Walks.list hh h.objs.size a (Nat.ne_of_lt hlt) vs, ⟨⟨_, Heap.get?_push_size _ rfl, rfl, rfl⟩, let ⟨o, e, r⟩ := hl; ⟨o, Heap.get?_push_of_some _ (hg _ _ e), r⟩⟩, ?_, ?_, ?_, ?_⟩
  · intro b hb
    rcases List.mem_cons.mp hb with q | q
    · exact .inl q
    · obtain rfl := List.mem_singleton.mp q
      obtain ⟨o, e, _⟩ := hl
      exact .inr (.inl ⟨o, e⟩)
  · intro i v hi hv
    have hi' : i < xs.length := hi
    obtain ⟨v', e, r⟩ := hr.get (List.getElem?_eq_getElem hi')
    have hv' : vs.toList[i]? = some v := by rw [Array.getElem?_toList]; exact hv
    rw [e] at hv'
    cases hv'
    exact ⟨_, List.getElem?_eq_getElem hi', r⟩
  · rintro i h' ⟨⟨o, e, _, hd⟩, _⟩
    exact ⟨o, e, _, hd⟩
  · intro i v s' Q E hst q
    exact go_list hst.1 q

noncomputable def rngI (a b : Int) : List PyData := (List.range (b - a).toNat).map fun (i : Nat) => PyData.int (a + (i : Int))
theorem feeds_range {A : Around} {h : Heap} {g : Heap} {a b : Int} {x : PySem.Str} {p : Pos} (hh : A.handled = none) :
    Feeds cx A h.objs.size (.Name x p) [] g (rngI a b) (h.push { cls := .type "range_iterator", data := .fields #[rawInt a, rawInt (Builtin.Range.rangeSize a b 1), rawInt 1] }) := by
  have hsz : Builtin.Range.rangeSize a b 1 = ((b - a).toNat : Int) := by rw [rangeSize_one]; split <;> omega
  have hlen : (rngI a b).length = (b - a).toNat := by simp [rngI]
  refine ⟨[h.objs.size], _, _, hlen ▸ Walks.range hh h.objs.size a 1 (b - a).toNat, ?_, fun b hb => .inl (List.mem_singleton.mp hb), ?_, ?_, ?_⟩
  · have e1 : (a + ((0 : Nat) : Int) * 1) = a := by simp
    have e2 : (((b - a).toNat : Int) - ((0 : Nat) : Int)) = Builtin.Range.rangeSize a b 1 := by rw [hsz]; simp
    show IsRangeIter _ _ (a + ((0 : Nat) : Int) * 1) (((rngI a b).length : Int) - ((0 : Nat) : Int)) 1
    rw [hlen, e1, e2]
    exact Heap.get?_push_size _ rfl
  · rintro i v hi ⟨t, rfl⟩
    refine ⟨.int (a + (i : Int)), ?_, ?_⟩
    · rw [hlen] at hi
      simp [rngI, hi]
    · have : a + (i : Int) * 1 = a + (i : Int) := by omega
      rw [this]; exact .int _ _
  · intro i h' hst
    exact ⟨_, hst, _, rfl⟩
  · intro i v s' Q E hst q
    exact wpAny_pure q

noncomputable def Loop (cx : Cx) (d : Nat) (env : Env) (target : Expr) (body : List Stmt) (items : List PyData) (ρ : Vars) (st : Store) (Post : Fl → Vars → Store → Prop) : Prop :=
  ∃ Inv : List PyData → Vars → Store → Prop, Inv items ρ st ∧
    (∀ x rest ρ st, Inv (x :: rest) ρ st → tasg cx d env ρ st target (.d x) fun ρ₁ => tb cx d env ρ₁ st body (TurnPost (Inv rest) Post)) ∧ ∀ ρ st, Inv [] ρ st → Post .next ρ st

theorem tb.bodyS {c : Bool} {A : Around} {body : List Stmt} (h : tb cx d env ρ st body Post) (R : Room A d) : bodyS c cx A env body ρ st Post := fun hx al s Q E a k => wpS_of (h A hx al s Q E R a k)
theorem tasg_mono {target : Expr} {v : V} {P P' : Vars → Prop} (h : tasg cx d env ρ st target v P) (hp : ∀ ρ, P ρ → P' ρ) : tasg cx d env ρ st target v P' :=
  fun A hx al s val Q E R a r k => h A hx al s val Q E R a r fun ρ' h' tk' n p => k ρ' h' tk' n (hp ρ' p)
theorem ts_for {target iter : Expr} {body : List Stmt} (h : te cx d env ρ st iter fun v st₁ => ∃ xs, v = .d (.list xs) ∧ Loop cx d env target body xs ρ st₁ Post)
    (hs : ∀ x, foldedSetIterable iter env x = pure x := by intro _; rfl) : ts cx d env ρ st (.For target iter body [] pos) Post := by
  intro A hx al s Q E R a k
  refine wpAny_For (h A hx al s R a _ E fun v st₁ val al₁ h₁ tk₁ n₁ v₁ p₁ => ?_) hs
  obtain ⟨xs, rfl, Inv, i0, turn, stop⟩ := p₁
  obtain ⟨l, vs, rfl, hl, hr⟩ := rd_list v₁
  refine wpAny_pyIter_list (isList_of_vw hl) ?_
  have a₁ := a.next n₁
  exact codeS_all (forLoop_run (s := { s with heap := h₁, toks := tk₁ }) R a₁ ⟨_, _, rfl⟩ (Nat.le_refl _) (stays_push _ _) (Nat.le_refl _) (feeds_list R.hd (fun b o e => (vw_get.mp e).1) hl hr) Inv i0 (fun b hb => nomatch hb)
    (fun x rest ρ st hi => tasg_mono (turn x rest ρ st hi) fun ρ₁ q => q.bodyS R) stop (lift_s (a.nxs n₁) k))
theorem ts_forR {x : PySem.Str} {p : Pos} {iter : Expr} {body : List Stmt} (h : te cx d env ρ st iter fun v st₁ => ∃ lo hi, v = .rng lo hi ∧ -(2 ^ 62) ≤ lo ∧ lo < 2 ^ 62 ∧ -(2 ^ 62) ≤ hi ∧ hi < 2 ^ 62 ∧ Loop cx d env (.Name x p) body (rngI lo hi) ρ st₁ Post)
    (hs : ∀ x, foldedSetIterable iter env x = pure x := by intro _; rfl) : ts cx d env ρ st (.For (.Name x p) iter body [] pos) Post := by
  intro A hx al s Q E R a k
  refine wpAny_For (h A hx al s R a _ E fun v st₁ val al₁ h₁ tk₁ n₁ v₁ p₁ => ?_) hs
  obtain ⟨lo, hi, rfl, b1, b2, b3, b4, Inv, i0, turn, stop⟩ := p₁
  obtain ⟨r, t, u, w, rfl, hr⟩ := v₁
  refine wpAny_pyIter_range (s := { s with heap := h₁, toks := tk₁ }) (vw_get.mp hr).1 (small_one b1 b2 b3 b4) ?_
  have a₁ := a.next n₁
  exact codeS_all (forLoop_run (s := { s with heap := h₁, toks := tk₁ }) R a₁ ⟨_, _, rfl⟩ (Nat.le_refl _) (stays_push _ _) (Nat.le_refl _) (feeds_range R.hd) Inv i0 (fun b hb => nomatch hb)
    (fun x rest ρ st hi => tasg_mono (turn x rest ρ st hi) fun ρ₁ q => q.bodyS R) stop (lift_s (a.nxs n₁) k))
end

section
variable {Post : V → Store → Prop}
theorem tcall_range1 {n : Int} (h : Post (.rng 0 n) st) : tcall cx d (.ext (.type "range")) [.d (.int n)] [] st Post := by
  intro A o al s fv vs ks R ok hf hv hkn hks
  obtain rfl : fv = .type "range" := hf
  cases hv with | cons hv r => cases r; obtain ⟨t, rfl⟩ := rd_int hv; obtain rfl : ks = [] := by simpa using hkn
                               exact Op.ofVal ok fun Q E k => call_range_1 (k _ _ _ (.rng 0 n) (stays_push _ _) ⟨_, _, _, _, rfl, vw_get.mpr ⟨Heap.get?_push_size _ rfl, ok.fresh (Nat.le_refl _)⟩⟩ h)
end

end Mine

-- P0
namespace Mine
open PySem PySem.StrLaws PySem.Builtin PySem.Builtin.Str

noncomputable def S (l : List Nat) : Str := ⟨l.toArray⟩
theorem S_cps (l : List Nat) : (S l).cps.toList = l := rfl
theorem S_len (l : List Nat) : (S l).length = l.length := by show l.toArray.size = _; simp
theorem S_app (a b : List Nat) : S a ++ S b = S (a ++ b) := by
  apply PySem.Str.ext'
  show a.toArray ++ b.toArray = (a ++ b).toArray
  simp
theorem S_inj {a b : List Nat} (h : S a = S b) : a = b := by
  have := congrArg (fun x : Str => x.cps.toList) h
  exact this

noncomputable def occL (y : List Nat) : Nat → Nat → Nat → List Nat → List Nat
  | _, _, _, [] => []
  | lim, k + 1, pos, _ :: r => occL y lim k (pos + 1) r
  | lim, 0, pos, c :: r => if lim ≠ 0 ∧ y.isPrefixOf (c :: r) = true then pos :: occL y (lim - 1) (y.length - 1) (pos + 1) r else occL y lim 0 (pos + 1) r

theorem take_prefix {y l : List Nat} : (l.take y.length == y) = y.isPrefixOf l := by
  rw [Bool.eq_iff_iff, beq_iff_eq, List.isPrefixOf_iff_prefix, List.prefix_iff_eq_take]
  exact eq_comm

theorem occ_run (l y : List Nat) (hy : y ≠ []) (limit : Nat) : ∀ (m i : Nat) (st : Array Nat × Nat), i + m = l.length + 1 →
    (forIn (List.range' i m) st (occBody (S l) (S y) l.length limit)).run.fst.toList = st.fst.toList ++ occL y (limit - st.fst.size) (st.snd - i) i (l.drop i)
  | 0, i, st, h => by
    have e : l.drop i = [] := by rw [List.drop_eq_nil_iff]; omega
    rw [e]
    show st.fst.toList = st.fst.toList ++ occL y _ _ _ []
    simp [occL]
  | m + 1, i, st, h => by
    have hyl : 1 ≤ y.length := by cases y with | nil => exact absurd rfl hy | cons _ _ => simp
    rw [List.range'_succ, List.forIn_cons]
    unfold occBody
    rw [S_len]
    have sub : subAt (S l) (S y) i = y.isPrefixOf (l.drop i) := by rw [subAt_eq, S_len, S_cps, S_cps, take_prefix]
    rw [sub]
    by_cases hi : i < l.length
    · have ed : l.drop i = l[i] :: l.drop (i + 1) := List.drop_eq_getElem_cons hi
      by_cases hc : ((st.fst.size < limit ∧ st.snd ≤ i) ∧ i + y.length ≤ l.length) ∧ y.isPrefixOf (l.drop i) = true
      · rw [if_pos hc]
        refine (occ_run l y hy limit m (i + 1) _ (by omega)).trans ?_
        have e0 : st.snd - i = 0 := Nat.sub_eq_zero_of_le hc.1.1.2
        have e1 : limit - (st.fst.push i).size = limit - st.fst.size - 1 := by rw [Array.size_push]; omega
        have e2 : i + y.length - (i + 1) = y.length - 1 := Nat.add_sub_add_left i y.length 1
        rw [e0, e1]
        have hp := hc.2
        rw [ed] at hp ⊢
        simp only [occL]
        rw [if_pos ⟨by omega, hp⟩, e2]
        simp
      · rw [if_neg hc]
        refine (occ_run l y hy limit m (i + 1) _ (by omega)).trans ?_
        congr 1
        rw [ed]
        cases hk : st.snd - i with
        | succ k =>
          simp only [occL]
          congr 1
          rw [Nat.sub_succ, hk]; rfl
        | zero =>
          have ek : st.snd - (i + 1) = 0 := by rw [Nat.sub_succ, hk]; rfl
          rw [ek]
          simp only [occL]
          rw [if_neg (fun hh => hc ⟨⟨⟨Nat.lt_of_sub_ne_zero hh.1, Nat.le_of_sub_eq_zero hk⟩, ?_⟩, by rw [ed]; exact hh.2⟩)]
          have := (List.isPrefixOf_iff_prefix.mp hh.2).length_le
          rw [← ed, List.length_drop] at this
          omega
    · rw [if_neg (fun hh => by omega)]
      have e1 : l.drop i = [] := by rw [List.drop_eq_nil_iff]; omega
      have e2 : l.drop (i + 1) = [] := by rw [List.drop_eq_nil_iff]; omega
      refine (occ_run l y hy limit m (i + 1) _ (by omega)).trans ?_
      rw [e1, e2]
      simp [occL]

theorem occ_list (l y : List Nat) (hy : y ≠ []) (lo limit : Nat) (hlo : lo ≤ l.length) : occurrences (S l) (S y) lo l.length limit = occL y limit 0 lo (l.drop lo) := by
  rw [occ_eq]
  have := occ_run l y hy limit (l.length + 1 - lo) lo (#[], lo) (by omega)
  simpa using this

theorem occL_skip (y : List Nat) (lim : Nat) : ∀ (k pos : Nat) (l : List Nat), occL y lim k pos l = occL y lim 0 (pos + k) (l.drop k)
  | 0, pos, l => by simp
  | k + 1, pos, [] => by simp [occL]
  | k + 1, pos, c :: r => by
    simp only [occL]
    rw [occL_skip y lim k (pos + 1) r, List.drop_succ_cons]
    congr 1
    omega
theorem occL_free (y : List Nat) (lim : Nat) : ∀ (row rest : List Nat) (pos : Nat), (∀ i, i < row.length → y.isPrefixOf ((row ++ rest).drop i) = false) → occL y lim 0 pos (row ++ rest) = occL y lim 0 (pos + row.length) rest
  | [], rest, pos, _ => by simp
  | c :: row, rest, pos, h => by
    rw [List.cons_append]
    simp only [occL]
    have h0 := h 0 (by simp)
    rw [if_neg (fun hh => by rw [List.drop_zero, List.cons_append] at h0; rw [h0] at hh; exact absurd hh.2 (by decide))]
    rw [occL_free y lim row rest (pos + 1) (fun i hi => by have := h (i + 1) (by simp; omega); simpa using this)]
    simp only [List.length_cons]
    congr 1
    omega
theorem occL_hit (y : List Nat) (hy : y ≠ []) (lim pos : Nat) (rest : List Nat) (hl : lim ≠ 0) : occL y lim 0 pos (y ++ rest) = pos :: occL y (lim - 1) 0 (pos + y.length) rest := by
  cases y with
  | nil => exact absurd rfl hy
  | cons c y =>
    rw [List.cons_append]
    simp only [occL]
    rw [if_pos ⟨hl, by rw [List.isPrefixOf_iff_prefix]; exact ⟨rest, by simp⟩⟩, occL_skip]
    simp only [List.length_cons, Nat.add_sub_cancel]
    have : (y ++ rest).drop y.length = rest := by simp
    rw [this]
    congr 2
    omega
theorem occL_none (y : List Nat) (lim pos : Nat) (l : List Nat) (h : ∀ i, i < l.length → y.isPrefixOf (l.drop i) = false) : occL y lim 0 pos l = [] := by
  have := occL_free y lim l [] pos (by rw [List.append_nil]; exact h)
  rw [List.append_nil] at this
  rw [this]; simp [occL]
theorem occL_shift (y : List Nat) (p : Nat) : ∀ (l : List Nat) (lim k pos : Nat), occL y lim k (p + pos) l = (occL y lim k pos l).map (p + ·)
  | [], _, _, _ => by simp [occL]
  | c :: r, lim, k + 1, pos => by simp only [occL]; exact occL_shift y p r lim k (pos + 1)
  | c :: r, lim, 0, pos => by
    simp only [occL]
    split
    · rw [List.map_cons]
      congr 1
      exact occL_shift y p r _ _ (pos + 1)
    · exact occL_shift y p r _ _ (pos + 1)

noncomputable def splitL (y : List Nat) (lim : Nat) (l : List Nat) : List Str := partsFrom (S l) y.length 0 (occL y lim 0 0 l)

theorem sub_shift (pre l : List Nat) (i j : Nat) : strSub (S (pre ++ l)) (pre.length + i) (pre.length + j) = strSub (S l) i j := by
  apply PySem.Str.ext'
  have h1 := strSub_toList (S (pre ++ l)) (pre.length + i) (pre.length + j)
  have h2 := strSub_toList (S l) i j
  rw [S_cps] at h1 h2
  have : (pre ++ l).drop (pre.length + i) = l.drop i := by rw [List.drop_append]; simp
  rw [this, Nat.add_sub_add_left] at h1
  exact Array.toList_inj.mp (h1.trans h2.symm)
theorem parts_shift (pre l : List Nat) (w : Nat) : ∀ (cuts : List Nat) (a : Nat), partsFrom (S (pre ++ l)) w (pre.length + a) (cuts.map (pre.length + ·)) = partsFrom (S l) w a cuts
  | [], a => by
    show [strSub _ _ _] = [strSub _ _ _]
    rw [S_len, S_len, List.length_append, sub_shift]
  | c :: r, a => by
    show strSub _ _ _ :: partsFrom _ _ _ _ = strSub _ _ _ :: partsFrom _ _ _ _
    rw [sub_shift]
    congr 1
    have := parts_shift pre l w r (c + w)
    rw [← this]
    congr 1
    show pre.length + c + w = _
    omega
theorem splitL_none (y : List Nat) (lim : Nat) (l : List Nat) (h : ∀ i, i < l.length → y.isPrefixOf (l.drop i) = false) : splitL y lim l = [S l] := by
  unfold splitL
  rw [occL_none y lim 0 l h]
  show [strSub (S l) 0 (S l).length] = _
  rw [sub_whole]
theorem splitL_more (y : List Nat) (hy : y ≠ []) (lim : Nat) (hl : lim ≠ 0) (row rest : List Nat) (h : ∀ i, i < row.length → y.isPrefixOf ((row ++ (y ++ rest)).drop i) = false) :
    splitL y lim (row ++ (y ++ rest)) = S row :: splitL y (lim - 1) rest := by
  unfold splitL
  rw [occL_free y lim row (y ++ rest) 0 h, occL_hit y hy lim _ rest hl]
  show strSub _ 0 (0 + row.length) :: partsFrom _ _ (0 + row.length + y.length) _ = _
  congr 1
  · apply PySem.Str.ext'
    apply Array.toList_inj.mp
    rw [strSub_toList, S_cps]
    simp [S]
  · have e1 : 0 + row.length + y.length = (row ++ y).length + 0 := by simp
    rw [e1, occL_shift, ← List.append_assoc]
    exact parts_shift (row ++ y) rest y.length _ 0

theorem split_eq {x y : Str} (hk : strKind y = 1) (hy : y.length ≠ 0) (limit : Nat) :
    (if (decide (x.length < y.length) || decide (strKind x < strKind y)) = true then [x] else if (occurrences x y 0 x.length limit).isEmpty = true then [x] else partsBetween x (occurrences x y 0 x.length limit) y.length) =
      partsFrom x y.length 0 (occurrences x y 0 x.length limit) := by
  have hx : 1 ≤ strKind x := by
    unfold Builtin.Str.strKind
    split
    · omega
    · split <;> omega
  have h2 : decide (strKind x < strKind y) = false := by rw [hk]; simp; omega
  rw [h2, Bool.or_false]
  have e0 : occurrences x y 0 x.length limit = [] → partsFrom x y.length 0 (occurrences x y 0 x.length limit) = [x] := by
    intro e
    rw [e]
    show [strSub x 0 x.length] = _
    rw [sub_whole]
  by_cases hl : x.length < y.length
  · rw [if_pos (by simpa using hl), e0]
    obtain ⟨f, hc⟩ := occ_chain x y limit
    cases ho : occurrences x y 0 x.length limit with
    | nil => rfl
    | cons c r =>
      rw [ho] at hc
      have := hc.2.1.1
      omega
  · rw [if_neg (by simpa using hl)]
    cases ho : occurrences x y 0 x.length limit with
    | nil => rw [ho] at e0; exact (e0 rfl).symm
    | cons c r => rw [if_neg (by simp), partsBetween_eq]

theorem split_list {l y : List Nat} (hk : strKind (S y) = 1) (hy : y ≠ []) : Txt.split (S l) (S y) = splitL y (l.length + 1) l := by
  have hy' : (S y).length ≠ 0 := by rw [S_len]; cases y with | nil => exact absurd rfl hy | cons _ _ => simp
  refine (split_eq hk hy' _).trans ?_
  unfold splitL
  rw [S_len, S_len, occ_list l y hy 0 _ (Nat.zero_le _), List.drop_zero]
end Mine

-- N7
namespace Mine
open PySem PySem.W PySem.Calls PyProof.Rows

variable {cx : Cx} {d : Nat} {env : Env} {ρ : Vars} {st : Store} {pos : Pos} {Post : V → Store → Prop}

theorem tcall_bi {f : Value} {xs : List V} (h : ∀ A o al s vs, Room A d → Ok cx A o al st s.heap s.toks → VRepAll cx (vw s.heap (o ++ al)) al vs xs → Op cx A (call f vs) o al st s Post) : tcall cx d (.ext f) xs [] st Post := by
  intro A o al s fv vs ks R ok hf hv hkn hks
  obtain rfl : fv = f := hf
  obtain rfl : ks = [] := by simpa using hkn
  exact h A o al s vs R ok hv
theorem va1 {g : Heap} {al : List Addr} {vs : List Value} {x : V} (h : VRepAll cx g al vs [x]) : ∃ v, vs = [v] ∧ VRep cx g al v x := by
  cases h with | cons h r => cases r; exact ⟨_, rfl, h⟩
theorem va2 {g : Heap} {al : List Addr} {vs : List Value} {x y : V} (h : VRepAll cx g al vs [x, y]) : ∃ v w, vs = [v, w] ∧ VRep cx g al v x ∧ VRep cx g al w y := by
  cases h with | cons h r => cases r with | cons h2 r => cases r; exact ⟨_, _, rfl, h, h2⟩
theorem va3 {g : Heap} {al : List Addr} {vs : List Value} {x y z : V} (h : VRepAll cx g al vs [x, y, z]) : ∃ v w u, vs = [v, w, u] ∧ VRep cx g al v x ∧ VRep cx g al w y ∧ VRep cx g al u z := by
  cases h with | cons h r => cases r with | cons h2 r => cases r with | cons h3 r => cases r; exact ⟨_, _, _, rfl, h, h2, h3⟩

theorem tcall_len {x : PySem.Str} (hz : (x.length : Int) < 2 ^ 63) (h : Post (.d (.int x.length)) st) : tcall cx d (.ext (.builtin "len")) [.d (.str x)] [] st Post := tcall_bi fun A o al s vs R ok hv => by
  obtain ⟨_, rfl, v1⟩ := va1 hv
  obtain ⟨t, rfl⟩ := rd_str v1
  exact Op.ofVal ok fun Q E k => len_str (by omega) (k _ s.heap _ (.d (.int x.length)) (fun _ _ e => e) (.int _ _) h)
theorem tcall_lenL {xs : List PyData} (hz : (xs.length : Int) < 2 ^ 63) (h : Post (.d (.int xs.length)) st) : tcall cx d (.ext (.builtin "len")) [.d (.list xs)] [] st Post := tcall_bi fun A o al s vs R ok hv => by
  obtain ⟨_, rfl, v1⟩ := va1 hv
  obtain ⟨a, ws, rfl, hl, hr⟩ := rd_list v1
  have e : ws.size = xs.length := by rw [← Array.length_toList, hr.length]
  refine Op.ofVal ok fun Q E k => call_len_list (isList_of_vw hl) (by rw [e]; exact hz) ?_
  rw [e]
  exact k _ s.heap _ (.d (.int xs.length)) (fun _ _ e => e) (.int _ _) h
theorem tcall_chr {i : Int} (h0 : 0 ≤ i) (h1 : i ≤ 1114111) (h : Post (.d (.str ⟨#[i.toNat]⟩)) st) : tcall cx d (.ext (.builtin "chr")) [.d (.int i)] [] st Post := tcall_bi fun A o al s vs R ok hv => by
  obtain ⟨_, rfl, v1⟩ := va1 hv
  obtain ⟨t, rfl⟩ := rd_int v1
  exact Op.ofVal ok fun Q E k => chr_of_range h0 h1 (k _ s.heap _ (.d (.str ⟨#[i.toNat]⟩)) (fun _ _ e => e) (.str _ _) h)
theorem tcall_str {a : Int} (h1 : -1000000000 < a) (h2 : a < 1000000000) (h : Post (.d (.str (PySem.Str.ofString (toString a)))) st) : tcall cx d (.ext (.type "str")) [.d (.int a)] [] st Post := tcall_bi fun A o al s vs R ok hv => by
  obtain ⟨_, rfl, v1⟩ := va1 hv
  obtain ⟨t, rfl⟩ := rd_int v1
  exact Op.ofVal ok fun Q E k => str_of_int_fit (N := 1000000000) (by split <;> omega) (by decide) fun _ => k _ s.heap _ (.d (.str (PySem.Str.ofString (toString a)))) (fun _ _ e => e) (.str _ _) h
theorem tcall_int {x : PySem.Str} {n : Int} (hn : PySem.intText? x = some n) (hl : x.length ≤ 640) (h : Post (.d (.int n)) st) : tcall cx d (.ext (.type "int")) [.d (.str x)] [] st Post := tcall_bi fun A o al s vs R ok hv => by
  obtain ⟨_, rfl, v1⟩ := va1 hv
  obtain ⟨t, rfl⟩ := rd_str v1
  exact Op.ofVal ok fun Q E k => KIN.call_text hn hl (k _ s.heap _ (.d (.int n)) (fun _ _ e => e) (.int _ _) h)

theorem tgm_str {name : PySem.Str} {id : String} {x : PySem.Str} (hg : ∀ {M : Model} {A : Around} {E : Value → Shared → Prop} {s : Shared} {t : Tok} {pl : Sem Bool} {Q : Value × List Value → Shared → Prop}, Q (.builtin id, [.str x t]) s → wpAny M A (getMethod (.str x t) name pl) Q E s) :
    tgm cx d (.d (.str x)) name (.builtin id) [.d (.str x)] st := by
  intro A o al s va pl R ok hv Q E k
  obtain ⟨t, rfl⟩ := rd_str hv
  exact hg (k _ s.toks (Nat.le_refl _) (.cons (.str _ _) .nil))

theorem tcall_find {x y : PySem.Str} (h : Post (.d (.int (Txt.find x y))) st) : tcall cx d (.ext (.builtin "str.find")) [.d (.str x), .d (.str y)] [] st Post := tcall_bi fun A o al s vs R ok hv => by
  obtain ⟨_, _, rfl, v1, v2⟩ := va2 hv
  obtain ⟨t, rfl⟩ := rd_str v1
  obtain ⟨u, rfl⟩ := rd_str v2
  exact Op.ofVal ok fun Q E k => SC.find (k _ s.heap _ (.d (.int (Txt.find x y))) (fun _ _ e => e) (.int _ _) h)
theorem tcall_find3 {x y : PySem.Str} {i : Int} (h : Post (.d (.int (Txt.find3 x y i))) st) : tcall cx d (.ext (.builtin "str.find")) [.d (.str x), .d (.str y), .d (.int i)] [] st Post := tcall_bi fun A o al s vs R ok hv => by
  obtain ⟨_, _, _, rfl, v1, v2, v3⟩ := va3 hv
  obtain ⟨t, rfl⟩ := rd_str v1
  obtain ⟨u, rfl⟩ := rd_str v2
  obtain ⟨v, rfl⟩ := rd_int v3
  exact Op.ofVal ok fun Q E k => SC.find3 (k _ s.heap _ (.d (.int (Txt.find3 x y i))) (fun _ _ e => e) (.int _ _) h)
theorem tcall_lower {x : PySem.Str} (hz : x.length ≤ 5000000) (h : Post (.d (.str (Txt.lower x))) st) : tcall cx d (.ext (.builtin "str.lower")) [.d (.str x)] [] st Post := tcall_bi fun A o al s vs R ok hv => by
  obtain ⟨_, rfl, v1⟩ := va1 hv
  obtain ⟨t, rfl⟩ := rd_str v1
  exact Op.ofVal ok fun Q E k => SCL.lower (by omega) fun _ => k _ s.heap _ (.d (.str (Txt.lower x))) (fun _ _ e => e) (.str _ _) h
theorem tcall_swapcase {x : PySem.Str} (hz : x.length ≤ 5000000) (h : Post (.d (.str (Txt.swapcase x))) st) : tcall cx d (.ext (.builtin "str.swapcase")) [.d (.str x)] [] st Post := tcall_bi fun A o al s vs R ok hv => by
  obtain ⟨_, rfl, v1⟩ := va1 hv
  obtain ⟨t, rfl⟩ := rd_str v1
  exact Op.ofVal ok fun Q E k => SCL.swapcase (by omega) fun _ => k _ s.heap _ (.d (.str (Txt.swapcase x))) (fun _ _ e => e) (.str _ _) h

noncomputable def txs (ts : List PySem.Str) : List PyData := ts.map .str
theorem rd_txs {g : Heap} : ∀ {vs : List Value} {ts : List PySem.Str}, RdAll g vs (txs ts) → ∃ l : List (PySem.Str × Tok), vs = strValues l ∧ l.map (·.1) = ts
  | [], [], _ => ⟨[], rfl, rfl⟩
  | v :: vs, t :: ts, h => by
    cases h with
    | cons h r =>
      obtain ⟨u, rfl⟩ := rd_str h
      obtain ⟨l, rfl, e⟩ := rd_txs r
      exact ⟨(t, u) :: l, rfl, by rw [List.map_cons, e]⟩
  | [], _ :: _, h => by cases h
  | _ :: _, [], h => by cases h
theorem txs_rd {g : Heap} : ∀ l : List (PySem.Str × Tok), RdAll g (strValues l) (txs (l.map (·.1)))
  | [] => .nil
  | (x, t) :: r => .cons (.str x t) (txs_rd r)

theorem tcall_join {x : PySem.Str} {ts : List PySem.Str} (hj : JoinOk x ts = true) (h : Post (.d (.str (Txt.join x ts))) st) : tcall cx d (.ext (.builtin "str.join")) [.d (.str x), .d (.list (txs ts))] [] st Post := tcall_bi fun A o al s vs R ok hv => by
  obtain ⟨_, _, rfl, v1, v2⟩ := va2 hv
  obtain ⟨t, rfl⟩ := rd_str v1
  obtain ⟨a, ws, rfl, hl, hr⟩ := rd_list v2
  obtain ⟨l, e, et⟩ := rd_txs hr
  have hl' : s.heap.IsList a (strValues l).toArray := by rw [← e]; exact isList_of_vw hl
  exact Op.ofVal ok fun Q E k => SC.join hl' et hj fun t' k' => k _ s.heap k' (.d (.str (Txt.join x ts))) (fun _ _ e => e) (.str _ _) h
theorem new_list {g : Heap} (vs : List Value) : LX (g.push { cls := .type "list", data := .seq vs.toArray }) g.objs.size vs.toArray := ⟨_, Heap.get?_push_size _ rfl, rfl, 0, rfl, rfl, rfl⟩
open Builtin Builtin.Str in
theorem split_run {prog : Program} {w : World} {A : Around} {E : Value → Shared → Prop} {s : Shared} {x y : PySem.Str} {t u : Tok} {Q : Value → Shared → Prop} (hy : (y.length == 0) = false) (hsz : x.length + 2 ≤ sizeLine)
    (h : ∀ l k, l.map (·.1) = Txt.split x y → Q (.ref s.heap.objs.size) { s with heap := s.heap.push { cls := .type "list", data := .seq (strValues l).toArray }, toks := k }) :
    wpAny (model prog w) A (call (.builtin "str.split") [.str x t, .str y u]) Q E s := by
  have hn : (partsBetween x (occurrences x y 0 x.length (x.length + 1)) y.length).length ≤ sizeLine := by
    have e1 := StrLaws.occ_length_le_len x y 0 x.length (x.length + 1)
    rw [length_partsBetween]; omega
  cases h1 : (decide (x.length < y.length) || decide (Builtin.Str.strKind x < Builtin.Str.strKind y)) with
  | true =>
    exact call_meets F.slot_str_split (typeIs_str _ _ _) F.entry_str_split (F.args_str_split_2 _ _) (meets_str_split_cannot_occur x y t u h1) (h [(x, t)] s.toks (if_pos h1).symm)
  | false =>
    cases hf : (occurrences x y 0 x.length (x.length + 1)).isEmpty with
    | true => exact call_meets F.slot_str_split (typeIs_str _ _ _) F.entry_str_split (F.args_str_split_2 _ _) (meets_str_split_not_found x y t u h1 hy hf) (h [(x, t)] s.toks ((if_neg (ne_true_of_eq_false h1)).trans (if_pos hf)).symm)
    | false =>
      refine call_meets F.slot_str_split (typeIs_str _ _ _) F.entry_str_split (F.args_str_split_2 _ _) (meets_str_split_sep x y t u h1 hy hf (by omega) hn) ?_
      show wants Q E _ { s with toks := _, heap := s.heap.push { cls := .type "list", data := .seq (strsFrom s.toks (partsBetween x (occurrences x y 0 x.length (x.length + 1)) y.length)).toArray } }
      rw [strsFrom_eq]
      exact h (numbered s.toks _) _ ((numbered_texts _ _).trans ((if_neg (ne_true_of_eq_false h1)).trans (if_neg (ne_true_of_eq_false hf))).symm)
open Builtin Builtin.Str in
theorem tcall_split {x y : PySem.Str} (hy : (y.length == 0) = false) (hz : x.length ≤ 100000) (h : Post (.d (.list (txs (Txt.split x y)))) st) : tcall cx d (.ext (.builtin "str.split")) [.d (.str x), .d (.str y)] [] st Post := tcall_bi fun A o al s vs R ok hv => by
  obtain ⟨_, _, rfl, v1, v2⟩ := va2 hv
  obtain ⟨t, rfl⟩ := rd_str v1
  obtain ⟨u, rfl⟩ := rd_str v2
  have hle : (100002 : Nat) ≤ sizeLine := by decide
  refine Op.ofVal ok fun Q E k => split_run hy (by omega) fun l k' e => k _ _ k' (.d (.list (txs (Txt.split x y)))) (stays_push _ _) (.list (isList_new (ok.fresh (Nat.le_refl _))) ?_) h
  rw [← e]; exact txs_rd l
end Mine

-- N8
namespace Mine
open PySem PySem.W PySem.Calls PyProof.Rows

section
variable {prog : Program} {w : World} {A : Around} {E : Value → Shared → Prop} {s : Shared} {x : PySem.Str} {n : Int} {t u : Tok}
theorem mul_strR {Q : Value → Shared → Prop} (hok : MulOk x n) (h : ∀ t' k, (t' = t ∨ t' = s.toks) → s.toks ≤ k → t' < k ∨ t' = t → Q (.str (Txt.mul x n) t') { s with toks := k }) : wpAny (model prog w) A (binaryOp .Mult (.int n u) (.str x t)) Q E s := by
  refine lm_binaryOp_repeat_right (T := "str") (U := "int") (by decide) (fun s' => typeIs_int s' n u) (typeIs_str s x t) F.fills_int_mul noFill_str_mul F.slot_int_mul lm_noRepeat_int repeat_str F.slot_int_index.lookup
    (call_gives F.slot_int_mul (typeIs_int s n u) F.entry_int_mul (F.args_int_mul_2 _ _) (AutoIntG3.int___mul___int_str_0 n u x t) ⟨rfl, typeIs_str _ x t, call_gives F.slot_str_mul (typeIs_str s x t) F.entry_str_mul (F.args_str_mul_2 _ _) (gives_str_mul x n t u hok.1 hok.2.1 hok.2.2) ?_⟩)
  unfold Txt.mul at h
  by_cases h1 : n < 1
  · rw [if_pos h1]
    have h' := h s.toks (s.toks + 1) (.inr rfl) (Nat.le_succ _) (.inl (Nat.lt_succ_self _))
    rw [if_pos h1] at h'
    exact ⟨by decide, h'⟩
  · rw [if_neg h1] at h ⊢
    by_cases h2 : (n == 1 || x.length == 0) = true
    · rw [if_pos h2] at h ⊢
      exact h t s.toks (.inl rfl) (Nat.le_refl _) (.inr rfl)
    · rw [if_neg h2] at h ⊢
      exact ⟨fits_reps (hok.2.2 h1 (by simpa using h2)), h s.toks (s.toks + 1) (.inr rfl) (Nat.le_succ _) (.inl (Nat.lt_succ_self _))⟩
end

variable {cx : Cx} {d : Nat} {env : Env} {ρ : Vars} {st : Store} {pos : Pos} {Post : V → Store → Prop}

theorem mulOk_of {x : PySem.Str} {n : Int} (hx : x.length ≤ 1000) (hn : n ≤ 1000) (hn0 : -1000 ≤ n) : MulOk x n := by
  refine ⟨?_, fun h1 _ => ?_, fun h1 _ => ?_⟩
  · have a : decide (n < -(2 ^ 63 : Int)) = false := by simp; omega
    have b : decide (n ≥ 2 ^ 63) = false := by simp; omega
    rw [a, b]; rfl
  · have : (1000 : Int) ≤ (2 ^ 63 - 1) / n := by
      rw [Int.le_ediv_iff_mul_le (by omega)]
      have : 1000 * n ≤ 1000 * 1000 := by omega
      omega
    omega
  · have : x.length * n.toNat ≤ 1000 * 1000 := Nat.mul_le_mul hx (by omega)
    have h2 : (1000 * 1000 : Nat) ≤ sizeLine := by decide
    show decide (x.length * n.toNat > sizeLine) = false
    simp; omega
theorem foldl_rep (l : List Nat) : ∀ (n : Nat) (acc : Array Nat), ((List.replicate n l.toArray).foldl (· ++ ·) acc).toList = acc.toList ++ (List.replicate n l).flatten
  | 0, acc => by simp
  | n + 1, acc => by
    rw [List.replicate_succ, List.foldl_cons, foldl_rep l n, List.replicate_succ, List.flatten_cons]
    simp
theorem mul_S (l : List Nat) (n : Int) : Txt.mul (S l) n = S (List.replicate n.toNat l).flatten := by
  apply PySem.Str.ext'
  apply Array.toList_inj.mp
  unfold Txt.mul
  by_cases h1 : n < 1
  · rw [if_pos h1, show n.toNat = 0 by omega]; rfl
  · rw [if_neg h1]
    by_cases h2 : (n == 1 || (S l).length == 0) = true
    · rw [if_pos h2]
      rw [Bool.or_eq_true, beq_iff_eq, beq_iff_eq, S_len] at h2
      rcases h2 with rfl | h2
      · simp
      · have : l = [] := List.eq_nil_of_length_eq_zero h2
        subst this
        simp [S]
    · rw [if_neg h2]
      show ((List.replicate n.toNat l.toArray).foldl (· ++ ·) #[]).toList = _
      rw [foldl_rep]; simp [S]
theorem mul_one (c : Nat) (n : Int) : Txt.mul (S [c]) n = S (List.replicate n.toNat c) := by
  rw [mul_S]
  congr 1
  generalize n.toNat = k
  induction k with
  | zero => rfl
  | succ k ih => rw [List.replicate_succ, List.flatten_cons, ih, List.replicate_succ]; rfl

theorem tbin_repR {c : Nat} {n : Int} (hn : n ≤ 1000) (hn0 : -1000 ≤ n) (h : Post (.d (.str (S (List.replicate n.toNat c)))) st) : tbin cx d .Mult (.d (.int n)) (.d (.str (S [c]))) st Post := by
  intro A o al s va vb R ok v1 v2
  obtain ⟨t, rfl⟩ := rd_int v1; obtain ⟨u, rfl⟩ := rd_str v2
  refine Op.ofVal ok fun Q E k => mul_strR (mulOk_of (by rw [S_len]; simp) hn hn0) fun t' tk _ _ _ => ?_
  rw [mul_one]
  exact k _ s.heap tk (.d (.str (S (List.replicate n.toNat c)))) (fun _ _ e => e) (.str _ _) h
end Mine

-- N9
namespace Mine
open PySem PySem.W PySem.Calls PyProof.Rows

variable {cx : Cx} {d : Nat} {env : Env} {ρ : Vars} {st : Store} {pos : Pos} {Post : V → Store → Prop}

theorem Ok.put {o al : List Addr} {h h' : Heap} {tk tk' : Nat} {n : Nat} {a : Addr} {vs : Array Value} {xs : List PyData} (ok : Ok cx A o al st h tk) (l : tk ≤ tk') (ea : al[n]? = some a) (sb : Heap.SameBut a h h') (lx : LX h' a vs)
    (r : RdAll (vw h (o ++ al)) vs.toList xs) : Nx cx A o al [] (st.set n (.live xs)) h h' tk' := by
  have ma : a ∈ o ++ al := List.mem_append.mpr (.inr (List.mem_of_getElem? ea))
  have view : (vw h (o ++ al)).StaysIn (vw h' (o ++ al)) := vw_mono fun b ob hn e => ⟨(sb.2 b fun q => hn (q ▸ ma)).trans e, hn⟩
  have nd := List.nodup_append.mp ok.nd
  have ne : ∀ b ∈ o, b ≠ a := fun b hb => nd.2.2 b hb a (List.mem_of_getElem? ea)
  have hn : n < al.length := (List.getElem?_eq_some_iff.mp ea).1
  have hsl : Sl o h h' := .of fun b hb ob e => (sb.2 b (ne b hb)).trans e
  refine ⟨?_, hsl, by rw [List.append_nil]; exact view⟩
  rw [List.append_nil]
  refine ⟨ok.stk.stay hsl, Nat.zero_le _, fun b ob e => view b ob (ok.base b ob e), ok.nd, fun b hb => let ⟨ob, q1, q2⟩ := ok.own b hb; ⟨ob, (sb.2 b (ne b hb)).trans q1, q2⟩, by rw [List.length_set]; exact ok.st.1, fun i b ys e1 e2 => ?_⟩
  by_cases hi : i = n
  · subst hi
    rw [ea] at e1
    cases e1
    rw [List.getElem?_set_self (by rw [← ok.st.1]; exact hn)] at e2
    cases e2
    exact ⟨vs, lx, r.keeps view⟩
  · rw [List.getElem?_set_ne (fun q => hi q.symm)] at e2
    have hb : b ≠ a := by
      intro q
      subst q
      have h1 := List.getElem?_eq_some_iff.mp e1
      have h2 := List.getElem?_eq_some_iff.mp ea
      exact hi ((List.getElem_inj nd.2.1).mp (h1.2.trans h2.2.symm))
    exact (ok.st.2 i b ys e1 e2).mono (fun ob q => (sb.2 b hb).trans q) view

theorem Ok.cellX {o al : List Addr} {h : Heap} {n : Nat} {xs : List PyData} {v : Value} {tk : Nat} (ok : Ok cx A o al st h tk) (v1 : VRep cx (vw h (o ++ al)) al v (.c n)) (e : st[n]? = some (.live xs)) :
    ∃ a vs k, al[n]? = some a ∧ v = .ref a ∧ h.get? a = some { cls := .type "list", dict := none, data := .seq vs k, slots := #[] } ∧ RdAll (vw h (o ++ al)) vs.toList xs := by
  obtain ⟨a, h1, rfl⟩ := v1
  obtain ⟨vs, h2, h3⟩ : CellOk _ _ _ (.live xs) := ok.st.2 n a _ h1 e
  obtain ⟨k, h2⟩ := h2.obj
  exact ⟨a, vs, k, h1, rfl, h2, h3⟩
theorem lx_update {h : Heap} {a : Addr} {vs : Array Value} {k : Nat} (f : Array Value → Array Value) (e : h.get? a = some { cls := .type "list", dict := none, data := .seq vs k, slots := #[] }) : LX (h.update a (Obj.mapSeq f)) a (f vs) := by
  refine ⟨_, Heap.get?_update_self _ e ?_, ?_⟩
  · rfl
  · exact ⟨rfl, _, rfl, rfl, rfl⟩

theorem Op.ofPut {A : Around} {t : Sem Value} {o al : List Addr} {s : Shared} {P : V → Store → Prop} {n : Nat} {a : Addr} {vs : Array Value} {xs : List PyData} (ok : Ok cx A o al st s.heap s.toks) (ea : al[n]? = some a)
    (h : ∀ Q E, (∀ val h' r, Heap.SameBut a s.heap h' → LX h' a vs → RdAll (vw s.heap (o ++ al)) vs.toList xs → VRep cx (vw s.heap (o ++ al)) al val r → P r (st.set n (.live xs)) → Q val { s with heap := h' }) → wpAny (model cx.prog cx.w) A t Q E s) : Op cx A t o al st s P := by
  intro Q E k
  refine h Q E fun val h' r sb lx hr hv hp => ?_
  have nx := ok.put (Nat.le_refl _) ea sb lx hr
  exact k r _ val [] h' s.toks nx (hv.mono nx.vw) hp

theorem tcall_append {n : Nat} {xs : List PyData} {x : PyData} (e : st[n]? = some (.live xs)) (hz : xs.length ≤ 100000) (h : Post (.d .none) (st.set n (.live (xs ++ [x])))) : tcall cx d (.ext (.builtin "list.append")) [.c n, .d x] [] st Post := tcall_bi fun A o al s vs R ok hv => by
  obtain ⟨_, v, rfl, v1, v2⟩ := va2 hv
  obtain ⟨a, ws, k, ea, rfl, ho, hr⟩ := ok.cellX v1 e
  have hle : (100002 : Nat) ≤ sizeLine := by decide
  have hs : ws.size = xs.length := by rw [← Array.length_toList, hr.length]
  refine Op.ofPut (vs := ws.push v) (xs := xs ++ [x]) ok ea fun Q E kk => ?_
  refine call_meets F.slot_list_append ⟨_, ho, rfl⟩ F.entry_list_append (F.args_list_append_2 _ _) (AutoListH.list_append_list_val_0 a ws k v (by omega)) ⟨ho, ?_⟩
  refine kk .none _ (.d .none) (Heap.SameBut.update ..) (lx_update _ ho) ?_ .none h
  rw [Array.toList_push]
  exact hr.append (.cons v2 .nil)
theorem tgm_cell {n : Nat} {xs : List PyData} {name : PySem.Str} {id : String} (e : st[n]? = some (.live xs)) (hs : Slot "list" name id) (ht : typeOf (.builtin id) = pure (.type "method_descriptor")) : tgm cx d (.c n) name (.builtin id) [.c n] st := by
  intro A o al s va pl R ok hv Q E k
  obtain ⟨a, ws, kk, ea, rfl, ho, hr⟩ := ok.cellX hv e
  exact getMethod_builtin ⟨_, ho, rfl⟩ F.plainAttrs_list hs ht (fun _ y => by cases y; exact ⟨_, ho, rfl⟩) (k _ s.toks (Nat.le_refl _) (.cons hv .nil))

theorem te_listC {es : List Expr} (hp : plainArgs es = true) (h : tes cx d env ρ es st fun xs st₁ => ∃ ds, datas xs = some ds ∧ ds.length ≤ sizeLine ∧ Post (.c st₁.length) (st₁ ++ [.live ds])) : te cx d env ρ st (.List es pos) Post := by
  intro A hx al s R a Q E k
  refine List_ (tes_run R es al s _ hp h a fun xs st₁ vals al₁ h₁ tk₁ n₁ v₁ p => ?_)
  obtain ⟨ds, e, hz, p⟩ := p
  have r := rdAll_of v₁ e
  refine wpAny_newList ?_ (by rw [r.length]; exact hz)
  have ok₁ := n₁.ok
  have len : (al ++ al₁).length = st₁.length := ok₁.st.1
  have fr : ∀ b, b ∈ ow env hx ++ (al ++ al₁) → b ≠ h₁.objs.size := fun b m => Nat.ne_of_lt (ok₁.lt m)
  have hk := stays_push h₁ { cls := .type "list", data := .seq vals.toArray }
  have view : (vw h₁ (ow env hx ++ (al ++ al₁))).StaysIn (vw (h₁.push { cls := .type "list", data := .seq vals.toArray }) (ow env hx ++ ((al ++ al₁) ++ [h₁.objs.size]))) := vw_mono fun b ob hn eb => ⟨hk b ob eb, fun m => by
    rw [← List.append_assoc] at m
    rcases List.mem_append.mp m with m | m
    · exact hn m
    · rw [List.mem_singleton] at m
      exact absurd (Heap.lt_size eb) (by rw [m]; exact Nat.lt_irrefl _)⟩
  have n₂ : Nx cx A (ow env hx) (al ++ al₁) [h₁.objs.size] (st₁ ++ [.live ds]) h₁ (h₁.push { cls := .type "list", data := .seq vals.toArray }) tk₁ := by
    refine ⟨⟨ok₁.stk.stay (.of fun b _ ob eb => hk b ob eb), ok₁.tok, fun b ob eb => view b ob (ok₁.base b ob eb), ?_, fun b hb => let ⟨ob, q1, q2⟩ := ok₁.own b hb; ⟨ob, hk b ob q1, q2⟩, by
      have := len
      simp only [List.length_append, List.length_singleton] at this ⊢
      omega, fun i b ys e1 e2 => ?_⟩, Sl.of fun b hb ob eb => hk b ob eb, view⟩
    · rw [← List.append_assoc]
      refine List.nodup_append.mpr ⟨ok₁.nd, by simp, fun x hx' y hy q => ?_⟩
      rw [List.mem_singleton] at hy
      exact fr x hx' (q.trans hy)
    · by_cases hi : i < (al ++ al₁).length
      · rw [List.getElem?_append_left hi] at e1
        rw [List.getElem?_append_left (by rw [← len]; exact hi)] at e2
        exact (ok₁.st.2 i b ys e1 e2).mono (fun ob q => hk b ob q) view
      · have hi' : i = (al ++ al₁).length := by
          have := (List.getElem?_eq_some_iff.mp e1).1
          rw [List.length_append, List.length_singleton] at this
          omega
        subst hi'
        rw [List.getElem?_append_right (Nat.le_refl _), Nat.sub_self] at e1
        rw [len, List.getElem?_append_right (Nat.le_refl _), Nat.sub_self] at e2
        simp only [List.getElem?_cons_zero, Option.some.injEq] at e1 e2
        subst e1 e2
        exact ⟨_, new_list vals, by rw [List.toList_toArray]; exact r.keeps view⟩
  refine k (.c st₁.length) (st₁ ++ [.live ds]) _ (al₁ ++ [h₁.objs.size]) _ tk₁ (n₁.trans n₂) ⟨h₁.objs.size, ?_, rfl⟩ p
  rw [← List.append_assoc, ← len, List.getElem?_append_right (Nat.le_refl _), Nat.sub_self]
  rfl

theorem tcmp_isNotNone {v : V} {b : Bool} (hv : ∀ g al val, VRep cx g al val v → (val == Value.none) = b) (h : Post (.d (.bool (!b))) st) : tcmp cx d .IsNot v (.d .none) st Post := by
  intro A o al s va vb R ok v1 v2
  cases v2
  refine Op.ofVal ok fun Q E k => isnot_none_gen ?_
  rw [hv _ _ _ v1]
  exact k _ s.heap s.toks (.d (.bool !b)) (fun _ _ e => e) (.bool _) h

theorem add_run {prog : Program} {w : World} {A : Around} {E : Value → Shared → Prop} {s : Shared} {l b : Addr} {vs ws : List Value} {Q : Value → Shared → Prop} (hl : s.heap.IsList l vs.toArray) (hb : s.heap.IsList b ws.toArray)
    (h : Q (.ref s.heap.objs.size) { s with heap := s.heap.push { cls := .type "list", data := .seq (vs ++ ws).toArray } }) (hsz : vs.length + ws.length ≤ sizeLine) : wpAny (model prog w) A (binaryOp .Add (.ref l) (.ref b)) Q E s := by
  obtain ⟨⟨cls, dd, data, sl⟩, ho, hc, n, hd⟩ := id hl
  obtain ⟨⟨cls2, dd2, data2, sl2⟩, ho2, hc2, n2, hd2⟩ := id hb
  simp only at hc hd hc2 hd2
  subst hc hd hc2 hd2
  have e : vs.toArray ++ ws.toArray = (vs ++ ws).toArray := by simp
  refine concat_meets ⟨_, ho, rfl⟩ ⟨_, ho2, rfl⟩ noFill_list_add seq_list_add PySem.F.slot_list_add PySem.F.entry_list_add (PySem.F.args_list_add_2 _ _) (list_addW l b vs.toArray ws.toArray n n2 dd dd2 sl sl2 (by simpa using hsz)) ⟨ho, ho2, ?_⟩
  rw [e]
  exact h
theorem tbin_addL {xs ys : List PyData} (hz : xs.length + ys.length ≤ 100000) (h : Post (.d (.list (xs ++ ys))) st) : tbin cx d .Add (.d (.list xs)) (.d (.list ys)) st Post := by
  intro A o al s va vb R ok v1 v2
  obtain ⟨a, vs, rfl, hl, hr⟩ := rd_list v1
  obtain ⟨b, ws, rfl, hl2, hr2⟩ := rd_list v2
  have hle : (100002 : Nat) ≤ sizeLine := by decide
  have e1 := hr.length
  have e2 := hr2.length
  refine Op.ofVal ok fun Q E k => add_run (vs := vs.toList) (ws := ws.toList) (isList_of_vw hl) (isList_of_vw hl2) ?_ (by omega)
  exact k _ _ s.toks (.d (.list (xs ++ ys))) (stays_push _ _) (.list (isList_new (ok.fresh (Nat.le_refl _))) (by rw [List.toList_toArray]; exact (hr.append hr2).keeps (rd_mono_h (stays_push _ _)))) h
end Mine

-- N10
namespace Mine
open PySem PySem.W PySem.Calls PyProof.Rows

variable {cx : Cx} {d : Nat} {env : Env} {ρ : Vars} {st : Store} {pos : Pos}

theorem vw_perm {h : Heap} {o o' : List Addr} (al : List Addr) (p : o.Perm o') : (vw h (o ++ al)).StaysIn (vw h (o' ++ al)) := vw_mono fun b ob n e => ⟨e, fun m => n (by
  rcases List.mem_append.mp m with m | m
  · exact List.mem_append.mpr (.inl (p.mem_iff.mpr m))
  · exact List.mem_append.mpr (.inr m))⟩
theorem Ok.perm {o o' al : List Addr} {h : Heap} {tk : Nat} (p : o.Perm o') (x : Ok cx A o al st h tk) : Ok cx A o' al st h tk :=
  ⟨x.stk.keep (fun _ m => p.mem_iff.mp m) (fun a m o e d => ⟨o, e, d⟩), x.tok, fun b ob e => vw_perm al p b ob (x.base b ob e), (p.append_right al).nodup_iff.mp x.nd, fun a m => x.own a (p.mem_iff.mpr m), x.st.1, fun i a c e1 e2 => (x.st.2 i a c e1 e2).mono (fun _ q => q) (vw_perm al p)⟩
theorem Nx.perm {o o' al al' : List Addr} {h h' : Heap} {tk : Nat} (p : o.Perm o') (x : Nx cx A o al al' st h h' tk) : Nx cx A o' al al' st h h' tk :=
  ⟨x.ok.perm p, x.fr.sub fun a m => p.mem_iff.mpr m, fun b ob e => vw_perm (al ++ al') p b ob (x.vw b ob (vw_perm al p.symm b ob e))⟩
theorem VRep.perm {o o' al : List Addr} {h : Heap} {v : Value} {x : V} (p : o.Perm o') (r : VRep cx (vw h (o ++ al)) al v x) : VRep cx (vw h (o' ++ al)) al v x := by
  have := r.mono (al' := []) (vw_perm al p)
  rwa [List.append_nil] at this

theorem At.moved {hx al : List Addr} {h h' : Heap} {I : Addr} {tk tk' : Nat} (a : At cx A env hx al ρ st h tk) (mh : I ∈ hx) (htk : tk ≤ tk') (hk : ∀ b o, b ≠ I → h.get? b = some o → h'.get? b = some o) (hn : ∃ ob, h'.get? I = some ob ∧ ¬ SeqObj ob)
    (hq : ∀ o, h.get? I = some o → (∀ vs, o.data ≠ .fields vs) → ∃ o', h'.get? I = some o' ∧ ∀ vs, o'.data ≠ .fields vs) :
    At cx A env hx al ρ st h' tk' ∧ (vw h (ow env hx ++ al)).StaysIn (vw h' (ow env hx ++ al)) := by
  have mI : I ∈ ow env hx := .tail _ (List.mem_append.mpr (.inr mh))
  have view : (vw h (ow env hx ++ al)).StaysIn (vw h' (ow env hx ++ al)) := vw_mono fun b ob n e => ⟨hk b ob (fun q => n (by rw [q]; exact List.mem_append.mpr (.inl mI))) e, n⟩
  have nd1 := (List.nodup_append.mp a.ok.nd).1
  obtain ⟨m, cm, hm, hc, hv⟩ := a.vars
  have lI : env.locals ≠ I := fun q => (List.nodup_cons.mp nd1).1 (q ▸ List.mem_append.mpr (.inr mh))
  have cI : ∀ n c, env.cells.lookup n = some c → c ≠ I := fun n c e q => by
    have := (List.nodup_append.mp (List.nodup_cons.mp nd1).2).2.2 c (List.mem_map.mpr ⟨(n, c), PySem.mem_of_lookup e, rfl⟩) I mh
    exact this q
  have stk' : Stk A (ow env hx) h' := a.ok.stk.keep (fun _ m => m) fun b m o e d => by
    by_cases hb : b = I
    · subst hb; exact hq o e d
    · exact ⟨o, hk b o hb e, d⟩
  refine ⟨⟨⟨stk', Nat.zero_le _, fun b ob e => view b ob (a.ok.base b ob e), a.ok.nd, fun b m => ?_, a.ok.st.1, fun i b xs e1 e2 => ?_⟩, a.fn, a.gl, a.bi, m, cm, ?_, fun n c e => ?_, fun y v e => ?_⟩, view⟩
  · by_cases hb : b = I
    · subst hb; exact hn
    · obtain ⟨ob, q1, q2⟩ := a.ok.own b m
      exact ⟨ob, hk b ob hb q1, q2⟩
  · have hb : b ≠ I := fun q => (List.nodup_append.mp a.ok.nd).2.2 I mI b (List.mem_of_getElem? e1) q.symm
    exact (a.ok.st.2 i b xs e1 e2).mono (fun ob q => hk b ob hb q) view
  · obtain ⟨ob, es, ep, q1, q2⟩ := hm
    exact ⟨ob, es, ep, hk _ ob lI q1, q2⟩
  · obtain ⟨ob, q1, q2⟩ := hc n c e
    exact ⟨ob, hk c ob (cI n c e) q1, q2⟩
  · obtain ⟨val, r, q⟩ := hv y v e
    exact ⟨val, by have := r.mono (al' := []) view; rwa [List.append_nil] at this, q⟩

inductive Tgt : Expr → PyData → List PySem.Str → List PyData → Prop
  | name {n : PySem.Str} {p : Pos} {x : PyData} : Tgt (.Name n p) x [n] [x]
  | tuple {es : List Expr} {k : Nat} {p : Pos} {names : List PySem.Str} {xs : List PyData} : namesOf? es = some names → xs.length = names.length → Tgt (.Tuple es k p) (.tuple xs) names xs

noncomputable def isLocal (env : Env) (n : PySem.Str) : Bool := env.kindOf n == some .local

theorem assignLocals_run {A : Around} {E : Value → Shared → Prop} (hf : env.scope.kind = .function) : ∀ (es : List Expr) (names : List PySem.Str) (vals : List Value) (m : PySem.Str → Option Value) (s : Shared) (Q : Unit → Shared → Prop), namesOf? es = some names → vals.length = es.length →
    (names.all (isLocal env)) = true → names.Nodup → s.heap.Ns env.locals m →
    (∀ h' tk' m', h'.Ns env.locals m' → (∀ y, y ∉ names → m' y = m y) → (∀ y u, (names.zip vals).lookup y = some u → m' y = some u) → (∀ b o, b ≠ env.locals → s.heap.get? b = some o → h'.get? b = some o) → s.toks ≤ tk' → Q () { s with heap := h', toks := tk' }) →
    wpAny (model cx.prog cx.w) A (assignInOrder ((assignEach es env).map (·.2)) vals) Q E s
  | [], names, vals, m, s, Q, hn, hl, hk, hd, hm, k => by
    cases hn
    exact wpAny_assignInOrder_none (by
      cases vals with
      | nil => exact k s.heap s.toks m hm (fun _ _ => rfl) (fun y u e => by simp at e) (fun _ _ _ e => e) (Nat.le_refl _)
      | cons _ _ => cases hl)
  | e :: es, names, vals, m, s, Q, hn, hl, hk, hd, hm, k => by
    cases e with
    | Name x p =>
      simp only [namesOf?] at hn
      cases q : namesOf? es with
      | none => rw [q] at hn; cases hn
      | some ns =>
        rw [q] at hn
        cases hn
        cases vals with
        | nil => cases hl
        | cons v vs =>
          rw [List.all_cons, Bool.and_eq_true_iff] at hk
          rw [List.nodup_cons] at hd
          have hx : env.kindOf x = some .local := by simpa [isLocal] using hk.1
          show wpAny _ A (assignInOrder (assign (.Name x p) env :: (assignEach es env).map (·.2)) (v :: vs)) Q E s
          refine wpAny_assignInOrder_more (wpAny_assign_Name (wpAny_storeName_local hx hm (fun h₁ hn₁ hs₁ => ?_) (by rw [hf]; rfl)))
          refine assignLocals_run hf es ns vs _ _ Q q (by simpa using hl) hk.2 hd.2 hn₁ fun h' tk' m' a1 a2 a3 a4 a5 => ?_
          refine k h' tk' m' a1 (fun y hy => ?_) (fun y u e => ?_) (fun b o hb e => a4 b o hb ((hs₁.2 b hb).trans e)) (Nat.le_trans (Nat.le_succ _) a5)
          · rw [a2 y (fun h => hy (.tail _ h))]
            exact if_neg (fun h : y = x => hy (by rw [h]; exact .head _))
          · rw [List.zip_cons_cons, List.lookup_cons] at e
            cases hy : y == x with
            | true =>
              rw [hy] at e
              have := eq_of_beq hy
              subst this
              rw [a2 y hd.1]
              simpa using e
            | false =>
              rw [hy] at e
              exact a3 y u e
    | _ => simp only [namesOf?] at hn; cases hn

theorem assignT_run {A : Around} {E : Value → Shared → Prop} {target : Expr} {x : PyData} {names : List PySem.Str} {xs : List PyData} {m : PySem.Str → Option Value} {s : Shared} {val : Value} {g : Heap} {Q : Unit → Shared → Prop} (hh : A.handled = none) (hf : env.scope.kind = .function)
    (ht : Tgt target x names xs) (hk : (names.all (isLocal env)) = true) (hd : names.Nodup) (hm : s.heap.Ns env.locals m) (hg : g.StaysIn s.heap) (r : Rd g val x)
    (k : ∀ h' tk' m' vals, h'.Ns env.locals m' → RdAll g vals xs → (∀ y u, (names.zip vals).lookup y = some u → m' y = some u) → (∀ b o, b ≠ env.locals → s.heap.get? b = some o → h'.get? b = some o) → s.toks ≤ tk' → Q () { s with heap := h', toks := tk' }) :
    wpAny (model cx.prog cx.w) A (assign target env val) Q E s := by
  cases ht with
  | @name n p x =>
    have hx : env.kindOf n = some .local := by simpa [isLocal] using hk
    refine wpAny_assign_Name (wpAny_storeName_local hx hm (fun h₁ hn₁ hs₁ => ?_) (by rw [hf]; rfl))
    refine k h₁ _ _ [val] hn₁ (.cons r .nil) (fun y u e => ?_) (fun b o hb e => (hs₁.2 b hb).trans e) (Nat.le_succ _)
    rw [List.zip_cons_cons, List.lookup_cons] at e
    cases hy : y == n with
    | true => rw [hy] at e; cases e; exact if_pos (eq_of_beq hy)
    | false => rw [hy] at e; simp at e
  | @tuple es kk p names xs hn hl =>
    obtain ⟨t, vs, rfl, hT, hr⟩ := rd_tuple r
    obtain ⟨e1, e2, e3⟩ := assignEach_names env hn
    have hlen : vs.toList.length = es.length := by rw [hr.length, hl, e3]
    refine wpAny_assign_Tuple hh (let ⟨o, q, z⟩ := hT; ⟨o, hg _ _ q, z⟩) (by rw [e1, ← hlen, Array.length_toList]) e2 fun h₁ hx₁ => ?_
    have hk₁ : s.heap.StaysIn h₁ := fun b ob e => hx₁ b ob (Nat.ne_of_lt (Heap.lt_size e)) e
    refine assignLocals_run (s := { s with heap := h₁ }) hf es names vs.toList m Q hn hlen hk hd (hm.keeps hk₁) fun h' tk' m' a1 _ a3 a4 a5 => ?_
    exact k h' tk' m' vs.toList a1 hr a3 (fun b o hb e => a4 b o hb (hk₁ b o e)) a5

noncomputable def compOwn (env : Env) (rest : List Addr) (I : Addr) (hx : List Addr) : List Addr := env.locals :: (rest ++ I :: hx)
theorem comp_perm {scope : Scope} {cl : List (PySem.Str × Addr)} {C I : Addr} {rest hx : List Addr} (hp : (env.cells.map (·.2)).Perm (cl.map (·.2) ++ rest)) :
    (ow env (C :: I :: hx)).Perm (ow (compEnvC scope cl C env) (compOwn env rest I hx)) := by
  rw [List.perm_iff_count]
  intro a
  have := hp.count_eq a
  simp only [ow, compOwn, compEnvC, List.count_cons, List.count_append] at this ⊢
  omega

theorem At.comp {hx al : List Addr} {h : Heap} {tk : Nat} {scope : Scope} {cl : List (PySem.Str × Addr)} {C I : Addr} {rest : List Addr} {m : PySem.Str → Option Value} (a : At cx A env (C :: I :: hx) al ρ st h tk) (hk : scope.kind = .function) (hns : h.Ns C m)
    (hp : (env.cells.map (·.2)).Perm (cl.map (·.2) ++ rest)) (hcl : ∀ n c, cl.lookup n = some c → env.cells.lookup n = some c) (bs fr : Vars)
    (hbs : ∀ n v, bs.lookup n = some v → (compEnvC scope cl C env).kindOf n = some .local ∧ ∃ u, m n = some u ∧ VRep cx (vw h (ow env (C :: I :: hx) ++ al)) al u v)
    (hfr : ∀ y v, fr.lookup y = some v → ρ.lookup y = some v ∧ (env.kindOf y = some .cell ∨ env.kindOf y = some .free) ∧ ((compEnvC scope cl C env).kindOf y = some .cell ∨ (compEnvC scope cl C env).kindOf y = some .free) ∧ (cl.lookup y).isSome = true) :
    At cx A (compEnvC scope cl C env) (compOwn env rest I hx) al (bs ++ fr) st h tk := by
  have P := comp_perm (scope := scope) (cl := cl) (C := C) (I := I) (hx := hx) hp
  obtain ⟨m₀, cm, hm, hc, hv⟩ := a.vars
  refine ⟨a.ok.perm P, hk, a.gl, a.bi, m, cm, hns, fun n c e => hc n c (hcl n c e), fun y v e => ?_⟩
  rw [List.lookup_append] at e
  cases hb : bs.lookup y with
  | some v' =>
    rw [hb] at e
    cases e
    obtain ⟨k1, u, k2, k3⟩ := hbs y v hb
    exact ⟨u, k3.perm P, .inl ⟨k1, k2⟩⟩
  | none =>
    rw [hb] at e
    obtain ⟨k1, k2, k3, k4⟩ := hfr y v (by simpa using e)
    obtain ⟨val, r, q⟩ := hv y v k1
    refine ⟨val, r.perm P, .inr ⟨k3, k4, ?_⟩⟩
    rcases q with ⟨q1, q2⟩ | ⟨q1, q2, q3⟩
    · rw [q1] at k2; rcases k2 with k2 | k2 <;> cases k2
    · exact q3

section
variable {prog : Program} {w : World} {A : Around} {s : Shared} {R : Result → Shared → Prop}
noncomputable def Tests (M : Model) (A : Around) (ifs : List Expr) (env : Env) (Q : Bool → Shared → Prop) (E : Value → Shared → Prop) (s : Shared) : Prop :=
  match ifs with
  | [] => Q true s
  | [c] => wpAny M A (isTrue c env (eval c env)) Q E s
  | _ => False
theorem compLoop_own {elt target iter : Expr} {ifs : List Expr} {scope : Scope} {pos : Pos} {it acc : Value} {env : Env} (I : Nat → Shared → Prop)
    (turn : ∀ n s, I n s → wpAny (model prog w) A (pyNext it) (fun r s₁ => match r with
      | none => R (.ok .next) s₁
      | some v => wpAny (model prog w) A (letOwnedTupleGo target it v) (fun _ s₁ => wpAny (model prog w) A (assign target env v) (fun _ s₂ =>
          Tests (model prog w) A ifs env (fun ok s₃ => if ok = true then wpAny (model prog w) A (eval elt env) (fun x s₄ =>
          wpAny (model prog w) A (call (.builtin "list.append") [acc, x]) (fun _ s₅ => ∃ m, m < n ∧ I m s₅) (notedBy (model prog w) A env fun e s' => R (.error e) s') s₄)
          (notedBy (model prog w) A env fun e s' => R (.error e) s') s₃ else ∃ m, m < n ∧ I m s₃) (notedBy (model prog w) A env fun e s' => R (.error e) s') s₂) (notedBy (model prog w) A env fun e s' => R (.error e) s') s₁) (notedBy (model prog w) A env fun e s' => R (.error e) s') s₁) (notedBy (model prog w) A env fun e s' => R (.error e) s') s)
    (n : Nat) (h : I n s) :
    codeAny (model prog w) A (.compLoop (.ListComp elt [⟨target, iter, ifs, 0⟩] scope pos) 0 it acc env) R s := by
  refine codeAny_loop rfl I (fun n s hI => ?_) n h
  show wpAny _ _ ((compTurn (.ListComp elt [⟨target, iter, ifs, 0⟩] scope pos) 0 it acc env).onRaise (fun x => do noteFrame x env; theTreesLotGoes x)) _ _ s
  refine wpAny_noted ?_
  rw [compTurn_list]
  refine wpAny_bind (wpAny_standAt (wpAny_bind (wpAny_mono (turn n s hI) (fun r s₁ h₁ => ?_) fun _ _ h' => h')))
  cases r with
  | none => exact wpAny_pure h₁
  | some v =>
    refine wpAny_bind (wpAny_mono h₁ (fun _ s₀ h₀' => ?_) fun _ _ h' => h')
    refine wpAny_bind (wpAny_mono h₀' (fun _ s₂ h₂ => ?_) fun _ _ h' => h')
    match ifs with
    | [] =>
      have h₃ := h₂
      exact wpAny_bind (wpAny_tests_nil (wpAny_bind (wpAny_bind (wpAny_mono h₃ (fun x s₄ h₄ => wpAny_bind (wpAny_mono h₄ (fun _ s₅ h₅ => wpAny_pure (wpAny_pure ⟨rfl, h₅⟩)) fun _ _ h' => h')) fun _ _ h' => h'))))
    | [c] =>
      refine wpAny_bind (wpAny_tests_one (wpAny_mono h₂ (fun okb s₃ h₃ => ?_) fun _ _ h' => h'))
      cases okb with
      | false => exact wpAny_pure ⟨rfl, h₃⟩
      | true => exact wpAny_bind (wpAny_bind (wpAny_mono h₃ (fun x s₄ h₄ => wpAny_bind (wpAny_mono h₄ (fun _ s₅ h₅ => wpAny_pure (wpAny_pure ⟨rfl, h₅⟩)) fun _ _ h' => h')) fun _ _ h' => h'))
    | _ :: _ :: _ => exact h₂.elim
end

noncomputable def FeedsX (cx : Cx) (A : Around) (I : Addr) (target : Expr) (g : Heap) (X : Addr → Prop) (items : List PyData) (h : Heap) : Prop :=
  ∃ fp P St, Walks cx.prog cx.w A I fp [I] items.length P St ∧ St 0 h ∧ (∀ b ∈ fp, b = I ∨ (∃ o, g.get? b = some o) ∨ X b) ∧ (∀ i v, i < items.length → P i v → ∃ x, items[i]? = some x ∧ Rd g v x) ∧
    (∀ i h, St i h → ∃ ob, h.get? I = some ob ∧ Fld ob) ∧
    ∀ i v (s' : Shared) (Q : Unit → Shared → Prop) (E : Value → Shared → Prop), St i s'.heap → Q () s' → wpAny (model cx.prog cx.w) A (letOwnedTupleGo target (.ref I) v) Q E s'
theorem FeedsX.keeps {A : Around} {I : Addr} {target : Expr} {g : Heap} {items : List PyData} {h h' : Heap} {X : Addr → Prop} (F : FeedsX cx A I target g X items h) (hk : h.StaysIn h') : FeedsX cx A I target g X items h' := by
  obtain ⟨fp, P, St, W, st0, r⟩ := F
  exact ⟨fp, P, St, W, W.frame 0 h h' st0 fun b _ o e => hk b o e, r⟩
theorem FeedsX.self {A : Around} {I : Addr} {target : Expr} {g : Heap} {items : List PyData} {s : Shared} {X : Addr → Prop} {Q : Value → Shared → Prop} {E : Value → Shared → Prop} (F : FeedsX cx A I target g X items s.heap) (q : Q (.ref I) s) :
    wpAny (model cx.prog cx.w) A (pyIter (.ref I)) Q E s := by
  obtain ⟨fp, P, St, W, st0, r⟩ := F
  exact W.self 0 s Q E st0 q

noncomputable def tifs (cx : Cx) (d : Nat) (env : Env) (ρ : Vars) (st : Store) (ifs : List Expr) (Post : Bool → Store → Prop) : Prop :=
  match ifs with
  | [] => Post true st
  | [c] => tt cx d env ρ st c Post
  | _ => False
noncomputable def EachI (cx : Cx) (d : Nat) (env : Env) (scope : Scope) (cl : List (PySem.Str × Addr)) (target elt : Expr) (ifs : List Expr) (fr : Vars) (xs : List PyData) (f : PyData → Option PyData) : Prop :=
  ∀ x ∈ xs, ∃ names ys, Tgt target x names ys ∧ names.Nodup ∧ (names.all fun n => (relabel scope env).names.lookup n == some .local) = true ∧
    ∀ C st, tifs cx d (compEnvC scope cl C env) (names.zip (ys.map .d) ++ fr) st ifs fun b st₁ => st₁ = st ∧ (b = false → f x = none) ∧
      (b = true → ∃ y, f x = some y ∧ te cx d (compEnvC scope cl C env) (names.zip (ys.map .d) ++ fr) st elt fun v st' => v = .d y ∧ st' = st)
theorem tests_run {ifs : List Expr} {Post : Bool → Store → Prop} {A : Around} {hx al : List Addr} {s : Shared} {Q : Bool → Shared → Prop} {E : Value → Shared → Prop} (h : tifs cx d env ρ st ifs Post) (R : Room A d) (a : At cx A env hx al ρ st s.heap s.toks)
    (k : ∀ b st' al' h' tk', Nx cx A (ow env hx) al al' st' s.heap h' tk' → Post b st' → Q b { s with heap := h', toks := tk' }) : Tests (model cx.prog cx.w) A ifs env Q E s := by
  match ifs with
  | [] => exact k true st [] s.heap s.toks (Nx.refl a.ok) h
  | [c] => exact h A hx al s Q E R a k
  | _ :: _ :: _ => exact h.elim
noncomputable def Each (cx : Cx) (d : Nat) (env : Env) (scope : Scope) (cl : List (PySem.Str × Addr)) (target elt : Expr) (fr : Vars) (xs : List PyData) (f : PyData → PyData) : Prop :=
  ∀ x ∈ xs, ∃ names ys, Tgt target x names ys ∧ names.Nodup ∧ (names.all fun n => (relabel scope env).names.lookup n == some .local) = true ∧
    ∀ C st, te cx d (compEnvC scope cl C env) (names.zip (ys.map .d) ++ fr) st elt fun v st' => v = .d (f x) ∧ st' = st
theorem Each.toI {scope : Scope} {cl : List (PySem.Str × Addr)} {target elt : Expr} {fr : Vars} {xs : List PyData} {f : PyData → PyData} (h : Each cx d env scope cl target elt fr xs f) : EachI cx d env scope cl target elt [] fr xs fun x => some (f x) := by
  intro x m
  obtain ⟨names, ys, h1, h2, h3, h4⟩ := h x m
  refine ⟨names, ys, h1, h2, h3, fun C st => ?_⟩
  unfold tifs
  exact ⟨rfl, fun q => (nomatch q), fun _ => ⟨_, rfl, h4 C st⟩⟩

structure CSt (cx : Cx) (A : Around) (env : Env) (hx al : List Addr) (ρ : Vars) (st : Store) (C I D : Addr) (g : Heap) (ys : List PyData) (h : Heap) (tk : Nat) : Prop where
  at' : At cx A env (C :: I :: hx) (al ++ [D]) ρ (st ++ [.live ys]) h tk
  ns : ∃ m, h.Ns C m
  hk : Sl hx g h
  vw : (vw g (ow env hx ++ al)).StaysIn (vw h (ow env (C :: I :: hx) ++ (al ++ [D])))
  fr : Sl (ow env hx) g h

structure CFin (cx : Cx) (A : Around) (env : Env) (hx al : List Addr) (ρ : Vars) (st : Store) (C D : Addr) (g : Heap) (ys : List PyData) (h : Heap) (tk : Nat) : Prop where
  at' : At cx A env (C :: hx) (al ++ [D]) ρ (st ++ [.live ys]) h tk
  ns : ∃ m, h.Ns C m
  hk : Sl hx g h
  vw : (vw g (ow env hx ++ al)).StaysIn (vw h (ow env (C :: hx) ++ (al ++ [D])))
  fr : Sl (ow env hx) g h

theorem ow_perm {hx hx' : List Addr} (p : hx.Perm hx') : (ow env hx).Perm (ow env hx') := (p.append_left _).cons _
theorem At.permx {hx hx' al : List Addr} {h : Heap} {tk : Nat} (p : hx.Perm hx') (a : At cx A env hx al ρ st h tk) : At cx A env hx' al ρ st h tk := by
  obtain ⟨m, cm, hm, hc, hv⟩ := a.vars
  exact ⟨a.ok.perm (ow_perm p), a.fn, a.gl, a.bi, m, cm, hm, hc, fun y v e => let ⟨val, r, q⟩ := hv y v e; ⟨val, r.perm (ow_perm p), q⟩⟩

theorem comp_loop {A : Around} {hx al : List Addr} {s : Shared} {h₁ : Heap} {tk₁ : Nat} {C I D : Addr} {items : List PyData} {f : PyData → Option PyData} {ifs : List Expr} {scope : Scope} {cl : List (PySem.Str × Addr)} {rest : List Addr} {fr : Vars} {target elt iter : Expr} {Rr : Result → Shared → Prop} (R : Room A d)
    (c : CSt cx A env hx al ρ st C I D s.heap [] h₁ tk₁) (F : FeedsX cx A I target (vw s.heap (ow env hx ++ al)) (fun b => ∃ (n : Nat) (o : Obj), al[n]? = some b ∧ st[n]? = some (Cell.fixed o)) items h₁) (hI : I ∉ hx) (hC : C ∉ hx) (hz : items.length ≤ 100000)
    (hkind : scope.kind = .function) (hp : (env.cells.map (·.2)).Perm (cl.map (·.2) ++ rest)) (hcl : ∀ n c, cl.lookup n = some c → env.cells.lookup n = some c)
    (hfr : ∀ y v, fr.lookup y = some v → ρ.lookup y = some v ∧ (env.kindOf y = some .cell ∨ env.kindOf y = some .free) ∧ ((compEnvC scope cl C env).kindOf y = some .cell ∨ (compEnvC scope cl C env).kindOf y = some .free) ∧ (cl.lookup y).isSome = true)
    (each : EachI cx d env scope cl target elt ifs fr items f)
    (k : ∀ h' tk', CFin cx A env hx al ρ st C D s.heap (items.filterMap f) h' tk' → Rr (.ok .next) { s with heap := h', toks := tk' }) :
    codeAny (model cx.prog cx.w) A (.compLoop (.ListComp elt [⟨target, iter, ifs, 0⟩] scope pos) 0 (.ref I) (.ref D) (compEnvC scope cl C env)) Rr { s with heap := h₁, toks := tk₁ } := by
  obtain ⟨fp, P, St, W, st0, hfp, hP, hns, hgo⟩ := F
  have len : al.length = st.length := by
    have := c.at'.ok.st.1
    simp only [List.length_append, List.length_singleton] at this
    omega
  have nIo' : ∀ {ys h tk}, CSt cx A env hx al ρ st C I D s.heap ys h tk → ∀ b ∈ ow env hx, b ≠ I := by
    intro ys h tk cs b hb q
    have nd := (List.nodup_append.mp cs.at'.ok.nd).1
    subst q
    simp only [ow, List.mem_cons, List.mem_append] at hb
    simp only [ow, List.nodup_cons, List.nodup_append, List.mem_append, List.mem_cons] at nd
    rcases hb with hb | hb | hb
    · exact nd.1 (.inr (.inr (.inl hb.symm)))
    · exact nd.2.2.2 b hb b (.inr (.inl rfl)) rfl
    · exact hI hb
  have nCo' : ∀ {ys h tk}, CSt cx A env hx al ρ st C I D s.heap ys h tk → ∀ b ∈ ow env hx, b ≠ C := by
    intro ys h tk cs b hb q
    have nd := (List.nodup_append.mp cs.at'.ok.nd).1
    subst q
    simp only [ow, List.mem_cons, List.mem_append] at hb
    simp only [ow, List.nodup_cons, List.nodup_append, List.mem_append, List.mem_cons] at nd
    rcases hb with hb | hb | hb
    · exact nd.1 (.inr (.inl hb.symm))
    · exact nd.2.2.2 b hb b (.inl rfl) rfl
    · exact hC hb
  have nCI : ∀ {ys h tk}, CSt cx A env hx al ρ st C I D s.heap ys h tk → C ≠ I := by
    intro ys h tk cs q
    have nd := (List.nodup_append.mp cs.at'.ok.nd).1
    simp only [ow, List.nodup_cons, List.nodup_append, List.mem_cons] at nd
    exact nd.2.2.1.1 (.inl q)
  refine compLoop_own (fun n s' => ∃ i h' tk', s' = { s with heap := h', toks := tk' } ∧ CSt cx A env hx al ρ st C I D s.heap ((items.take i).filterMap f) h' tk' ∧ St i h' ∧ i + n = items.length) ?_ items.length
    ⟨0, h₁, tk₁, rfl, by simpa using c, st0, Nat.zero_add _⟩
  rintro n s' ⟨i, h', tk', rfl, cs, hst, hin⟩
  cases n with
  | zero =>
    have hi : i = items.length := by omega
    subst hi
    refine wpAny_with_toks (Nat.le_refl _) (W.done _ _ _ hst fun h₂ tk₂ hk₂ htk₂ => ?_)
    have keep : ∀ b o, b ≠ I → h'.get? b = some o → h₂.get? b = some o := fun b o hb e => hk₂ b o (fun m => hb (List.mem_singleton.mp m)) e
    have pc : (C :: I :: hx).Perm (I :: C :: hx) := List.Perm.swap _ _ _
    obtain ⟨w1, w2⟩ := (cs.at'.permx pc).rest htk₂ keep (hns _ _ hst)
    have nIo := nIo' cs
    obtain ⟨m, hm⟩ := cs.ns
    refine k h₂ tk₂ ⟨?_, ⟨m, hm.at' fun o e => keep C o (nCI cs) e⟩, cs.hk.trans (.of fun b hb o e => keep b o (fun q => hI (q ▸ hb)) e), ?_, cs.fr.trans (.of fun b hb o e => keep b o (nIo b hb) e)⟩
    · rw [List.take_length] at w1; exact w1
    · exact fun b o e => w2 b o (vw_perm _ (ow_perm pc) b o (cs.vw b o e))
  | succ n =>
    have hi : i < items.length := by omega
    refine wpAny_with_toks (Nat.le_refl _) (W.item i _ _ _ hi hst fun v h₂ tk₂ hv hst₂ hk₂ htk₂ => ?_)
    obtain ⟨x, ex, rx⟩ := hP i v hi hv
    have keep : ∀ b o, b ≠ I → h'.get? b = some o → h₂.get? b = some o := fun b o hb e => hk₂ b o (fun m => hb (List.mem_singleton.mp m)) e
    obtain ⟨w1, w2⟩ := cs.at'.moved (.tail _ (.head _)) htk₂ keep (let ⟨ob, e, f⟩ := hns _ _ hst₂; ⟨ob, e, f.notSeq⟩) (fun o e dd => let ⟨ob, e', vs, q⟩ := hns _ _ hst; absurd q (by rw [e'] at e; cases e; exact dd vs))
    have nIo := nIo' cs
    obtain ⟨m, hm⟩ := cs.ns
    have hCI := nCI cs
    have hm₂ : h₂.Ns C m := hm.at' fun o e => keep C o hCI e
    obtain ⟨names, ys, ht, hnd, hloc, hte⟩ := each x (List.mem_of_getElem? ex)
    refine hgo (i + 1) v { s with heap := h₂, toks := tk₂ } _ _ hst₂ ?_
    have vx : Rd (vw h₂ (ow env (C :: I :: hx) ++ (al ++ [D]))) v x := (rx.keeps cs.vw).keeps w2
    refine assignT_run (cx := cx) (env := compEnvC scope cl C env) (s := { s with heap := h₂, toks := tk₂ }) R.hd hkind ht ?_ hnd hm₂ (fun b o e => (vw_get.mp e).1) vx fun h₃ tk₃ m₃ vals hn₃ hr₃ hb₃ hk₃ htk₃ => ?_
    · simpa [isLocal, Env.kindOf, compEnvC] using hloc
    have keepC : ∀ b o, b ≠ C → h₂.get? b = some o → h₃.get? b = some o := fun b o hb e => hk₃ b o hb e
    have nsC : ∃ ob, h₃.get? C = some ob ∧ ¬ SeqObj ob := let ⟨ob, es, ep, q1, q2, _⟩ := hn₃; ⟨ob, q1, fun ⟨_, _, q⟩ => by rw [q2] at q; cases q⟩
    obtain ⟨u1, u2⟩ := w1.moved (.head _) htk₃ keepC nsC (fun _ _ _ => let ⟨ob, es, ep, q1, q2, _⟩ := hn₃; ⟨ob, q1, fun _ q => by rw [q2] at q; cases q⟩)
    have ac := u1.comp (scope := scope) (cl := cl) hkind hn₃ hp hcl (names.zip (ys.map .d)) fr (fun nn vv e => ?_) hfr
    · have P := comp_perm (scope := scope) (cl := cl) (C := C) (I := I) (rest := rest) (hx := hx) hp
      have mI : I ∈ ow env (C :: I :: hx) := .tail _ (List.mem_append.mpr (.inr (.tail _ (.head _))))
      have mC : C ∈ ow env (C :: I :: hx) := .tail _ (List.mem_append.mpr (.inr (.head _)))
      have sub : ∀ b ∈ ow env hx, b ∈ ow env (C :: I :: hx) := by
        intro b hb
        simp only [ow, List.mem_cons, List.mem_append] at hb ⊢
        rcases hb with hb | hb | hb
        · exact .inl hb
        · exact .inr (.inl hb)
        · exact .inr (.inr (.inr (.inr hb)))
      have htake : items.take (i + 1) = items.take i ++ [x] := by rw [List.take_add_one, ex]; rfl
      have fin : ∀ h₅ tk₅, At cx A env (C :: I :: hx) (al ++ [D]) ρ (st ++ [.live ((items.take (i + 1)).filterMap f)]) h₅ tk₅ → Sl (ow env (C :: I :: hx)) h₃ h₅ → (vw h₃ (ow env (C :: I :: hx) ++ (al ++ [D]))).StaysIn (vw h₅ (ow env (C :: I :: hx) ++ (al ++ [D]))) →
          ∃ m, m < n + 1 ∧ ∃ i h' tk', ({ s with heap := h₅, toks := tk₅ } : Shared) = { s with heap := h', toks := tk' } ∧ CSt cx A env hx al ρ st C I D s.heap ((items.take i).filterMap f) h' tk' ∧ St i h' ∧ i + m = items.length := by
        intro h₅ tk₅ a₅ sl₅ vwn
        have all : Sl (ow env hx) s.heap h₅ := cs.fr.trans (.trans (.of fun b hb o e => keepC b o (nCo' cs b hb) (keep b o (nIo b hb) e)) (sl₅.sub sub))
        refine ⟨n, Nat.lt_succ_self n, i + 1, h₅, tk₅, rfl, ⟨a₅, ?_, all.sub fun b hb => .tail _ (List.mem_append.mpr (.inr hb)), fun b o e => vwn b o (u2 b o (w2 b o (cs.vw b o e))), all⟩, ?_, by omega⟩
        · obtain ⟨o, es, ep, ho, r⟩ := hn₃
          obtain ⟨o', ho', q⟩ := sl₅ _ mC _ ho
          exact ⟨m₃, o', es, ep, ho', q.data.trans r.1, r.2⟩
        refine W.frame (i + 1) h₂ h₅ hst₂ fun b hb o e => ?_
        rcases hfp b hb with rfl | ⟨o', q⟩ | ⟨nn, o', q1, q2⟩
        · obtain ⟨o', e', q⟩ := sl₅ _ mI o (keepC _ o (fun q => hCI q.symm) e)
          obtain ⟨ob, q1, q2⟩ := hns _ _ hst₂
          rw [e] at q1
          cases q1
          rw [q.fld q2] at e'
          exact e'
        · have q2 := w2 b o' (cs.vw b o' q)
          have e' := (vw_get.mp q2).1
          rw [e] at e'
          cases e'
          exact (vw_get.mp (vwn b o (u2 b o q2))).1
        · have z1 : h₂.get? b = some o' := w1.ok.st.2 nn b (.fixed o') (getElem?_append_some q1) (getElem?_append_some q2)
          have z2 : h₅.get? b = some o' := a₅.ok.st.2 nn b (.fixed o') (getElem?_append_some q1) (getElem?_append_some q2)
          rw [e] at z1
          cases z1
          exact z2
      refine tests_run (hte C (st ++ [.live ((items.take i).filterMap f)])) (s := { s with heap := h₃, toks := tk₃ }) (hx := compOwn env rest I hx) R ac fun b st_t al_t h_t tk_t n_t p_t => ?_
      obtain ⟨rfl, pF, pT⟩ := p_t
      have n_t' := n_t.perm P.symm
      have e_t : al_t = [] := by
        have := n_t'.ok.st.1
        simp only [List.length_append, List.length_singleton] at this
        exact List.eq_nil_of_length_eq_zero (by omega)
      subst e_t
      have a_t := u1.next n_t'
      have ac_t := ac.next n_t
      rw [List.append_nil] at a_t ac_t
      have vwt : (vw h₃ (ow env (C :: I :: hx) ++ (al ++ [D]))).StaysIn (vw h_t (ow env (C :: I :: hx) ++ (al ++ [D]))) := by have := n_t'.vw; rwa [List.append_nil] at this
      cases b with
      | false =>
        have e1 : (items.take (i + 1)).filterMap f = (items.take i).filterMap f := by rw [htake, List.filterMap_append, List.filterMap_cons, pF rfl]; simp
        rw [if_neg (by decide)]
        exact fin h_t tk_t (by rw [e1]; exact a_t) n_t'.fr vwt
      | true =>
      obtain ⟨y, hy, hte⟩ := pT rfl
      rw [if_pos rfl]
      refine hte A (compOwn env rest I hx) (al ++ [D]) { s with heap := h_t, toks := tk_t } R ac_t _ _ fun r st' val al' h₄ tk₄ n₄ v₄ p₄ => ?_
      obtain ⟨rfl, rfl⟩ := p₄
      have n₄' := n₄.perm P.symm
      have v₄' := v₄.perm P.symm
      have e₄ : al' = [] := by
        have := n₄'.ok.st.1
        simp only [List.length_append, List.length_singleton] at this
        exact List.eq_nil_of_length_eq_zero (by omega)
      subst e₄
      have a₄ := a_t.next n₄'
      rw [List.append_nil] at a₄ v₄'
      have vwn : (vw h_t (ow env (C :: I :: hx) ++ (al ++ [D]))).StaysIn (vw h₄ (ow env (C :: I :: hx) ++ (al ++ [D]))) := by have := n₄'.vw; rwa [List.append_nil] at this
      have hst₄ : (st ++ [Cell.live ((items.take i).filterMap f)])[st.length]? = some (.live ((items.take i).filterMap f)) := by simp
      have hset : (st ++ [Cell.live ((items.take i).filterMap f)]).set st.length (.live ((items.take i).filterMap f ++ [y])) = st ++ [.live ((items.take (i + 1)).filterMap f)] := by
        rw [List.set_append_right _ _ (Nat.le_refl _), Nat.sub_self]
        rw [htake, List.filterMap_append, List.filterMap_cons, hy]; rfl
      have hlen : ((items.take i).filterMap f).length ≤ 100000 := Nat.le_trans (List.length_filterMap_le _ _) (by rw [List.length_take]; omega)
      have ap := tcall_append (cx := cx) (d := d) (st := st ++ [Cell.live ((items.take i).filterMap f)]) (n := st.length) (x := y) (Post := fun r st' => r = .d .none ∧ st' = st ++ [.live ((items.take (i + 1)).filterMap f)]) hst₄ hlen ⟨rfl, hset⟩
      refine ap A (ow env (C :: I :: hx)) (al ++ [D]) { s with heap := h₄, toks := tk₄ } (.builtin "list.append") [.ref D, val] [] R a₄.ok rfl (.cons ⟨D, ?_, rfl⟩ (.cons v₄' .nil)) rfl .nil _ _ fun r5 st5 val5 al5 h₅ tk₅ n₅ v₅ p₅ => ?_
      · rw [← len]; simp
      obtain ⟨rfl, rfl⟩ := p₅
      have e₅ : al5 = [] := by
        have := n₅.ok.st.1
        simp only [List.length_append, List.length_singleton] at this
        exact List.eq_nil_of_length_eq_zero (by omega)
      subst e₅
      have a₅ := a₄.next n₅
      rw [List.append_nil] at a₅
      have vwn5 : (vw h₄ (ow env (C :: I :: hx) ++ (al ++ [D]))).StaysIn (vw h₅ (ow env (C :: I :: hx) ++ (al ++ [D]))) := by have := n₅.vw; rwa [List.append_nil] at this
      exact fin h₅ tk₅ a₅ (n_t'.fr.trans (n₄'.fr.trans n₅.fr)) fun b o e => vwn5 b o (vwn b o (vwt b o e))
    · -- what the target's names are
      have gen : ∀ (names : List PySem.Str) (ys : List PyData) (vals : List Value), RdAll (vw h₂ (ow env (C :: I :: hx) ++ (al ++ [D]))) vals ys → (names.zip (ys.map V.d)).lookup nn = some vv → nn ∈ names ∧ ∃ u, (names.zip vals).lookup nn = some u ∧ VRep cx (vw h₂ (ow env (C :: I :: hx) ++ (al ++ [D]))) (al ++ [D]) u vv := by
        intro names
        induction names with
        | nil => intro ys vals _ e; simp at e
        | cons n₀ names ih =>
          intro ys vals hr e
          cases hr with
          | nil => simp at e
          | @cons v₀ vs₀ d₀ ds₀ hv₀ hr₀ =>
            rw [List.map_cons, List.zip_cons_cons, List.lookup_cons] at e
            rw [List.zip_cons_cons, List.lookup_cons]
            cases hy : nn == n₀ with
            | true => rw [hy] at e; cases e; exact ⟨by rw [eq_of_beq hy]; exact .head _, v₀, rfl, hv₀⟩
            | false => rw [hy] at e; obtain ⟨q1, q2⟩ := ih ds₀ vs₀ hr₀ e; exact ⟨.tail _ q1, q2⟩
      obtain ⟨mem, u, q1, q2⟩ := gen names ys vals hr₃ e
      refine ⟨?_, u, hb₃ nn u q1, ?_⟩
      · have := List.all_eq_true.mp hloc nn mem
        simpa [Env.kindOf, compEnvC] using this
      · have := q2.mono (al' := []) u2
        rwa [List.append_nil] at this

theorem nx_newCell {o al : List Addr} {h₁ : Heap} {tk₁ : Nat} {vals : List Value} {ds : List PyData} (ok₁ : Ok cx A o al st h₁ tk₁) (r : RdAll (vw h₁ (o ++ al)) vals ds) :
    Nx cx A o al [h₁.objs.size] (st ++ [.live ds]) h₁ (h₁.push { cls := .type "list", data := .seq vals.toArray }) tk₁ := by
  have len : al.length = st.length := ok₁.st.1
  have fr : ∀ b, b ∈ o ++ al → b ≠ h₁.objs.size := fun b m => Nat.ne_of_lt (ok₁.lt m)
  have hk := stays_push h₁ { cls := .type "list", data := .seq vals.toArray }
  have view : (vw h₁ (o ++ al)).StaysIn (vw (h₁.push { cls := .type "list", data := .seq vals.toArray }) (o ++ (al ++ [h₁.objs.size]))) := vw_mono fun b ob hn eb => ⟨hk b ob eb, fun m => by
    rw [← List.append_assoc] at m
    rcases List.mem_append.mp m with m | m
    · exact hn m
    · rw [List.mem_singleton] at m
      exact absurd (Heap.lt_size eb) (by rw [m]; exact Nat.lt_irrefl _)⟩
  refine ⟨⟨ok₁.stk.stay (.of fun b _ ob eb => hk b ob eb), ok₁.tok, fun b ob eb => view b ob (ok₁.base b ob eb), ?_, fun b hb => let ⟨ob, q1, q2⟩ := ok₁.own b hb; ⟨ob, hk b ob q1, q2⟩, by simp [len], fun i b ys e1 e2 => ?_⟩, .of fun b hb ob eb => hk b ob eb, view⟩
  · rw [← List.append_assoc]
    refine List.nodup_append.mpr ⟨ok₁.nd, by simp, fun x hx' y hy q => ?_⟩
    rw [List.mem_singleton] at hy
    exact fr x hx' (q.trans hy)
  · by_cases hi : i < al.length
    · rw [List.getElem?_append_left hi] at e1
      rw [List.getElem?_append_left (by rw [← len]; exact hi)] at e2
      exact (ok₁.st.2 i b ys e1 e2).mono (fun ob q => hk b ob q) view
    · have hi' : i = al.length := by
        have := (List.getElem?_eq_some_iff.mp e1).1
        rw [List.length_append, List.length_singleton] at this
        omega
      subst hi'
      rw [List.getElem?_append_right (Nat.le_refl _), Nat.sub_self] at e1
      rw [len, List.getElem?_append_right (Nat.le_refl _), Nat.sub_self] at e2
      simp only [List.getElem?_cons_zero, Option.some.injEq] at e1 e2
      subst e1 e2
      exact ⟨_, new_list vals, by rw [List.toList_toArray]; exact r.keeps view⟩

theorem comp_done {hx al : List Addr} {h₀ h h' : Heap} {tk₀ tk : Nat} {C D : Addr} {ys : List PyData} {st₀ : Store} (a0 : At cx A env hx al ρ st₀ h₀ tk₀) (c : CFin cx A env hx al ρ st C D h₀ ys h tk) (sb : Heap.SameBut C h h')
    (len : al.length = st.length) : Nx cx A (ow env hx) al [] st h₀ h' tk ∧ VRep cx (vw h' (ow env hx ++ (al ++ []))) (al ++ []) (.ref D) (.d (.list ys)) ∧ (vw h (ow env (C :: hx) ++ (al ++ [D]))).StaysIn (vw h' (ow env hx ++ al)) := by
  have ndc := List.nodup_append.mp c.at'.ok.nd
  have mC : C ∈ ow env (C :: hx) := .tail _ (List.mem_append.mpr (.inr (.head _)))
  have sub : ∀ b ∈ ow env hx, b ∈ ow env (C :: hx) := by
    intro b hb
    simp only [ow, List.mem_cons, List.mem_append] at hb ⊢
    rcases hb with hb | hb | hb
    · exact .inl hb
    · exact .inr (.inl hb)
    · exact .inr (.inr (.inr hb))
  have nC : ∀ b ∈ ow env hx, b ≠ C := by
    intro b hb q
    subst q
    have nd := ndc.1
    simp only [ow, List.mem_cons, List.mem_append] at hb
    simp only [ow, List.nodup_cons, List.nodup_append, List.mem_append, List.mem_cons] at nd
    rcases hb with hb | hb | hb
    · exact nd.1 (.inr (.inl hb.symm))
    · exact nd.2.2.2 b hb b (.inl rfl) rfl
    · exact nd.2.2.1.1 hb
  have nCa : ∀ b ∈ al ++ [D], b ≠ C := fun b hb q => ndc.2.2 C mC b hb q.symm
  have view : (vw h (ow env (C :: hx) ++ (al ++ [D]))).StaysIn (vw h' (ow env hx ++ al)) := vw_mono fun b ob n e => ⟨(sb.2 b fun q => n (by rw [q]; exact List.mem_append.mpr (.inl mC))).trans e, fun m => n (by
    rcases List.mem_append.mp m with m | m
    · exact List.mem_append.mpr (.inl (sub b m))
    · exact List.mem_append.mpr (.inr (List.mem_append.mpr (.inl m))))⟩
  have viewA : (vw h₀ (ow env hx ++ al)).StaysIn (vw h' (ow env hx ++ al)) := fun b o e => view b o (c.vw b o e)
  have fr : Sl (ow env hx) h₀ h' := c.fr.trans (.of fun b hb o e => (sb.2 b (nC b hb)).trans e)
  refine ⟨⟨?_, fr, by rw [List.append_nil]; exact viewA⟩, ?_, view⟩
  · rw [List.append_nil]
    refine ⟨a0.ok.stk.stay fr, c.at'.ok.tok, fun b o e => viewA b o (a0.ok.base b o e), a0.ok.nd, fun b hb => let ⟨ob, q1, q2⟩ := a0.ok.own b hb; let ⟨ob', e', q⟩ := fr b hb ob q1; ⟨ob', e', fun ⟨vs, n, z⟩ => q2 ⟨vs, n, q.data.symm.trans z⟩⟩, len, fun i b y e1 e2 => ?_⟩
    exact (c.at'.ok.st.2 i b y (getElem?_append_some e1) (getElem?_append_some e2)).mono (fun ob q => (sb.2 b (nCa b (List.mem_append.mpr (.inl (List.mem_of_getElem? e1))))).trans q) view
  · rw [List.append_nil]
    obtain ⟨vs, ⟨ob, l1, l2, n, l3, _⟩, r⟩ : CellOk _ _ _ (.live ys) := c.at'.ok.st.2 al.length D (.live ys) (by simp) (by rw [len]; simp)
    refine .list ⟨ob, vw_get.mpr ⟨(sb.2 D (nCa D (by simp))).trans l1, fun m => ?_⟩, l2, n, l3⟩ (r.keeps view)
    rcases List.mem_append.mp m with m | m
    · exact ndc.2.2 D (sub D m) D (by simp) rfl
    · have := List.nodup_append.mp ndc.2.1
      exact this.2.2 D m D (by simp) rfl
end Mine

-- N11
namespace Mine
open PySem PySem.W PySem.Calls PyProof.Rows

variable {cx : Cx} {d : Nat} {env : Env} {ρ : Vars} {st : Store} {pos : Pos}

structure CompOk (env : Env) (scope : Scope) (cl : List (PySem.Str × Addr)) (rest : List Addr) (ρ fr : Vars) : Prop where
  hclos : closureFor scope env = pure cl
  hkind : scope.kind = .function
  hcell : ∀ y ∈ scope.names, y.2 ≠ .cell
  hnames : ∀ x ∈ scope.names, x.2 = .local → scope.names.lookup x.1 = some .local
  hp : (env.cells.map (·.2)).Perm (cl.map (·.2) ++ rest)
  hcl : ∀ n c, cl.lookup n = some c → env.cells.lookup n = some c
  hfr : ∀ y v, fr.lookup y = some v → ρ.lookup y = some v ∧ (env.kindOf y = some .cell ∨ env.kindOf y = some .free) ∧ ((relabel scope env).names.lookup y = some .cell ∨ (relabel scope env).names.lookup y = some .free) ∧ (cl.lookup y).isSome = true

theorem comp_core {A : Around} {E : Value → Shared → Prop} {hx al : List Addr} {s : Shared} {h₂ : Heap} {I : Addr} {items : List PyData} {f : PyData → Option PyData} {ifs : List Expr} {scope : Scope} {cl : List (PySem.Str × Addr)} {rest : List Addr} {fr : Vars} {target elt iter : Expr} {RR : Value → Addr → Result → Shared → Prop} (R : Room A d)
    (a : At cx A env hx al ρ st s.heap s.toks) (hk₂ : s.heap.StaysIn h₂) (hI : s.heap.objs.size ≤ I) (hIn : ∃ ob, h₂.get? I = some ob ∧ Fld ob) (F : FeedsX cx A I target (vw s.heap (ow env hx ++ al)) (fun b => ∃ (n : Nat) (o : Obj), al[n]? = some b ∧ st[n]? = some (Cell.fixed o)) items h₂)
    (hz : items.length ≤ 100000) (O : CompOk env scope cl rest ρ fr) (each : EachI cx d env scope cl target elt ifs fr items f)
    (k : ∀ C D h' tk', CFin cx A env hx al ρ st C D s.heap (items.filterMap f) h' tk' → RR (.ref D) C (.ok .next) { s with heap := h', toks := tk' }) :
    wpAny (model cx.prog cx.w) A (newList []) (fun acc s₃ => wpAny (model cx.prog cx.w) A (newFunctionEnv scope env.globals cl [] env.qual none .none (some env)) (fun cenv s₄ =>
      codeAny (model cx.prog cx.w) A (.compStart (.ListComp elt [⟨target, iter, ifs, 0⟩] scope pos) 0 (.ref I) acc { cenv with scope := relabel scope env }) (RR acc cenv.locals) s₄) E s₃) E { s with heap := h₂ } := by
  refine wpAny_newObj_type (wpAny_newFunctionEnv O.hcell (by intro y hy; simp at hy) (fun h₄ hns₄ hsb₄ => ?_) O.hkind)
  dsimp only at hns₄ hsb₄ ⊢
  obtain ⟨a₂, v₂⟩ := a.add (Nat.le_refl _) hk₂ hI (let ⟨ob, e, f⟩ := hIn; ⟨ob, e, f.notSeq⟩)
  have n₃ := nx_newCell (vals := []) (ds := []) a₂.ok .nil
  have a₃ := a₂.next n₃
  generalize hH3 : h₂.push { cls := .type "list", dict := none, data := .seq ([] : List Value).toArray } = h₃ at hns₄ hsb₄ n₃ a₃ ⊢
  have k34 : h₃.StaysIn h₄ := fun b o e => (hsb₄.2 b (Nat.ne_of_lt (Heap.lt_size e))).trans (Heap.get?_push_of_some _ e)
  have k23 : h₂.StaysIn h₃ := fun b o e => hH3 ▸ Heap.get?_push_of_some _ e
  have nsC : ∃ ob, h₄.get? h₃.objs.size = some ob ∧ ¬ SeqObj ob := let ⟨ob, es, ep, q1, q2, _⟩ := hns₄; ⟨ob, q1, fun ⟨_, _, q⟩ => by rw [q2] at q; cases q⟩
  obtain ⟨a₄, v₄⟩ := a₃.add (Nat.le_refl _) k34 (Nat.le_refl _) nsC
  have hIx : I ∉ hx := fun m => absurd (a.ok.lt (List.mem_append.mpr (.inl (.tail _ (List.mem_append.mpr (.inr m)))))) (Nat.not_lt.mpr hI)
  have hCx : h₃.objs.size ∉ hx := fun m => absurd (a₃.ok.lt (List.mem_append.mpr (.inl (.tail _ (List.mem_append.mpr (.inr (.tail _ m))))))) (Nat.lt_irrefl _)
  have k04 : s.heap.StaysIn h₄ := fun b o e => k34 b o (k23 b o (hk₂ b o e))
  have cs : CSt cx A env hx al ρ st h₃.objs.size I h₂.objs.size s.heap [] h₄ s.toks :=
    ⟨a₄, ⟨_, hns₄⟩, .of fun b _ o e => k04 b o e, fun b o e => v₄ b o (n₃.vw b o (v₂ b o e)), .of fun b _ o e => k04 b o e⟩
  have F₄ := F.keeps fun b o e => k34 b o (k23 b o e)
  have loop : codeAny (model cx.prog cx.w) A (.compLoop (.ListComp elt [⟨target, iter, ifs, 0⟩] scope pos) 0 (.ref I) (.ref h₂.objs.size) (compEnvC scope cl h₃.objs.size env)) (RR (.ref h₂.objs.size) h₃.objs.size) { s with heap := h₄, toks := s.toks } :=
    comp_loop (s := s) R cs F₄ hIx hCx hz O.hkind O.hp O.hcl (fun y v e => let ⟨q1, q2, q3, q4⟩ := O.hfr y v e; ⟨q1, q2, q3, q4⟩) each fun h' tk' c => k _ _ h' tk' c
  exact codeAny_compStart_list loop (FeedsX.self (s := { s with heap := h₄, toks := s.toks }) F₄ loop)

theorem drop_cell {hx al : List Addr} {h₀ h : Heap} {tk₀ tk : Nat} {C D : Addr} {ys : List PyData} {st₀ : Store} (a0 : At cx A env hx al ρ st₀ h₀ tk₀) (c : CFin cx A env hx al ρ st C D h₀ ys h tk)
    (len : al.length = st.length) : At cx A env (C :: hx) al ρ st h tk ∧ VRep cx (vw h (ow env (C :: hx) ++ al)) al (.ref D) (.d (.list ys)) ∧ (vw h (ow env (C :: hx) ++ (al ++ [D]))).StaysIn (vw h (ow env (C :: hx) ++ al)) := by
  have ndc := List.nodup_append.mp c.at'.ok.nd
  have view : (vw h (ow env (C :: hx) ++ (al ++ [D]))).StaysIn (vw h (ow env (C :: hx) ++ al)) := vw_mono fun b ob n e => ⟨e, fun m => n (by
    rcases List.mem_append.mp m with m | m
    · exact List.mem_append.mpr (.inl m)
    · exact List.mem_append.mpr (.inr (List.mem_append.mpr (.inl m))))⟩
  have viewA : (vw h₀ (ow env hx ++ al)).StaysIn (vw h (ow env (C :: hx) ++ al)) := fun b o e => view b o (c.vw b o e)
  have nda := List.nodup_append.mp ndc.2.1
  obtain ⟨m, cm, hm, hc, hv⟩ := a0.vars
  refine ⟨⟨⟨c.at'.ok.stk, c.at'.ok.tok, fun b o e => view b o (c.at'.ok.base b o e), ?_, c.at'.ok.own, len, fun i b y e1 e2 => ?_⟩, a0.fn, a0.gl, a0.bi, m, cm, (let ⟨o, es, ep, ho, r⟩ := hm; let ⟨o', ho', q⟩ := c.fr _ (.head _) o ho; ⟨o', es, ep, ho', q.data.trans r.1, r.2⟩), fun n cc e => ?_, fun y v e => ?_⟩, ?_, view⟩
  · refine List.nodup_append.mpr ⟨ndc.1, nda.1, fun x hx y hy => ndc.2.2 x hx y (List.mem_append.mpr (.inl hy))⟩
  · exact (c.at'.ok.st.2 i b y (getElem?_append_some e1) (getElem?_append_some e2)).mono (fun ob q => q) view
  · obtain ⟨o, q1, q2⟩ := hc n cc e
    obtain ⟨o', ho', q⟩ := c.fr _ (.tail _ (List.mem_append.mpr (.inl (List.mem_map.mpr ⟨(n, cc), PySem.mem_of_lookup e, rfl⟩)))) _ q1
    exact ⟨o', ho', q.data.trans q2⟩
  · obtain ⟨val, r, q⟩ := hv y v e
    exact ⟨val, by have := r.mono (al' := []) viewA; rwa [List.append_nil] at this, q⟩
  · obtain ⟨vs, ⟨ob, l1, l2, n, l3, _⟩, r⟩ : CellOk _ _ _ (.live ys) := c.at'.ok.st.2 al.length D (.live ys) (by simp) (by rw [len]; simp)
    refine .list ⟨ob, vw_get.mpr ⟨l1, fun m => ?_⟩, l2, n, l3⟩ (r.keeps view)
    rcases List.mem_append.mp m with m | m
    · exact ndc.2.2 D m D (by simp) rfl
    · exact nda.2.2 D m D (by simp) rfl

section
variable {Post : V → Store → Prop} {scope : Scope} {cl : List (PySem.Str × Addr)} {rest : List Addr} {fr : Vars} {target elt iter : Expr}

theorem feeds_new {A : Around} {h g : Heap} {a : Addr} {vs : Array Value} {xs : List PyData} (X : Addr → Prop) (hh : A.handled = none) (hl : h.IsList a vs) (hX : X a ∨ ∃ o, g.get? a = some o) (hr : RdAll g vs.toList xs) :
    FeedsX cx A h.objs.size target g X xs (h.push { cls := .type "list_iterator", data := .fields #[.ref a, .int 0 0] }) := by
  have hlt : a < h.objs.size := let ⟨_, e, _⟩ := hl; Heap.lt_size e
  have hsz : vs.size = xs.length := by rw [← Array.length_toList, hr.length]
  refine ⟨[h.objs.size, a], _, _, hsz ▸ Walks.list hh h.objs.size a (Nat.ne_of_lt hlt) vs, ⟨⟨_, Heap.get?_push_size _ rfl, rfl, rfl⟩, let ⟨o, e, r⟩ := hl; ⟨o, Heap.get?_push_of_some _ e, r⟩⟩, ?_, ?_, ?_, ?_⟩
  · intro b hb
    rcases List.mem_cons.mp hb with q | q
    · exact .inl q
    · obtain rfl := List.mem_singleton.mp q
      rcases hX with q | q
      · exact .inr (.inr q)
      · exact .inr (.inl q)
  · intro i v hi hv
    have hi' : i < xs.length := hi
    obtain ⟨v', e, r⟩ := hr.get (List.getElem?_eq_getElem hi')
    have hv' : vs.toList[i]? = some v := by rw [Array.getElem?_toList]; exact hv
    rw [e] at hv'
    cases hv'
    exact ⟨_, List.getElem?_eq_getElem hi', r⟩
  · rintro i h' ⟨⟨o, e, _, hd⟩, _⟩
    exact ⟨o, e, _, hd⟩
  · intro i v s' Q E hst q
    exact go_list hst.1 q

theorem filterMap_some' {α β : Type} (f : α → β) (xs : List α) : xs.filterMap (fun x => some (f x)) = xs.map f := by
  induction xs with
  | nil => rfl
  | cons x xs ih => rw [List.filterMap_cons, List.map_cons, ih]
theorem te_compI {ifs : List Expr} {f : PyData → Option PyData} (h : te cx d env ρ st iter fun v st₁ => ∃ xs, v = .d (.list xs) ∧ xs.length ≤ 100000 ∧ EachI cx d env scope cl target elt ifs fr xs f ∧ Post (.d (.list (xs.filterMap f))) st₁) (O : CompOk env scope cl rest ρ fr)
    (hs : ∀ x, foldedSetIterable iter env x = pure x := by intro _; rfl) : te cx d env ρ st (.ListComp elt [⟨target, iter, ifs, 0⟩] scope pos) Post := by
  intro A hx al s R a Q E k
  rw [eval_ListComp]
  refine wpAny_comprehension_free (use := none) rfl hs O.hclos O.hkind O.hnames ?_
  show wpAny _ A (eval iter env) _ E s
  refine h A hx al s R a _ E fun v st₁ val al₁ h₁ tk₁ n₁ v₁ p₁ => ?_
  obtain ⟨xs, rfl, hz, each, p⟩ := p₁
  obtain ⟨l, vs, rfl, hl, hr⟩ := rd_list v₁
  refine wpAny_pyIter_list (isList_of_vw hl) ?_
  have a₁ := a.next n₁
  refine comp_core (s := { s with heap := h₁, toks := tk₁ }) (RR := fun acc C => compPost (model cx.prog cx.w) A E none Q acc C) R a₁ (stays_push _ _) (Nat.le_refl _) ⟨_, Heap.get?_push_size _ rfl, _, rfl⟩
    (feeds_new _ R.hd (isList_of_vw hl) (.inr (let ⟨o, e, _⟩ := hl; ⟨o, e⟩)) hr) hz O each fun C D h' tk' c => ?_
  obtain ⟨m, hm⟩ := c.ns
  refine ⟨m, hm, fun h'' sb => ?_⟩
  obtain ⟨nx, vr, _⟩ := comp_done a₁ c sb a₁.ok.st.1
  exact lift_k (A := A) n₁ k (.d (.list (xs.filterMap f))) st₁ (.ref D) [] h'' tk' nx vr p
theorem te_comp {f : PyData → PyData} (h : te cx d env ρ st iter fun v st₁ => ∃ xs, v = .d (.list xs) ∧ xs.length ≤ 100000 ∧ Each cx d env scope cl target elt fr xs f ∧ Post (.d (.list (xs.map f))) st₁) (O : CompOk env scope cl rest ρ fr)
    (hs : ∀ x, foldedSetIterable iter env x = pure x := by intro _; rfl) : te cx d env ρ st (.ListComp elt [⟨target, iter, [], 0⟩] scope pos) Post :=
  te_compI (f := fun x => some (f x)) (fun A hx al s R a Q E k => h A hx al s R a Q E fun r st' val al' h' tk' n v p => k r st' val al' h' tk' n v (let ⟨xs, e, hz, each, q⟩ := p; ⟨xs, e, hz, each.toI, by rw [filterMap_some']; exact q⟩)) O hs

theorem comp_store {A : Around} {hx al : List Addr} {s₁ : Shared} {x : PySem.Str} {v : V} {C : Addr} {val : Value} {st₁ : Store} {m : PySem.Str → Option Value} {p : Pos} {h₀ : Heap} {Q : Unit → Shared → Prop} {E : Value → Shared → Prop}
    (sk : Stk A (ow env hx) h₀) (fr : Sl (ow env hx) h₀ s₁.heap) (aC : At cx A env (C :: hx) al ρ st₁ s₁.heap s₁.toks)
    (vr : VRep cx (vw s₁.heap (ow env (C :: hx) ++ al)) al val v) (hm : s₁.heap.Ns C m) (hk : stores env x = true)
    (k : ∀ h₃ tk₂, Sl hx h₀ h₃ → At cx A env hx al (upd ρ x v) st₁ h₃ tk₂ → (vw s₁.heap (ow env (C :: hx) ++ al)).StaysIn (vw h₃ (ow env hx ++ al)) → Q () { s₁ with heap := h₃, toks := tk₂ }) :
    wpAny (model cx.prog cx.w) A (assign (.Name x p) env val) (fun u s' => ∃ m', s'.heap.Ns C m' ∧ ∀ h'', Heap.SameBut C s'.heap h'' → Q u { s' with heap := h'' }) E s₁ := by
  refine wpAny_assign_Name (store_run aC vr hk fun h₂ tk₂ n₂ => ?_)
  have mC : C ∈ C :: hx := .head _
  obtain ⟨o, es, ep, ho, r⟩ := hm
  obtain ⟨o', ho', q⟩ := n₂.hk C mC o ho
  refine ⟨m, ⟨o', es, ep, ho', q.data.trans r.1, r.2⟩, fun h₃ sb => ?_⟩
  have a₂ := n₂.at'
  have w₂ := n₂.vw
  rw [List.append_nil] at a₂ w₂
  have nCx : C ∉ ow env hx := by
    have := (List.nodup_append.mp aC.ok.nd).1
    have pm : (ow env (C :: hx)).Perm (C :: ow env hx) := by
      simp only [ow]
      refine (List.Perm.cons _ ?_).trans (List.Perm.swap _ _ _)
      exact List.perm_middle
    exact (List.nodup_cons.mp (pm.nodup_iff.mp this)).1
  have hl : Sl hx h₀ h₃ := (fr.sub fun b m => .tail _ (List.mem_append.mpr (.inr m))).trans ((n₂.hk.sub fun b m => .tail _ m).trans (.of fun b hb o e => (sb.2 b (fun q => nCx (q ▸ .tail _ (List.mem_append.mpr (.inr hb))))).trans e))
  have sk' : Stk A (ow env hx) h₃ := by
    obtain ⟨l, e, f⟩ := a₂.ok.stk
    obtain ⟨l', e', f'⟩ := sk
    rw [e] at e'
    cases e'
    refine ⟨l, e, fun env' m' => ?_⟩
    obtain ⟨q, L, hL, hfr, o, ho, dd⟩ := f env' m'
    obtain ⟨_, L', hL', hfr', _⟩ := f' env' m'
    rw [hfr] at hfr'
    cases hfr'
    exact ⟨q, L, hL', hfr, o, (sb.2 L (fun z => nCx (z ▸ hL'))).trans ho, dd⟩
  obtain ⟨a₃, w₃⟩ := a₂.rest0 (Nat.le_refl _) (fun b o hb e => (sb.2 b hb).trans e) sk'
  exact k h₃ tk₂ hl a₃ fun b o e => w₃ b o (w₂ b o e)

theorem ts_assignCompI {Post : Fl → Vars → Store → Prop} {ifs : List Expr} {f : PyData → Option PyData} {x : PySem.Str} {p : Pos} {cpos : Pos} (h : te cx d env ρ st iter fun v st₁ => ∃ xs, v = .d (.list xs) ∧ xs.length ≤ 100000 ∧ EachI cx d env scope cl target elt ifs fr xs f ∧ Post .next (upd ρ x (.d (.list (xs.filterMap f)))) st₁) (O : CompOk env scope cl rest ρ fr)
    (hsw : swapsWith (.ListComp elt [⟨target, iter, ifs, 0⟩] scope cpos) (some (.Name x p)) pos.line env = pure true) (hk : stores env x = true := by rfl)
    (hs : ∀ x, foldedSetIterable iter env x = pure x := by intro _; rfl) : ts cx d env ρ st (.Assign [.Name x p] (.ListComp elt [⟨target, iter, ifs, 0⟩] scope cpos) pos) Post := by
  intro A hx al s Q E R a k
  rw [exec_Assign_Name_used _ _ _ _ hsw]
  refine wpAny_bind (wpAny_standAt (wpAny_bind ?_))
  show wpAny _ A (do let _ ← comprehension (.ListComp elt [⟨target, iter, ifs, 0⟩] scope cpos) scope env _ (newList []) false (eval iter env) (some (assign (.Name x p) env))) _ _ s
  refine wpAny_bind (wpAny_mono (wpAny_comprehension_free (use := some (assign (.Name x p) env)) (Q := fun _ s' => Q .next s') rfl hs O.hclos O.hkind O.hnames ?_) (fun _ s' hq => wpAny_pure (wpAny_pure hq)) fun _ _ e => e)
  refine h A hx al s R a _ E fun v st₁ val al₁ h₁ tk₁ n₁ v₁ p₁ => ?_
  obtain ⟨xs, rfl, hz, each, pp⟩ := p₁
  obtain ⟨l, vs, rfl, hl, hr⟩ := rd_list v₁
  refine wpAny_pyIter_list (isList_of_vw hl) ?_
  have a₁ := a.next n₁
  refine comp_core (s := { s with heap := h₁, toks := tk₁ }) (RR := fun acc C => compPost (model cx.prog cx.w) A E (some (assign (.Name x p) env)) (fun _ s' => Q .next s') acc C) R a₁ (stays_push _ _) (Nat.le_refl _) ⟨_, Heap.get?_push_size _ rfl, _, rfl⟩
    (feeds_new _ R.hd (isList_of_vw hl) (.inr (let ⟨o, e, _⟩ := hl; ⟨o, e⟩)) hr) hz O each fun C D h' tk' c => ?_
  obtain ⟨aC, vr, vD⟩ := drop_cell a₁ c a₁.ok.st.1
  obtain ⟨m, hm⟩ := c.ns
  refine comp_store (s₁ := { s with heap := h', toks := tk' }) (Q := fun _ s' => Q .next s') a₁.ok.stk c.fr aC vr hm hk fun h₃ tk₂ l₃ a₃ w₃ => ?_
  have nx : Nxs cx A env hx (al ++ al₁) [] (upd ρ x (.d (.list (xs.filterMap f)))) st₁ h₁ h₃ tk₂ :=
    ⟨l₃, by rw [List.append_nil]; exact a₃, by rw [List.append_nil]; exact fun b o e => w₃ b o (vD b o (c.vw b o e))⟩
  have nn : Nxs cx A env hx al (al₁ ++ []) (upd ρ x (.d (.list (xs.filterMap f)))) st₁ s.heap h₃ tk₂ := (a.nxs n₁).trans nx
  exact k .next (upd ρ x (.d (.list (xs.filterMap f)))) st₁ .next (al₁ ++ []) h₃ tk₂ nn trivial pp
theorem ts_assignComp {Post : Fl → Vars → Store → Prop} {f : PyData → PyData} {x : PySem.Str} {p : Pos} {cpos : Pos} (h : te cx d env ρ st iter fun v st₁ => ∃ xs, v = .d (.list xs) ∧ xs.length ≤ 100000 ∧ Each cx d env scope cl target elt fr xs f ∧ Post .next (upd ρ x (.d (.list (xs.map f)))) st₁) (O : CompOk env scope cl rest ρ fr)
    (hsw : swapsWith (.ListComp elt [⟨target, iter, [], 0⟩] scope cpos) (some (.Name x p)) pos.line env = pure true) (hk : stores env x = true := by rfl)
    (hs : ∀ x, foldedSetIterable iter env x = pure x := by intro _; rfl) : ts cx d env ρ st (.Assign [.Name x p] (.ListComp elt [⟨target, iter, [], 0⟩] scope cpos) pos) Post :=
  ts_assignCompI (f := fun x => some (f x)) (fun A hx al s R a Q E k => h A hx al s R a Q E fun r st' val al' h' tk' n v p => k r st' val al' h' tk' n v (let ⟨xs, e, hz, each, q⟩ := p; ⟨xs, e, hz, each.toI, by rw [filterMap_some']; exact q⟩)) O hsw hk hs

theorem feeds_newR {A : Around} {h g : Heap} {a b : Int} {x : PySem.Str} {p : Pos} (X : Addr → Prop) (hh : A.handled = none) :
    FeedsX cx A h.objs.size (.Name x p) g X (rngI a b) (h.push { cls := .type "range_iterator", data := .fields #[rawInt a, rawInt (Builtin.Range.rangeSize a b 1), rawInt 1] }) := by
  obtain ⟨fp, P, St, W, st0, hfp, r⟩ := feeds_range (cx := cx) (A := A) (h := h) (g := g) (a := a) (b := b) (x := x) (p := p) hh
  exact ⟨fp, P, St, W, st0, fun c m => (hfp c m).elim .inl fun q => .inr (.inl (q.elim id fun q => nomatch q)), r⟩

theorem ts_assignCompR {Post : Fl → Vars → Store → Prop} {f : PyData → PyData} {x n : PySem.Str} {p np : Pos} {cpos : Pos} (h : te cx d env ρ st iter fun v st₁ => ∃ lo hi, v = .rng lo hi ∧ -(2 ^ 62) ≤ lo ∧ lo < 2 ^ 62 ∧ -(2 ^ 62) ≤ hi ∧ hi < 2 ^ 62 ∧ (rngI lo hi).length ≤ 100000 ∧ Each cx d env scope cl (.Name n np) elt fr (rngI lo hi) f ∧ Post .next (upd ρ x (.c st₁.length)) (st₁ ++ [.live ((rngI lo hi).map f)])) (O : CompOk env scope cl rest ρ fr)
    (hsw : swapsWith (.ListComp elt [⟨.Name n np, iter, [], 0⟩] scope cpos) (some (.Name x p)) pos.line env = pure true) (hk : stores env x = true := by rfl)
    (hs : ∀ x, foldedSetIterable iter env x = pure x := by intro _; rfl) : ts cx d env ρ st (.Assign [.Name x p] (.ListComp elt [⟨.Name n np, iter, [], 0⟩] scope cpos) pos) Post := by
  intro A hx al s Q E R a k
  rw [exec_Assign_Name_used _ _ _ _ hsw]
  refine wpAny_bind (wpAny_standAt (wpAny_bind ?_))
  show wpAny _ A (do let _ ← comprehension (.ListComp elt [⟨.Name n np, iter, [], 0⟩] scope cpos) scope env _ (newList []) false (eval iter env) (some (assign (.Name x p) env))) _ _ s
  refine wpAny_bind (wpAny_mono (wpAny_comprehension_free (use := some (assign (.Name x p) env)) (Q := fun _ s' => Q .next s') rfl hs O.hclos O.hkind O.hnames ?_) (fun _ s' hq => wpAny_pure (wpAny_pure hq)) fun _ _ e => e)
  refine h A hx al s R a _ E fun v st₁ val al₁ h₁ tk₁ n₁ v₁ p₁ => ?_
  obtain ⟨lo, hi, rfl, b1, b2, b3, b4, hz, each, pp⟩ := p₁
  obtain ⟨r, t, u, w, rfl, hr⟩ := v₁
  refine wpAny_pyIter_range (s := { s with heap := h₁, toks := tk₁ }) (vw_get.mp hr).1 (small_one b1 b2 b3 b4) ?_
  have a₁ := a.next n₁
  refine comp_core (s := { s with heap := h₁, toks := tk₁ }) (RR := fun acc C => compPost (model cx.prog cx.w) A E (some (assign (.Name x p) env)) (fun _ s' => Q .next s') acc C) R a₁ (stays_push _ _) (Nat.le_refl _) ⟨_, Heap.get?_push_size _ rfl, _, rfl⟩
    (feeds_newR _ R.hd) hz O each.toI fun C D h' tk' c => ?_
  have hfm : (rngI lo hi).filterMap (fun x => some (f x)) = (rngI lo hi).map f := filterMap_some' f _
  rw [hfm] at c
  obtain ⟨m, hm⟩ := c.ns
  have len := a₁.ok.st.1
  refine comp_store (s₁ := { s with heap := h', toks := tk' }) (v := .c st₁.length) (Q := fun _ s' => Q .next s') a₁.ok.stk c.fr c.at' ⟨D, by rw [← len]; simp, rfl⟩ hm hk fun h₃ tk₂ l₃ a₃ w₃ => ?_
  have nx : Nxs cx A env hx (al ++ al₁) [D] (upd ρ x (.c st₁.length)) (st₁ ++ [.live ((rngI lo hi).map f)]) h₁ h₃ tk₂ :=
    ⟨l₃, a₃, fun b o e => w₃ b o (c.vw b o e)⟩
  have nn : Nxs cx A env hx al (al₁ ++ [D]) (upd ρ x (.c st₁.length)) (st₁ ++ [.live ((rngI lo hi).map f)]) s.heap h₃ tk₂ := (a.nxs n₁).trans nx
  exact k .next _ _ .next (al₁ ++ [D]) h₃ tk₂ nn trivial pp

theorem Ok.setCell {o al : List Addr} {h : Heap} {tk n : Nat} {c : Cell} (ok : Ok cx A o al st h tk) (hc : ∀ a, al[n]? = some a → CellOk (vw h (o ++ al)) h a c) : Ok cx A o al (st.set n c) h tk := by
  refine ⟨ok.stk, ok.tok, ok.base, ok.nd, ok.own, by rw [List.length_set]; exact ok.st.1, fun i a c' e1 e2 => ?_⟩
  by_cases hi : n = i
  · subst hi
    have hl : n < st.length := ok.st.1 ▸ (List.getElem?_eq_some_iff.mp e1).1
    rw [List.getElem?_set_self hl] at e2
    cases e2
    exact hc a e1
  · rw [List.getElem?_set_ne hi] at e2
    exact ok.st.2 i a c' e1 e2
theorem set_back {n : Nat} {c c' : Cell} (e : st[n]? = some c) : (st.set n c').set n c = st := by
  rw [List.set_set]
  exact List.set_getElem_self (List.getElem?_eq_some_iff.mp e).1 |> fun q => by
    have h := (List.getElem?_eq_some_iff.mp e).2
    rw [← h]; exact q

theorem te_compCI {ifs : List Expr} {f : PyData → Option PyData} (h : te cx d env ρ st iter fun v st₁ => ∃ n xs, v = .c n ∧ st₁[n]? = some (.live xs) ∧ xs.length ≤ 100000 ∧ EachI cx d env scope cl target elt ifs fr xs f ∧ Post (.d (.list (xs.filterMap f))) st₁) (O : CompOk env scope cl rest ρ fr)
    (hs : ∀ x, foldedSetIterable iter env x = pure x := by intro _; rfl) : te cx d env ρ st (.ListComp elt [⟨target, iter, ifs, 0⟩] scope pos) Post := by
  intro A hx al s R a Q E k
  rw [eval_ListComp]
  refine wpAny_comprehension_free (use := none) rfl hs O.hclos O.hkind O.hnames ?_
  show wpAny _ A (eval iter env) _ E s
  refine h A hx al s R a _ E fun v st₁ val al₁ h₁ tk₁ n₁ v₁ p₁ => ?_
  obtain ⟨n, xs, rfl, est, hz, each, p⟩ := p₁
  obtain ⟨l, vs, kk, ea, rfl, ho, hr⟩ := n₁.ok.cellX v₁ est
  have hl : h₁.IsList l vs := ⟨_, ho, rfl, kk, rfl⟩
  refine wpAny_pyIter_list hl ?_
  have a₁ := a.next n₁
  have aF : At cx A env hx (al ++ al₁) ρ (st₁.set n (.fixed _)) h₁ tk₁ := ⟨n₁.ok.setCell fun b eb => by rw [ea] at eb; cases eb; exact ho, a₁.fn, a₁.gl, a₁.bi, a₁.vars⟩
  have lst : n < st₁.length := (List.getElem?_eq_some_iff.mp est).1
  refine comp_core (s := { s with heap := h₁, toks := tk₁ }) (RR := fun acc C => compPost (model cx.prog cx.w) A E none Q acc C) R aF (stays_push _ _) (Nat.le_refl _) ⟨_, Heap.get?_push_size _ rfl, _, rfl⟩
    (feeds_new _ R.hd hl (.inl ⟨n, _, ea, List.getElem?_set_self lst⟩) hr) hz O each fun C D h' tk' c => ?_
  obtain ⟨m, hm⟩ := c.ns
  refine ⟨m, hm, fun h'' sb => ?_⟩
  obtain ⟨nx, vr, vw'⟩ := comp_done aF c sb aF.ok.st.1
  have view := nx.vw
  have okf := nx.ok
  have hx' : h''.get? l = some _ := okf.st.2 n l (.fixed _) (getElem?_append_some ea) (List.getElem?_set_self lst)
  have nx' : Nx cx A (ow env hx) (al ++ al₁) [] st₁ h₁ h'' tk' := by
    refine ⟨?_, nx.fr, nx.vw⟩
    have := okf.setCell (n := n) (c := .live xs) fun b eb => by
      rw [List.append_nil, ea] at eb
      cases eb
      exact ⟨vs, ⟨_, hx', rfl, kk, rfl, rfl, rfl⟩, hr.keeps view⟩
    rwa [set_back est] at this
  exact lift_k (A := A) n₁ k (.d (.list (xs.filterMap f))) st₁ (.ref D) [] h'' tk' nx' vr p
theorem te_compC {f : PyData → PyData} (h : te cx d env ρ st iter fun v st₁ => ∃ n xs, v = .c n ∧ st₁[n]? = some (.live xs) ∧ xs.length ≤ 100000 ∧ Each cx d env scope cl target elt fr xs f ∧ Post (.d (.list (xs.map f))) st₁) (O : CompOk env scope cl rest ρ fr)
    (hs : ∀ x, foldedSetIterable iter env x = pure x := by intro _; rfl) : te cx d env ρ st (.ListComp elt [⟨target, iter, [], 0⟩] scope pos) Post :=
  te_compCI (f := fun x => some (f x)) (fun A hx al s R a Q E k => h A hx al s R a Q E fun r st' val al' h' tk' n v p => k r st' val al' h' tk' n v (let ⟨m, xs, e, e2, hz, each, q⟩ := p; ⟨m, xs, e, e2, hz, each.toI, by rw [filterMap_some']; exact q⟩)) O hs
end
end Mine

-- N12
namespace Mine
open PySem PySem.W PySem.Calls PyProof.Rows

variable {cx : Cx} {d : Nat} {env : Env} {ρ : Vars} {st : Store} {pos : Pos} {Post : V → Store → Prop}

set_option maxHeartbeats 8000000 in
theorem meets_fmt (k v : PySem.Str) (t u w : Tok) (b : Addr) (hk : k.length ≤ 1000000) (hv : v.length ≤ 1000000) :
    Meets (Builtin.«str.__mod__» ⟨[.str ⟨#[37, 115, 58, 32, 37, 115]⟩ t, .ref b], []⟩) (fun _ R s => IsTup s.heap b #[.str k u, .str v w] ∧ ∀ t' k', R (.ok (.ret (.str (k ++ (": " : PySem.Str) ++ v) t'))) { s with toks := k' }) := by
  kpt_run
theorem tbin_fmt {x k v : PySem.Str} (hx : x = ⟨#[37, 115, 58, 32, 37, 115]⟩) (hk : k.length ≤ 1000000) (hv : v.length ≤ 1000000) (h : Post (.d (.str (k ++ (": " : PySem.Str) ++ v))) st) : tbin cx d .Mod (.d (.str x)) (.d (.tuple [.str k, .str v])) st Post := by
  subst hx
  intro A o al s va vb R ok v1 v2
  obtain ⟨t, rfl⟩ := rd_str v1
  obtain ⟨b, vs, rfl, ht, hr⟩ := rd_tuple v2
  obtain ⟨ws⟩ := vs
  cases hr with | cons h1 hr => cases hr with | cons h2 hr =>
    cases hr
    obtain ⟨u, rfl⟩ := rd_str h1
    obtain ⟨w, rfl⟩ := rd_str h2
    have ht' := isTup_of_vw ht
    refine Op.ofVal ok fun Q E kk => KPt.bin_left (T := "str") (U := "tuple") (op := .Mod) (by decide) (typeIs_str s _ t) ht'.typeIs F.fills_str_mod KPt.fills_tuple F.slot_str_mod
      (call_meets F.slot_str_mod (typeIs_str s _ t) F.entry_str_mod (F.args_str_mod_2 _ _) (meets_fmt k v t u w b hk hv) ⟨ht', fun t' k' => ⟨(fun e => nomatch e), kk _ s.heap k' (.d (.str _)) (fun _ _ e => e) (.str _ _) h⟩⟩)

theorem preSum_list (xs : Array (Int × Tok)) : preSum (numAt xs) xs.size = (xs.toList.map (·.1)).sum := by
  have key : ∀ (n : Nat), n ≤ xs.size → preSum (numAt xs) n = ((xs.toList.map (·.1)).take n).sum := by
    intro n
    induction n with
    | zero => intro _; simp [preSum]
    | succ n ih =>
      intro hn
      have hn' : n < xs.size := by omega
      show preSum (numAt xs) n + numAt xs n = _
      rw [ih (by omega), List.take_add_one, List.sum_append]
      congr 1
      simp [numAt, hn']
  rw [key _ (Nat.le_refl _), List.take_of_length_le (by simp)]
theorem rd_ints {g : Heap} : ∀ {vs : List Value} {ns : List Int}, RdAll g vs (ns.map .int) → ∃ l : List (Int × Tok), vs = l.map (fun p => .int p.1 p.2) ∧ l.map (·.1) = ns
  | [], [], _ => ⟨[], rfl, rfl⟩
  | v :: vs, n :: ns, h => by
    cases h with
    | cons h r =>
      obtain ⟨u, rfl⟩ := rd_int h
      obtain ⟨l, rfl, e⟩ := rd_ints r
      exact ⟨(n, u) :: l, rfl, by rw [List.map_cons, e]⟩
  | [], _ :: _, h => by cases h
  | _ :: _, [], h => by cases h
theorem tcall_sum {ns : List Int} (h : Post (.d (.int ns.sum)) st) : tcall cx d (.ext (.builtin "sum")) [.d (.list (ns.map .int))] [] st Post := tcall_bi fun A o al s vs R ok hv => by
  obtain ⟨_, rfl, v1⟩ := va1 hv
  obtain ⟨a, ws, rfl, hl, hr⟩ := rd_list v1
  obtain ⟨l, e1, e2⟩ := rd_ints hr
  have hl' : s.heap.IsList a (intItems l.toArray) := by
    have : intItems l.toArray = ws := by
      apply Array.toList_inj.mp
      rw [e1]; simp [intItems]
    rw [this]; exact isList_of_vw hl
  refine Op.ofVal ok fun Q E k => sum_intListG R.hd hl' fun h' tk t' hk => ?_
  have e : preSum (numAt l.toArray) l.toArray.size = ns.sum := by rw [preSum_list, List.toList_toArray, e2]
  rw [e]
  exact k _ h' tk (.d (.int ns.sum)) hk (.int _ _) h
end Mine

-- S0
namespace Mine
open PySem PySem.Sre

noncomputable def code1 : Array Nat := #[14, 4, 0, 1, 1, 6, 1, 16, 46, 1]
noncomputable def code2 : Array Nat := #[14, 9, 4, 1, 2, 16, 10, 16, 13, 0, 7, 7, 16, 13, 16, 10, 15, 18, 5, 16, 10, 15, 13, 11, 16, 13, 5, 5, 0, 16, 10, 1, 15, 2, 0, 1]
noncomputable def code3 : Array Nat := #[14, 10, 4, 1, 1, 22, 0, 31, 16, 127, 0, 13, 7, 22, 0, 31, 16, 127, 0, 1]
noncomputable def code4 : Array Nat := #[14, 14, 4, 1, 1, 9, 4294966783, 0, 0, 2147483648, 0, 0, 0, 0, 0, 13, 11, 9, 4294966783, 0, 0, 2147483648, 0, 0, 0, 0, 0, 1]

noncomputable def steps : Nat → M → M
  | 0, m => m
  | n + 1, m => steps n m.step
theorem step_fix {m : M} (h : m.outcome.isSome = true) : m.step = m := by unfold M.step; rw [if_pos h]
theorem steps_fix {m : M} (h : m.outcome.isSome = true) : ∀ n, steps n m = m
  | 0 => rfl
  | n + 1 => by unfold steps; rw [step_fix h, steps_fix h n]
theorem runFor_steps : ∀ (n : Nat) (m : M), M.runFor n m = steps n m
  | 0, _ => rfl
  | n + 1, m => by
    unfold M.runFor steps
    split
    · rename_i h; rw [step_fix h, steps_fix h]
    · exact runFor_steps n _
theorem steps_add (a b : Nat) : ∀ m : M, steps (a + b) m = steps b (steps a m) := by
  induction a with
  | zero => intro m; rw [Nat.zero_add]; rfl
  | succ a ih => intro m; rw [Nat.succ_add]; exact ih m.step

theorem steps1 (m : M) : steps 1 m = m.step := rfl
theorem steps2 (m : M) : steps 2 m = m.step.step := rfl

noncomputable def St (code text : Array Nat) (b lim s : Nat) (first must : Bool) (seen : Seen) : M :=
  { code, text, lim, start := s, lastStart := lim, mustAdvance := must, pc := b, pos := s, handed := s, outermost := first, marks := #[],
    frames := [{ wait := .nextStart, pc := b, pos := s, outermost := first }], weight := 1, seen }

noncomputable def Hit (m : M) (n s e : Nat) : Prop := (steps n m).outcome = some .matched ∧ (steps n m).start = s ∧ (steps n m).handed = e
noncomputable def Miss (m : M) (n : Nat) : Prop := (steps n m).outcome = some .failed

theorem Hit.more {m : M} {n s e : Nat} (a : Nat) {m' : M} (e1 : steps a m = m') (h : Hit m' n s e) : Hit m (a + n) s e := by
  unfold Hit; rw [steps_add, e1]; exact h
theorem Miss.more {m : M} {n : Nat} (a : Nat) {m' : M} (e1 : steps a m = m') (h : Miss m' n) : Miss m (a + n) := by
  unfold Miss; rw [steps_add, e1]; exact h

theorem forSearch1 (text : Array Nat) (p lim : Nat) (h : p < lim) : forSearch code1 text 0 p lim false = St code1 text 5 lim p true false (({} : Seen).add 14) := by
  unfold forSearch
  have h1 : ¬ (p > lim ∨ lim - p < 1) := by omega
  have e : header code1 = (1, 5) := rfl
  simp only [e]
  have h2 : (decide (p > lim) || decide (lim - p < 1)) = false := by simp; omega
  rw [h2]
  rfl
theorem forSearch1_end (text : Array Nat) (p lim : Nat) (h : lim ≤ p) : Miss (forSearch code1 text 0 p lim false) 1 := by
  unfold forSearch
  have e : header code1 = (1, 5) := rfl
  simp only [e]
  have h2 : (decide (p > lim) || decide (lim - p < 1)) = true := by simp; omega
  rw [h2]
  rfl

noncomputable def atLine (text : Array Nat) (s : Nat) : Bool := s == 0 || text.getD (s - 1) 0 == 10

theorem step_go {m : M} (ho : m.outcome = none) (ha : m.answer = none) (hp : m.pc < m.code.size) : m.step = m.exec := by
  unfold M.step
  rw [ho, ha, if_pos hp]
  rfl
theorem exec_AT {m : M} {yes : Bool} (hop : ops[m.word 0]? = some .AT) (hi : ({ m with seen := m.seen.add (m.word 0) } : M).isAt (m.word 1) = .ok yes) :
    m.exec = if yes then { m with seen := (m.seen.add (m.word 0)).add (43 + m.word 1), pc := m.pc + 2 } else ({ m with seen := (m.seen.add (m.word 0)).add (43 + m.word 1) } : M).say false := by
  unfold M.exec
  rw [hop]
  simp only
  have e : ({ m with seen := m.seen.add (m.word 0) } : M).word 1 = m.word 1 := rfl
  rw [e, hi]
theorem exec_LIT {m : M} (hop : ops[m.word 0]? = some .LITERAL) :
    m.exec = if m.pos < m.lim ∧ m.text.getD m.pos 0 = m.word 1 then { m with seen := m.seen.add (m.word 0), pc := m.pc + 2, pos := m.pos + 1 } else ({ m with seen := m.seen.add (m.word 0) } : M).say false := by
  have acc : ∀ c sn, accepts m.code m.pc c sn = .ok (c == m.word 1, sn) := by
    intro c sn
    unfold accepts
    have e : m.code.getD m.pc 0 = m.word 0 := rfl
    rw [e, hop]
    rfl
  have wid : itemWidth m.code m.pc = 2 := by
    unfold itemWidth
    have e : m.code.getD m.pc 0 = m.word 0 := rfl
    rw [e, hop]
  unfold M.exec
  rw [hop]
  simp only [acc, wid]
  by_cases h1 : m.pos < m.lim
  · rw [if_neg (by omega)]
    by_cases h2 : m.text.getD m.pos 0 = m.word 1
    · rw [if_pos ⟨h1, h2⟩, h2, beq_self_eq_true]
    · have : (m.text.getD m.pos 0 == m.word 1) = false := by rw [beq_eq_false_iff_ne]; exact h2
      rw [if_neg (fun h => h2 h.2), this]
  · rw [if_pos (by omega), if_neg (fun h => h1 h.1)]
theorem exec_OK {m : M} (hop : ops[m.word 0]? = some .SUCCESS) (hw : m.wholeText = false) (hm : m.mustAdvance = false) : m.exec = { m with seen := m.seen.add (m.word 0), handed := m.pos, answer := some true } := by
  unfold M.exec
  rw [hop]
  simp only [hw, hm, Bool.false_and, Bool.and_false, Bool.or_self]
  rfl
theorem exec_JUMP {m : M} (hop : ops[m.word 0]? = some .JUMP) : m.exec = { m with seen := m.seen.add (m.word 0), pc := m.pc + 1 + m.word 1 } := by
  unfold M.exec
  rw [hop]
  rfl
theorem exec_BRANCH {m : M} (hop : ops[m.word 0]? = some .BRANCH) (hn : m.inner = none) : m.exec = ({ m with seen := m.seen.add (m.word 0) } : M).alternative (m.pc + 1) { lastmark := m.lastmark, lastindex := m.lastindex } := by
  unfold M.exec
  rw [hop]
  simp only [hn]
  rfl
theorem exec_NOT {m : M} (hop : ops[m.word 0]? = some .ASSERT_NOT) (hn : m.inner = none) (h2 : m.word 2 = 0) :
    m.exec = ({ m with seen := m.seen.add (m.word 0) } : M).attempt { ({ m with seen := m.seen.add (m.word 0) } : M).frame .lookNot with kept := { lastmark := m.lastmark, lastindex := m.lastindex } } (m.pc + 3) m.pos false := by
  unfold M.exec
  rw [hop]
  show (if m.pos < m.word 2 then _ else ({ m with seen := m.seen.add (m.word 0) } : M).attempt { ({ m with seen := m.seen.add (m.word 0) } : M).frame .lookNot with kept := ({ m with seen := m.seen.add (m.word 0) } : M).keep (true && m.inner.isSome) } (m.pc + 3) (m.pos - m.word 2) false) = _
  rw [h2, if_neg (Nat.not_lt_zero _), hn]
  rfl

theorem hit1 (text : Array Nat) (lim s : Nat) (first : Bool) (seen : Seen) (h : s < lim) (hl : atLine text s = true) (hc : text.getD s 0 = 46) : Hit (St code1 text 5 lim s first false seen) 5 s (s + 1) := by
  show Hit _ (1 + (1 + (1 + 2))) _ _
  refine Hit.more (m' := { St code1 text 5 lim s first false seen with pc := 7, seen := (seen.add 6).add 44 }) 1 ?_ ?_
  · rw [steps1, step_go rfl rfl (by decide : 5 < code1.size), exec_AT (yes := true) rfl (by show Except.ok (atLine text s) = _; rw [hl])]
    rfl
  refine Hit.more (m' := { St code1 text 5 lim s first false seen with pc := 9, pos := s + 1, seen := ((seen.add 6).add 44).add 16 }) 1 ?_ ?_
  · rw [steps1, step_go rfl rfl (by decide : 7 < code1.size), exec_LIT rfl, if_pos ⟨h, hc⟩]
    rfl
  refine Hit.more (m' := { St code1 text 5 lim s first false seen with pc := 9, pos := s + 1, seen := (((seen.add 6).add 44).add 16).add 1, handed := s + 1, answer := some true }) 1 ?_ ?_
  · rw [steps1, step_go rfl rfl (by decide : 9 < code1.size), exec_OK rfl rfl rfl]
    rfl
  exact ⟨rfl, rfl, rfl⟩

theorem next1 {text : Array Nat} {lim s p : Nat} {first : Bool} {seen : Seen} (h : s < lim) : ({ St code1 text 5 lim s first false seen with pc := p, answer := some false } : M).step = St code1 text 5 lim (s + 1) false false seen := by
  show (if s < lim then _ else _) = _
  rw [if_pos h]
  rfl
theorem last1 {text : Array Nat} {lim s p : Nat} {first : Bool} {seen : Seen} (h : lim ≤ s) : Miss { St code1 text 5 lim s first false seen with pc := p, answer := some false } 2 := by
  show (steps 1 (if s < lim then _ else _)).outcome = _
  rw [if_neg (by omega)]
  rfl
noncomputable def fit1 (text : Array Nat) (s : Nat) : Bool := atLine text s && text.getD s 0 == 46
theorem fail1 (text : Array Nat) (lim s : Nat) (first : Bool) (seen : Seen) (h : s < lim → fit1 text s = false) :
    ∃ n p sn, n ≤ 2 ∧ steps n (St code1 text 5 lim s first false seen) = { St code1 text 5 lim s first false sn with pc := p, answer := some false } := by
  cases hl : atLine text s with
  | false =>
    refine ⟨1, 5, (seen.add 6).add 44, by omega, ?_⟩
    rw [steps1, step_go rfl rfl (by decide : 5 < code1.size), exec_AT (yes := false) rfl (by show Except.ok (atLine text s) = _; rw [hl])]
    rfl
  | true =>
    refine ⟨2, 7, ((seen.add 6).add 44).add 16, by omega, ?_⟩
    rw [steps2, step_go (m := St code1 text 5 lim s first false seen) rfl rfl (by decide : 5 < code1.size), exec_AT (yes := true) rfl (by show Except.ok (atLine text s) = _; rw [hl])]
    rw [if_pos rfl, step_go rfl rfl (by decide : 7 < code1.size), exec_LIT rfl, if_neg (fun hh => ?_)]
    · rfl
    · have h1 := h hh.1
      unfold fit1 at h1
      rw [hl, show text.getD s 0 = 46 from hh.2] at h1
      cases h1
theorem run1 (text : Array Nat) (lim : Nat) : ∀ (k s : Nat) (first : Bool) (seen : Seen), s + k < lim → (∀ i, s ≤ i → i < s + k → fit1 text i = false) → fit1 text (s + k) = true →
    ∃ n, n ≤ 3 * k + 5 ∧ Hit (St code1 text 5 lim s first false seen) n (s + k) (s + k + 1)
  | 0, s, first, seen, h, _, hf => by
    simp only [fit1, Nat.add_zero, Bool.and_eq_true, beq_iff_eq] at hf
    exact ⟨5, by omega, hit1 text lim s first seen h hf.1 hf.2⟩
  | k + 1, s, first, seen, h, hm, hf => by
    obtain ⟨n, p, sn, hn, e⟩ := fail1 text lim s first seen (fun _ => hm s (Nat.le_refl _) (by omega))
    obtain ⟨n', hn', hit⟩ := run1 text lim k (s + 1) false sn (by omega) (fun i h1 h2 => hm i (by omega) (by omega)) (by rw [show s + 1 + k = s + (k + 1) by omega]; exact hf)
    refine ⟨n + (1 + n'), by omega, Hit.more n e (Hit.more 1 (next1 (by omega)) ?_)⟩
    rw [show s + (k + 1) = s + 1 + k by omega]
    exact hit
theorem miss1 (text : Array Nat) (lim : Nat) : ∀ (k s : Nat) (first : Bool) (seen : Seen), s + k = lim → (∀ i, s ≤ i → i < lim → fit1 text i = false) →
    ∃ n, n ≤ 3 * k + 4 ∧ Miss (St code1 text 5 lim s first false seen) n
  | 0, s, first, seen, h, hm => by
    obtain ⟨n, p, sn, hn, e⟩ := fail1 text lim s first seen (fun hh => absurd hh (by omega))
    exact ⟨n + 2, by omega, Miss.more n e (last1 (by omega))⟩
  | k + 1, s, first, seen, h, hm => by
    obtain ⟨n, p, sn, hn, e⟩ := fail1 text lim s first seen (fun _ => hm s (Nat.le_refl _) (by omega))
    obtain ⟨n', hn', hit⟩ := miss1 text lim k (s + 1) false sn (by omega) (fun i h1 h2 => hm i (by omega) h2)
    exact ⟨n + (1 + n'), by omega, Miss.more n e (Miss.more 1 (next1 (by omega)) hit)⟩

theorem search1_hit {text : Array Nat} {lim p j : Nat} (h1 : p ≤ j) (h2 : j < lim) (hm : ∀ i, p ≤ i → i < j → fit1 text i = false) (hf : fit1 text j = true) :
    ∃ n, n ≤ 3 * lim + 9 ∧ Hit (forSearch code1 text 0 p lim false) n j (j + 1) := by
  obtain ⟨n, hn, h⟩ := run1 text lim (j - p) p true (({} : Seen).add 14) (by omega) (fun i a b => hm i a (by omega)) (by rw [show p + (j - p) = j by omega]; exact hf)
  rw [show p + (j - p) = j by omega] at h
  exact ⟨n, by omega, by rw [forSearch1 text p lim (by omega)]; exact h⟩
theorem search1_miss {text : Array Nat} {lim p : Nat} (hm : ∀ i, p ≤ i → i < lim → fit1 text i = false) : ∃ n, n ≤ 3 * lim + 9 ∧ Miss (forSearch code1 text 0 p lim false) n := by
  by_cases h : p < lim
  · obtain ⟨n, hn, h'⟩ := miss1 text lim (lim - p) p true (({} : Seen).add 14) (by omega) hm
    exact ⟨n, by omega, by rw [forSearch1 text p lim h]; exact h'⟩
  · exact ⟨1, by omega, forSearch1_end text p lim (by omega)⟩

theorem admitted_some {m : M} {P : Nat → Bool} (hP : ∀ c seen, ∃ sn, inSet m.code c m.code.size 5 true seen = .ok (P c, sn)) : ∀ (k fuel s : Nat) (seen : Seen), k < fuel → s + k < m.lim →
    (∀ i, s ≤ i → i < s + k → P (m.text.getD i 0) = false) → P (m.text.getD (s + k) 0) = true → ∃ sn, M.admitted m fuel s seen = .ok (some (s + k), sn)
  | k, 0, s, seen, hf, _, _, _ => absurd hf (Nat.not_lt_zero _)
  | 0, fuel + 1, s, seen, _, h, _, hp => by
    obtain ⟨sn, e⟩ := hP (m.text.getD s 0) seen
    refine ⟨sn, ?_⟩
    unfold M.admitted
    rw [if_neg (by omega), e, show P (m.text.getD s 0) = true from hp]
    rfl
  | k + 1, fuel + 1, s, seen, hf, h, hm, hp => by
    obtain ⟨sn, e⟩ := hP (m.text.getD s 0) seen
    obtain ⟨sn', e'⟩ := admitted_some hP k fuel (s + 1) sn (by omega) (by omega) (fun i a b => hm i (by omega) (by omega)) (by rw [show s + 1 + k = s + (k + 1) by omega]; exact hp)
    refine ⟨sn', ?_⟩
    unfold M.admitted
    rw [if_neg (by omega), e, hm s (Nat.le_refl _) (by omega)]
    show M.admitted m fuel (s + 1) sn = _
    rw [e', show s + 1 + k = s + (k + 1) by omega]
theorem admitted_none {m : M} {P : Nat → Bool} (hP : ∀ c seen, ∃ sn, inSet m.code c m.code.size 5 true seen = .ok (P c, sn)) : ∀ (fuel s : Nat) (seen : Seen),
    (∀ i, s ≤ i → i < m.lim → P (m.text.getD i 0) = false) → ∃ sn, M.admitted m fuel s seen = .ok (none, sn)
  | 0, s, seen, _ => ⟨seen, rfl⟩
  | fuel + 1, s, seen, hm => by
    unfold M.admitted
    by_cases h : s ≥ m.lim
    · rw [if_pos h]; exact ⟨_, rfl⟩
    · obtain ⟨sn, e⟩ := hP (m.text.getD s 0) seen
      obtain ⟨sn', e'⟩ := admitted_none hP fuel (s + 1) sn (fun i a b => hm i (by omega) b)
      rw [if_neg h, e, hm s (Nat.le_refl _) (by omega)]
      exact ⟨sn', e'⟩

theorem attemptFrom_none {m : M} {s : Nat} {P : Nat → Bool} (hP : ∀ c seen, ∃ sn, inSet m.code c m.code.size 5 true seen = .ok (P c, sn)) (hf : m.hasFirstSet = true)
    (hm : ∀ i, s ≤ i → i < m.lim → P (m.text.getD i 0) = false) (b : Bool) : ∃ sn, m.attemptFrom s b = ({ m with seen := sn } : M).say false := by
  obtain ⟨sn, ea⟩ := admitted_none hP (m.lim + 1 - s) s m.seen hm
  refine ⟨sn, ?_⟩
  unfold M.attemptFrom
  rw [hf, ea]
  rfl
theorem attemptFrom_some {m : M} {s j : Nat} {P : Nat → Bool} (hP : ∀ c seen, ∃ sn, inSet m.code c m.code.size 5 true seen = .ok (P c, sn)) (hf : m.hasFirstSet = true)
    (h1 : s ≤ j) (h2 : j < m.lim) (hm : ∀ i, s ≤ i → i < j → P (m.text.getD i 0) = false) (hp : P (m.text.getD j 0) = true) (b : Bool) : ∃ sn, m.attemptFrom s b = ({ m with mustAdvance := false, seen := sn } : M).attemptAt j b := by
  obtain ⟨sn, ea⟩ := admitted_some hP (j - s) (m.lim + 1 - s) s m.seen (by omega) (by omega) (fun i a b => hm i a (by omega)) (by rw [show s + (j - s) = j by omega]; exact hp)
  rw [show s + (j - s) = j by omega] at ea
  refine ⟨sn, ?_⟩
  unfold M.attemptFrom
  rw [hf, ea]
  rfl
theorem forSearch_eq {code text : Array Nat} {p lim b : Nat} (hh : header code = (1, b)) (hb : b ≠ 0) (h : p < lim) :
    forSearch code text 0 p lim false = ({ code, text, lim, start := p, lastStart := lim, pc := b, pos := p, handed := p, marks := #[], seen := ({} : Seen).add 14 } : M).attemptFrom p true := by
  unfold forSearch
  simp only [hh]
  have h2 : (decide (p > lim) || decide (lim - p < 1)) = false := by simp; omega
  rw [h2]
  have hb' : (b == 0) = false := by rw [beq_eq_false_iff_ne]; exact hb
  show ({ code := code, text := text, lim := lim, start := p, pc := (header code).2, pos := p, handed := p, marks := Array.replicate (2 * 0) none, mustAdvance := false, seen := if ((header code).2 == 0) = true then {} else ({} : Seen).add 14, lastStart := lim } : M).attemptFrom p true = _
  rw [hh]
  simp only [hb', Bool.false_eq_true, if_false]
  rfl
theorem forSearch_end {code text : Array Nat} {p lim b : Nat} (hh : header code = (1, b)) (h : lim ≤ p) : Miss (forSearch code text 0 p lim false) 1 := by
  unfold forSearch
  simp only [hh]
  have h2 : (decide (p > lim) || decide (lim - p < 1)) = true := by simp; omega
  rw [h2]
  rfl
theorem search_none {code text : Array Nat} {p lim b : Nat} {P : Nat → Bool} (hP : ∀ c seen, ∃ sn, inSet code c code.size 5 true seen = .ok (P c, sn)) (hh : header code = (1, b)) (hb : b ≠ 0)
    (hf : ((match ops[code.getD 0 0]? with | some .INFO => true | _ => false) && code.getD 2 0 == 4) = true) (hm : ∀ i, p ≤ i → i < lim → P (text.getD i 0) = false) : Miss (forSearch code text 0 p lim false) 1 := by
  by_cases h : p < lim
  · rw [forSearch_eq hh hb h]
    obtain ⟨sn, e⟩ := attemptFrom_none (m := ({ code, text, lim, start := p, lastStart := lim, pc := b, pos := p, handed := p, marks := #[], seen := ({} : Seen).add 14 } : M)) (s := p) hP hf hm true
    rw [e]
    rfl
  · exact forSearch_end hh (by omega)

noncomputable def isEol (c : Nat) : Bool := c == 10 || c == 13
theorem inSet2 (c : Nat) (seen : Seen) : ∃ sn, inSet code2 c code2.size 5 true seen = .ok (isEol c, sn) := by
  unfold isEol
  show ∃ sn, (if (c == 10) = true then Except.ok (true, _) else if (c == 13) = true then Except.ok (true, _) else Except.ok (false, _)) = Except.ok (c == 10 || c == 13, sn)
  cases h1 : c == 10 with
  | true => exact ⟨_, rfl⟩
  | false =>
    cases h2 : c == 13 with
    | true => exact ⟨_, rfl⟩
    | false => exact ⟨_, rfl⟩

noncomputable def eolEnd (text : Array Nat) (lim s : Nat) : Nat := if text.getD s 0 = 13 ∧ s + 1 < lim ∧ text.getD (s + 1) 0 = 10 then s + 2 else s + 1
noncomputable def Br (text : Array Nat) (lim s alt : Nat) (first : Bool) (seen : Seen) : M :=
  { St code2 text 10 lim s first false seen with pc := alt + 1, frames := [{ wait := .nextBranch, pc := alt, pos := s, outermost := first }, { wait := .nextStart, pc := 10, pos := s, outermost := first }], weight := 2 }
theorem br0 (text : Array Nat) (lim s : Nat) (first : Bool) (seen : Seen) : steps 1 (St code2 text 10 lim s first false seen) = Br text lim s 11 first (seen.add 7) := by
  rw [steps1, step_go rfl rfl (by decide : 10 < code2.size), exec_BRANCH rfl rfl]
  rfl
theorem br1 {text : Array Nat} {lim s p q : Nat} {first : Bool} {seen : Seen} : steps 1 { Br text lim s 11 first seen with pc := p, pos := q, answer := some false } = Br text lim s 18 first seen := rfl
theorem br2 {text : Array Nat} {lim s p q : Nat} {first : Bool} {seen : Seen} : steps 1 { Br text lim s 18 first seen with pc := p, pos := q, answer := some false } = Br text lim s 23 first seen := rfl
theorem brOk {text : Array Nat} {lim s e alt : Nat} {first : Bool} {seen : Seen} : Hit { Br text lim s alt first seen with pc := 35, pos := e } 4 s e := by
  show Hit _ (1 + 3) _ _
  refine Hit.more (m' := { Br text lim s alt first (seen.add 1) with pc := 35, pos := e, handed := e, answer := some true }) 1 ?_ ?_
  · rw [steps1, step_go rfl rfl (by decide : 35 < code2.size), exec_OK rfl rfl rfl]
    rfl
  exact ⟨rfl, rfl, rfl⟩
theorem br_lit {text : Array Nat} {lim s alt p q c : Nat} {first : Bool} {seen : Seen} (hp : p < code2.size) (hop : ops[code2.getD p 0]? = some .LITERAL) (hc : code2.getD (p + 1) 0 = c) :
    steps 1 { Br text lim s alt first seen with pc := p, pos := q } = if q < lim ∧ text.getD q 0 = c then { Br text lim s alt first (seen.add (code2.getD p 0)) with pc := p + 2, pos := q + 1 }
      else { Br text lim s alt first (seen.add (code2.getD p 0)) with pc := p, pos := q, answer := some false } := by
  rw [steps1, step_go rfl rfl hp]
  refine (exec_LIT (m := ({ Br text lim s alt first seen with pc := p, pos := q } : M)) hop).trans ?_
  have e : ({ Br text lim s alt first seen with pc := p, pos := q } : M).word 1 = c := hc
  rw [e]
  rfl
theorem br_jump {text : Array Nat} {lim s alt p q c : Nat} {first : Bool} {seen : Seen} (hp : p < code2.size) (hop : ops[code2.getD p 0]? = some .JUMP) (hc : p + 1 + code2.getD (p + 1) 0 = c) :
    steps 1 { Br text lim s alt first seen with pc := p, pos := q } = { Br text lim s alt first (seen.add (code2.getD p 0)) with pc := c, pos := q } := by
  rw [steps1, step_go rfl rfl hp]
  refine (exec_JUMP (m := ({ Br text lim s alt first seen with pc := p, pos := q } : M)) hop).trans ?_
  rw [← hc]
  rfl

theorem hit2 (text : Array Nat) (lim s : Nat) (first : Bool) (seen : Seen) (h : s < lim) (hc : isEol (text.getD s 0) = true) : ∃ n, n ≤ 20 ∧ Hit (St code2 text 10 lim s first false seen) n s (eolEnd text lim s) := by
  by_cases h13 : text.getD s 0 = 13
  · have l1 := br_lit (text := text) (lim := lim) (s := s) (alt := 11) (p := 12) (q := s) (c := 13) (first := first) (seen := seen.add 7) (by decide) rfl rfl
    rw [if_pos ⟨h, h13⟩] at l1
    by_cases h10 : s + 1 < lim ∧ text.getD (s + 1) 0 = 10
    · have l2 := br_lit (text := text) (lim := lim) (s := s) (alt := 11) (p := 14) (q := s + 1) (c := 10) (first := first) (seen := (seen.add 7).add 16) (by decide) rfl rfl
      rw [if_pos h10] at l2
      have e : eolEnd text lim s = s + 2 := if_pos ⟨h13, h10⟩
      refine ⟨1 + (1 + (1 + (1 + 4))), by omega, Hit.more 1 (br0 ..) (Hit.more 1 l1 (Hit.more 1 l2 (Hit.more 1 (br_jump (p := 16) (c := 35) (by decide) rfl rfl) ?_)))⟩
      rw [e]
      exact brOk
    · have l2 := br_lit (text := text) (lim := lim) (s := s) (alt := 11) (p := 14) (q := s + 1) (c := 10) (first := first) (seen := (seen.add 7).add 16) (by decide) rfl rfl
      rw [if_neg h10] at l2
      have e : eolEnd text lim s = s + 1 := if_neg fun hh => h10 hh.2
      have l3 := br_lit (text := text) (lim := lim) (s := s) (alt := 18) (p := 19) (q := s) (c := 10) (first := first) (seen := ((seen.add 7).add 16).add 16) (by decide) rfl rfl
      rw [if_neg (fun hh => by rw [h13] at hh; exact absurd hh.2 (by decide))] at l3
      have l4 := br_lit (text := text) (lim := lim) (s := s) (alt := 23) (p := 24) (q := s) (c := 13) (first := first) (seen := (((seen.add 7).add 16).add 16).add 16) (by decide) rfl rfl
      rw [if_pos ⟨h, h13⟩] at l4
      refine ⟨1 + (1 + (1 + (1 + (1 + (1 + (1 + (1 + (1 + (1 + (1 + 4)))))))))), by omega, Hit.more 1 (br0 ..) (Hit.more 1 l1 (Hit.more 1 l2 (Hit.more 1 br1 (Hit.more 1 l3 (Hit.more 1 br2 (Hit.more 1 l4 ?_))))))⟩
      -- not ahead of a feed
      generalize hsn : ((((seen.add 7).add 16).add 16).add 16).add (code2.getD 24 0) = sn
      refine Hit.more (m' := { Br text lim s 23 first (sn.add 5) with pc := 29, pos := s + 1, handed := s + 1, outermost := false, frames := { wait := .lookNot, pc := 26, pos := s + 1, outermost := first } :: (Br text lim s 23 first sn).frames, weight := 3 }) 1 ?_ ?_
      · rw [steps1, step_go rfl rfl (by decide : 26 < code2.size), exec_NOT rfl rfl rfl]
        rfl
      refine Hit.more (m' := { Br text lim s 23 first ((sn.add 5).add 16) with pc := 29, pos := s + 1, handed := s + 1, outermost := false, frames := { wait := .lookNot, pc := 26, pos := s + 1, outermost := first } :: (Br text lim s 23 first sn).frames, weight := 3, answer := some false }) 1 ?_ ?_
      · rw [steps1, step_go rfl rfl (by decide : 29 < code2.size), exec_LIT rfl]
        exact (if_neg h10).trans rfl
      refine Hit.more (m' := { Br text lim s 23 first ((sn.add 5).add 16) with pc := 32, pos := s + 1, handed := s + 1 }) 1 rfl ?_
      refine Hit.more (m' := { Br text lim s 23 first (((sn.add 5).add 16).add 15) with pc := 35, pos := s + 1, handed := s + 1 }) 1 ?_ ?_
      · rw [steps1, step_go rfl rfl (by decide : 32 < code2.size), exec_JUMP rfl]
        rfl
      rw [e]
      show Hit _ (1 + 3) _ _
      refine Hit.more (m' := { Br text lim s 23 first ((((sn.add 5).add 16).add 15).add 1) with pc := 35, pos := s + 1, handed := s + 1, answer := some true }) 1 ?_ ?_
      · rw [steps1, step_go rfl rfl (by decide : 35 < code2.size), exec_OK rfl rfl rfl]
        rfl
      exact ⟨rfl, rfl, rfl⟩
  · have h10 : text.getD s 0 = 10 := by
      unfold isEol at hc
      simp only [Bool.or_eq_true, beq_iff_eq] at hc
      exact hc.resolve_right h13
    have e : eolEnd text lim s = s + 1 := if_neg fun hh => h13 hh.1
    have l1 := br_lit (text := text) (lim := lim) (s := s) (alt := 11) (p := 12) (q := s) (c := 13) (first := first) (seen := seen.add 7) (by decide) rfl rfl
    rw [if_neg (fun hh => h13 hh.2)] at l1
    have l2 := br_lit (text := text) (lim := lim) (s := s) (alt := 18) (p := 19) (q := s) (c := 10) (first := first) (seen := (seen.add 7).add 16) (by decide) rfl rfl
    rw [if_pos ⟨h, h10⟩] at l2
    refine ⟨1 + (1 + (1 + (1 + (1 + 4)))), by omega, Hit.more 1 (br0 ..) (Hit.more 1 l1 (Hit.more 1 br1 (Hit.more 1 l2 (Hit.more 1 (br_jump (p := 21) (c := 35) (by decide) rfl rfl) ?_))))⟩
    rw [e]
    exact brOk

theorem search2_hit {text : Array Nat} {lim p j : Nat} (h1 : p ≤ j) (h2 : j < lim) (hm : ∀ i, p ≤ i → i < j → isEol (text.getD i 0) = false) (hf : isEol (text.getD j 0) = true) :
    ∃ n, n ≤ 20 ∧ Hit (forSearch code2 text 0 p lim false) n j (eolEnd text lim j) := by
  rw [forSearch_eq (b := 10) rfl (by decide) (by omega)]
  obtain ⟨sn, e⟩ := attemptFrom_some (m := ({ code := code2, text, lim, start := p, lastStart := lim, pc := 10, pos := p, handed := p, marks := #[], seen := ({} : Seen).add 14 } : M)) inSet2 rfl h1 h2 hm hf true
  rw [e]
  exact hit2 text lim j true sn h2 hf
theorem search2_miss {text : Array Nat} {lim p : Nat} (hm : ∀ i, p ≤ i → i < lim → isEol (text.getD i 0) = false) : Miss (forSearch code2 text 0 p lim false) 1 :=
  search_none (b := 10) inSet2 rfl (by decide) rfl hm

noncomputable def isCtl (c : Nat) : Bool := c ≤ 31 || c == 127
theorem inSet3 (c : Nat) (seen : Seen) : ∃ sn, inSet code3 c code3.size 5 true seen = .ok (isCtl c, sn) := by
  unfold isCtl
  show ∃ sn, (if (decide (0 ≤ c) && decide (c ≤ 31)) = true then Except.ok (true, _) else if (c == 127) = true then Except.ok (true, _) else Except.ok (false, _)) = Except.ok (decide (c ≤ 31) || c == 127, sn)
  have h0 : decide (0 ≤ c) = true := by simp
  rw [h0, Bool.true_and]
  cases h1 : decide (c ≤ 31) with
  | true => exact ⟨_, rfl⟩
  | false =>
    cases h2 : c == 127 with
    | true => exact ⟨_, rfl⟩
    | false => exact ⟨_, rfl⟩
noncomputable def isCtlV (c : Nat) : Bool := decide (c < 256) && (code4.getD (5 + (1 + c / 32)) 0).testBit (c % 32)
theorem inSet4 (c : Nat) (seen : Seen) : ∃ sn, inSet code4 c code4.size 5 true seen = .ok (isCtlV c, sn) := by
  show ∃ sn, (if isCtlV c = true then Except.ok (true, _) else Except.ok (false, _)) = Except.ok (isCtlV c, sn)
  cases isCtlV c with
  | true => exact ⟨_, rfl⟩
  | false => exact ⟨_, rfl⟩
theorem ctlV_of {c : Nat} (h : isCtl c = false) : isCtlV c = false := by
  unfold isCtlV
  by_cases hc : c < 256
  · have : ∀ c : Fin 256, isCtl c.val = false → (decide (c.val < 256) && (code4.getD (5 + (1 + c.val / 32)) 0).testBit (c.val % 32)) = false := by decide +kernel
    exact this ⟨c, hc⟩ h
  · simp [hc]
theorem search3_miss {text : Array Nat} {lim p : Nat} (hm : ∀ i, p ≤ i → i < lim → isCtl (text.getD i 0) = false) : Miss (forSearch code3 text 0 p lim false) 1 :=
  search_none (b := 11) inSet3 rfl (by decide) rfl hm
theorem search4_miss {text : Array Nat} {lim p : Nat} (hm : ∀ i, p ≤ i → i < lim → isCtl (text.getD i 0) = false) : Miss (forSearch code4 text 0 p lim false) 1 :=
  search_none (b := 15) inSet4 rfl (by decide) rfl fun i a b => ctlV_of (hm i a b)
end Mine

-- S1
namespace Mine
open PySem PySem.W PySem.Calls PyProof.Rows PySem.Builtin PySem.Builtin.Re

theorem slot_re_sub : Slot "re.Pattern" "sub" "re.Pattern.sub" :=
  .of (owner := "re.Pattern") (n := "sub") (by rw [typeLookup_type, builtinLookup_eq_fast]; kernel_rfl) (by decide +kernel) (by decide +kernel) (by decide +kernel)
    (by first | exact .inl (by decide +kernel) | exact .inr (by decide +kernel)) (by rw [isSubtype_type]; kernel_rfl)
theorem slot_re_search : Slot "re.Pattern" "search" "re.Pattern.search" :=
  .of (owner := "re.Pattern") (n := "search") (by rw [typeLookup_type, builtinLookup_eq_fast]; kernel_rfl) (by decide +kernel) (by decide +kernel) (by decide +kernel)
    (by first | exact .inl (by decide +kernel) | exact .inr (by decide +kernel)) (by rw [isSubtype_type]; kernel_rfl)
theorem type_re_sub : typeOf (.builtin "re.Pattern.sub") = pure (.type "method_descriptor") := by show builtinType _ = _; rw [builtinType_eq_fast]; kernel_rfl
theorem type_re_search : typeOf (.builtin "re.Pattern.search") = pure (.type "method_descriptor") := by show builtinType _ = _; rw [builtinType_eq_fast]; kernel_rfl
theorem entry_re_sub : entryFor table "re.Pattern.sub" = some Builtin.«re.Pattern.sub» := entryFor_of_tree (by kernel_rfl)
theorem entry_re_loop : entryFor table "re.Pattern.sub.loop" = some Builtin.«re.Pattern.sub.loop» := entryFor_of_tree (by kernel_rfl)
theorem entry_re_search : entryFor table "re.Pattern.search" = some Builtin.«re.Pattern.search» := entryFor_of_tree (by kernel_rfl)
theorem plain_re_loop : plainId "re.Pattern.sub.loop" = true := by decide +kernel
theorem args_re_sub (a b c : Value) : argsOk "re.Pattern.sub" ⟨[a, b, c], []⟩ := by
  unfold argsOk
  kernel_rfl
theorem args_re_search (a b : Value) : argsOk "re.Pattern.search" ⟨[a, b], []⟩ := by
  unfold argsOk
  kernel_rfl
theorem re_getattribute : typeLookup (.type "re.Pattern") "__getattribute__" = pure (some (.builtin "object.__getattribute__")) := by rw [typeLookup_type, builtinLookup_eq_fast]; kernel_rfl
theorem re_getattr_none : typeLookup (.type "re.Pattern") "__getattr__" = pure none := by rw [typeLookup_type, builtinLookup_eq_fast]; kernel_rfl

section
variable {M : Model} {A : Around} {E : Value → Shared → Prop} {s : Shared}

theorem reNamed_sub (a b : Value) : reNamed "re.Pattern.sub" "sub" ["repl", "string", "count"] 2 [a, b] [] = pure [some a, some b, none] := rfl
theorem reNamed_search (a : Value) : reNamed "re.Pattern.search" "search" ["string", "pos", "endpos"] 1 [a] [] = pure [some a, none, none] := rfl

theorem reDrive_run {Q : Sre.M → Shared → Prop} : ∀ (turns n : Nat) (m : Sre.M), 0 < turns → n ≤ 4 * turns → (steps n m).outcome.isSome = true → Q (steps n m) s → wpAny M A (reDrive turns m) Q E s
  | 0, _, _, h, _, _, _ => absurd h (Nat.lt_irrefl _)
  | turns + 1, n, m, _, hn, ho, hq => by
    unfold reDrive
    have e4 : m.runFor reTurnSteps = steps 4 m := runFor_steps 4 m
    rw [e4]
    by_cases h4 : n ≤ 4
    · have e : steps 4 m = steps n m := by
        have e' : steps 4 m = steps (n + (4 - n)) m := by congr 1; omega
        rw [e', steps_add, steps_fix ho]
      rw [e]
      simp only [ho, if_true]
      exact wpAny_pure hq
    · by_cases hf : (steps 4 m).outcome.isSome = true
      · have e : steps n m = steps 4 m := by
          obtain ⟨k, rfl⟩ : ∃ k, n = 4 + k := ⟨n - 4, by omega⟩
          rw [steps_add, steps_fix hf]
        rw [if_pos hf]
        exact wpAny_pure (e ▸ hq)
      · rw [if_neg hf]
        refine wpAny_bind (wpAny_rule ?_)
        have e : steps (n - 4) (steps 4 m) = steps n m := by
          rw [← steps_add]; congr 1; omega
        exact reDrive_run turns (n - 4) (steps 4 m) (by omega) (by omega) (e.symm ▸ ho) (e.symm ▸ hq)

theorem reRun {Q : Option Sre.M → Shared → Prop} {m : Sre.M} {n : Nat} (hn : n ≤ 2 ^ 60) (ho : (steps n m).outcome.isSome = true)
    (hq : wpAny M A (match (steps n m).outcome with | some .matched => pure (some (steps n m)) | some .failed => pure none | some (.stuck why) => unsupported s!"_sre:{why}" | none => unsupported "internal:sre:no-outcome") Q E s) :
    wpAny M A (reRunToEnd m) Q E s := by
  unfold reRunToEnd
  refine wpAny_bind (reDrive_run (2 ^ 64) n m (by decide) (by omega) ho ?_)
  refine wpAny_bind (wpAny_forIn_list _ (fun _ _ s' => s' = s) _ (fun i rest b s' e => ?_) (fun b s' e => ?_) _ _ rfl)
  · subst e
    split
    · exact wpAny_bind (wpAny_rule (wpAny_pure rfl))
    · exact wpAny_pure rfl
  · subst e
    exact hq
theorem reRun_hit {Q : Option Sre.M → Shared → Prop} {m : Sre.M} {n a e : Nat} (hn : n ≤ 2 ^ 60) (h : Hit m n a e) (hq : ∀ m', m'.start = a → m'.handed = e → Q (some m') s) : wpAny M A (reRunToEnd m) Q E s := by
  obtain ⟨h1, h2, h3⟩ := h
  refine reRun hn (by rw [h1]; rfl) ?_
  rw [h1]
  exact wpAny_pure (hq _ h2 h3)
theorem reRun_miss {Q : Option Sre.M → Shared → Prop} {m : Sre.M} {n : Nat} (hn : n ≤ 2 ^ 60) (h : Miss m n) (hq : Q none s) : wpAny M A (reRunToEnd m) Q E s := by
  refine reRun hn (by rw [h]; rfl) ?_
  rw [h]
  exact wpAny_pure hq

noncomputable def PatOk (h : Heap) (p : Addr) (code : Array Nat) : Prop :=
  ∃ fs T ws n, h.get? p = some { cls := .type "re.Pattern", data := .fields fs } ∧ fs.getD 5 .none = .ref T ∧ h.get? T = some { cls := .type "tuple", data := .seq ws n } ∧
    reRawNat (fs.getD 2 .none) = 0 ∧ reRawNat (fs.getD 6 .none) = 0 ∧ (ws.map reRawOf).map (·.toNat) = code
theorem PatOk.keeps {h h' : Heap} {p : Addr} {code : Array Nat} (x : PatOk h p code) (hk : h.StaysIn h') : PatOk h' p code := by
  obtain ⟨fs, T, ws, n, h1, h2, h3, h4⟩ := x
  exact ⟨fs, T, ws, n, hk _ _ h1, h2, hk _ _ h3, h4⟩

theorem whole_target {p : Addr} {code : Array Nat} {x : Str} {t : Tok} {Q : ReTarget → Shared → Prop} (hp : PatOk s.heap p code)
    (h : Q { pattern := .ref p, string := .str x t, code := code, text := x.cps, kind := 0, groups := 0, pos := 0, lim := x.cps.size } s) : wpAny M A (reWholeTarget (.ref p) (.str x t)) Q E s := by
  obtain ⟨fs, T, ws, n, h1, h2, h3, h4, h5, h6⟩ := hp
  unfold reWholeTarget
  refine wpAny_bind (wpAny_fieldsOf h1 rfl ?_)
  unfold reTextOf
  show wpAny M A (do
    let (text, kind) ← (pure (x.cps, 0) : Sem (Array Nat × Nat))
    if reRawNat (fs.getD 6 .none) == 0 && kind == 1 then raiseError "TypeError" "cannot use a string pattern on a bytes-like object"
    if reRawNat (fs.getD 6 .none) == 1 && kind == 0 then raiseError "TypeError" "cannot use a bytes pattern on a string-like object"
    reNoCollectionInside (.str x t) kind
    pure ({ pattern := .ref p, string := .str x t, code := (← reRawItems (fs.getD 5 .none)).map (·.toNat), text, kind, groups := reRawNat (fs.getD 2 .none), pos := 0, lim := text.size } : ReTarget)) Q E s
  refine wpAny_bind (wpAny_pure ?_)
  rw [h5, h2, h4]
  refine wpAny_bind (wpAny_pure ?_)
  unfold reRawItems
  refine wpAny_bind (wpAny_bind (wpAny_seqItems h3 rfl (wpAny_pure ?_)))
  refine wpAny_pure ?_
  show Q { pattern := .ref p, string := .str x t, code := (ws.map reRawOf).map (·.toNat), text := x.cps, kind := 0, groups := 0, pos := 0, lim := x.cps.size } s
  rw [h6]
  exact h
end

inductive Cut (x : Str) (r : Str) (nxt : Nat → Option (Nat × Nat)) : Nat → List Str → Prop
  | stop {d : Nat} : nxt d = none → Cut x r nxt d (if d < x.length then [⟨x.cps.extract d x.cps.size⟩] else [])
  | more {d a e : Nat} {ps : List Str} : nxt d = some (a, e) → d ≤ a → a < e → e ≤ x.length → Cut x r nxt e ps → Cut x r nxt d ((if d < a then [⟨x.cps.extract d a⟩] else []) ++ r :: ps)
noncomputable def Finds (code : Array Nat) (x : Str) (nxt : Nat → Option (Nat × Nat)) : Prop :=
  ∀ d, match nxt d with
    | some (a, e) => ∃ n, n ≤ 2 ^ 60 ∧ Hit (Sre.forSearch code x.cps 0 d x.cps.size false) n a e
    | none => ∃ n, n ≤ 2 ^ 60 ∧ Miss (Sre.forSearch code x.cps 0 d x.cps.size false) n

section
variable {prog : Program} {w : World} {A : Around} {E : Value → Shared → Prop} {s : Shared}

theorem slice_run {M : Model} {x : Array Nat} {b e : Nat} {Q : Value → Shared → Prop} (hx : x.size ≤ 1000000) (h : Q (.str ⟨x.extract b e⟩ s.toks) { s with toks := s.toks + 1 }) : wpAny M A (reSlice x 0 b e) Q E s := by
  unfold reSlice
  refine wpAny_mkStr h ?_
  show (x.extract b e).size ≤ sizeLine
  rw [Array.size_extract]
  have : (1000000 : Nat) ≤ sizeLine := by decide
  omega
theorem push_run {M : Model} {L : Addr} {acc : List (Str × Tok)} {y : Str} {t : Tok} {Q : Unit → Shared → Prop} (hl : s.heap.IsList L (strValues acc).toArray) (hz : acc.length ≤ 200000)
    (h : ∀ h', h'.IsList L (strValues (acc ++ [(y, t)])).toArray → (∀ b o, b ≠ L → s.heap.get? b = some o → h'.get? b = some o) → Q () { s with heap := h' }) : wpAny M A (updateSeq L (·.push (.str y t))) Q E s := by
  obtain ⟨o, ho, hc, n, hd⟩ := hl
  obtain ⟨n', hd'⟩ := Obj.data_mapSeq hd (·.push (.str y t))
  have hle : (200002 : Nat) ≤ sizeLine := by decide
  have hs : (strValues acc).toArray.size = acc.length := by simp [strValues]
  have sb : Heap.SameBut L s.heap (s.heap.update L (Obj.mapSeq (·.push (.str y t)))) := Heap.SameBut.update ..
  refine wpAny_updateSeq ho hd (h _ ?_ fun b ob hb e => (sb.2 b hb).trans e) (by omega) (by rw [Array.size_push]; omega)
  have e : (strValues (acc ++ [(y, t)])).toArray = (strValues acc).toArray.push (.str y t) := by simp [strValues]
  rw [e]
  exact ⟨_, Heap.get?_update_self _ ho (Obj.isFreed_of_seq hd'), (Obj.cls_mapSeq ..).trans hc, n', hd'⟩

theorem sub_loop {p L : Addr} {code : Array Nat} {x r : Str} {t u : Tok} {nxt : Nat → Option (Nat × Nat)} {ps : List Str} {d : Nat} (hf : Finds code x nxt) (hx : x.length ≤ 1000000) (hLp : ∀ h : Heap, ∀ vs, h.IsList L vs → PatOk h p code → ∀ h' : Heap, (∀ b o, b ≠ L → h.get? b = some o → h'.get? b = some o) → PatOk h' p code) (hc : Cut x r nxt d ps) :
    ∀ (acc : List (Str × Tok)) (k : Int) (R : Result → Shared → Prop) (s : Shared) (A : Around), PatOk s.heap p code → s.heap.IsList L (strValues acc).toArray → acc.length + ps.length ≤ 100000 → JoinOk "" (acc.map (·.1) ++ ps) = true →
      (∀ h' k t', (∀ b o, b ≠ L → s.heap.get? b = some o → h'.get? b = some o) → R (.ok (.ret (.str (Txt.join "" (acc.map (·.1) ++ ps)) t'))) { s with heap := h', toks := k }) →
      wpAny (model prog w) A.in1 (Builtin.«re.Pattern.sub.loop» ⟨[.ref p, .str x t, .str r u, rawInt 0, rawInt 0, rawInt k, rawInt d, rawInt d, .bool false, .ref L, .bool false], []⟩)
        (fun fin s' => match fin with | .done f => R (.ok f) s' | .again c' => c'.quiet = true ∧ codeAny (model prog w) A c' R s') (fun e s' => R (.error e) s') s := by
  induction hc with
  | @stop d hn =>
    intro acc k R s A hp hl hz hj hR
    have hfd := hf d
    rw [hn] at hfd
    obtain ⟨n, hn1, hn2⟩ := hfd
    unfold Builtin.«re.Pattern.sub.loop»
    show wpAny _ _ (reWholeTarget (.ref p) (.str x t) >>= _) _ _ _
    refine wpAny_bind (whole_target hp ?_)
    show wpAny _ _ (reLiteralCannotBeTurned (.str r u) >>= _) _ _ _
    refine wpAny_bind (wpAny_pure ?_)
    show wpAny _ _ (reRunToEnd (Sre.forSearch code x.cps 0 d x.cps.size false) >>= _) _ _ _
    refine wpAny_bind (reRun_miss hn1 hn2 ?_)
    have fin : ∀ (l : List (Str × Tok)) (s' : Shared), s'.heap.IsList L (strValues l).toArray → JoinOk "" (l.map (·.1)) = true → (∀ h' k t', (∀ b o, b ≠ L → s'.heap.get? b = some o → h'.get? b = some o) → R (.ok (.ret (.str (Txt.join "" (l.map (·.1))) t'))) { s' with heap := h', toks := k }) →
        wpAny (model prog w) A.in1 (do
          let joiner ← reSlice x.cps 0 0 0
          let text ← if ((← seqItems? (.ref L)).getD #[]).isEmpty then pure joiner else call (.builtin (if (0 : Nat) == 0 then "str.join" else "bytes.join")) [joiner, .ref L]
          if false then ret (← holding [text] do newTuple [text, ← mkInt k]) else ret text)
          (fun fin s' => match fin with | .done f => R (.ok f) s' | .again c' => c'.quiet = true ∧ codeAny (model prog w) A c' R s') (fun e s' => R (.error e) s') s' := by
      intro l s' hl hj hR
      refine wpAny_bind (slice_run hx ?_)
      obtain ⟨o, ho, hc, n, hd⟩ := id hl
      refine wpAny_bind (wpAny_seqItems ho hd ?_)
      have e0 : (⟨x.cps.extract 0 0⟩ : Str) = "" := by
        have : x.cps.extract 0 0 = #[] := by simp
        rw [this]; rfl
      rw [e0]
      cases l with
      | nil =>
        refine wpAny_bind (wpAny_pure ?_)
        refine wpAny_pure ?_
        exact hR s'.heap (s'.toks + 1) s'.toks (fun b o _ e => e)
      | cons y l =>
        refine wpAny_bind (SC.join (s := { s' with toks := s'.toks + 1 }) hl rfl hj fun t' k' => ?_)
        refine wpAny_pure ?_
        exact hR s'.heap k' t' (fun b o _ e => e)
    by_cases hd : d < x.length
    · show wpAny _ _ (if d < x.cps.size then _ else _) _ _ _
      rw [if_pos (show d < x.cps.size from hd)]
      rw [if_pos hd] at hj hR hz
      refine wpAny_bind (slice_run hx ?_)
      refine wpAny_bind (push_run (s := { s with toks := s.toks + 1 }) (acc := acc) hl (by simp only [List.length_cons, List.length_nil] at hz; omega) fun h₁ l₁ k₁ => ?_)
      have e : (acc ++ [((⟨x.cps.extract d x.cps.size⟩ : Str), s.toks)]).map (·.1) = acc.map (·.1) ++ [⟨x.cps.extract d x.cps.size⟩] := by simp
      refine fin (acc ++ [(⟨x.cps.extract d x.cps.size⟩, s.toks)]) _ l₁ (by rw [e]; exact hj) fun h' k' t' hk => ?_
      rw [e]
      exact hR h' k' t' fun b o hb q => hk b o hb (k₁ b o hb q)
    · show wpAny _ _ (if d < x.cps.size then _ else _) _ _ _
      rw [if_neg (show ¬ d < x.cps.size from hd)]
      rw [if_neg hd, List.append_nil] at hj hR
      exact fin acc _ hl hj hR
  | @more d a e ps hn h1 h2 h3 hc ih =>
    intro acc k R s A hp hl hz hj hR
    have hfd := hf d
    rw [hn] at hfd
    obtain ⟨n, hn1, hn2⟩ := hfd
    unfold Builtin.«re.Pattern.sub.loop»
    show wpAny _ _ (reWholeTarget (.ref p) (.str x t) >>= _) _ _ _
    refine wpAny_bind (whole_target hp ?_)
    show wpAny _ _ (reLiteralCannotBeTurned (.str r u) >>= _) _ _ _
    refine wpAny_bind (wpAny_pure ?_)
    show wpAny _ _ (reRunToEnd (Sre.forSearch code x.cps 0 d x.cps.size false) >>= _) _ _ _
    refine wpAny_bind (reRun_hit hn1 hn2 fun m' e1 e2 => ?_)
    have fin : ∀ (l : List (Str × Tok)) (s' : Shared), PatOk s'.heap p code → s'.heap.IsList L (strValues l).toArray → l.length + (ps.length + 1) ≤ 100000 → JoinOk "" (l.map (·.1) ++ r :: ps) = true → (∀ h' k t', (∀ b o, b ≠ L → s'.heap.get? b = some o → h'.get? b = some o) → R (.ok (.ret (.str (Txt.join "" (l.map (·.1) ++ r :: ps)) t'))) { s' with heap := h', toks := k }) →
        wpAny (model prog w) A.in1 (do
          let item ← (pure (.str r u) : Sem Value)
          if item != .none then updateSeq L (·.push item)
          again (.builtin "re.Pattern.sub.loop" ⟨[.ref p, .str x t, .str r u, rawInt 0, rawInt 0, rawInt (k + 1), rawInt m'.handed, rawInt m'.handed, .bool (m'.handed == a), .ref L, .bool false], []⟩))
          (fun fin s' => match fin with | .done f => R (.ok f) s' | .again c' => c'.quiet = true ∧ codeAny (model prog w) A c' R s') (fun e s' => R (.error e) s') s' := by
      intro l s' hp hl hz hj hR
      refine wpAny_bind (wpAny_pure ?_)
      show wpAny _ _ (updateSeq L (·.push (.str r u)) >>= _) _ _ _
      refine wpAny_bind (push_run (acc := l) hl (by omega) fun h₁ l₁ k₁ => ?_)
      refine wpAny_pure ⟨plainId_quiet plain_re_loop _, codeAny_builtin entry_re_loop ?_⟩
      rw [Around.under_plainId plain_re_loop]
      have ne : (m'.handed == a) = false := by rw [e2, beq_eq_false_iff_ne]; omega
      rw [ne, e2]
      have el : (l ++ [(r, u)]).map (·.1) ++ ps = l.map (·.1) ++ r :: ps := by simp
      refine ih (l ++ [(r, u)]) (k + 1) R { s' with heap := h₁ } A (hLp _ _ hl hp _ k₁) l₁ (by simp; omega) (by rw [el]; exact hj) fun h' k' t' hk => ?_
      rw [el]
      exact hR h' k' t' fun b o hb q => hk b o hb (k₁ b o hb q)
    show wpAny _ _ (if d < m'.start then _ else _) _ _ _
    rw [e1]
    by_cases hd : d < a
    · rw [if_pos hd]
      rw [if_pos hd] at hj hR hz
      refine wpAny_bind (slice_run hx ?_)
      refine wpAny_bind (push_run (s := { s with toks := s.toks + 1 }) (acc := acc) hl (by simp only [List.length_append, List.length_cons, List.length_nil] at hz; omega) fun h₁ l₁ k₁ => ?_)
      have el : (acc ++ [((⟨x.cps.extract d a⟩ : Str), s.toks)]).map (·.1) ++ r :: ps = acc.map (·.1) ++ ([⟨x.cps.extract d a⟩] ++ r :: ps) := by simp
      refine fin (acc ++ [(⟨x.cps.extract d a⟩, s.toks)]) { s with toks := s.toks + 1, heap := h₁ } (hLp _ _ hl hp _ k₁) l₁ (by simp only [List.length_append, List.length_cons, List.length_nil] at hz ⊢; omega) (by rw [el]; exact hj) fun h' k' t' hk => ?_
      rw [el]
      exact hR h' k' t' fun b o hb q => hk b o hb (k₁ b o hb q)
    · rw [if_neg hd]
      rw [if_neg hd, List.nil_append] at hj hR hz
      exact fin acc _ hp hl (by simpa [Nat.add_assoc] using hz) hj hR

theorem str_call_none : typeLookup (.type "str") "__call__" = pure none := by rw [typeLookup_type, builtinLookup_eq_fast]; kernel_rfl

theorem call_sub {p : Addr} {code : Array Nat} {x r : Str} {t u : Tok} {nxt : Nat → Option (Nat × Nat)} {ps : List Str} {Q : Value → Shared → Prop} (hp : PatOk s.heap p code) (hf : Finds code x nxt) (hc : Cut x r nxt 0 ps) (hx : x.length ≤ 1000000)
    (hz : ps.length ≤ 100000) (hj : JoinOk "" ps = true) (hb : r.cps.contains 92 = false) (h : ∀ h' k t', s.heap.StaysIn h' → Q (.str (Txt.join "" ps) t') { s with heap := h', toks := k }) :
    wpAny (model prog w) A (call (.builtin "re.Pattern.sub") [.ref p, .str r u, .str x t]) Q E s := by
  have hT : s.TypeIs (.ref p) "re.Pattern" := let ⟨fs, T, ws, n, h1, _⟩ := hp; ⟨_, h1, rfl⟩
  refine call_meets (S := fun A R s => PatOk s.heap p code ∧ ∀ h' k t', s.heap.StaysIn h' → R (.ok (.ret (.str (Txt.join "" ps) t'))) { s with heap := h', toks := k }) slot_re_sub hT entry_re_sub (args_re_sub _ _ _) ?_ ⟨hp, fun h' k t' hk => h h' k t' hk⟩
  intro prog w A R s ⟨hp, hR⟩
  unfold Builtin.«re.Pattern.sub» reSubstitute
  show wpAny _ _ (reNamed "re.Pattern.sub" "sub" ["repl", "string", "count"] 2 [.str r u, .str x t] [] >>= _) _ _ _
  refine wpAny_bind (wpAny_of_eq (reNamed_sub _ _) ?_)
  refine wpAny_bind (wpAny_pure ?_)
  refine wpAny_bind (m := typeLookup (.type "str") "__call__") (wpAny_of_eq str_call_none ?_)
  show wpAny _ _ (do
    let literal ← (pure (!r.cps.contains 92) : Sem Bool)
    _) _ _ _
  rw [hb]
  refine wpAny_bind (wpAny_pure ?_)
  refine wpAny_bind (wpAny_pure ?_)
  refine wpAny_bind (wpAny_pure ?_)
  refine wpAny_bind (wpAny_holding (whole_target hp ?_))
  refine wpAny_bind (wpAny_newList ?_ (Nat.zero_le _))
  refine wpAny_pure ⟨plainId_quiet plain_re_loop _, codeAny_builtin entry_re_loop ?_⟩
  rw [Around.under_plainId plain_re_loop]
  have hlt : ∀ b o, s.heap.get? b = some o → b ≠ s.heap.objs.size := fun b o e => Nat.ne_of_lt (Heap.lt_size e)
  refine sub_loop (acc := []) hf hx (fun h vs hl hp h' hk => ?_) hc 0 R _ A (hp.keeps (stays_push _ _)) ⟨_, Heap.get?_push_size _ rfl, rfl, 0, rfl⟩ (by simpa using hz) hj fun h' k t' hk => ?_
  · obtain ⟨fs, T, ws, n, h1, h2, h3, h4⟩ := hp
    obtain ⟨o, q1, q2, _⟩ := hl
    refine ⟨fs, T, ws, n, hk _ _ (fun e => ?_) h1, h2, hk _ _ (fun e => ?_) h3, h4⟩
    · rw [e] at h1; rw [h1] at q1; cases q1; exact absurd (show Value.type "re.Pattern" = Value.type "list" from q2) (by decide)
    · rw [e] at h3; rw [h3] at q1; cases q1; exact absurd (show Value.type "tuple" = Value.type "list" from q2) (by decide)
  · exact hR h' k t' fun b o e => hk b o (hlt b o e) (stays_push _ _ b o e)

theorem target_run {M : Model} {p : Addr} {code : Array Nat} {x : Str} {t : Tok} {Q : ReTarget → Shared → Prop} (hp : PatOk s.heap p code)
    (h : Q { pattern := .ref p, string := .str x t, code := code, text := x.cps, kind := 0, groups := 0, pos := 0, lim := x.cps.size } s) (hx : x.length ≤ 1000000) : wpAny M A (reTarget "re.Pattern.search" "search" ⟨[.ref p, .str x t], []⟩) Q E s := by
  obtain ⟨fs, T, ws, n, h1, h2, h3, h4, h5, h6⟩ := hp
  unfold reTarget
  show wpAny _ _ (reNamed "re.Pattern.search" "search" ["string", "pos", "endpos"] 1 [.str x t] [] >>= _) _ _ _
  refine wpAny_bind (wpAny_of_eq (reNamed_search _) ?_)
  refine wpAny_bind (wpAny_pure ?_)
  refine wpAny_bind (wpAny_pure ?_)
  refine wpAny_bind (wpAny_fieldsOf h1 rfl ?_)
  unfold reTextOf
  show wpAny M A (do
    let (text, kind) ← (pure (x.cps, 0) : Sem (Array Nat × Nat))
    if reRawNat (fs.getD 6 .none) == 0 && kind == 1 then raiseError "TypeError" "cannot use a string pattern on a bytes-like object"
    if reRawNat (fs.getD 6 .none) == 1 && kind == 0 then raiseError "TypeError" "cannot use a bytes pattern on a string-like object"
    reNoCollectionInside (.str x t) kind
    let clip (i : Int) : Nat := min i.toNat text.size
    pure ({ pattern := .ref p, string := .str x t, code := (← reRawItems (fs.getD 5 .none)).map (·.toNat), text, kind, groups := reRawNat (fs.getD 2 .none), pos := clip 0, lim := clip (2 ^ 63 - 1) } : ReTarget)) Q E s
  refine wpAny_bind (wpAny_pure ?_)
  rw [h5, h2, h4]
  refine wpAny_bind (wpAny_pure ?_)
  unfold reRawItems
  refine wpAny_bind (wpAny_bind (wpAny_seqItems h3 rfl (wpAny_pure ?_)))
  refine wpAny_pure ?_
  have e0 : min ((0 : Int).toNat) x.cps.size = 0 := by simp
  have e1 : min ((2 ^ 63 - 1 : Int).toNat) x.cps.size = x.cps.size := by
    have : x.cps.size ≤ 1000000 := hx
    have : ((2 ^ 63 - 1 : Int).toNat) = 9223372036854775807 := by decide
    omega
  show Q { pattern := .ref p, string := .str x t, code := (ws.map reRawOf).map (·.toNat), text := x.cps, kind := 0, groups := 0, pos := min ((0 : Int).toNat) x.cps.size, lim := min ((2 ^ 63 - 1 : Int).toNat) x.cps.size } s
  rw [h6, e0, e1]
  exact h

theorem call_search {p : Addr} {code : Array Nat} {x : Str} {t : Tok} {Q : Value → Shared → Prop} (hp : PatOk s.heap p code) (hx : x.length ≤ 1000000) (hm : Miss (Sre.forSearch code x.cps 0 0 x.cps.size false) 1) (h : Q .none s) :
    wpAny (model prog w) A (call (.builtin "re.Pattern.search") [.ref p, .str x t]) Q E s := by
  have hT : s.TypeIs (.ref p) "re.Pattern" := let ⟨fs, T, ws, n, h1, _⟩ := hp; ⟨_, h1, rfl⟩
  refine call_meets (S := fun A R s => PatOk s.heap p code ∧ R (.ok (.ret .none)) s) slot_re_search hT entry_re_search (args_re_search _ _) ?_ ⟨hp, h⟩
  intro prog w A R s ⟨hp, hR⟩
  unfold Builtin.«re.Pattern.search»
  refine wpAny_bind (target_run hp ?_ hx)
  unfold reAnswer
  refine wpAny_bind (reRun_miss (by decide) hm ?_)
  exact wpAny_pure hR

theorem getm_re {p : Addr} {o : Obj} {id : String} {name : Str} {pl : Sem Bool} {M : Model} {Q : Value × List Value → Shared → Prop} (ho : s.heap.get? p = some o) (hc : o.cls = .type "re.Pattern") (hd : o.dict = none)
    (hs : Slot "re.Pattern" name id) (ht : typeOf (.builtin id) = pure (.type "method_descriptor"))
    (h : Q (.builtin id, [.ref p]) s) : wpAny M A (getMethod (.ref p) name pl) Q E s := by
  have hT : s.TypeIs (.ref p) "re.Pattern" := ⟨o, ho, hc⟩
  unfold getMethod
  refine wpAny_bind (wpAny_specialOf hT re_getattribute ?_)
  show wpAny M A (if (Manifest.canonical "object.__getattribute__" != "object.__getattribute__") = true then _ else _) Q E s
  rw [show (Manifest.canonical "object.__getattribute__" != "object.__getattribute__") = false by decide +kernel, if_neg Bool.false_ne_true]
  refine wpAny_bind (wpAny_specialOf hT re_getattr_none ?_)
  refine wpAny_bind (wpAny_specialOf hT hs.lookup ?_)
  refine wpAny_bind (wpAny_of_eq ht ?_)
  refine wpAny_bind (wpAny_load ho ?_)
  rw [hd]
  exact wpAny_bind (wpAny_rule (wpAny_pure h))
end
end Mine

-- S2
namespace Mine
open PySem PySem.W PySem.Calls PyProof.Rows

noncomputable def norm : List Nat → List Nat
  | [] => []
  | [c] => if isEol c then [13, 10] else [c]
  | c :: e :: r => if c = 13 ∧ e = 10 then 13 :: 10 :: norm r else if isEol c then 13 :: 10 :: norm (e :: r) else c :: norm (e :: r)
noncomputable def dotted : Bool → List Nat → List Nat
  | _, [] => []
  | b, c :: r => if b = true ∧ c = 46 then 46 :: 46 :: dotted false r else c :: dotted (c == 10) r

noncomputable def first (P : Nat → Bool) (n d : Nat) : Option Nat := (List.range' d (n - d)).find? P
theorem first_some {P : Nat → Bool} {n d j : Nat} (h : first P n d = some j) : d ≤ j ∧ j < n ∧ P j = true ∧ ∀ i, d ≤ i → i < j → P i = false := by
  obtain ⟨h1, as, bs, h2, h3⟩ := List.find?_eq_some_iff_append.mp h
  have hm : j ∈ List.range' d (n - d) := by rw [h2]; simp
  rw [List.mem_range'_1] at hm
  refine ⟨hm.1, by omega, h1, fun i a b => ?_⟩
  obtain ⟨_, hk⟩ := StrLaws.range'_split_from h2
  have := h3 i (hk i a b)
  simpa using this
theorem first_none {P : Nat → Bool} {n d : Nat} (h : first P n d = none) : ∀ i, d ≤ i → i < n → P i = false := by
  intro i a b
  have := List.find?_eq_none.mp h i (by rw [List.mem_range'_1]; omega)
  simpa using this

theorem getD_list (l : List Nat) (i : Nat) : l.toArray.getD i 0 = l.getD i 0 := by simp

noncomputable def nxt1 (l : List Nat) (d : Nat) : Option (Nat × Nat) := (first (fit1 l.toArray) l.length d).map fun j => (j, j + 1)
noncomputable def nxt2 (l : List Nat) (d : Nat) : Option (Nat × Nat) := (first (fun i => isEol (l.toArray.getD i 0)) l.length d).map fun j => (j, eolEnd l.toArray l.length j)

theorem finds1 {l : List Nat} (hl : l.length ≤ 1000000) : Finds code1 (S l) (nxt1 l) := by
  intro d
  have hs : (S l).cps.size = l.length := by show l.toArray.size = _; simp
  unfold nxt1
  cases h : first (fit1 l.toArray) l.length d with
  | none =>
    obtain ⟨n, hn, hm⟩ := search1_miss (text := l.toArray) (lim := l.length) (p := d) (first_none h)
    exact ⟨n, by omega, by rw [hs]; exact hm⟩
  | some j =>
    obtain ⟨h1, h2, h3, h4⟩ := first_some h
    obtain ⟨n, hn, hm⟩ := search1_hit h1 h2 h4 h3
    exact ⟨n, by omega, by rw [hs]; exact hm⟩
theorem finds2 {l : List Nat} : Finds code2 (S l) (nxt2 l) := by
  intro d
  have hs : (S l).cps.size = l.length := by show l.toArray.size = _; simp
  unfold nxt2
  cases h : first (fun i => isEol (l.toArray.getD i 0)) l.length d with
  | none =>
    exact ⟨1, by omega, by rw [hs]; exact search2_miss (first_none h)⟩
  | some j =>
    obtain ⟨h1, h2, h3, h4⟩ := first_some h
    obtain ⟨n, hn, hm⟩ := search2_hit h1 h2 h4 h3
    exact ⟨n, by omega, by rw [hs]; exact hm⟩

noncomputable def catL (ps : List Str) : List Nat := (ps.map (·.cps.toList)).flatten
theorem join_nil (ps : List Str) : (Txt.join "" ps).cps.toList = catL ps := by
  show (Builtin.Str.glued "" ps).cps.toList = _
  rw [StrLaws.glued_eq_join]
  induction ps with
  | nil => rfl
  | cons p r ih =>
    cases r with
    | nil => simp [Str.join, catL]
    | cons q r =>
      show (p ++ "" ++ Str.join "" (q :: r)).cps.toList = _
      rw [Str.cps_append, Str.cps_append, Array.toList_append, Array.toList_append, ih]
      have : ("" : Str).cps.toList = [] := rfl
      rw [this]
      simp [catL]

theorem ext_list (l : List Nat) (d j : Nat) : (⟨(S l).cps.extract d j⟩ : Str) = S ((l.drop d).take (j - d)) := by
  apply PySem.Str.ext'
  apply Array.toList_inj.mp
  simp [S]

theorem head_drop {l : List Nat} {d : Nat} (h : d < l.length) : l.drop d = l.getD d 0 :: l.drop (d + 1) := by
  rw [List.drop_eq_getElem_cons h]; simp [h]

theorem na1 (d k : Nat) : d + 1 + k = d + (k + 1) := by omega
theorem na2 (d k : Nat) : d < d + (k + 1) := by omega
theorem na3 {d k n : Nat} (h : d + (k + 1) ≤ n) : d < n := Nat.lt_of_lt_of_le (na2 d k) h
theorem cutLen {p n d e f : Nat} (h : p ≤ 2 * (n - e) + 1) (h1 : d < e) (h2 : e ≤ n) (hf : f ≤ 1) : f + (p + 1) ≤ 2 * (n - d) + 1 := by omega
theorem norm_free {l : List Nat} {d j : Nat} (hj : j ≤ l.length) (hd : d ≤ j) (hf : ∀ i, d ≤ i → i < j → isEol (l.getD i 0) = false) : norm (l.drop d) = (l.drop d).take (j - d) ++ norm (l.drop j) := by
  obtain ⟨k, rfl⟩ := Nat.exists_eq_add_of_le hd
  clear hd
  induction k generalizing d with
  | zero => simp
  | succ k ih =>
    have h0 := hf d (Nat.le_refl _) (na2 d k)
    have ih' := ih (d := d + 1) (by rw [na1]; exact hj) (fun i a b => hf i (Nat.le_of_succ_le a) (by rw [← na1]; exact b))
    rw [head_drop (l := l) (d := d) (na3 hj)]
    have e : d + (k + 1) - d = k + 1 := Nat.add_sub_cancel_left _ _
    rw [e, List.take_succ_cons]
    have e2 : d + 1 + k - (d + 1) = k := Nat.add_sub_cancel_left _ _
    rw [e2, na1] at ih'
    rw [List.cons_append, ← ih']
    generalize l.getD d 0 = c at h0
    have h13 : c ≠ 13 := by intro hc; subst hc; cases h0
    cases l.drop (d + 1) with
    | nil => simp [norm, h0]
    | cons e r => simp [norm, h0, h13]
theorem norm_hit {l : List Nat} {j : Nat} (hj : j < l.length) (hf : isEol (l.getD j 0) = true) : norm (l.drop j) = 13 :: 10 :: norm (l.drop (eolEnd l.toArray l.length j)) := by
  unfold eolEnd
  rw [getD_list, getD_list]
  rw [head_drop hj]
  by_cases h : l.getD j 0 = 13 ∧ j + 1 < l.length ∧ l.getD (j + 1) 0 = 10
  · rw [if_pos h, head_drop h.2.1]
    simp only [norm]
    rw [if_pos ⟨h.1, h.2.2⟩]
  · rw [if_neg h]
    generalize hc : l.getD j 0 = c at hf h
    cases e : l.drop (j + 1) with
    | nil => simp [norm, hf]
    | cons b r =>
      simp only [norm]
      have : ¬ (c = 13 ∧ b = 10) := by
        intro hh
        apply h
        have hl : j + 1 < l.length := by
          have := congrArg List.length e
          simp at this
          omega
        rw [head_drop hl] at e
        exact ⟨hh.1, hl, by injection e with e1 e2; rw [e1]; exact hh.2⟩
      rw [if_neg this, if_pos hf]

theorem eolEnd_bounds {l : List Nat} {j : Nat} (hj : j < l.length) : j < eolEnd l.toArray l.length j ∧ eolEnd l.toArray l.length j ≤ l.length := by
  unfold eolEnd
  split
  · omega
  · omega

theorem cut2 (l : List Nat) : ∀ (k d : Nat), d ≤ l.length → l.length - d ≤ k → ∃ ps, Cut (S l) "\r\n" (nxt2 l) d ps ∧ catL ps = norm (l.drop d) ∧ ps.length ≤ 2 * (l.length - d) + 1
  | 0, d, h1, h2 => by
    have hd : d = l.length := by omega
    have hn : nxt2 l d = none := by
      unfold nxt2 first
      rw [show l.length - d = 0 by omega]; rfl
    refine ⟨_, .stop hn, ?_, ?_⟩
    · rw [S_len, if_neg (by omega), hd]; simp [catL, norm]
    · rw [S_len, if_neg (by omega)]; simp
  | k + 1, d, h1, h2 => by
    cases hn : first (fun i => isEol (l.toArray.getD i 0)) l.length d with
    | none =>
      have hf := first_none hn
      have hn' : nxt2 l d = none := by unfold nxt2; rw [hn]; rfl
      have e := norm_free (l := l) (d := d) (j := l.length) (Nat.le_refl _) h1 (fun i a b => by have := hf i a b; simp only [getD_list] at this; exact this)
      refine ⟨_, .stop hn', ?_, ?_⟩
      · rw [e]
        have en : norm (l.drop l.length) = [] := by simp [norm]
        rw [en, List.append_nil]
        by_cases hd : d < l.length
        · rw [S_len, if_pos hd]
          have es : (S l).cps.size = l.length := by show l.toArray.size = _; simp
          rw [ext_list, es]
          simp [catL, S_cps]
        · rw [S_len, if_neg hd, show l.length - d = 0 by omega]; simp [catL]
      · split <;> simp
    | some j =>
      obtain ⟨a1, a2, a3, a4⟩ := first_some hn
      obtain ⟨b1, b2⟩ := eolEnd_bounds a2
      obtain ⟨ps, c1, c2, c3⟩ := cut2 l k (eolEnd l.toArray l.length j) b2 (by omega)
      have hn' : nxt2 l d = some (j, eolEnd l.toArray l.length j) := by unfold nxt2; rw [hn]; rfl
      have a3' : isEol (l.getD j 0) = true := by rw [getD_list] at a3; exact a3
      refine ⟨_, .more hn' a1 b1 (by rw [S_len]; exact b2) c1, ?_, ?_⟩
      · rw [norm_free (l := l) (d := d) (j := j) (by omega) a1 (fun i a b => by have := a4 i a b; simp only [getD_list] at this; exact this), norm_hit a2 a3', ← c2]
        have er : catL (("\r\n" : Str) :: ps) = 13 :: 10 :: catL ps := by simp [catL]; rfl
        by_cases hd : d < j
        · rw [if_pos hd, ext_list]
          simp only [catL, List.cons_append, List.nil_append, List.map_cons, List.flatten_cons, S_cps]
          rw [show ((("\r\n" : Str).cps.toList) = [13, 10]) from rfl]
          simp
        · rw [if_neg hd, List.nil_append, er, show j - d = 0 by omega]
          simp
      · rw [List.length_append, List.length_cons]
        exact cutLen c3 (Nat.lt_of_le_of_lt a1 b1) b2 (by split <;> simp)

theorem norm_len : ∀ l : List Nat, (norm l).length ≤ 2 * l.length
  | [] => by simp [norm]
  | [c] => by simp only [norm]; split <;> simp
  | c :: e :: r => by
    simp only [norm]
    split
    · have := norm_len r; simp; omega
    · have := norm_len (e :: r)
      split <;> (simp at this ⊢; omega)
theorem dotted_len : ∀ (l : List Nat) (b : Bool), (dotted b l).length ≤ 2 * l.length
  | [], b => by simp [dotted]
  | c :: r, b => by
    simp only [dotted]
    split
    · have := dotted_len r false; simp; omega
    · have := dotted_len r (c == 10); simp; omega

theorem atLine_succ (l : List Nat) (d : Nat) : atLine l.toArray (d + 1) = (l.getD d 0 == 10) := by
  unfold atLine
  rw [show d + 1 - 1 = d by omega, getD_list]
  simp
theorem dotted_free {l : List Nat} {d j : Nat} (hj : j ≤ l.length) (hd : d ≤ j) (hf : ∀ i, d ≤ i → i < j → fit1 l.toArray i = false) : dotted (atLine l.toArray d) (l.drop d) = (l.drop d).take (j - d) ++ dotted (atLine l.toArray j) (l.drop j) := by
  obtain ⟨k, rfl⟩ := Nat.exists_eq_add_of_le hd
  clear hd
  induction k generalizing d with
  | zero => simp
  | succ k ih =>
    have h0 := hf d (Nat.le_refl _) (na2 d k)
    have ih' := ih (d := d + 1) (by rw [na1]; exact hj) (fun i a b => hf i (Nat.le_of_succ_le a) (by rw [← na1]; exact b))
    rw [head_drop (l := l) (d := d) (na3 hj)]
    have e : d + (k + 1) - d = k + 1 := Nat.add_sub_cancel_left _ _
    rw [e, List.take_succ_cons]
    have e2 : d + 1 + k - (d + 1) = k := Nat.add_sub_cancel_left _ _
    rw [e2, na1, atLine_succ] at ih'
    rw [List.cons_append, ← ih']
    unfold fit1 at h0
    rw [getD_list] at h0
    simp only [dotted]
    rw [if_neg]
    rintro ⟨a, b⟩
    rw [a, b] at h0
    cases h0
theorem dotted_hit {l : List Nat} {j : Nat} (hj : j < l.length) (hf : fit1 l.toArray j = true) : dotted (atLine l.toArray j) (l.drop j) = 46 :: 46 :: dotted (atLine l.toArray (j + 1)) (l.drop (j + 1)) := by
  unfold fit1 at hf
  rw [getD_list, Bool.and_eq_true, beq_iff_eq] at hf
  rw [head_drop hj, atLine_succ, hf.1, hf.2]
  simp [dotted]

theorem cut1 (l : List Nat) : ∀ (k d : Nat), d ≤ l.length → l.length - d ≤ k → ∃ ps, Cut (S l) ".." (nxt1 l) d ps ∧ catL ps = dotted (atLine l.toArray d) (l.drop d) ∧ ps.length ≤ 2 * (l.length - d) + 1
  | 0, d, h1, h2 => by
    have hd : d = l.length := by omega
    have hn : nxt1 l d = none := by
      unfold nxt1 first
      rw [show l.length - d = 0 by omega]; rfl
    refine ⟨_, .stop hn, ?_, ?_⟩
    · rw [S_len, if_neg (by omega), hd]; simp [catL, dotted]
    · rw [S_len, if_neg (by omega)]; simp
  | k + 1, d, h1, h2 => by
    cases hn : first (fit1 l.toArray) l.length d with
    | none =>
      have hf := first_none hn
      have hn' : nxt1 l d = none := by unfold nxt1; rw [hn]; rfl
      have e := dotted_free (l := l) (d := d) (j := l.length) (Nat.le_refl _) h1 hf
      refine ⟨_, .stop hn', ?_, ?_⟩
      · rw [e]
        have en : dotted (atLine l.toArray l.length) (l.drop l.length) = [] := by simp [dotted]
        rw [en, List.append_nil]
        by_cases hd : d < l.length
        · rw [S_len, if_pos hd]
          have es : (S l).cps.size = l.length := by show l.toArray.size = _; simp
          rw [ext_list, es]
          simp [catL, S_cps]
        · rw [S_len, if_neg hd, show l.length - d = 0 by omega]; simp [catL]
      · split <;> simp
    | some j =>
      obtain ⟨a1, a2, a3, a4⟩ := first_some hn
      obtain ⟨ps, c1, c2, c3⟩ := cut1 l k (j + 1) (by omega) (by omega)
      have hn' : nxt1 l d = some (j, j + 1) := by unfold nxt1; rw [hn]; rfl
      refine ⟨_, .more hn' a1 (by omega) (by rw [S_len]; omega) c1, ?_, ?_⟩
      · rw [dotted_free (l := l) (d := d) (j := j) (by omega) a1 a4, dotted_hit a2 a3, ← c2]
        have er : catL ((".." : Str) :: ps) = 46 :: 46 :: catL ps := by simp [catL]; rfl
        by_cases hd : d < j
        · rw [if_pos hd, ext_list]
          simp only [catL, List.cons_append, List.nil_append, List.map_cons, List.flatten_cons, S_cps]
          rw [show (((".." : Str).cps.toList) = [46, 46]) from rfl]
          simp
        · rw [if_neg hd, List.nil_append, er, show j - d = 0 by omega]
          simp
      · rw [List.length_append, List.length_cons]
        exact cutLen c3 (Nat.lt_succ_of_le a1) a2 (by split <;> simp)

theorem catL_len (ps : List Str) : (ps.map (·.length)).sum = (catL ps).length := by
  induction ps with
  | nil => rfl
  | cons p r ih =>
    simp only [List.map_cons, List.sum_cons, catL, List.flatten_cons, List.length_append] at ih ⊢
    rw [ih]
    rfl
theorem joinOk_cat {ps : List Str} (h : (catL ps).length + ps.length ≤ 1048576) : JoinOk "" ps = true := joinOk_of_weight (by rw [catL_len]; exact h) (by decide)

section
variable {cx : Cx} {d : Nat} {st : Store} {Post : V → Store → Prop}

theorem tgm_re {p : Addr} {code : Array Nat} {id : String} {name : Str} (hk : ∀ h, cx.K.In h → PatOk h p code) (hs : Slot "re.Pattern" name id) (ht : typeOf (.builtin id) = pure (.type "method_descriptor")) :
    tgm cx d (.ext (.ref p)) name (.builtin id) [.ext (.ref p)] st := by
  intro A o al s va pl R ok hv Q E k
  obtain rfl : va = .ref p := hv
  obtain ⟨fs, T, ws, n, h1, _⟩ := hk _ ok.K
  exact getm_re h1 rfl rfl hs ht (k _ s.toks (Nat.le_refl _) (.cons rfl .nil))

theorem tcall_sub2 {p : Addr} {l : List Nat} (hk : ∀ h, cx.K.In h → PatOk h p code2) (hl : l.length ≤ 40000) (h : Post (.d (.str (S (norm l)))) st) : tcall cx d (.ext (.builtin "re.Pattern.sub")) [.ext (.ref p), .d (.str "\r\n"), .d (.str (S l))] [] st Post := by
  intro A o al s fv vs ks R ok hf hv hkn hks
  obtain rfl : fv = .builtin "re.Pattern.sub" := hf
  cases hv with | cons hp hv => cases hv with | cons h1 hv => cases hv with | cons h2 hv =>
    cases hv
    obtain rfl : _ = Value.ref p := hp
    obtain ⟨t1, rfl⟩ := rd_str h1
    obtain ⟨t2, rfl⟩ := rd_str h2
    obtain rfl : ks = [] := by simpa using hkn
    obtain ⟨ps, c1, c2, c3⟩ := cut2 l l.length 0 (Nat.zero_le _) (by omega)
    rw [List.drop_zero] at c2
    have hn := norm_len l
    have e : Txt.join "" ps = S (norm l) := by
      apply PySem.Str.ext'
      apply Array.toList_inj.mp
      rw [join_nil, c2]; rfl
    refine Op.ofVal ok fun Q E k => call_sub (hk _ ok.K) (finds2 (l := l)) c1 (by rw [S_len]; omega) (by omega) (joinOk_cat (by rw [c2]; omega)) (by decide +kernel) fun h' k' t' hh => ?_
    rw [e]
    exact k _ h' k' (.d (.str (S (norm l)))) hh (.str _ _) h
theorem tcall_sub1 {p : Addr} {l : List Nat} (hk : ∀ h, cx.K.In h → PatOk h p code1) (hl : l.length ≤ 40000) (h : Post (.d (.str (S (dotted true l)))) st) : tcall cx d (.ext (.builtin "re.Pattern.sub")) [.ext (.ref p), .d (.str ".."), .d (.str (S l))] [] st Post := by
  intro A o al s fv vs ks R ok hf hv hkn hks
  obtain rfl : fv = .builtin "re.Pattern.sub" := hf
  cases hv with | cons hp hv => cases hv with | cons h1 hv => cases hv with | cons h2 hv =>
    cases hv
    obtain rfl : _ = Value.ref p := hp
    obtain ⟨t1, rfl⟩ := rd_str h1
    obtain ⟨t2, rfl⟩ := rd_str h2
    obtain rfl : ks = [] := by simpa using hkn
    obtain ⟨ps, c1, c2, c3⟩ := cut1 l l.length 0 (Nat.zero_le _) (by omega)
    have e0 : atLine l.toArray 0 = true := rfl
    rw [List.drop_zero, e0] at c2
    have hn := dotted_len l true
    have e : Txt.join "" ps = S (dotted true l) := by
      apply PySem.Str.ext'
      apply Array.toList_inj.mp
      rw [join_nil, c2]; rfl
    refine Op.ofVal ok fun Q E k => call_sub (hk _ ok.K) (finds1 (l := l) (by omega)) c1 (by rw [S_len]; omega) (by omega) (joinOk_cat (by rw [c2]; omega)) (by decide +kernel) fun h' k' t' hh => ?_
    rw [e]
    exact k _ h' k' (.d (.str (S (dotted true l)))) hh (.str _ _) h
theorem tcall_search {p : Addr} {code : Array Nat} {l : List Nat} (hk : ∀ h, cx.K.In h → PatOk h p code) (hl : l.length ≤ 100000) (hc : code = code3 ∨ code = code4) (hm : ∀ c ∈ l, isCtl c = false) (h : Post (.d .none) st) :
    tcall cx d (.ext (.builtin "re.Pattern.search")) [.ext (.ref p), .d (.str (S l))] [] st Post := by
  intro A o al s fv vs ks R ok hf hv hkn hks
  obtain rfl : fv = .builtin "re.Pattern.search" := hf
  cases hv with | cons hp hv => cases hv with | cons h1 hv =>
    cases hv
    obtain rfl : _ = Value.ref p := hp
    obtain ⟨t1, rfl⟩ := rd_str h1
    obtain rfl : ks = [] := by simpa using hkn
    have hm' : ∀ i, 0 ≤ i → i < (S l).cps.size → isCtl ((S l).cps.getD i 0) = false := by
      intro i _ hi
      have hi' : i < l.length := by simpa [S] using hi
      have e : (S l).cps.getD i 0 = l[i] := by simp [S, hi']
      rw [e]
      exact hm _ (List.getElem_mem hi')
    refine Op.ofVal ok fun Q E k => call_search (hk _ ok.K) (by rw [S_len]; omega) ?_ (k .none s.heap s.toks (.d .none) (fun _ _ e => e) .none h)
    rcases hc with rfl | rfl
    · exact search3_miss hm'
    · exact search4_miss hm'
end
end Mine

-- U1
namespace Mine
open PySem PySem.W PySem.Calls PyProof.Rows

variable {cx : Cx} {d : Nat} {env : Env} {ρ : Vars} {st : Store} {pos : Pos}

theorem two_of {α : Type} {l : List α} (h : l.length = 2) : ∃ a b, l = [a, b] := by
  cases l with
  | nil => cases h
  | cons a l => cases l with
    | nil => cases h
    | cons b l =>
      have : l = [] := List.eq_nil_of_length_eq_zero (Nat.succ.inj (Nat.succ.inj h))
      exact ⟨a, b, by rw [this]⟩
theorem binds1 {fd : FuncData} {n : PySem.Str} (h : ∀ v, bindArgs fd ⟨[v], []⟩ = pure [(n, v)]) : Binds cx fd 1 [] [n] [] := by
  intro s vals ks K hl hk
  obtain ⟨v, rfl⟩ : ∃ v, vals = [v] := List.length_eq_one_iff.mp hl
  obtain rfl : ks = [] := by simpa using hk
  exact BindsTo.of_eq (h v)
theorem binds2 {fd : FuncData} {n m : PySem.Str} (h : ∀ v w, bindArgs fd ⟨[v, w], []⟩ = pure [(n, v), (m, w)]) : Binds cx fd 2 [] [n, m] [] := by
  intro s vals ks K hl hk
  obtain ⟨v, w, rfl⟩ := two_of hl
  obtain rfl : ks = [] := by simpa using hk
  exact BindsTo.of_eq (h v w)

variable {P : Params}
theorem pat1_ok (hK : cx.K = hd.heap_1 P) {h : Heap} (X : cx.K.In h) : PatOk h 94 code1 := by
  rw [hK] at X
  exact ⟨_, 93, _, _, X 94 _ (by rfl), rfl, X 93 _ (by rfl), by rfl, by rfl, by decide +kernel⟩
theorem pat2_ok (hK : cx.K = hd.heap_1 P) {h : Heap} (X : cx.K.In h) : PatOk h 99 code2 := by
  rw [hK] at X
  exact ⟨_, 98, _, _, X 99 _ (by rfl), rfl, X 98 _ (by rfl), by rfl, by rfl, by decide +kernel⟩

set_option maxHeartbeats 2000000 in
theorem f_quotedata (hK : cx.K = hd.heap_1 P) {l : List Nat} {Post : V → Store → Prop} (hl : l.length ≤ 20000) (h : Post (.d (.str (S (dotted true (norm l))))) st) : tcall cx (d + 1) (.ext (.ref 106)) [.d (.str (S l))] [] st Post := by
  refine tcall_def (cx := cx) (f := 106) (names := ["data"]) (ex := []) (exV := []) (ho := by rw [hK]; rfl) (hcd := by rw [hK]; rfl) (hbind := binds1 fun v => rfl) (hex := fun _ _ => .nil) (hco := rfl) (hgen := rfl) (hk := rfl) (hnames := by decide +kernel) (hnn := by decide +kernel) (hnd := by decide +kernel) fun L => ?_
  refine tb_cons (ts_ret ?_)
  have hn := norm_len l
  refine te_meth (by rfl) (te_glob (v := .ref 94) (by rw [hK]; kernel_rfl) ⟨.builtin "re.Pattern.sub", [.ext (.ref 94)], rfl, tgm_re (fun h X => pat1_ok hK X) slot_re_sub type_re_sub, ?_⟩)
  refine te_str ?_
  refine te_meth (by rfl) (te_glob (v := .ref 99) (by rw [hK]; kernel_rfl) ⟨.builtin "re.Pattern.sub", [.ext (.ref 99)], rfl, tgm_re (fun h X => pat2_ok hK X) slot_re_sub type_re_sub, ?_⟩)
  refine te_globS (y := "\r\n") (t := ?t) (by rw [hK]; exact rfl) ?_
  refine te_name rfl ?_
  refine tcall_sub2 (fun h X => pat2_ok hK X) (by omega) ?_
  refine tcall_sub1 (fun h X => pat1_ok hK X) (by omega) ?_
  refine ⟨_, rfl, ?_⟩
  rw [List.take_length]
  exact h
end Mine

-- N13
namespace Mine
open PySem PySem.W PySem.Calls PyProof.Rows

variable {cx : Cx} {d : Nat} {env : Env} {ρ : Vars} {st : Store} {pos : Pos}

theorem def_enter {M : Model} {A A₀ A' : Around} {E : Value → Shared → Prop} {hx o al : List Addr} {h₀ : Heap} {tk₀ : Nat} {s : Shared} {scope : Scope} {qual : PySem.Str} {f : Addr} {cdv : Value} {names : List PySem.Str} {vals : List Value} {xs : List V} {Q : Env → Shared → Prop}
    (ok : Ok cx A₀ o al st h₀ tk₀) (hfr : A'.frames = A₀.frames.map (envOfC qual scope s.heap.objs.size f cdv :: ·)) (htk : tk₀ ≤ s.toks) (hk₀ : h₀.StaysIn s.heap) (hge₀ : h₀.objs.size ≤ s.heap.objs.size) (hx₁ : ∀ b ∈ hx, h₀.objs.size ≤ b) (hx₂ : ∀ b ∈ hx, ∃ ob, s.heap.get? b = some ob ∧ ¬ SeqObj ob) (hxn : hx.Nodup)
    (all : VRepAll cx (vw h₀ (o ++ al)) al vals xs) (hk : scope.kind = .function) (hnames : (names.all fun y => scope.names.lookup y == some .local || scope.names.lookup y == some .cell) = true) (hnn : names.Nodup)
    (hnd : ((cellsFrom 0 scope.names []).map (·.1)).Nodup)
    (hQ : ∀ s', (∃ h tk, s' = { s with heap := h, toks := tk }) → s.heap.StaysIn s'.heap → At cx A' (envOfC qual scope s.heap.objs.size f cdv) (hx ++ o) al (names.zip xs) st s'.heap s'.toks →
      (∀ b ob, h₀.get? b = some ob → b ∉ o ++ al → s'.heap.get? b = some ob ∧ b ∉ ow (envOfC qual scope s.heap.objs.size f cdv) (hx ++ o) ++ al) → Q (envOfC qual scope s.heap.objs.size f cdv) s') :
    wpAny M A (newFunctionEnv scope mainGlobals [] (names.zip vals) (qual ++ Str.ofString ".<locals>.") (some f) cdv none builtinsNs) Q E s := by
  have hlk : ∀ n, scope.names.lookup n = some .cell → ((cellsFrom (s.heap.objs.size + 1) scope.names []).lookup n).isSome = true := fun n e => (cellsFrom_some scope.names (s.heap.objs.size + 1) [] (.inl e))
  refine wpAny_with_toks (n := s.toks) (Nat.le_refl _) (wpAny_newFunctionEnv_cells hk (fun y hy => ?_) fun env' he s' x htk' => ?_)
  · have := List.all_eq_true.mp hnames y.1 (mem_zip_fst hy)
    rcases Bool.or_eq_true_iff.mp this with q | q
    · exact .inl (by simpa using q)
    · have q' : scope.names.lookup y.1 = some .cell := by simpa using q
      exact .inr ⟨q', hlk y.1 q'⟩
  · have hnd' : ((cellsFrom (s.heap.objs.size + 1) scope.names []).map (·.1)).Nodup := cellsFrom_names scope.names 0 (s.heap.objs.size + 1) [] [] rfl ▸ hnd
    have he' : env' = envOfC qual scope s.heap.objs.size f cdv := he
    clear he
    subst he'
    have keep := x.toInCall.keep
    have hgeF : ∀ a, a = s.heap.objs.size ∨ a ∈ (cellsFrom (s.heap.objs.size + 1) scope.names []).map (·.2) → s.heap.objs.size ≤ a := by
      intro a ha
      rcases ha with rfl | ha
      · exact Nat.le_refl _
      · obtain ⟨p, hp, rfl⟩ := List.mem_map.mp ha
        exact Nat.le_of_lt (x.above p.1 p.2 hp)
    have hxlt : ∀ b ∈ hx, b < s.heap.objs.size := fun b hb => let ⟨ob, e, _⟩ := hx₂ b hb; Heap.lt_size e
    have hge : ∀ a ∈ ow (envOfC qual scope s.heap.objs.size f cdv) (hx ++ o), h₀.objs.size ≤ a ∨ a ∈ o := by
      intro a ha
      rcases List.mem_cons.mp ha with rfl | ha
      · exact .inl hge₀
      · rcases List.mem_append.mp ha with ha | ha
        · exact .inl (Nat.le_trans hge₀ (hgeF a (.inr ha)))
        · rcases List.mem_append.mp ha with ha | ha
          · exact .inl (hx₁ a ha)
          · exact .inr ha
    have hown : ∀ b ob, h₀.get? b = some ob → b ∉ o ++ al → s'.heap.get? b = some ob ∧ b ∉ ow (envOfC qual scope s.heap.objs.size f cdv) (hx ++ o) ++ al := by
      intro b ob e hn
      refine ⟨keep b ob (hk₀ b ob e), fun m => ?_⟩
      rcases List.mem_append.mp m with m | m
      · rcases hge b m with q | q
        · exact absurd (Heap.lt_size e) (Nat.not_lt.mpr q)
        · exact hn (List.mem_append.mpr (.inl q))
      · exact hn (List.mem_append.mpr (.inr m))
    have view : (vw h₀ (o ++ al)).StaysIn (vw s'.heap (ow (envOfC qual scope s.heap.objs.size f cdv) (hx ++ o) ++ al)) := vw_mono fun b ob n e => hown b ob e n
    have nda := List.nodup_append.mp ok.nd
    have hlo : ∀ b ∈ o, b < h₀.objs.size := fun b hb => ok.lt (List.mem_append.mpr (.inl hb))
    have ok' : Ok cx A' (ow (envOfC qual scope s.heap.objs.size f cdv) (hx ++ o)) al st s'.heap s'.toks := by
      have inO : ∀ a, a ∈ o → a ∈ ow (envOfC qual scope s.heap.objs.size f cdv) (hx ++ o) := fun a m => .tail _ (List.mem_append.mpr (.inr (List.mem_append.mpr (.inr m))))
      refine ⟨?_, Nat.zero_le _, fun b ob e => view b ob (ok.base b ob e), ?_, ?_, ok.st.1, fun i a ys e1 e2 => ?_⟩
      · obtain ⟨l, hl, hf⟩ := ok.stk
        refine ⟨envOfC qual scope s.heap.objs.size f cdv :: l, by rw [hfr, hl]; rfl, fun env m => ?_⟩
        rcases List.mem_cons.mp m with rfl | m
        · obtain ⟨ob, es, ep, q1, q2, _⟩ := x.toInCall.ns
          refine ⟨by show scope.kind ≠ .module; rw [hk]; decide, s.heap.objs.size, .head _, rfl, ob, q1, fun vs q => by rw [q2] at q; cases q⟩
        · obtain ⟨q, L, hL, hfr', ob, ho', hd⟩ := hf env m
          exact ⟨q, L, inO L hL, hfr', ob, keep _ _ (hk₀ _ _ ho'), hd⟩
      · refine List.nodup_append.mpr ⟨?_, nda.2.1, fun a ha b hb e => ?_⟩
        · refine List.nodup_cons.mpr ⟨fun m => ?_, ?_⟩
          · rcases List.mem_append.mp m with m | m
            · obtain ⟨p, hp, e⟩ := List.mem_map.mp m
              exact absurd (x.above p.1 p.2 hp) (by rw [e]; exact Nat.lt_irrefl _)
            · rcases List.mem_append.mp m with m | m
              · exact absurd (hxlt _ m) (Nat.lt_irrefl _)
              · exact absurd (hlo _ m) (Nat.not_lt.mpr hge₀)
          · refine List.nodup_append.mpr ⟨List.pairwise_map.mpr (x.apart.imp fun q => q), List.nodup_append.mpr ⟨hxn, nda.1, fun a ha b hb e => ?_⟩, fun a ha b hb e => ?_⟩
            · have h1 := hx₁ a ha
              have h2 := hlo b hb
              rw [e] at h1
              exact absurd h2 (Nat.not_lt.mpr h1)
            · have h1 := hgeF a (.inr ha)
              rcases List.mem_append.mp hb with hb | hb
              · have h2 := hxlt b hb
                rw [e] at h1
                exact absurd h2 (Nat.not_lt.mpr h1)
              · have h2 := hlo b hb
                rw [e] at h1
                exact absurd (Nat.lt_of_lt_of_le h2 hge₀) (Nat.not_lt.mpr h1)
        · rcases hge a ha with h1 | h1
          · have h2 := ok.lt (List.mem_append.mpr (.inr hb))
            rw [e] at h1
            exact absurd h2 (Nat.not_lt.mpr h1)
          · exact nda.2.2 a h1 b hb e
      · intro a ha
        rcases List.mem_cons.mp ha with rfl | ha
        · obtain ⟨ob, es, ep, q1, q2, _⟩ := x.toInCall.ns
          exact ⟨ob, q1, fun ⟨vs, n, q⟩ => by rw [q2] at q; cases q⟩
        · rcases List.mem_append.mp ha with ha | ha
          · obtain ⟨p, hp, rfl⟩ := List.mem_map.mp ha
            obtain ⟨ob, q1, q2⟩ := x.cell p.1 p.2 (lookup_of_mem_nodup hnd' hp)
            exact ⟨ob, q1, fun ⟨vs, n, q⟩ => by rw [q2] at q; cases q⟩
          · rcases List.mem_append.mp ha with ha | ha
            · obtain ⟨ob, q1, q2⟩ := hx₂ a ha
              exact ⟨ob, keep a ob q1, q2⟩
            · obtain ⟨ob, q1, q2⟩ := ok.own a ha
              exact ⟨ob, keep a ob (hk₀ _ _ q1), q2⟩
      · exact (ok.st.2 i a ys e1 e2).mono (fun ob q => keep _ _ (hk₀ _ _ q)) view
    have at0 : At cx A' (envOfC qual scope s.heap.objs.size f cdv) (hx ++ o) al (names.zip xs) st s'.heap s'.toks := by
      refine ⟨ok', hk, rfl, rfl, _, _, x.toInCall.ns, x.cell, fun y v e => ?_⟩
      obtain ⟨val, m, r⟩ := all.zip e
      refine ⟨val, by have := r.mono (al' := []) view; rwa [List.append_nil] at this, ?_⟩
      have hn := List.all_eq_true.mp hnames y (mem_zip_fst m)
      have hnd2 : ((names.zip vals).map (·.1)).Nodup := zip_fst_nodup hnn
      rcases Bool.or_eq_true_iff.mp hn with q | q
      · have q1 : scope.names.lookup y = some .local := by simpa using q
        have q' : (envOfC qual scope s.heap.objs.size f cdv).kindOf y = some .local := q1
        exact .inl ⟨q', bindL_get q' hnd2 m⟩
      · have q1 : scope.names.lookup y = some .cell := by simpa using q
        have q' : (envOfC qual scope s.heap.objs.size f cdv).kindOf y = some .cell := q1
        exact .inr ⟨.inl q', hlk y q1, bindC_get (by rw [q']; decide) hnd2 m⟩
    exact hQ s' x.toInCall.same (fun b ob e => keep b ob e) at0 hown

end Mine

-- N14
namespace Mine
open PySem PySem.W PySem.Calls PyProof.Rows

variable {cx : Cx} {d : Nat} {env : Env} {ρ : Vars} {st : Store} {pos : Pos} {Post : V → Store → Prop}

structure HCls (K : Frag) (C : Addr) : Prop where
  makes : makesIn K C = true
  ga : findIn K (.ref C) "__getattribute__" = some (some (.builtin "object.__getattribute__"))
  gn : findIn K (.ref C) "__getattr__" = some none
  dict : hasDictIn K C = true
  at_ : findIn K (.ref C) "_headers" = some none
  sa : findIn K (.ref C) "__setattr__" = some (some (.builtin "object.__setattr__"))
  over : plainOver K C = true
  taker : takerIn K C "_headers" = some none

theorem lookIn_hdr {hsh : Int} {tok : Tok} {hv : Value} {n : Nat} : lookIn "_headers" { cls := .type "dict", data := .dict #[⟨hsh, .str "_headers" tok, hv⟩] n } = some (some hv) := by
  show (match List.find? (fun e : DictEntry => e.key.isStr "_headers") [⟨hsh, .str "_headers" tok, hv⟩] with
      | some e => some (some e.val)
      | none => if [(⟨hsh, .str "_headers" tok, hv⟩ : DictEntry)].any (·.refKey) then none else some none) = some (some hv)
  rw [List.find?_cons_of_pos]
  show (Value.isStr (.str "_headers" tok) "_headers") = true
  exact beq_self_eq_true (("_headers" : PySem.Str))
theorem lookIn_other {hsh : Int} {tok : Tok} {hv : Value} {n : Nat} {name : PySem.Str} (hn : (("_headers" : PySem.Str) == name) = false) : lookIn name { cls := .type "dict", data := .dict #[⟨hsh, .str "_headers" tok, hv⟩] n } = some none := by
  show (match List.find? (fun e : DictEntry => e.key.isStr name) [⟨hsh, .str "_headers" tok, hv⟩] with
      | some e => some (some e.val)
      | none => if [(⟨hsh, .str "_headers" tok, hv⟩ : DictEntry)].any (·.refKey) then none else some none) = some none
  rw [List.find?_cons_of_neg]
  · rfl
  · show ¬ (Value.isStr (.str "_headers" tok) name) = true
    have e : Value.isStr (.str "_headers" tok) name = (("_headers" : PySem.Str) == name) := rfl
    rw [e, hn]; decide

theorem inst_at {g : Heap} {x dx C : Addr} {od : Obj} (h1 : g.get? x = some (instObj C dx)) (h2 : g.get? dx = some od) : InstAt g x (instObj C dx) C (some od) := ⟨h1, rfl, rfl, h2⟩

theorem te_hdr {n : PySem.Str} {np : Pos} (H : HCls cx.K cx.hC) (h : te cx d env ρ st (.Name n np) fun v st₁ => ∃ u, v = .hdr u ∧ (∀ g al val, VRep cx g al val u → handedIn val = true) ∧ Post u st₁) : te cx d env ρ st (.Attribute (.Name n np) "_headers" pos) Post := by
  intro A hx al s R a Q E k
  refine Attribute_name (h A hx al s R a _ E fun v st₁ val al₁ h₁ tk₁ n₁ v₁ p₁ => ?_)
  obtain ⟨u, rfl, hh, p⟩ := p₁
  obtain ⟨x, dx, od, hv, rfl, g1, g2, ⟨hsh, tok, nn, rfl⟩, r⟩ := v₁
  have X := n₁.ok.K
  have I : InstAt h₁ x (instObj cx.hC dx) cx.hC (some _) := inst_at (vw_get.mp g1).1 (vw_get.mp g2).1
  refine get_value (s := { s with heap := h₁, toks := tk₁ }) X I H.ga (findObj_own H.dict H.at_ rfl lookIn_hdr) (hh _ _ _ r) ?_
  exact lift_k (A := A) n₁ k u st₁ hv [] h₁ (tk₁ + 1) ((Nx.refl n₁.ok).raise (Nat.le_succ _)) (by rw [List.append_nil]; exact r) p
theorem tgm_hdr {u : V} {name : PySem.Str} {f : Addr} (H : HCls cx.K cx.hC) (hf : findIn cx.K (.ref cx.hC) name = some (some (.ref f))) (ht : typeIn cx.K (.ref f) = some (.type "function")) (hn : (("_headers" : PySem.Str) == name) = false) :
    tgm cx d (.hdr u) name (.ref f) [.hdr u] st := by
  intro A o al s va pl R ok hv Q E k
  obtain ⟨x, dx, od, v, rfl, g1, g2, ⟨hsh, tok, nn, rfl⟩, r⟩ := id hv
  exact method_fn ok.K (inst_at (vw_get.mp g1).1 (vw_get.mp g2).1) H.ga H.gn hf ht (by show (lookIn name _).map _ = _; rw [lookIn_other hn]; rfl) (k _ s.toks (Nat.le_refl _) (.cons hv .nil))

theorem osa_new {A : Around} {R : Result → Shared → Prop} {s : Shared} {x dx : Addr} {v : Value} {tk : Tok} (H : HCls cx.K cx.hC) (X : cx.K.In s.heap) (g1 : s.heap.get? x = some (instObj cx.hC dx)) (g2 : s.heap.get? dx = some emptyDict)
    (h : ∀ h' od tk, h'.get? dx = some od → HasH od v → Heap.SameBut dx s.heap h' → s.toks ≤ tk → R (.ok (.ret .none)) { s with heap := h', toks := tk }) :
    codeAny (model cx.prog cx.w) A (.call (.builtin "object.__setattr__") ⟨[.ref x, .str "_headers" tk, v], []⟩) R s := by
  refine osa_open X (inst_at g1 g2) H.over H.taker fun b => ?_
  obtain ⟨cd, hc, hd'⟩ := any_some H.dict
  refine wpAny_bind (wpAny_pure (wpAny_bind (wpAny_bind (wpAny_loadPart g1 (wpAny_bind ((looks_clsIn X hc).here ?_))))))
  rw [hd']
  refine wpAny_pure (a := some dx) (wpAny_bind (wpAny_pure (wpAny_bind ?_)))
  unfold nsSet
  refine wpAny_bind (wpAny_bind (wpAny_askSetting (wpAny_pure (wpAny_bind (wpAny_mkText (wpAny_bind (wpAny_loadPart g2 ?_)))))))
  dsimp only
  have e := putName_dict "_headers" (PyData.keyHash cx.w.params "_headers") (.str "_headers" s.toks) v [] 0
  have g3 : s.heap.get? dx = some (dictOf [] 0) := g2
  have g4 := Heap.get?_update_self (Obj.putName "_headers" (PyData.keyHash cx.w.params "_headers") (.str "_headers" s.toks) v) g3 (by rw [e]; rfl)
  rw [e] at g4
  refine wpAny_updatePart g2 ?_
  refine wpAny_bind (wpAny_lookBehind g4 (pastItsLine_dict (by show (1 : Nat) ≤ sizeLine + 1; decide)) ?_)
  exact wpAny_pure (h _ _ _ g4 ⟨_, _, _, rfl⟩ (Heap.SameBut.update ..) (Nat.le_succ _))
theorem set_headers {A : Around} {E : Value → Shared → Prop} {s : Shared} {x dx : Addr} {v : Value} {Q : Unit → Shared → Prop} (H : HCls cx.K cx.hC) (X : cx.K.In s.heap) (g1 : s.heap.get? x = some (instObj cx.hC dx)) (g2 : s.heap.get? dx = some emptyDict)
    (h : ∀ h' od tk, h'.get? dx = some od → HasH od v → Heap.SameBut dx s.heap h' → s.toks ≤ tk → Q () { s with heap := h', toks := tk }) : wpAny (model cx.prog cx.w) A (setAttr (.ref x) "_headers" v) Q E s :=
  set_plain X (inst_at g1 g2) H.sa (osa_new (s := { s with toks := s.toks + 1 }) H X g1 g2 fun h' od tk e1 e2 e3 e4 => h h' od tk e1 e2 e3 (Nat.le_trans (Nat.le_succ _) e4))
end Mine

-- N15
namespace Mine
open PySem PySem.W PySem.Calls PyProof.Rows

variable {cx : Cx} {d : Nat} {env : Env} {ρ : Vars} {st : Store} {pos : Pos} {Post : V → Store → Prop}

theorem stars_none {env : Env} {pos : Pos} : ∀ {es : List Expr}, plainArgs es = true → (backTo pos (starEach es env)).any (·.1) = false
  | [], _ => rfl
  | e :: r, h => by
    obtain ⟨e1, e2⟩ := starEach_plain (env := env) h
    rw [e1]
    exact stars_none e2

theorem te_methK {ob e0 ke : Expr} {rest : List Expr} {name kn : PySem.Str} {kp : Pos} {apos : Pos} (hp : plainArgs (e0 :: rest) = true)
    (h : te cx d env ρ st ob fun v st₁ => ∃ f first, keepIn cx.K f = true ∧ tgm cx d v name f first st₁ ∧ tes cx d env ρ (e0 :: rest) st₁ fun xs st₂ => te cx d env ρ st₂ ke fun kv st₃ => tcall cx d (.ext f) (first ++ xs) [(kn, kv)] st₃ Post)
    (hbase : attributeBase ob name env (eval ob env) = eval ob env := by rfl) (hline : (apos.endLine == pos.line) = true := by rfl) (hfew : decide (rest.length < 25) = true := by rfl) :
    te cx d env ρ st (.Call (.Attribute ob name apos) (e0 :: rest) [⟨some kn, ke, kp⟩] pos) Post := by
  intro A hx al s R a Q E k
  have hform : methodCallForm ((e0 :: rest).length + [(⟨some kn, ke, kp⟩ : Keyword)].length) (backTo pos (starEach (e0 :: rest) env)) (backToKw pos (keywordEach [⟨some kn, ke, kp⟩] env)) = true := by
    have h2 : (backTo pos (starEach (e0 :: rest) env)).all (fun x => !x.1) = true := by
      have := stars_none (env := env) (pos := pos) hp
      rw [List.any_eq_false] at this
      rw [List.all_eq_true]
      intro x hx
      have := this x hx
      simpa using this
    unfold methodCallForm
    rw [h2]
    have h3 : rest.length < 25 := of_decide_eq_true hfew
    simp [backToKw, keywordEach]
    omega
  have hpos : methodCallPos true ob env apos pos = pure pos := by unfold methodCallPos; simp [hline]
  rw [arm_eval_Call, hbase]
  refine wpAny_bind (h A hx al s R a _ E fun v st₁ va al₁ h₁ tk₁ n₁ v₁ p₁ => ?_)
  obtain ⟨f, first, hc, hg, ht⟩ := p₁
  refine wpAny_bind (wpAny_standAt ?_)
  unfold methodCall
  rw [hform]
  refine wpAny_bind (wpAny_holding ?_)
  refine hg A (ow env hx) _ _ va _ R n₁.ok v₁ _ E fun fs tk htk hfs => ?_
  refine wpAny_bind (wpAny_of_eq hpos ?_)
  obtain ⟨s1, s2⟩ := starEach_plain (env := env) hp
  refine callWith_KW (K := cx.K) (h₀ := cx.base) cx.X hc (by rfl) ?_ (by rw [stars_none hp]; rfl) s1
  have a₁ := (a.next n₁).raise htk
  refine tes_run (pos := pos) R (e0 :: rest) _ { s with heap := h₁, toks := tk } _ hp ht a₁ fun xs st₂ vals al₂ h₂ tk₂ n₂ v₂ p₂ => ?_
  show wpAny _ A (evalAll [eval ke env >>= fun v => standAt pos >>= fun _ => pure v]) _ E _
  refine evalAll_cons (wpAny_bind (p₂ A hx _ _ R (a₁.next n₂) _ E fun kv st₃ kval al₃ h₃ tk₃ n₃ v₃ p₃ => wpAny_bind (wpAny_standAt (wpAny_pure (evalAll_nil ⟨n₃.ok.K, ?_⟩)))))
  refine p₃ A (ow env hx) _ { s with heap := h₃, toks := tk₃ } f (fs ++ vals) [(kn, kval)] R n₃.ok rfl ?_ rfl (.cons v₃ .nil) Q E ?_
  · exact ((hfs.mono n₂.vw).app v₂).mono n₃.vw
  · have k1 := lift_k (A := A) (s := s) (n₁.raise htk) k
    have k2 := lift_k (A := A) (s := { s with heap := h₁, toks := tk }) n₂ k1
    exact lift_k (A := A) (s := { s with heap := h₂, toks := tk₂ }) n₃ k2

end Mine

-- N16
namespace Mine
open PySem PySem.W PySem.Calls PyProof.Rows

variable {cx : Cx} {d : Nat} {env : Env} {ρ : Vars} {st : Store} {pos : Pos} {Post : V → Store → Prop}

theorem tcall_typeS {x : PySem.Str} (h : Post (.ext (.type "str")) st) : tcall cx d (.ext (.type "type")) [.d (.str x)] [] st Post := tcall_bi fun A o al s vs R ok hv => by
  obtain ⟨_, rfl, v1⟩ := va1 hv
  obtain ⟨t, rfl⟩ := rd_str v1
  exact Op.ofVal ok fun Q E k => call_type_of (typeIs_str s x t) (by decide) (k _ s.heap s.toks (.ext (.type "str")) (fun _ _ e => e) rfl h)
theorem tcmp_isT {a b : String} (h : Post (.d (.bool (Value.type a == Value.type b))) st) : tcmp cx d .Is (.ext (.type a)) (.ext (.type b)) st Post := by
  intro A o al s va vb R ok v1 v2
  obtain rfl : va = .type a := v1
  obtain rfl : vb = .type b := v2
  exact Op.ofVal ok fun Q E k => wpAny_pure (k _ s.heap s.toks (.d (.bool _)) (fun _ _ e => e) (.bool _) h)
theorem tcmp_isNotT {a b : String} (h : Post (.d (.bool (!(Value.type a == Value.type b)))) st) : tcmp cx d .IsNot (.ext (.type a)) (.ext (.type b)) st Post := by
  intro A o al s va vb R ok v1 v2
  obtain rfl : va = .type a := v1
  obtain rfl : vb = .type b := v2
  exact Op.ofVal ok fun Q E k => wpAny_pure (k _ s.heap s.toks (.d (.bool _)) (fun _ _ e => e) (.bool _) h)
end Mine

-- N17
namespace Mine
open PySem PySem.W PySem.Calls PyProof.Rows

variable {cx : Cx} {d : Nat} {env : Env} {ρ : Vars} {st : Store} {pos : Pos} {Post : V → Store → Prop}

theorem def_leave2 {A' : Around} {hx o al al' : List Addr} {h₀ h' : Heap} {tk₀ tk' : Nat} {env' : Env} {ρ' : Vars} {st' : Store} (ok : Ok cx A o al st h₀ tk₀) (a' : At cx A' env' (hx ++ o) (al ++ al') ρ' st' h' tk') (fr : Sl o h₀ h') (out : ∀ b ob, h₀.get? b = some ob → b ∉ o ++ al → h'.get? b = some ob ∧ b ∉ al') :
    Nx cx A o al al' st' h₀ h' tk' ∧ ∀ {x : PyData} {v : Value}, Rd (vw h' (ow env' (hx ++ o) ++ (al ++ al'))) v x → Rd (vw h' (o ++ (al ++ al'))) v x := by
  have nda := List.nodup_append.mp ok.nd
  have okc := a'.ok
  have own' : ∀ a ∈ o, ∃ ob, h'.get? a = some ob ∧ ¬ SeqObj ob := fun a ha => let ⟨ob, q1, q2⟩ := ok.own a ha; let ⟨ob', e', q⟩ := fr a ha ob q1; ⟨ob', e', fun ⟨vs, n, z⟩ => q2 ⟨vs, n, q.data.symm.trans z⟩⟩
  have view' : (vw h₀ (o ++ al)).StaysIn (vw h' (o ++ (al ++ al'))) := vw_mono fun b ob hn e => by
    obtain ⟨q1, q2⟩ := out b ob e hn
    refine ⟨q1, fun m => ?_⟩
    rcases List.mem_append.mp m with m | m
    · exact hn (List.mem_append.mpr (.inl m))
    · rcases List.mem_append.mp m with m | m
      · exact hn (List.mem_append.mpr (.inr m))
      · exact q2 m
  have ndc := List.nodup_append.mp okc.nd
  refine ⟨⟨⟨ok.stk.stay fr, okc.tok, fun b ob e => view' b ob (ok.base b ob e), ?_, own', okc.st.1, fun i a ys e1 e2 => (okc.st.2 i a ys e1 e2).on (fun _ q => q) fun b ob hs e => rd_out (al := al ++ al') (al' := []) own' hs (by rw [List.append_nil]; exact e)⟩, fr, view'⟩, fun r => r.on fun b ob hs e => rd_out (al := al ++ al') (al' := []) own' hs (by rw [List.append_nil]; exact e)⟩
  exact List.nodup_append.mpr ⟨nda.1, ndc.2.1, fun x hx' y hy e => ndc.2.2 x (.tail _ (List.mem_append.mpr (.inr (List.mem_append.mpr (.inr hx'))))) y hy e⟩

theorem execs_append (env : Env) (post : List Stmt) : ∀ pre : List Stmt, execs (pre ++ post) env = (execs pre env >>= fun f => match f with | .next => execs post env | f => pure f)
  | [] => by
    have e : execs ([] : List Stmt) env = pure .next := rfl
    rw [e, pure_bind]; rfl
  | x :: pre => by
    have e1 : ∀ r : List Stmt, execs (x :: r) env = (exec x env >>= fun f => match f with | .next => execs r env | f => pure f) := fun r => rfl
    rw [List.cons_append, e1, e1, bind_assoc]
    congr 1
    funext f
    cases f with
    | next => exact execs_append env post pre
    | _ => rw [pure_bind]
theorem execs_app {M : Model} {A : Around} {E : Value → Shared → Prop} {env : Env} {Q : Flow → Shared → Prop} {pre post : List Stmt} {s : Shared} (h : wpAny M A (execs pre env) (fun f s' => match f with | .next => wpAny M A (execs post env) Q E s' | f => Q f s') E s) : wpAny M A (execs (pre ++ post) env) Q E s := by
  rw [execs_append]
  refine wpAny_bind (wpAny_mono h (fun f s' hf => ?_) fun _ _ e => e)
  cases f with
  | next => exact hf
  | _ => exact wpAny_pure hf

theorem cells_above' (lo : Nat) : ∀ (names : List (PySem.Str × NameKind)) (n : Nat) (acc : List (PySem.Str × Addr)), lo ≤ n → (∀ p ∈ acc, lo ≤ p.2) → ∀ p ∈ cellsFrom n names acc, lo ≤ p.2
  | [], n, acc, _, ha, p, hp => ha p hp
  | (name, kind) :: r, n, acc, hn, ha, p, hp => by
    unfold cellsFrom at hp
    split at hp
    · refine cells_above' lo r (n + 1) _ (Nat.le_succ_of_le hn) (fun q hq => ?_) p hp
      rcases List.mem_cons.mp hq with rfl | hq
      · exact hn
      · exact ha q hq
    · exact cells_above' lo r n acc hn ha p hp
theorem cells_above (names : List (PySem.Str × NameKind)) (n : Nat) {p : PySem.Str × Addr} (hp : p ∈ cellsFrom (n + 1) names []) : n < p.2 := cells_above' (n + 1) names (n + 1) [] (Nat.le_refl _) (fun _ h => nomatch h) p hp

theorem At.setNew {A : Around} {hx al : List Addr} {h h' : Heap} {tk tk' : Nat} {dx : Addr} (a : At cx A env hx al ρ st h tk) (hd : dx ∉ ow env hx ++ al) (hb : cx.base.get? dx = none) (ns : ∃ ob, h.get? dx = some ob ∧ ¬ SeqObj ob)
    (sb : Heap.SameBut dx h h') (htk : tk ≤ tk') (ρ' : Vars) (hρ : ∀ y v, ρ'.lookup y = some v → ρ.lookup y = some v ∧ ((∃ x, v = .d x) ∨ (∃ n, v = .c n) ∨ ∃ w, v = .ext w)) : At cx A env hx al ρ' st h' tk' := by
  have keep : ∀ b o, b ≠ dx → h.get? b = some o → h'.get? b = some o := fun b o n e => (sb.2 b n).trans e
  have hne : ∀ b ∈ ow env hx ++ al, b ≠ dx := fun b m q => hd (q ▸ m)
  have hk : ∀ b o, SeqObj o → (vw h (ow env hx ++ al)).get? b = some o → (vw h' (ow env hx ++ al)).get? b = some o := fun b o hs e => by
    obtain ⟨e1, e2⟩ := vw_get.mp e
    refine vw_get.mpr ⟨keep b o (fun q => ?_) e1, e2⟩
    subst q
    obtain ⟨ob, q1, q2⟩ := ns
    rw [q1] at e1
    cases e1
    exact q2 hs
  obtain ⟨m, cm, hm, hc, hv⟩ := a.vars
  have mo : ∀ b, b ∈ ow env hx → b ∈ ow env hx ++ al := fun b m => List.mem_append.mpr (.inl m)
  refine ⟨⟨a.ok.stk.keep (fun _ m => m) (fun b m o e d => ⟨o, keep b o (hne b (mo b m)) e, d⟩), Nat.zero_le _, fun b o e => ?_, a.ok.nd, fun b m => let ⟨o, e, n⟩ := a.ok.own b m; ⟨o, keep b o (hne b (mo b m)) e, n⟩, a.ok.st.1,
    fun i b c e1 e2 => (a.ok.st.2 i b c e1 e2).on (fun ob q => keep b ob (hne b (List.mem_append.mpr (.inr (List.mem_of_getElem? e1)))) q) hk⟩, a.fn, a.gl, a.bi, m, cm, ?_, fun n c e => ?_, fun y v e => ?_⟩
  · obtain ⟨e1, e2⟩ := vw_get.mp (a.ok.base b o e)
    exact vw_get.mpr ⟨keep b o (fun q => by rw [q, hb] at e; cases e) e1, e2⟩
  · obtain ⟨ob, es, ep, q1, q2⟩ := hm
    exact ⟨ob, es, ep, keep _ ob (hne _ (mo _ (.head _))) q1, q2⟩
  · obtain ⟨ob, q1, q2⟩ := hc n c e
    exact ⟨ob, keep c ob (hne _ (mo _ (.tail _ (List.mem_append.mpr (.inl (List.mem_map.mpr ⟨(n, c), PySem.mem_of_lookup e, rfl⟩)))))) q1, q2⟩
  · obtain ⟨e', hp⟩ := hρ y v e
    obtain ⟨val, r, q⟩ := hv y v e'
    refine ⟨val, ?_, q⟩
    rcases hp with ⟨x, rfl⟩ | ⟨n, rfl⟩ | ⟨w, rfl⟩
    · exact Rd.on hk r
    · exact r
    · exact r

theorem tcall_init {fI : Addr} {oc : Value} {od : Option Addr} {osl : Array (Option Value)} {name qual : PySem.Str} {params : Arguments} {pre post : List Stmt} {scope : Scope} {dV kV doc pm cdv ct : Value} {an : Option Addr}
    {p1 p2 p3 p4 : Pos} {xs : List V} {names : List PySem.Str} {ex : List Value} {exV : List V} {u : V} {st₁ : Store} (H : HCls cx.K cx.hC) (hi : findIn cx.K (.ref cx.hC) "__init__" = some (some (.ref fI))) (hfn : typeIn cx.K (.ref fI) = some (.type "function"))
    (ho : cx.K.lookup fI = some ⟨oc, od, .func (fnOf name qual params (pre ++ .Assign [.Attribute (.Name "self" p1) "_headers" p2] (.Name "headers" p3) p4 :: post) scope dV kV doc pm an cdv ct), osl⟩) (hcd : codeIn cx.K cdv qual = true)
    (hbind : Binds cx (fnOf name qual params (pre ++ .Assign [.Attribute (.Name "self" p1) "_headers" p2] (.Name "headers" p3) p4 :: post) scope dV kV doc pm an cdv ct) (xs.length + 1) [] names ex) (hex : ∀ g al, VRepAll cx g al ex exV)
    (hco : scope.isCoroutine = false) (hgen : scope.isGenerator = false) (hk : scope.kind = .function)
    (hnames : (names.all fun y => scope.names.lookup y == some .local || scope.names.lookup y == some .cell) = true) (hnn : names.Nodup) (hnd : ((cellsFrom 0 scope.names []).map (·.1)).Nodup)
    (hu : (∃ x, u = .d x) ∨ ∃ n, u = .c n) (hself : scope.names.lookup ("self" : PySem.Str) = some NameKind.local)
    (h1 : ∀ L x, tb cx d (envOfC qual scope L fI cdv) (names.zip (.ext (.ref x) :: (xs ++ exV))) st pre fun fl ρ' st' => fl = .next ∧ ρ'.lookup ("self" : PySem.Str) = some (V.ext (.ref x)) ∧ ρ'.lookup ("headers" : PySem.Str) = some u ∧ st' = st₁)
    (h2 : ∀ L, tb cx d (envOfC qual scope L fI cdv) [(("self" : PySem.Str), V.hdr u), (("headers" : PySem.Str), u)] st₁ post fun fl _ st₂ => fl = .next ∧ Post (.hdr u) st₂) :
    tcall cx (d + 2) (.ext (.ref cx.hC)) xs [] st Post := tcall_bi fun A o al s vs R ok hv => by
  intro Q E k
  have KI := ok.K
  obtain ⟨hp, g, dr, tk, os⟩ := s
  refine wpAny_call (make_core (makes_of KI H.makes) (looks_findIn KI hi) (fun self => bind_fn KI self hfn) (.inl rfl) ?_)
  have k1 : hp.StaysIn (hp.push emptyDict) := stays_push _ _
  have k2 : hp.StaysIn ((hp.push emptyDict).push (instObj cx.hC hp.objs.size)) := fun b ob e => stays_push _ _ b ob (k1 b ob e)
  have KI2 : cx.K.In ((hp.push emptyDict).push (instObj cx.hC hp.objs.size)) := KI.keeps k2
  have hsz : (hp.push emptyDict).objs.size = hp.objs.size + 1 := Heap.size_push ..
  have hsz2 : ((hp.push emptyDict).push (instObj cx.hC hp.objs.size)).objs.size = hp.objs.size + 2 := by rw [Heap.size_push, hsz]
  have gx : ((hp.push emptyDict).push (instObj cx.hC hp.objs.size)).get? (hp.objs.size + 1) = some (instObj cx.hC hp.objs.size) := by rw [← hsz]; exact Heap.get?_push_size _ rfl
  have gd : ((hp.push emptyDict).push (instObj cx.hC hp.objs.size)).get? hp.objs.size = some emptyDict := Heap.get?_push_of_some _ (Heap.get?_push_size _ rfl)
  generalize hH : (hp.push emptyDict).push (instObj cx.hC hp.objs.size) = h1' at *
  have hvl := hv.length
  have room : Room (A.under (.builtin "type.__call__" ⟨.ref cx.hC :: vs, []⟩)) (d + 1) := by
    have hw : (Code.builtin "type.__call__" ⟨.ref cx.hC :: vs, []⟩).weight = 1 := by kernel_rfl
    have hu' : (Code.builtin "type.__call__" ⟨.ref cx.hC :: vs, []⟩).cUnits = 1 := by kernel_rfl
    refine ⟨R.hd, ?_, ?_⟩
    · show A.depth + (Code.builtin "type.__call__" ⟨.ref cx.hC :: vs, []⟩).weight + 4 * (d + 1) + 8 < recursionLimit
      rw [hw]; have := R.dp; omega
    · show A.units + (Code.builtin "type.__call__" ⟨.ref cx.hC :: vs, []⟩).cUnits + 20 * (d + 1) + 200 < cLine
      rw [hu']; have := R.un; omega
  have vsl : (Value.ref (hp.objs.size + 1) :: vs).length = xs.length + 1 := by simp [hvl]
  refine codeAny_call_function (by have := room.dp; omega) (KI2 fI _ ho) rfl hco hgen rfl (codeRec_of KI2 hcd) (hbind ⟨h1', g, dr, tk, os⟩ (.ref (hp.objs.size + 1) :: vs) [] KI2 vsl rfl _ _ _ _ ?_)
  have all : VRepAll cx (vw hp (o ++ al)) al (.ref (hp.objs.size + 1) :: (vs ++ ([] ++ ex))) (.ext (.ref (hp.objs.size + 1)) :: (xs ++ exV)) := .cons rfl (hv.app (by rw [List.nil_append]; exact hex _ _))
  refine def_enter (hx := []) (A' := (A.under (.builtin "type.__call__" ⟨.ref cx.hC :: vs, []⟩)).deeper (envOfC qual scope h1'.objs.size fI cdv)) ok rfl (Nat.le_refl _) k2 (by show hp.objs.size ≤ h1'.objs.size; rw [hsz2]; omega) (fun b hb => nomatch hb)
    (fun b hb => nomatch hb) (by simp) all hk hnames hnn hnd fun s' es keep at0 hown => ?_
  obtain ⟨h₂, tk₂, rfl⟩ := es
  refine ⟨cx.T.nolimit.keeps fun b ob e => keep b ob (k2 b ob (vw_get.mp (ok.base b ob e)).1), codeAny_func ?_⟩
  have R' : Room ((A.under (.builtin "type.__call__" ⟨.ref cx.hC :: vs, []⟩)).deeper (envOfC qual scope h1'.objs.size fI cdv)) d :=
    ⟨room.hd, by have := room.dp; show (A.under _).depth + 1 + 4 * d + 8 < recursionLimit; omega, by have := room.un; show (A.under _).units + 3 + 20 * d + 200 < cLine; omega⟩
  refine execs_app ?_
  refine h1 h1'.objs.size (hp.objs.size + 1) _ o al _ _ _ R' at0 fun fl ρ' st' fw al₁ h₃ tk₃ n₃ w₃ p₃ => ?_
  obtain ⟨rfl, q1, q2, rfl⟩ := p₃
  cases fw with
  | next =>
    refine wpAny_execs_cons (plainObj_wpAny_Assign_Attribute ?_ (by rfl))
    have a₃ := n₃.at'
    refine te_name (cx := cx) (d := d) (st := st') (Post := fun v s => v = u ∧ s = st') q2 ⟨rfl, rfl⟩ rfl rfl _ o (al ++ al₁) ⟨h₃, g, dr, tk₃, os⟩ R' a₃ _ _ fun r4 st4 hv4 al4 h₄ tk₄ n₄ v₄ p₄ => ?_
    obtain ⟨rfl, rfl⟩ := p₄
    have nil4 : al4 = [] := by
      have := n₄.ok.st.1
      have h3 := a₃.ok.st.1
      rw [List.length_append] at this
      exact List.eq_nil_of_length_eq_zero (by omega)
    subst nil4
    have a₄ := a₃.next n₄
    rw [List.append_nil] at a₄ v₄
    refine te_name (cx := cx) (d := d) (st := st4) (Post := fun v s => v = .ext (.ref (hp.objs.size + 1)) ∧ s = st4) q1 ⟨rfl, rfl⟩ rfl rfl _ o (al ++ al₁) ⟨h₄, g, dr, tk₄, os⟩ R' a₄ _ _ fun r5 st5 hv5 al5 h₅ tk₅ n₅ v₅ p₅ => ?_
    obtain ⟨rfl, rfl⟩ := p₅
    have nil5 : al5 = [] := by
      have := n₅.ok.st.1
      have h3 := a₄.ok.st.1
      rw [List.length_append] at this
      exact List.eq_nil_of_length_eq_zero (by omega)
    subst nil5
    have a₅ := a₄.next n₅
    rw [List.append_nil] at a₅
    obtain rfl : hv5 = .ref (hp.objs.size + 1) := v₅
    have vw4 := n₄.vw
    have vw5 := n₅.vw
    rw [List.append_nil] at vw4 vw5
    have v₄' := v₄.mono (al' := []) vw5
    rw [List.append_nil] at v₄'
    -- the new one and its dict
    have hdx : ∀ b, b ∈ ow (envOfC qual scope h1'.objs.size fI cdv) o → b ∈ o ∨ h1'.objs.size ≤ b := by
      intro b hb
      rcases List.mem_cons.mp hb with rfl | hb
      · exact .inr (Nat.le_refl _)
      · rcases List.mem_append.mp hb with hb | hb
        · obtain ⟨p, hpm, rfl⟩ := List.mem_map.mp hb
          exact .inr (Nat.le_of_lt (cells_above _ _ hpm))
        · exact .inl hb
    have fresh : ∀ b ob, hp.objs.size ≤ b → b < h1'.objs.size → h1'.get? b = some ob → (vw h₂ (ow (envOfC qual scope h1'.objs.size fI cdv) o ++ al)).get? b = some ob := by
      intro b ob hb1 hb2 e
      refine vw_get.mpr ⟨keep _ _ e, fun m => ?_⟩
      rcases List.mem_append.mp m with m | m
      · rcases hdx _ m with q | q
        · exact absurd (ok.lt (List.mem_append.mpr (.inl q))) (Nat.not_lt.mpr hb1)
        · exact absurd hb2 (Nat.not_lt.mpr q)
      · exact absurd (ok.lt (List.mem_append.mpr (.inr m))) (Nat.not_lt.mpr hb1)
    have xvis := fresh (hp.objs.size + 1) _ (Nat.le_succ _) (by rw [hsz2]; omega) gx
    have dvis := fresh hp.objs.size _ (Nat.le_refl _) (by rw [hsz2]; omega) gd
    have x5 := vw5 _ _ (vw4 _ _ (n₃.vw _ _ xvis))
    have d5 := vw5 _ _ (vw4 _ _ (n₃.vw _ _ dvis))
    have dnot := (vw_get.mp d5).2
    refine set_headers (s := ⟨h₅, g, dr, tk₅, os⟩) H a₅.ok.K (vw_get.mp x5).1 (vw_get.mp d5).1 fun h₆ od tk₆ g6 hasH sb6 htk6 => ?_
    have bnone : cx.base.get? hp.objs.size = none := by
      cases q : cx.base.get? hp.objs.size with
      | none => rfl
      | some ob => exact absurd (Heap.lt_size (vw_get.mp (ok.base _ _ q)).1) (Nat.lt_irrefl _)
    have u4 : (∃ x, r4 = V.d x) ∨ (∃ n, r4 = V.c n) ∨ ∃ w, r4 = V.ext w := hu.elim .inl fun q => .inr (.inl q)
    have a₆ := a₅.setNew dnot bnone ⟨_, (vw_get.mp d5).1, fun ⟨_, _, q⟩ => by cases q⟩ sb6 htk6 [(("self" : PySem.Str), V.ext (.ref (hp.objs.size + 1))), (("headers" : PySem.Str), r4)] (fun y v e => by
      rw [List.lookup_cons] at e
      cases hy : y == ("self" : PySem.Str) with
      | true =>
        rw [hy] at e
        cases e
        rw [eq_of_beq hy]
        exact ⟨q1, .inr (.inr ⟨_, rfl⟩)⟩
      | false =>
        rw [hy] at e
        have e' : List.lookup y [(("headers" : PySem.Str), r4)] = some v := e
        rw [List.lookup_cons] at e'
        cases hy2 : y == ("headers" : PySem.Str) with
        | true =>
          rw [hy2] at e'
          cases e'
          rw [eq_of_beq hy2]
          exact ⟨q2, u4⟩
        | false => rw [hy2] at e'; simp at e')
    have x6 : (vw h₆ (ow (envOfC qual scope h1'.objs.size fI cdv) o ++ (al ++ al₁))).get? (hp.objs.size + 1) = some (instObj cx.hC hp.objs.size) :=
      vw_get.mpr ⟨(sb6.2 _ (Nat.succ_ne_self _)).trans (vw_get.mp x5).1, (vw_get.mp x5).2⟩
    have d6 : (vw h₆ (ow (envOfC qual scope h1'.objs.size fI cdv) o ++ (al ++ al₁))).get? hp.objs.size = some od := vw_get.mpr ⟨g6, dnot⟩
    have u6 : VRep cx (vw h₆ (ow (envOfC qual scope h1'.objs.size fI cdv) o ++ (al ++ al₁))) (al ++ al₁) hv4 r4 := by
      rcases hu with ⟨xx, rfl⟩ | ⟨nn, rfl⟩
      · refine Rd.on (fun b ob hs e => ?_) v₄'
        obtain ⟨e1, e2⟩ := vw_get.mp e
        refine vw_get.mpr ⟨(sb6.2 b fun q => ?_).trans e1, e2⟩
        subst q
        have z := (vw_get.mp d5).1
        have e1' : h₅.get? hp.objs.size = some ob := e1
        rw [z] at e1'
        cases e1'
        obtain ⟨_, _, q⟩ := hs
        cases q
      · exact v₄'
    have hdr6 : VRep cx (vw h₆ (ow (envOfC qual scope h1'.objs.size fI cdv) o ++ (al ++ al₁))) (al ++ al₁) (.ref (hp.objs.size + 1)) (.hdr r4) := ⟨_, _, od, hv4, rfl, x6, d6, hasH, u6⟩
    have a₇ : At cx ((A.under (.builtin "type.__call__" ⟨.ref cx.hC :: vs, []⟩)).deeper (envOfC qual scope h1'.objs.size fI cdv)) (envOfC qual scope h1'.objs.size fI cdv) o (al ++ al₁) [(("self" : PySem.Str), V.hdr r4), (("headers" : PySem.Str), r4)] st5 h₆ tk₆ := by
      obtain ⟨m, cm, z1, z2, z3⟩ := a₆.vars
      refine ⟨a₆.ok, a₆.fn, a₆.gl, a₆.bi, m, cm, z1, z2, fun y v e => ?_⟩
      rw [List.lookup_cons] at e
      cases hy : y == ("self" : PySem.Str) with
      | true =>
        rw [hy] at e
        cases e
        have := eq_of_beq hy
        subst this
        obtain ⟨val, r, q⟩ := z3 ("self" : PySem.Str) (V.ext (.ref (hp.objs.size + 1))) rfl
        obtain rfl : val = .ref (hp.objs.size + 1) := r
        exact ⟨_, hdr6, q⟩
      | false =>
        rw [hy] at e
        have e' : List.lookup y [(("headers" : PySem.Str), r4)] = some v := e
        rw [List.lookup_cons] at e'
        cases hy2 : y == ("headers" : PySem.Str) with
        | true =>
          rw [hy2] at e'
          cases e'
          have := eq_of_beq hy2
          subst this
          exact z3 ("headers" : PySem.Str) r4 rfl
        | false => rw [hy2] at e'; simp at e'
    refine h2 h1'.objs.size _ o (al ++ al₁) ⟨h₆, g, dr, tk₆, os⟩ _ _ R' a₇ fun fl8 ρ8 st8 fw8 al8 h₇ tk₇ n₈ w₈ p₈ => ?_
    obtain ⟨rfl, pp⟩ := p₈
    cases fw8 with
    | next =>
      have a₈ := n₈.at'
      rw [List.append_assoc] at a₈
      have vis : ∀ b ob, b ≠ hp.objs.size → (vw h₂ (ow (envOfC qual scope h1'.objs.size fI cdv) o ++ al)).get? b = some ob → h₇.get? b = some ob ∧ b ∉ ow (envOfC qual scope h1'.objs.size fI cdv) o ++ (al ++ (al₁ ++ al8)) := by
        intro b ob hb e
        obtain ⟨e1, e2⟩ := vw_get.mp (vw5 _ _ (vw4 _ _ (n₃.vw _ _ e)))
        have := n₈.vw b ob (vw_get.mpr ⟨(sb6.2 b hb).trans e1, e2⟩)
        rw [List.append_assoc] at this
        exact vw_get.mp this
      have out : ∀ b ob, hp.get? b = some ob → b ∉ o ++ al → h₇.get? b = some ob ∧ b ∉ al₁ ++ al8 := by
        intro b ob e hn
        obtain ⟨z1, z2⟩ := hown b ob e hn
        obtain ⟨z3, z4⟩ := vis b ob (Nat.ne_of_lt (Heap.lt_size e)) (vw_get.mpr ⟨z1, z2⟩)
        exact ⟨z3, fun m => z4 (List.mem_append.mpr (.inr (List.mem_append.mpr (.inr m))))⟩
      have so : ∀ a ∈ o, a ∈ ow (envOfC qual scope h1'.objs.size fI cdv) o := fun a m => .tail _ (List.mem_append.mpr (.inr m))
      have fr : Sl o hp h₇ := Sl.trans (.of fun a m ob e => keep _ _ (k2 _ _ e)) (Sl.trans n₃.hk (Sl.trans (n₄.fr.sub so) (Sl.trans (n₅.fr.sub so) (Sl.trans (.of fun a m ob e => (sb6.2 a fun q => absurd (ok.lt (List.mem_append.mpr (.inl m))) (by rw [q]; exact Nat.lt_irrefl _)).trans e) n₈.hk))))
      obtain ⟨nx, tr⟩ := def_leave2 (hx := []) ok a₈ fr out
      have h8 : VRep cx (vw h₇ (ow (envOfC qual scope h1'.objs.size fI cdv) o ++ (al ++ (al₁ ++ al8)))) (al ++ (al₁ ++ al8)) (.ref (hp.objs.size + 1)) (.hdr r4) := by
        have := hdr6.mono (al' := al8) n₈.vw
        rw [List.append_assoc] at this
        exact this
      obtain ⟨x', dx', od', hv', y1, y2, y3, y4, y5⟩ := h8
      have no : ∀ b, hp.objs.size ≤ b → b ∉ o := fun b hb m => absurd (ok.lt (List.mem_append.mpr (.inl m))) (Nat.not_lt.mpr hb)
      have lift : ∀ b ob, hp.objs.size ≤ b → (vw h₇ (ow (envOfC qual scope h1'.objs.size fI cdv) o ++ (al ++ (al₁ ++ al8)))).get? b = some ob → (vw h₇ (o ++ (al ++ (al₁ ++ al8)))).get? b = some ob := by
        intro b ob hb e
        obtain ⟨z1, z2⟩ := vw_get.mp e
        refine vw_get.mpr ⟨z1, fun m => ?_⟩
        rcases List.mem_append.mp m with m | m
        · exact no b hb m
        · exact z2 (List.mem_append.mpr (.inr m))
      have ex : x' = hp.objs.size + 1 := by injection y1 with q; exact q.symm
      subst ex
      have edx : dx' = hp.objs.size := by
        have z1 := (vw_get.mp y2).1
        have z2 := (vis _ _ (Nat.succ_ne_self _) xvis).1
        rw [z1] at z2
        injection z2 with q
        injection q with _ q
        injection q
      subst edx
      have vfin : VRep cx (vw h₇ (o ++ (al ++ (al₁ ++ al8)))) (al ++ (al₁ ++ al8)) (.ref (hp.objs.size + 1)) (.hdr r4) := by
        refine ⟨_, _, od', hv', rfl, lift _ _ (Nat.le_succ _) y2, lift _ _ (Nat.le_refl _) y3, y4, ?_⟩
        rcases hu with ⟨xx, rfl⟩ | ⟨nn, rfl⟩
        · exact tr y5
        · exact y5
      exact ⟨rfl, k (.hdr r4) st8 (.ref (hp.objs.size + 1)) (al₁ ++ al8) h₇ tk₇ nx vfin pp⟩
    | _ => exact w₈.elim
  | _ => exact w₃.elim
end Mine

-- N18
namespace Mine
open PySem PySem.W PySem.Calls PyProof.Rows

variable {cx : Cx} {d : Nat} {env : Env} {ρ : Vars} {st : Store} {pos : Pos}

noncomputable def compTest (scope : Scope) : Bool := (match scope.kind with | .function => true | _ => false) && scope.names.all fun x => (match x.2 with | .free => false | .cell => false | .local => scope.names.lookup x.1 == some .local | _ => true)
theorem compOk0 {scope : Scope} (h : compTest scope = true) : CompOk env scope [] (env.cells.map (·.2)) ρ [] := by
  unfold compTest at h
  rw [Bool.and_eq_true, List.all_eq_true] at h
  obtain ⟨h1, h2⟩ := h
  refine ⟨closureFor_none fun x hx e => ?_, ?_, fun x hx e => ?_, fun x hx e => ?_, by simp, fun n c e => by simp at e, fun y v e => by simp at e⟩
  · have := h2 x hx; rw [e] at this; cases this
  · cases hk : scope.kind <;> rw [hk] at h1 <;> first | rfl | cases h1
  · have := h2 x hx; rw [e] at this; cases this
  · have := h2 x hx; rw [e] at this; simpa using this
end Mine

-- N19
namespace Mine
open PySem PySem.W PySem.Calls PyProof.Rows

variable {cx : Cx} {d : Nat} {env : Env} {ρ : Vars} {st : Store} {pos : Pos} {Post : V → Store → Prop}

theorem room_in2 {A : Around} {d : Nat} (R : Room A (d + 1)) : Room A.in1.in1 d := ⟨R.hd, by have := R.dp; show A.depth + 4 * d + 8 < recursionLimit; omega, by have := R.un; show A.units + 1 + 1 + 20 * d + 200 < cLine; omega⟩

theorem Ok.around {A A' : Around} {o al : List Addr} {h : Heap} {tk : Nat} (e : A'.frames = A.frames) (x : Ok cx A o al st h tk) : Ok cx A' o al st h tk :=
  ⟨let ⟨l, q, f⟩ := x.stk; ⟨l, e.trans q, f⟩, x.tok, x.base, x.nd, x.own, x.st⟩
theorem Nx.around {A A' : Around} {o al al' : List Addr} {h h' : Heap} {tk : Nat} (e : A'.frames = A.frames) (x : Nx cx A o al al' st h h' tk) : Nx cx A' o al al' st h h' tk :=
  ⟨x.ok.around e, x.fr, x.vw⟩
theorem tcall_strH {u : V} {f : Addr} (hs : findIn cx.K (.ref cx.hC) "__str__" = some (some (.ref f))) (hf : isFn cx.K (.ref f) = true)
    (h : tcall cx d (.ext (.ref f)) [.hdr u] [] st fun v st' => ∃ y, v = .d (.str y) ∧ Post (.d (.str y)) st') : tcall cx (d + 1) (.ext (.type "str")) [.hdr u] [] st Post := tcall_bi fun A o al s vs R ok hv => by
  intro Q E k
  obtain ⟨_, rfl, v1⟩ := va1 hv
  obtain ⟨x, dx, od, hv', rfl, g1, g2, g3, g4⟩ := id v1
  refine kso_call (by have := R.un; show A.units + 1 + 1 < cLine; omega) ok.K (inst_at (vw_get.mp g1).1 (vw_get.mp g2).1) hs hf ?_
  refine h A.in1.in1 o al s (.ref f) [.ref x] [] (room_in2 R) (Ok.around (A := A) (A' := A.in1.in1) rfl ok) rfl (.cons v1 .nil) rfl .nil _ E fun r st' val al' h' tk' n v p => ?_
  obtain ⟨y, rfl, p⟩ := p
  obtain ⟨t, rfl⟩ := rd_str v
  exact k (.d (.str y)) st' (.str y t) al' h' tk' (Nx.around (A := A.in1.in1) (A' := A) rfl n) v p

end Mine

-- X0
namespace Mine
open PySem PySem.W PySem.Calls PyProof.Rows

variable {cx : Cx} {d : Nat} {env : Env} {ρ : Vars} {st : Store} {pos : Pos}

section
variable {b : Bool} {Post : Fl → Vars → Store → Prop} {PE : Value → List PyData → Store → Prop}
@[reducible] noncomputable def ThenM (b : Bool) (cx : Cx) (d : Nat) (env : Env) (r : List Stmt) (Post : Fl → Vars → Store → Prop) (PE : Value → List PyData → Store → Prop) (fl : Fl) (ρ₁ : Vars) (st₁ : Store) : Prop := match fl with | .next => tbM b cx d env ρ₁ st₁ r Post PE | fl => Post fl ρ₁ st₁
theorem tbM_cons {x : Stmt} {r : List Stmt} (h : tsM b cx d env ρ st x (ThenM b cx d env r Post PE) PE) : tbM b cx d env ρ st (x :: r) Post PE := by
  intro A hx al s Q E Fr R a k kE
  refine wpS_execs_cons (h A hx al s _ E Fr R a (fun fl ρ₁ st₁ f al₁ h₁ tk₁ n₁ w p => ?_) kE)
  cases fl with
  | next => cases f with
    | next =>
      refine p A _ _ _ Q E Fr R n₁.at' (lift_s n₁ k) fun ρ' st' al' h₂ h' tk' e cls ws xs n m r p => ?_
      exact kE ρ' st' (al₁ ++ al') h₂ h' tk' e cls ws xs (n₁.trans n) m (by rw [← List.append_assoc al]; exact r) p
    | _ => exact w.elim
  | brk => cases f with
    | brk => exact k _ ρ₁ st₁ _ al₁ h₁ tk₁ n₁ w p
    | _ => exact w.elim
  | cont => cases f with
    | cont => exact k _ ρ₁ st₁ _ al₁ h₁ tk₁ n₁ w p
    | _ => exact w.elim
  | ret v => cases f with
    | ret u => exact k (.ret v) ρ₁ st₁ _ al₁ h₁ tk₁ n₁ w p
    | _ => exact w.elim
theorem tbM_c {x : Stmt} {r : List Stmt} (h : ts cx d env ρ st x (ThenM b cx d env r Post PE)) : tbM b cx d env ρ st (x :: r) Post PE := tbM_cons (tsemM_of h)
theorem tbM_nil (h : Post .next ρ st) : tbM b cx d env ρ st [] Post PE := tsemM_of (tb_nil h)
@[reducible] noncomputable def WaysM (b : Bool) (cx : Cx) (d : Nat) (env : Env) (ρ : Vars) (b' o : List Stmt) (Post : Fl → Vars → Store → Prop) (PE : Value → List PyData → Store → Prop) (c : Bool) (st₁ : Store) : Prop := (c = true → tbM b cx d env ρ st₁ b' Post PE) ∧ (c = false → tbM b cx d env ρ st₁ o Post PE)
theorem tsM_if {t : Expr} {b' o : List Stmt} (h : tt cx d env ρ st t (WaysM b cx d env ρ b' o Post PE)) : tsM b cx d env ρ st (.If t b' o pos) Post PE := by
  intro A hx al s Q E Fr R a k kE
  refine wpS_If (wpS_of (h A hx al s _ E R a fun c st₁ al₁ h₁ tk₁ n₁ p₁ => ?_))
  have kE' : ∀ ρ' st' al' h₂ h' tk' e cls ws xs, Nxs cx A env hx (al ++ al₁) al' ρ' st' h₁ h₂ tk' → Heap.MadeExcOf h₂ h' e cls ws → RdAll (vw h₂ (ow env hx ++ ((al ++ al₁) ++ al'))) ws xs → PE cls xs st' → E (.ref e) { s with heap := h', toks := tk' } :=
    fun ρ' st' al' h₂ h' tk' e cls ws xs n m r p => kE ρ' st' (al₁ ++ al') h₂ h' tk' e cls ws xs ((a.nxs n₁).trans n) m (by rw [← List.append_assoc al]; exact r) p
  cases c
  · exact p₁.2 rfl A _ _ _ Q E Fr R (a.next n₁) (lift_s (a.nxs n₁) k) kE'
  · exact p₁.1 rfl A _ _ _ Q E Fr R (a.next n₁) (lift_s (a.nxs n₁) k) kE'

theorem tsM_raise {x : PySem.Str} {np cpos : Pos} {e₀ : Expr} {rest : List Expr} {C : Addr} (e : nsIn cx.K mainGlobals x = some (some (.ref C))) (q : excIn cx.K C [.type "Exception", .type "BaseException", .type "object"] "Exception.__new__" = true) (hp : plainArgs (e₀ :: rest) = true)
    (h : tes cx d env ρ (e₀ :: rest) st fun xs st₁ => ∃ ds, datas xs = some ds ∧ ds.length ≤ sizeLine ∧ PE (.ref C) ds st₁)
    (hkx : env.kindOf x = some .globalImplicit := by rfl) (hd : (x == ("__debug__" : PySem.Str)) = false := by rfl) :
    tsM b cx d env ρ st (.Raise (some (.Call (.Name x np) (e₀ :: rest) [] cpos)) none pos) Post PE := by
  intro A hx al s Q E Fr R a k kE
  have O : OwnCls x C [.type "Exception", .type "BaseException", .type "object"] "Exception.__new__" cx.mg cx.base := own_of_in cx.X (topRead_of cx.T) e q
  have stay : ∀ {al' : List Addr} {st' : Store} {h' : Heap} {tk' : Nat}, Ok cx A (ow env hx) al' st' h' tk' → ∀ b o, cx.base.get? b = some o → h'.get? b = some o := fun ok b o e => (vw_get.mp (ok.base b o e)).1
  obtain ⟨tl, N, nm, q, bs, hdct, sn, sub, ab, col, dd, k0, k1, k2, k3, k5, mN, hC, hN, hni, T⟩ := O.obj
  obtain ⟨e1, e2⟩ := starEach_plain (env := env) hp
  have hplain : (backTo cpos (starEach (e₀ :: rest) env)).any (·.1) = false := by
    clear h
    generalize e₀ :: rest = es at hp
    induction es with
    | nil => rfl
    | cons e r ih =>
      obtain ⟨e1, e2⟩ := starEach_plain (env := env) hp
      rw [e1]
      exact ih e2
  refine wpS_of ?_
  refine wpAny_Raise_call_subU (C := C) (nm := nm) (q := q) (N := N) (bs := bs) (bm := tl) (hdct := hdct) (sn := sn) (sub := sub) (ab := ab) (col := col) (dd := dd) (k0 := k0) (k1 := k1) (k2 := k2) (k3 := k3) (k5 := k5)
    F.excBase_Exception (by decide +kernel) F.excBase_Exception (mN := mN) (T.hasType F.excBase_Exception.hasBase) R.hd hplain hni (Name_function_global a.fn hkx (loadGlobal_global (by rw [a.gl]; exact a.mg) O.bound ⟨rfl, ?_⟩) hd)
  have sp := tes_run (pos := cpos) (E := E) R (e₀ :: rest) al s (fun vals s' => vals.length ≤ sizeLine ∧ s'.heap.get? C = some (excClassObj nm q C N bs tl hdct sn sub ab col dd k0 k1 k2 k3 k5 "Exception.__new__") ∧ s'.heap.Ns N mN ∧ OwnTail s'.heap [.type "Exception", .type "BaseException", .type "object"] tl ∧
        ∀ h' e, Heap.MadeExcOf s'.heap h' e (.ref C) vals → E (.ref e) { s' with heap := h' }) hp h a fun xs st' vals al' h₁ tk' n v p => ?_
  · rw [e1] at sp ⊢
    exact evalArgs_plain (wpAny_mono sp (fun vs s₂ h₂ => ⟨rfl, h₂⟩) fun _ _ y => y)
  · obtain ⟨ds, hds, hz, p⟩ := p
    have r := rdAll_of v hds
    have sy := stay n.ok
    exact ⟨by rw [r.length]; exact hz, sy _ _ hC, hN.keeps sy, T.keeps sy, fun h' e m => kE ρ st' al' h₁ h' tk' e _ _ ds (a.nxs n) m r p⟩
end

end Mine

-- X1
namespace Mine
open PySem PySem.W PySem.Calls PyProof.Rows

variable {cx : Cx} {d : Nat} {env : Env} {ρ : Vars} {st : Store} {pos : Pos}

noncomputable def teX (b : Bool) (cx : Cx) (d : Nat) (env : Env) (ρ : Vars) (st : Store) (e : Expr) (Post : V → Store → Prop) (PE : Value → List PyData → Store → Prop) : Prop :=
  ∀ A hx al s Q E, Room A d → At cx A env hx al ρ st s.heap s.toks →
    (∀ r st' val al' h' tk', Nx cx A (ow env hx) al al' st' s.heap h' tk' → VRep cx (vw h' (ow env hx ++ (al ++ al'))) (al ++ al') val r → Post r st' → Q val { s with heap := h', toks := tk' }) →
    (∀ st' al' h₁ h' tk' e cls ws ys, Nx cx A (ow env hx) al al' st' s.heap h₁ tk' → Fly A h₁ h' e cls ws → RdAll (vw h₁ (ow env hx ++ (al ++ al'))) ws ys → PE cls ys st' → E (.ref e) { s with heap := h', toks := tk' }) →
    wpS b (model cx.prog cx.w) A (eval e env) Q E s
noncomputable def ttX (b : Bool) (cx : Cx) (d : Nat) (env : Env) (ρ : Vars) (st : Store) (e : Expr) (Post : Bool → Store → Prop) : Prop :=
  ∀ A hx al s Q E, Room A d → At cx A env hx al ρ st s.heap s.toks →
    (∀ c st' al' h' tk', Nx cx A (ow env hx) al al' st' s.heap h' tk' → Post c st' → Q c { s with heap := h', toks := tk' }) → wpS b (model cx.prog cx.w) A (isTrue e env (eval e env)) Q E s

theorem callWith_X {b : Bool} {A : Around} {E : Value → Shared → Prop} {Q : Value → Shared → Prop} {hx al : List Addr} {s : Shared} {fv : Value} {firsts : List Value} {es : List Expr} {P : List V → Store → Prop} (R : Room A d) (hp : plainArgs es = true) (hc : calm cx.K fv = true)
    (a : At cx A env hx al ρ st s.heap s.toks) (h : tes cx d env ρ es st P)
    (k : ∀ xs st' vals al' h' tk', Nx cx A (ow env hx) al al' st' s.heap h' tk' → VRepAll cx (vw h' (ow env hx ++ (al ++ al'))) (al ++ al') vals xs → P xs st' → wpS b (model cx.prog cx.w) A (call fv (firsts ++ vals) []) Q E { s with heap := h', toks := tk' }) :
    wpS b (model cx.prog cx.w) A (callWith pos fv firsts (backTo pos (starEach es env)) []) Q E s := by
  unfold callWith
  refine wpS_bind (wpS_holding (wpS_of (args_gen R hp a h fun xs st' vals al' h' tk' n v p => ?_)))
  have kk := k xs st' vals al' h' tk' n v p
  refine wpS_standAt ?_
  obtain ⟨kp, hk', L⟩ := keeps_calm (M := model cx.prog cx.w) hc h' n.ok.K
  simp only [stars_plain hp, List.any_nil, Bool.or_false]
  refine wpS_lib (L.here (s := { s with heap := h', toks := tk' }) ?_)
  have tail : ∀ {t : Sem Value}, wpS b (model cx.prog cx.w) A t Q E { s with heap := h', toks := tk' } → wpS b (model cx.prog cx.w) A (t >>= fun r => holding [r] point >>= fun _ => pure r) Q E { s with heap := h', toks := tk' } :=
    fun ht => wpS_bind (wpS_mono ht (fun r s₂ hr => wpS_lib (wpAny_holding (wpAny_point (wpS_pure hr)))) fun _ _ x => x)
  have marked (mk : Value) : wpS b (model cx.prog cx.w) A (callMarked mk fv (firsts ++ vals) []) Q E { s with heap := h', toks := tk' } := by
    unfold callMarked
    intro Γ p hΓ hl
    rw [Sem.wp_keep]
    exact kk Γ p hΓ hl
  rcases hk' with rfl | rfl | rfl <;> dsimp only <;> first | exact tail kk | (split <;> first | exact tail kk | exact tail (marked _))

section
variable {b : Bool} {Post : V → Store → Prop} {PostB : Bool → Store → Prop} {PE : Value → List PyData → Store → Prop}
theorem teX_call {f : Expr} {es : List Expr} (hp : plainArgs es = true) (h : te cx d env ρ st f fun fv st₁ => ∃ v, fv = .ext v ∧ calm cx.K v = true ∧ tes cx d env ρ es st₁ fun xs st₂ => tcallX b cx d (.ext v) xs [] st₂ Post PE)
    (he : eval (.Call f es [] pos) env = (do callWith pos (← eval f env) [] (backTo pos (starEach es env)) (backToKw pos (keywordEach [] env))) := by rfl) : teX b cx d env ρ st (.Call f es [] pos) Post PE := by
  intro A hx al s Q E R a k kE
  rw [he]
  refine wpS_lib (h A hx al s R a _ E fun x st₁ va al₁ h₁ tk₁ n₁ v₁ p₁ => ?_)
  obtain ⟨v, rfl, hc, p⟩ := p₁
  obtain rfl : va = v := v₁
  refine callWith_X (s := { s with heap := h₁, toks := tk₁ }) (firsts := []) R hp hc (a.next n₁) p fun xs st' vals al' h' tk' n v p => ?_
  refine p A (ow env hx) _ _ va _ [] R n.ok rfl v rfl .nil Q E (lift_k (A := A) n (lift_k (A := A) n₁ k)) fun st₃ h₂ h₃ tk₃ e cls ws ys n₂ fl rr pe => ?_
  have nn := n₁.trans (n.trans n₂)
  have e1 : (al ++ al₁ ++ al') ++ [] = al ++ (al₁ ++ (al' ++ [])) := by simp [List.append_assoc]
  rw [e1] at rr
  exact kE st₃ (al₁ ++ (al' ++ [])) h₂ h₃ tk₃ e cls ws ys nn fl rr pe
theorem teX_pair {e₁ e₂ : Expr} {n : Nat} (hp : plainArgs [e₁, e₂] = true) (h : te cx d env ρ st e₁ fun x st₁ => ∃ x', x = .d x' ∧ teX b cx d env ρ st₁ e₂ (fun y st₂ => ∃ y', y = .d y' ∧ Post (.d (.tuple [x', y'])) st₂) PE) : teX b cx d env ρ st (.Tuple [e₁, e₂] n pos) Post PE := by
  intro A hx al s Q E R a k kE
  show wpS b _ A (do standAt pos; newTuple (← spliced (backTo pos (starEach [e₁, e₂] env)))) Q E s
  refine wpS_standAt (wpS_bind ?_)
  obtain ⟨q1, hp2⟩ := starEach_plain (env := env) hp
  obtain ⟨q2, _⟩ := starEach_plain (env := env) hp2
  rw [q1, q2]
  show wpS b _ A (spliced [(false, eval e₁ env), (false, eval e₂ env)]) _ _ _
  rw [spliced]
  refine wpS_lib (h A hx al s R a _ E fun x st₁ va al₁ h₁ tk₁ n₁ v₁ p₁ => ?_)
  obtain ⟨x', rfl, p⟩ := p₁
  simp only [Bool.false_eq_true, if_false]
  refine wpS_lib (wpAny_pure (wpS_bind (wpS_holding ?_)))
  rw [spliced]
  refine wpS_bind (p A hx _ { s with heap := h₁, toks := tk₁ } _ _ R (a.next n₁) (fun y st₂ vb al₂ h₂ tk₂ n₂ v₂ p₂ => ?_) fun st₃ al' h₂ h₃ tk₃ e cls ws ys n₂ fl rr pe => ?_)
  · obtain ⟨y', rfl, p₃⟩ := p₂
    simp only [Bool.false_eq_true, if_false]
    refine wpS_lib (wpAny_pure (wpS_bind (wpS_holding ?_)))
    rw [spliced]
    refine wpS_pure (wpS_pure (wpS_pure (wpS_of ?_)))
    refine wpAny_newTuple ?_ (by show 2 ≤ sizeLine; decide)
    have r1 : Rd (vw h₂ (ow env hx ++ (al ++ al₁ ++ al₂))) va x' := Rd.keeps n₂.vw v₁
    have r2 : Rd (vw h₂ (ow env hx ++ (al ++ al₁ ++ al₂))) vb y' := v₂
    refine plain_k (s := { s with heap := h₂, toks := tk₂ }) n₂.ok (lift_k (A := A) (s := { s with heap := h₁, toks := tk₁ }) n₂ (lift_k (A := A) (s := s) n₁ k)) _ _ tk₂ (.d (.tuple [x', y'])) (Nat.le_refl _) (stays_push _ _) (.tuple (isTup_new (n₂.ok.fresh (Nat.le_refl _))) ?_) p₃
    exact RdAll.keeps (rd_mono_h (stays_push _ _)) (.cons r1 (.cons r2 .nil))
  · exact kE st₃ (al₁ ++ al') h₂ h₃ tk₃ e cls ws ys (n₁.trans n₂) fl (by rw [← List.append_assoc al]; exact rr) pe
theorem ttX_cmp {op : CmpOp} {l r : Expr} (h : teX b cx d env ρ st l (fun a st₁ => te cx d env ρ st₁ r fun y st₂ => tcmp cx d op a y st₂ fun c st₃ => ttr cx d c st₃ PostB) fun _ _ _ => False)
    (hm : behindInMarks op r = false := by with_unfolding_all rfl) : ttX b cx d env ρ st (.Compare l [op] [r] pos) PostB := by
  intro A hx al s Q E R a k
  refine wpS_cmp (h A hx al s _ E R a (fun x st₁ va al₁ h₁ tk₁ n₁ v₁ p₁ => ?_) fun _ _ _ _ _ _ _ _ _ _ _ _ p => p.elim) hm
  refine p₁ A _ _ _ R (a.next n₁) _ E fun y st₂ vb al₂ h₂ tk₂ n₂ v₂ p₂ => ?_
  refine p₂ A _ _ _ va vb R n₂.ok (v₁.mono n₂.vw) v₂ _ E fun z st₃ vc al₃ h₃ tk₃ n₃ v₃ p₃ => ?_
  exact p₃ A _ _ _ vc R n₃.ok v₃ Q E (lift_b n₃ (lift_b n₂ (lift_b n₁ k)))
theorem ttX_or {x : Expr} {r : List Expr} (h : ttX b cx d env ρ st x fun c st₁ => (c = true → PostB true st₁) ∧ (c = false → ttX b cx d env ρ st₁ (.BoolOp .Or r pos) PostB)) : ttX b cx d env ρ st (.BoolOp .Or (x :: r) pos) PostB := by
  intro A hx al s Q E R a k
  refine wpS_or (h A hx al s _ E R a fun c st₁ al₁ h₁ tk₁ n₁ p₁ => ?_)
  cases c
  · exact p₁.2 rfl A _ _ _ Q E R (a.next n₁) (lift_b n₁ k)
  · exact k true st₁ al₁ h₁ tk₁ n₁ (p₁.1 rfl)
theorem ttX_of {e : Expr} (h : tt cx d env ρ st e PostB) : ttX b cx d env ρ st e PostB := fun A hx al s Q E R a k => wpS_of (h A hx al s Q E R a k)
theorem tsX_if {t : Expr} {b' o : List Stmt} {Post : Fl → Vars → Store → Prop} (h : ttX b cx d env ρ st t (WaysM b cx d env ρ b' o Post PE)) : tsM b cx d env ρ st (.If t b' o pos) Post PE := by
  intro A hx al s Q E Fr R a k kE
  refine wpS_If (h A hx al s _ E R a fun c st₁ al₁ h₁ tk₁ n₁ p₁ => ?_)
  have kE' : ∀ ρ' st' al' h₂ h' tk' e cls ws xs, Nxs cx A env hx (al ++ al₁) al' ρ' st' h₁ h₂ tk' → Heap.MadeExcOf h₂ h' e cls ws → RdAll (vw h₂ (ow env hx ++ ((al ++ al₁) ++ al'))) ws xs → PE cls xs st' → E (.ref e) { s with heap := h', toks := tk' } :=
    fun ρ' st' al' h₂ h' tk' e cls ws xs n m r p => kE ρ' st' (al₁ ++ al') h₂ h' tk' e cls ws xs ((a.nxs n₁).trans n) m (by rw [← List.append_assoc al]; exact r) p
  cases c
  · exact p₁.2 rfl A _ _ _ Q E Fr R (a.next n₁) (lift_s (a.nxs n₁) k) kE'
  · exact p₁.1 rfl A _ _ _ Q E Fr R (a.next n₁) (lift_s (a.nxs n₁) k) kE'
end
end Mine

-- X2
namespace Mine
open PySem PySem.W PySem.Calls PyProof.Rows

variable {cx : Cx} {d : Nat} {env : Env} {ρ : Vars} {st : Store} {pos : Pos}

structure XCls (K : Frag) (C : Addr) : Prop where
  ns : instIn K (.ref C) (.type "tuple") = some false
  cls : (clsIn K C).isSome = true
  base : subIn K (.ref C) (.type "BaseException") = some true

theorem isType_own {M : Model} {A : Around} {E : Value → Shared → Prop} {s : Shared} {C : Addr} {Q : Bool → Shared → Prop} (X : cx.K.In s.heap) (h : (clsIn cx.K C).isSome = true) (q : Q true s) : wpAny M A (isType (.ref C)) Q E s := by
  unfold clsIn at h
  split at h
  · rename_i cd _ ho
    exact wpAny_bind (wpAny_loadPart (X _ _ ho) (wpAny_pure q))
  · cases h
theorem excMatches_own {c : Bool} {M : Model} {A : Around} {E : Value → Shared → Prop} {s : Shared} {e C : Addr} {oe : Obj} {cls : Value} {Q : Bool → Shared → Prop} (X : cx.K.In s.heap) (H : XCls cx.K C) (he : s.heap.get? e = some oe) (hc : oe.cls = cls)
    (h4 : subIn cx.K cls (.ref C) = some c) (q : Q c s) : wpAny M A (excMatches (.ref e) (.ref C)) Q E s := by
  unfold excMatches
  refine wpAny_bind ((looks_instIn X H.ns).here ?_)
  simp only [Bool.false_eq_true, if_false]
  refine wpAny_bind (wpAny_pure ?_)
  simp only [List.forIn_cons, List.forIn_nil]
  unfold isExcClass
  refine wpAny_bind (wpAny_bind (wpAny_bind (wpAny_bind (isType_own X H.cls ?_))))
  simp only [if_true]
  refine (looks_subIn X H.base).here ?_
  simp only [Bool.not_true, Bool.false_eq_true, if_false]
  refine wpAny_pure (wpAny_bind (wpAny_pure (wpAny_pure ?_)))
  refine wpAny_bind (wpAny_bind (wpAny_loadPart he (wpAny_pure ?_)))
  rw [hc]
  refine wpAny_bind (wpAny_bind (wpAny_bind ((looks_subIn X h4).here ?_)))
  cases c <;> exact wpAny_pure (wpAny_pure (wpAny_pure q))

theorem callSpecial_own {M : Model} {A : Around} {E : Value → Shared → Prop} {s : Shared} {e C : Addr} {oe : Obj} {name : PySem.Str} {id : String} {Q : Option Value → Shared → Prop} (X : cx.K.In s.heap) (he : s.heap.get? e = some oe) (hc : oe.cls = .ref C)
    (hf : findIn cx.K (.ref C) name = some (some (.builtin id))) (hb : bindSpecial (.builtin id) (.ref e) = pure (.builtin id, [.ref e])) (h : wpAny M A (call (.builtin id) [.ref e]) (fun v => Q (some v)) E s) : wpAny M A (callSpecial? (.ref e) name) Q E s := by
  unfold callSpecial? specialOf
  refine wpAny_bind (wpAny_bind (wpAny_bind (wpAny_loadPart he (wpAny_pure ?_))))
  rw [hc]
  refine (looks_findIn X hf).here ?_
  refine wpAny_holding (wpAny_bind (wpAny_of_eq hb (wpAny_bind (wpAny_mono h (fun v s' h' => wpAny_pure h') fun _ _ h' => h'))))
section
variable {prog : Program} {w : World} {A : Around} {s : Shared} {e C t0 : Addr} {oe : Obj} {vs : Array Value} {m : PySem.Str} {tk : Tok}
theorem bexcArgs_own {E : Value → Shared → Prop} {Q : Value × List Value → Shared → Prop} (he : s.heap.get? e = some oe) (hd : oe.data = .fields vs) (h0 : vs[0]? = some (.ref t0)) (ht : s.heap.TupAt t0 [.str m tk]) (hq : Q (.ref t0, [.str m tk]) s) :
    wpAny (model prog w) A (Builtin.BaseException.bexcArgs (.ref e)) Q E s := by
  obtain ⟨ot, k, hto, _, htd⟩ := ht
  unfold Builtin.BaseException.bexcArgs
  exact wpAny_bind (wpAny_field he hd h0 (wpAny_bind (wpAny_seqItems hto htd (wpAny_pure hq))))
theorem bexcStr_own {E : Value → Shared → Prop} {Q : Fin → Shared → Prop} (he : s.heap.get? e = some oe) (hd : oe.data = .fields vs) (h0 : vs[0]? = some (.ref t0)) (ht : s.heap.TupAt t0 [.str m tk]) (hq : Q (.done (.ret (.str m tk))) s) :
    wpAny (model prog w) A (Builtin.«BaseException.__str__» ⟨[.ref e], []⟩) Q E s := by
  unfold Builtin.«BaseException.__str__»
  repeat (first | with_reducible refine bexcArgs_own he hd h0 ht ?_ | wp_step)
  exact hq
theorem isExc_own {E : Value → Shared → Prop} (X : cx.K.In s.heap) (H : XCls cx.K C) (he : s.heap.get? e = some oe) (hc : oe.cls = .ref C) : Looks (model prog w) s.heap (isInstance (.ref e) (.type "BaseException")) true := by
  intro A Q E s' k q
  unfold isInstance
  refine wpAny_bind (wpAny_bind (wpAny_loadPart (k _ _ he) (wpAny_pure ?_)))
  rw [hc]
  exact (looks_subIn X H.base) A Q E s' k q
theorem bexc_kind : builtinKind "BaseException.__str__" = some .slot := by decide +kernel
theorem bexc_split : splitId "BaseException.__str__" = some ("BaseException", "__str__") := by decide +kernel
theorem call_bexcStr_own {E : Value → Shared → Prop} {Q : Value → Shared → Prop} (X : cx.K.In s.heap) (H : XCls cx.K C) (he : s.heap.get? e = some oe) (hc : oe.cls = .ref C) (hd : oe.data = .fields vs) (h0 : vs[0]? = some (.ref t0)) (ht : s.heap.TupAt t0 [.str m tk]) (q : Q (.str m tk) s) :
    wpAny (model prog w) A (call (.builtin "BaseException.__str__") [.ref e]) Q E s := by
  refine wpAny_call (codeAny_call_builtin F.excStr_Exception.str.plain F.entry_bexc_str ?_)
  refine check_slot (i := "BaseException.__str__") (self := .ref e) (rest := []) (kw := []) bexc_kind bexc_split (isExc_own (E := E) X H he hc) (F.args_bexc_str (.ref e)) ?_
  exact bexcStr_own he hd h0 ht q
theorem strOf_own {E : Value → Shared → Prop} {Q : Value → Shared → Prop} (hu : A.units < cLine) (X : cx.K.In s.heap)
    (H : XCls cx.K C) (hf : findIn cx.K (.ref C) "__str__" = some (some (.builtin "BaseException.__str__"))) (he : s.heap.get? e = some oe) (hc : oe.cls = .ref C) (hd : oe.data = .fields vs) (h0 : vs[0]? = some (.ref t0)) (ht : s.heap.TupAt t0 [.str m tk]) (q : Q (.str m tk) s) :
    wpAny (model prog w) A (Builtin.Str.strOf (.ref e)) Q E s := by
  unfold Builtin.Str.strOf
  repeat (first | with_reducible refine wpAny_cRoomFor hu ?_ | with_reducible refine callSpecial_own X he hc hf (F.excStr_Exception.str.bind _) (call_bexcStr_own X H he hc hd h0 ht ?_) | wp_step)
  exact q
open Builtin Builtin.Str in
theorem call_str_own {E : Value → Shared → Prop} {Q : Value → Shared → Prop} (hu : A.units + 2 < cLine) (X : cx.K.In s.heap)
    (H : XCls cx.K C) (hf : findIn cx.K (.ref C) "__str__" = some (some (.builtin "BaseException.__str__"))) (he : s.heap.get? e = some oe) (hc : oe.cls = .ref C) (hd : oe.data = .fields vs) (h0 : vs[0]? = some (.ref t0)) (ht : s.heap.TupAt t0 [.str m tk]) (q : Q (.str m tk) s) :
    wpAny (model prog w) A (call (.type "str") [.ref e]) Q E s :=
  callType_new F.called_str (by decide) (F.typeCall_str_1 _) (F.newCall_str_1 _) (fun obj => F.args_object_init_2 obj _) F.entry_str_new
    (meets_str_new (S := fun A' R s' => A'.units + 1 < cLine ∧ s' = s ∧ R (.ok (.ret (.str m tk))) s')
      fun _ _ A' _ _ hq => by obtain ⟨h1, rfl, h2⟩ := hq; exact strOf_own (A := A'.in1) h1 X H hf he hc hd h0 ht h2)
    ⟨(show A.units + 1 + 1 < cLine from hu), rfl, typeIs_str _ _ _, q⟩
end
end Mine

-- X3
namespace Mine
open PySem PySem.W PySem.Calls PyProof.Rows

variable {cx : Cx} {d : Nat} {env : Env} {ρ : Vars} {st : Store} {pos : Pos}

theorem Fly.nx {A : Around} {o al : List Addr} {h₁ h' : Heap} {tk : Nat} {e : Addr} {cls : Value} {ws : List Value} (ok : Ok cx A o al st h₁ tk) (fl : Fly A h₁ h' e cls ws) : Nx cx A o al [] st h₁ h' tk := by
  obtain ⟨B, l, t, hl, hfl, htup, hnew, hB, hsm⟩ := fl
  exact ok.slots hl (fun b ob e' nm => hfl.1 b ob (hB b ob e' nm)) hsm
theorem Fly.at {A : Around} {hx al : List Addr} {h₁ h' : Heap} {tk : Nat} {e : Addr} {cls : Value} {ws : List Value} (a : At cx A env hx al ρ st h₁ tk) (fl : Fly A h₁ h' e cls ws) : At cx A env hx al ρ st h' tk := by
  have := a.next (fl.nx a.ok)
  rwa [List.append_nil] at this
theorem Fly.apart {A : Around} {o al : List Addr} {h₁ h' : Heap} {tk : Nat} {e : Addr} {cls : Value} {ws : List Value} (ok : Ok cx A o al st h₁ tk) (fl : Fly A h₁ h' e cls ws) :
    ∃ oe vs t, h'.get? e = some oe ∧ oe.cls = cls ∧ oe.data = .fields vs ∧ vs[0]? = some (.ref t) ∧ h'.TupAt t ws ∧ e ∉ o ++ al ∧ t ∉ o ++ al := by
  obtain ⟨B, l, t, hl, hfl, htup, hnew, hB, hsm⟩ := fl
  obtain ⟨oe, vs, _, _, _, he, ⟨hc, h0⟩, hd, _⟩ := hfl.2.2.2
  have key : ∀ {b : Addr} {ob : Obj}, B.get? b = none → h'.get? b = some ob → (ob.data = .fields vs ∨ SeqObj ob) → b ∉ o ++ al := by
    intro b ob hb hob hdat m
    have ⟨ob₁, e₁⟩ : ∃ ob₁, h₁.get? b = some ob₁ := by
      rcases List.mem_append.mp m with m | m
      · exact let ⟨ob, q, _⟩ := ok.own b m; ⟨ob, q⟩
      · obtain ⟨i, hi, e⟩ := List.getElem_of_mem m
        have hi' : i < st.length := ok.st.1 ▸ hi
        exact (ok.st.2 i b (st[i]'hi') (by rw [List.getElem?_eq_getElem hi, e]) (List.getElem?_eq_getElem hi')).obj
    by_cases hm : b ∈ l.filterMap (·.frame)
    · obtain ⟨mo, ob₂, e₂, hd₂⟩ := frame_own ok.stk hl hm
      rw [e₁] at e₂
      cases e₂
      obtain ⟨sl, q⟩ := hsm b ob₁ e₁ hd₂
      rw [hob] at q
      cases q
      rcases hdat with q | q
      · exact hd₂ _ q
      · obtain ⟨ob₃, e₃, n₃⟩ := ok.own b mo
        rw [e₁] at e₃
        cases e₃
        exact n₃ q
    · rw [hB b ob₁ e₁ hm] at hb
      cases hb
  obtain ⟨ot, nt, hot, hotc, hotd⟩ := id htup
  exact ⟨oe, vs, t, he, hc, hd, h0, htup, key hfl.2.1 he (.inl hd), key hnew hot (.inr ⟨_, _, hotd⟩)⟩

noncomputable def thand (cx : Cx) (d : Nat) (env : Env) (ρ : Vars) (hs : List ExceptHandler) (cls : Value) (ys : List PyData) (st : Store) (Post : Fl → Vars → Store → Prop) : Prop :=
  ∀ A hx al s h₁ e ws Q E, (∃ l, A.frames = some (env :: l)) → Room A d → At cx A env hx al ρ st h₁ s.toks → Fly A h₁ s.heap e cls ws → RdAll (vw h₁ (ow env hx ++ al)) ws ys →
    (∀ fl ρ' st' f al' h' tk', Nxs cx A env hx al al' ρ' st' h₁ h' tk' → FlRep cx (vw h' (ow env hx ++ (al ++ al'))) (al ++ al') f fl → Post fl ρ' st' → Q f { s with heap := h', toks := tk' }) →
    wpAny (model cx.prog cx.w) A (handleBy (.ref e) env hs) Q E s

theorem tsM_try {b : Bool} {e : Expr} {p : Pos} {h₀ : ExceptHandler} {hs : List ExceptHandler} {Post : Fl → Vars → Store → Prop} {PE : Value → List PyData → Store → Prop}
    (h : teX b cx d env ρ st e (fun v st₁ => Post (.ret v) ρ st₁) fun cls ys st₁ => thand cx d env ρ (h₀ :: hs) cls ys st₁ Post) : tsM b cx d env ρ st (.Try [.Return (some e) p] (h₀ :: hs) [] [] pos) Post PE := by
  intro A hx al s Q E Fr R a k kE
  refine wpS_try (wpS_execs_cons (wpS_Return (h A hx al s _ _ R a (fun v st₁ val al₁ h₁ tk₁ n₁ v₁ p₁ => ?_) fun st' al' h₁ h' tk' e cls ws ys n fl r pe => ?_)))
  · exact k (.ret v) ρ st₁ (.ret val) al₁ h₁ tk₁ (a.nxs n₁) v₁ p₁
  · obtain ⟨L0, hL0⟩ := Fr
    have stk := n.ok.stk
    obtain ⟨B, l, t, hl, hfl, htup, hnew, hB, hsm⟩ := fl
    rw [hL0] at hl
    cases hl
    obtain ⟨l2, hl2, hf⟩ := stk
    rw [hL0] at hl2
    cases hl2
    obtain ⟨_, L, _, hLf, _⟩ := hf env (.head _)
    refine wpAny_looks_onW (s := { s with heap := h', toks := tk' }) hL0 hLf hfl fun h₂ held sm₂ => ?_
    refine wpAny_landsW (s := { s with heap := h₂, toks := tk' }) held fun h₃ fl₃ sm₃ => ?_
    refine pe A hx (al ++ al') { s with heap := h₃, toks := tk' } h₁ e ws Q E ⟨L0, hL0⟩ R (a.next n) ⟨B, _, t, hL0, fl₃, (htup.of_slots sm₂).of_slots sm₃, hnew, hB, (hsm.trans sm₂).trans sm₃⟩ r fun fl ρ' st₂ f al₂ h₄ tk₄ n₄ w p => ?_
    exact k fl ρ' st₂ f (al' ++ al₂) h₄ tk₄ ((a.nxs n).trans n₄) (by rw [← List.append_assoc al]; exact w) p

section
variable {cls : Value} {ys : List PyData} {rest : List ExceptHandler} {x : PySem.Str} {np hpos : Pos} {C : Addr} {Post : Fl → Vars → Store → Prop}
theorem thand_skip {name : Option PySem.Str} {body : List Stmt} (e : nsIn cx.K mainGlobals x = some (some (.ref C))) (H : XCls cx.K C) (hs : subIn cx.K cls (.ref C) = some false) (h : thand cx d env ρ rest cls ys st Post)
    (hkx : env.kindOf x = some .globalImplicit := by rfl) (hd : (x == ("__debug__" : PySem.Str)) = false := by rfl) : thand cx d env ρ (.ExceptHandler (some (.Name x np)) name body hpos :: rest) cls ys st Post := by
  intro A hx al s h₁ e' ws Q E Fr R a fl r k
  have a' := fl.at a
  obtain ⟨oe, _, _, he, hc, _⟩ := fl.apart a.ok
  refine wpAny_handleBy_cons (codeAny_handlers_test (Name_function_global a.fn hkx (loadGlobal_global (by rw [a.gl]; exact a'.mg) (mg_of cx.X cx.T.g e) ?_) hd)) (by intro q; cases q)
  refine excMatches_own a'.ok.K H he hc hs ?_
  exact h A hx al s h₁ e' ws Q E Fr R a fl r k
end

theorem At.around {A A' : Around} {hx al : List Addr} {h : Heap} {tk : Nat} (e : A'.frames = A.frames) (a : At cx A env hx al ρ st h tk) : At cx A' env hx al ρ st h tk := ⟨a.ok.around e, a.fn, a.gl, a.bi, a.vars⟩
theorem rd_text {g : Heap} {ws : List Value} {y : PySem.Str} (r : RdAll g ws [.str y]) : ∃ t, ws = [.str y t] := by
  cases r with
  | cons r r' => cases r'; obtain ⟨t, rfl⟩ := rd_str r; exact ⟨t, rfl⟩
theorem nameGoes {A : Around} {hx al : List Addr} {s : Shared} {n : PySem.Str} {Q : Unit → Shared → Prop} {E : Value → Shared → Prop} (a : At cx A env hx al ρ st s.heap s.toks) (hk : env.kindOf n = some .local)
    (k : ∀ h' tk', Nxs cx A env hx al [] [] st s.heap h' tk' → Q () { s with heap := h', toks := tk' }) : wpAny (model cx.prog cx.w) A (do bindName env n .none; unbindBehindTheSuite env n pos) Q E s := by
  obtain ⟨m, cm, hm, hc, hv⟩ := a.vars
  refine wpAny_nameGoes hk hm (by rw [a.fn]; rfl) fun h' m' hn' sb => ?_
  have nd := (List.nodup_append.mp a.ok.nd).1
  obtain ⟨ok', w⟩ := a.ok.touch (Nat.le_succ _) (List.mem_cons_self) sb (let ⟨ob, es, ep, q1, q2, _⟩ := hn'; ⟨ob, q1, fun ⟨vs, n, z⟩ => by rw [q2] at z; cases z⟩) (fun _ _ _ => let ⟨ob, es, ep, q1, q2, _⟩ := hn'; ⟨ob, q1, fun vs z => by rw [q2] at z; cases z⟩)
  refine k h' _ ⟨.of fun b hb ob e => (sb.2 b fun z => (List.nodup_cons.mp nd).1 (z ▸ List.mem_append.mpr (.inr hb))).trans e, ?_, by rw [List.append_nil]; exact w⟩
  rw [List.append_nil]
  exact ⟨ok', a.fn, a.gl, a.bi, m', cm, hn', fun n c e => (hc n c e).sameBut sb fun z => a.apart e z.symm, fun y v e => by cases e⟩
end Mine

-- X4
namespace Mine
open PySem PySem.W PySem.Calls PyProof.Rows

variable {cx : Cx} {d : Nat} {env : Env} {ρ : Vars} {st : Store} {pos : Pos}

section
variable {ys : List PyData} {rest : List ExceptHandler} {x : PySem.Str} {np hpos p0 p1 p2 p3 p4 p5 : Pos} {C : Addr} {Post : Fl → Vars → Store → Prop}
set_option maxHeartbeats 1000000 in
theorem thand_own {n : PySem.Str} {c y : PySem.Str} {k0 m0 : Nat} (e : nsIn cx.K mainGlobals x = some (some (.ref C))) (H : XCls cx.K C) (hs : subIn cx.K (.ref C) (.ref C) = some true)
    (hf : findIn cx.K (.ref C) "__str__" = some (some (.builtin "BaseException.__str__"))) (hb : nsIn cx.K mainGlobals ("str" : PySem.Str) = some none) (h : Post (.ret (.d (.tuple [.str c, .str y]))) [] st)
    (hkn : env.kindOf n = some .local := by rfl) (hks : env.kindOf ("str" : PySem.Str) = some .globalImplicit := by rfl) (hkx : env.kindOf x = some .globalImplicit := by rfl) (hd : (x == ("__debug__" : PySem.Str)) = false := by rfl)
    (hdn : (n == ("__debug__" : PySem.Str)) = false := by rfl) (hcn : (n == ("__classdict__" : PySem.Str)) = false := by rfl) :
    thand cx d env ρ (.ExceptHandler (some (.Name x np)) (some n) [.Return (some (.Tuple [.Constant (.str c) k0 p0, .Call (.Name "str" p5) [.Name n p1] [] p2] m0 p3)) p4] hpos :: rest) (.ref C) [.str y] st Post := by
  intro A hx al s h₁ e' ws Q E Fr R a fl r k
  have a' := fl.at a
  obtain ⟨oe, vs, t, he, hc, hdat, h0, htup, me, mt⟩ := fl.apart a.ok
  obtain ⟨tk0, rfl⟩ := rd_text r
  refine wpAny_handleBy_cons (codeAny_handlers_test (Name_function_global a.fn hkx (loadGlobal_global (by rw [a.gl]; exact a'.mg) (mg_of cx.X cx.T.g e) ?_) hd)) (by intro q; cases q)
  refine excMatches_own a'.ok.K H he hc hs ?_
  refine codeAny_handlers_suite_as ?_
  obtain ⟨B, l, t', hl, hfl, htup', hnew, hB, hsm⟩ := id fl
  refine lands_againW hfl fun h₂ fl₂ sm₂ => ?_
  have flB : Fly A h₁ h₂ e' (.ref C) [.str y tk0] := ⟨B, l, t', hl, fl₂, htup'.of_slots sm₂, hnew, hB, hsm.trans sm₂⟩
  have a₂ := flB.at a
  obtain ⟨oe₂, vs₂, t₂, he₂, hc₂, hdat₂, h0₂, htup₂, me₂, mt₂⟩ := flB.apart a.ok
  have am : At cx (A.mark (some (.ref e'))) env hx al ρ st h₂ s.toks := At.around (A := A) (A' := A.mark (some (.ref e'))) rfl a₂
  refine store_run (s := { s with heap := h₂ }) (v := .ext (.ref e')) am rfl (by unfold stores; rw [hkn]; rfl) fun h₃ tk₃ n₃ => ?_
  have a₃ := n₃.at'
  have w₃ := n₃.vw
  rw [List.append_nil] at a₃ w₃
  have he₃ := (vw_get.mp (w₃ _ _ (vw_get.mpr ⟨he₂, me₂⟩))).1
  obtain ⟨ot, nt, hot, hotc, hotd⟩ := id htup₂
  have ht₃ : h₃.TupAt t₂ [.str y tk0] := ⟨ot, nt, (vw_get.mp (w₃ _ _ (vw_get.mpr ⟨hot, mt₂⟩))).1, hotc, hotd⟩
  refine wpAny_execs_cons (wpAny_Return_some (Tuple_ ?_))
  refine spliced_cons (x := eval (.Constant (.str c) k0 p0) env) (Constant_str (spliced_cons (x := eval (.Call (.Name "str" p5) [.Name n p1] [] p2) env) ?_))
  refine Call_ (builtin_run (s := { s with heap := h₃, toks := tk₃ + 1 }) (v := .type "str") (a₃.raise (Nat.le_succ _)) hb (by rfl) ?_ hks (by decide) (by rfl)) (by rfl)
  refine callWith_of (P := fun _ => True) (by rfl) (fun _ _ => keeps_any (by intro a e; cases e)) (evalArgs_plain (x := eval (.Name n p1) env) (spliced_cons (x := eval (.Name n p1) env) ?_))
  have hl₃ : (upd ρ n (V.ext (.ref e'))).lookup n = some (.ext (.ref e')) := by rw [upd_get, beq_self_eq_true]; rfl
  refine name_run (s := { s with heap := h₃, toks := tk₃ + 1 }) (a₃.raise (Nat.le_succ _)) hl₃ (fun val r => ?_) hdn hcn
  obtain rfl : val = .ref e' := r
  refine spliced_nil ⟨trivial, ?_⟩
  refine call_str_own (s := { s with heap := h₃, toks := tk₃ + 1 }) (A := A.mark (some (.ref e'))) (by have := R.un; show A.units + 2 < cLine; omega) a₃.ok.K H hf he₃ hc₂ hdat₂ h0₂ ht₃ ?_
  refine spliced_nil (wpAny_newTuple ?_ (by show 2 ≤ sizeLine; decide))
  have hst := stays_push h₃ { cls := .type "tuple", data := .seq [Value.str c tk₃, .str y tk0].toArray }
  have n₄ : Nxs cx (A.mark (some (.ref e'))) env hx al [] (upd ρ n (.ext (.ref e'))) st h₃ (h₃.push { cls := .type "tuple", data := .seq [Value.str c tk₃, .str y tk0].toArray }) (tk₃ + 1) := nxs_grow a₃ hst (Nat.le_succ _)
  have a₄ := n₄.at'
  have w₄ := n₄.vw
  rw [List.append_nil] at a₄ w₄
  have rT : Rd (vw (h₃.push { cls := .type "tuple", data := .seq [Value.str c tk₃, .str y tk0].toArray }) (ow env hx ++ al)) (.ref h₃.objs.size) (.tuple [.str c, .str y]) :=
    .tuple (isTup_new (a₃.ok.fresh (Nat.le_refl _))) (.cons (.str _ _) (.cons (.str _ _) .nil))
  refine nameGoes (A := A) (s := { s with heap := h₃.push { cls := .type "tuple", data := .seq [Value.str c tk₃, .str y tk0].toArray }, toks := tk₃ + 1 }) (At.around (A := A.mark (some (.ref e'))) (A' := A) rfl a₄) hkn fun h₅ tk₅ n₅ => ?_
  have w₅ := n₅.vw
  have a₅ := n₅.at'
  rw [List.append_nil] at w₅ a₅
  have n₁₂ := (flB.nx a.ok)
  have w₁₂ := n₁₂.vw
  rw [List.append_nil] at w₁₂
  have hkh : Sl hx h₁ h₂ := n₁₂.fr.sub fun a m => .tail _ (List.mem_append.mpr (.inr m))
  refine k (.ret (.d (.tuple [.str c, .str y]))) [] st (.ret (.ref h₃.objs.size)) [] h₅ tk₅ ⟨hkh.trans (n₃.hk.trans (n₄.hk.trans n₅.hk)), by rw [List.append_nil]; exact a₅, by rw [List.append_nil]; exact fun b o q => w₅ b o (w₄ b o (w₃ b o (w₁₂ b o q)))⟩ ?_ h
  rw [List.append_nil]
  exact Rd.keeps w₅ rT

theorem thand_val {c c2 : PySem.Str} {k0 k1 m0 : Nat} (hb : nsIn cx.K mainGlobals ("ValueError" : PySem.Str) = some none) (h : Post (.ret (.d (.tuple [.str c, .str c2]))) ρ st)
    (hks : env.kindOf ("ValueError" : PySem.Str) = some .globalImplicit := by rfl) :
    thand cx d env ρ (.ExceptHandler (some (.Name "ValueError" np)) none [.Return (some (.Tuple [.Constant (.str c) k0 p0, .Constant (.str c2) k1 p1] m0 p3)) p4] hpos :: rest) (.type "ValueError") ys st Post := by
  intro A hx al s h₁ e' ws Q E Fr R a fl r k
  have a' := fl.at a
  obtain ⟨oe, vs, t, he, hc, hdat, h0, htup, me, mt⟩ := fl.apart a.ok
  refine wpAny_handleBy_builtin (X := "ValueError") (T := "ValueError") (b := true) PySem.F.isExc_ValueError PySem.F.notTuple_ValueError (by rw [isSubtype_type]; kernel_rfl) ?_
  refine builtin_run (v := .type "ValueError") (At.around (A := A) (A' := A.mark (some (.ref e'))) rfl a') hb (by rfl) ⟨rfl, ⟨oe, he, hc⟩, ?_⟩ hks (by decide) (by rfl)
  obtain ⟨B, l, t', hl, hfl, htup', hnew, hB, hsm⟩ := id fl
  refine lands_againW hfl fun h₂ fl₂ sm₂ => ?_
  have flB : Fly A h₁ h₂ e' (.type "ValueError") ws := ⟨B, l, t', hl, fl₂, htup'.of_slots sm₂, hnew, hB, hsm.trans sm₂⟩
  have a₂ := flB.at a
  refine wpAny_execs_cons (wpAny_Return_some (Tuple_ ?_))
  refine spliced_cons (x := eval (.Constant (.str c) k0 p0) env) (Constant_str (spliced_cons (x := eval (.Constant (.str c2) k1 p1) env) (Constant_str (spliced_nil (wpAny_newTuple ?_ (by show 2 ≤ sizeLine; decide))))))
  have hst := stays_push h₂ { cls := .type "tuple", data := .seq [Value.str c s.toks, .str c2 (s.toks + 1)].toArray }
  have n₄ : Nxs cx A env hx al [] ρ st h₂ (h₂.push { cls := .type "tuple", data := .seq [Value.str c s.toks, .str c2 (s.toks + 1)].toArray }) (s.toks + 1 + 1) := nxs_grow a₂ hst (by omega)
  have a₄ := n₄.at'
  have w₄ := n₄.vw
  rw [List.append_nil] at a₄ w₄
  have n₁₂ := (flB.nx a.ok)
  have w₁₂ := n₁₂.vw
  rw [List.append_nil] at w₁₂
  have hkh : Sl hx h₁ h₂ := n₁₂.fr.sub fun a m => .tail _ (List.mem_append.mpr (.inr m))
  refine k (.ret (.d (.tuple [.str c, .str c2]))) ρ st (.ret (.ref h₂.objs.size)) [] _ _ ⟨hkh.trans n₄.hk, by rw [List.append_nil]; exact a₄, by rw [List.append_nil]; exact fun b o q => w₄ b o (w₁₂ b o q)⟩ ?_ h
  rw [List.append_nil]
  exact .tuple (isTup_new (a₂.ok.fresh (Nat.le_refl _))) (.cons (.str _ _) (.cons (.str _ _) .nil))
end
end Mine

-- X5
namespace Mine
open PySem PySem.W PySem.Calls PyProof.Rows

variable {cx : Cx} {d : Nat} {env : Env} {ρ : Vars} {st : Store} {pos : Pos}

theorem typeCall_tree (v : Value) : ∃ k, Builtin.«type.__call__» ⟨[.type "int", v], []⟩ = (holding [.builtin "int.__new__"] (call (.builtin "int.__new__") [.type "int", v] []) >>= k) := by
  obtain ⟨c, tl, hmro⟩ := F.called_int.mro
  have hmade := F.called_int.made
  have h1 := F.called_int.notType
  have h2 := F.called_int.canCreate
  have h3 := F.typeCall_int_1 v
  unfold Builtin.«type.__call__»
  simp only [h1, h2, h3, hmro, hmade, pure_bind, Bool.false_eq_true, if_false, List.isEmpty_cons]
  exact ⟨_, rfl⟩
theorem numText_str (x : PySem.Str) (u : Tok) : (int_private% "numeralText?") (.str x u) = pure (some (numTextOf x)) := by
  have e : (int_private% "numeralText?") (.str x u) = pure (some (if x.cps.all (· < 128) then x.cps.toList else Unicode.numberText x.cps.toList)) := rfl
  exact e
theorem special_none {x : PySem.Str} {u : Tok} {n : PySem.Str} (h : typeLookup (.type "str") n = pure none) : specialOf (.str x u) n = pure none := by
  unfold specialOf
  show (pure (.type "str") >>= fun t => typeLookup t n) = _
  rw [pure_bind, h]
theorem intObj_tree (x : PySem.Str) (u : Tok) : ∃ k, (int_private% "intFromObject") (.str x u) = ((int_private% "intFromText") (.str x u) (numTextOf x) 10 >>= k) := by
  have h1 : callSpecial? (.str x u) "__int__" = pure none := by
    unfold callSpecial?
    rw [special_none KIN.str_int, pure_bind]
  have h2 := special_none (x := x) (u := u) KIN.str_idx
  have h3 := special_none (x := x) (u := u) KIN.str_trunc
  have h4 := numText_str x u
  refine ⟨pure, ?_⟩
  show (callSpecial? (.str x u) "__int__" >>= _) = _
  rw [h1, pure_bind]
  show (specialOf (.str x u) "__index__" >>= _) = _
  rw [h2, pure_bind]
  show (specialOf (.str x u) "__trunc__" >>= _) = _
  rw [h3, pure_bind]
  show ((int_private% "numeralText?") (.str x u) >>= _) = _
  rw [h4, pure_bind]
  exact (bind_pure _).symm
theorem intNew_tree (x : PySem.Str) (u : Tok) : ∃ k, Builtin.«int.__new__» ⟨[.type "int", .str x u], []⟩ = ((int_private% "intFromText") (.str x u) (numTextOf x) 10 >>= k) := by
  have f1 := F.conv_sub_int
  have f2 := F.madeHere_int
  obtain ⟨k, hk⟩ := intObj_tree x u
  have e : ∃ k', Builtin.«int.__new__» ⟨[.type "int", .str x u], []⟩ = ((int_private% "intFromObject") (.str x u) >>= k') := by
    unfold Builtin.«int.__new__»
    simp only [isType, f1, f2, pure_bind, Bool.not_true, Bool.false_eq_true, if_false]
    exact ⟨_, rfl⟩
  obtain ⟨k', hk'⟩ := e
  exact ⟨_, by rw [hk', hk, bind_assoc]⟩

theorem mark_none {M : Model} {A : Around} {E : Value → Shared → Prop} {s : Shared} {own : List String} {e : Value} {Q : Unit → Shared → Prop} (q : Q () s) : wpS true M A (markTheRefusal own e) Q E s := by
  intro Γ p hΓ hc
  have h := hc rfl
  have hn : pythonCodeMadeTheCall own (((Γ.code, p) :: Γ.below).map (·.1)) = false := by
    have ha : ((((Γ.code, p) :: Γ.below).map (·.1)).any Code.isCaller) = true := by
      rw [List.map_cons, List.any_cons, List.any_map]
      exact h
    unfold pythonCodeMadeTheCall
    refine Bool.and_eq_false_iff.mpr (.inl (Bool.and_eq_false_iff.mpr (.inl ?_)))
    rw [Bool.not_eq_false']
    exact ha
  unfold markTheRefusal
  rw [Sem.wp_bind']
  show Sem.wp M Γ (if pythonCodeMadeTheCall own (((Γ.code, p) :: Γ.below).map (·.1)) = true then _ else _) _ _ p s
  rw [hn]
  exact q
theorem intText_fails {prog : Program} {w : World} {A : Around} {E : Value → Shared → Prop} {s : Shared} {x : PySem.Str} {u : Tok} {Q : Value → Shared → Prop} (hl : x.length ≤ 640) (hx : ∀ c ∈ x.cps.toList, c < 16 ^ 8) (hn : PySem.intText? x = none) (hh : A.handled = none)
    (h : ∀ h' e msg tk tk', s.toks ≤ tk' → Heap.MadeExcOf s.heap h' e (.type "ValueError") [.str msg tk] → E (.ref e) { s with heap := h', toks := tk' }) : wpS true (model prog w) A ((int_private% "intFromText") (.str x u) (numTextOf x) 10) Q E s := by
  have hs : (numSeenOf x).length ≤ 640 := Nat.le_trans (seen_length x) hl
  have fin : wpS true (model prog w) A (do
      rule "int.__new__.invalid-literal"
      let shown ← match ← (int_private% "bytesOf?") (.str x u) with
        | some b => pyRepr (← mkBytes (b.extract 0 200))
        | none => pyRepr (.str x u)
      let refusal ← newExc (.type "ValueError") [← mkStr (((s!"invalid literal for int() with base {10}: " : String) ++ ⟨shown.cps.extract 0 200⟩ : PySem.Str))]
      markTheRefusal ["int.__new__"] refusal
      raiseNew refusal) Q E s := by
    refine wpS_lib (wpAny_rule (wpS_lib (wpAny_pure (a := none) ?_)))
    refine wpS_lib (wpAny_pyRepr_str ?_ ?_)
    · refine wpS_lib (wpAny_mkStr ?_ ?_)
      · refine wpS_lib (wpAny_newExc_plain plainExc_ValueError (fun h' e hm => ?_) (by show 1 ≤ sizeLine; decide))
        refine wpS_bind (mark_none ?_)
        refine wpS_of (wpAny_raiseNew_none hh ?_)
        exact h h' e _ _ _ (by show s.toks ≤ s.toks + 1 + 1; omega) ⟨hm.keeps, hm.new, hm.there⟩
      · have e1 : (PySem.Str.ofString (toString "invalid literal for int() with base " ++ toString 10 ++ toString ": ")).length = 40 := by kernel_rfl
        have e2 : ∀ a : Array Nat, (⟨a.extract 0 200⟩ : PySem.Str).length ≤ 200 := fun a => by
          show (a.extract 0 200).size ≤ 200
          rw [Array.size_extract]; omega
        have e3 : ∀ y z : PySem.Str, (y ++ z).length = y.length + z.length := fun y z => by
          show (y.cps ++ z.cps).size = _
          rw [Array.size_append]; rfl
        rw [e3, e1]
        have := e2 (reprText x).cps
        have : (40 + 200 : Nat) ≤ sizeLine := by decide
        omega
    · have h1 := StrLaws.reprText_len x hx
      have : (7000 : Nat) ≤ sizeLine := by decide
      omega
  show wpS true (model prog w) A (if (numSeenOf x).length ≤ 640 then _ else _) Q E s
  rw [if_pos hs]
  refine wpS_lib (wpAny_pure ?_)
  rcases read0 x hs with ⟨n, h1, _, _⟩ | ⟨_, h1 | ⟨i, h1, h2⟩⟩
  · rw [hn] at h1; cases h1
  · dsimp only
    rw [h1]
    refine wpS_lib (wpAny_pure (a := none) ?_)
    exact fin
  · dsimp only
    rw [h1]
    show wpS true _ _ (if _ then _ else _) _ _ _
    rw [if_neg h2]
    exact fin

theorem codeS_builtin {c : Bool} {prog : Program} {w : World} {A : Around} {R : Result → Shared → Prop} {s : Shared} {id : String} {args : Args} {b : Builtin} (hb : entryFor table id = some b)
    (h : wpS c (model prog w) (A.under (.builtin id args)) (b args) (fun fin s' => match fin with | .done f => R (.ok f) s' | .again c' => c'.quiet = true ∧ codeS c (model prog w) A c' R s') (fun e s' => R (.error e) s') s) : codeS c (model prog w) A (.builtin id args) R s := by
  refine codeS_of_tree ?_
  show wpS c _ _ (match entryFor table id with | some b => b args | none => unsupported ((withoutEnding? id "#data").getD id)) _ _ s
  rw [hb]; exact h
theorem codeS_callB {c : Bool} {prog : Program} {w : World} {A : Around} {R : Result → Shared → Prop} {s : Shared} {id : String} {args : Args} {b : Builtin} (hq : plainId id = true) (hb : entryFor table id = some b) (hc : checkBuiltinCall id args = pure ())
    (h : wpS c (model prog w) A.in1 (b args) (fun fin s' => match fin with | .done f => R (.ok f) s' | .again c' => c'.quiet = true ∧ codeS c (model prog w) A c' R s') (fun e s' => R (.error e) s') s) : codeS c (model prog w) A (.call (.builtin id) args) R s := by
  refine codeS_of_tree ?_
  show wpS c _ A.in1 (do checkBuiltinCall id args; again (.builtin id args)) _ _ s
  refine wpS_lib (wpAny_of_eq hc (wpS_pure ⟨plainId_quiet hq _, codeS_builtin hb ?_⟩))
  rw [Around.under_plainId hq args]; exact h
theorem call_int_fails {prog : Program} {w : World} {A : Around} {E : Value → Shared → Prop} {s : Shared} {x : PySem.Str} {u : Tok} {Q : Value → Shared → Prop} (hl : x.length ≤ 640) (hx : ∀ c ∈ x.cps.toList, c < 16 ^ 8) (hn : PySem.intText? x = none) (hh : A.handled = none)
    (h : ∀ h' e msg tk tk', s.toks ≤ tk' → Heap.MadeExcOf s.heap h' e (.type "ValueError") [.str msg tk] → E (.ref e) { s with heap := h', toks := tk' }) : wpS true (model prog w) A (call (.type "int") [.str x u]) Q E s := by
  refine wpS_call (codeS_of_tree ?_)
  show wpS true _ _ (callAny (.type "int") _) _ _ _
  refine wpS_pure ⟨Code.quiet_builtin _ (by decide +kernel), codeS_builtin F.entry_type_call ?_⟩
  obtain ⟨k, hk⟩ := typeCall_tree (.str x u)
  rw [hk]
  refine wpS_bind (wpS_holding (wpS_call (codeS_callB F.called_int.plain F.entry_int_new (F.newCall_int_1 _) ?_)))
  obtain ⟨k', hk'⟩ := intNew_tree x u
  rw [hk']
  exact wpS_bind (intText_fails hl hx hn hh h)
end Mine

-- X6
namespace Mine
open PySem PySem.W PySem.Calls PyProof.Rows

variable {cx : Cx} {d : Nat} {env : Env} {ρ : Vars} {st : Store} {pos : Pos}

theorem tsM_intFail {x : PySem.Str} {e : Expr} {p ip cp : Pos} {Post : Fl → Vars → Store → Prop} {PE : Value → List PyData → Store → Prop} (hb : nsIn cx.K mainGlobals ("int" : PySem.Str) = some none) (hp : plainArgs [e] = true)
    (h : te cx d env ρ st e fun v st₁ => ∃ y, v = .d (.str y) ∧ y.length ≤ 640 ∧ (∀ c ∈ y.cps.toList, c < 16 ^ 8) ∧ PySem.intText? y = none ∧ ∀ ys, PE (.type "ValueError") ys st₁)
    (hki : env.kindOf ("int" : PySem.Str) = some .globalImplicit := by rfl) (hs : swapsWith (.Call (.Name "int" ip) [e] [] cp) (some (.Name x p)) pos.line env = pure false := by rfl)
    (he : eval (.Call (.Name "int" ip) [e] [] cp) env = (do callWith cp (← eval (.Name "int" ip) env) [] (backTo cp (starEach [e] env)) (backToKw cp (keywordEach [] env))) := by rfl) :
    tsM true cx d env ρ st (.Assign [.Name x p] (.Call (.Name "int" ip) [e] [] cp) pos) Post PE := by
  intro A hx al s Q E Fr R a k kE
  refine wpS_Assign ?_ hs
  rw [he]
  refine wpS_lib (builtin_run (v := .type "int") a hb (by rfl) ?_ hki (by decide) (by rfl))
  refine callWith_X (firsts := []) (P := fun xs st₁ => ∃ y, xs = [.d (.str y)] ∧ y.length ≤ 640 ∧ (∀ c ∈ y.cps.toList, c < 16 ^ 8) ∧ PySem.intText? y = none ∧ ∀ ys, PE (.type "ValueError") ys st₁) R hp rfl a ?_ fun xs st' vals al' h' tk' n v p => ?_
  · intro A hx al s R a Q E k
    refine h A hx al s R a Q E fun r st' val al' h' tk' n v p => k r st' val al' h' tk' n v ?_
    obtain ⟨y, rfl, p⟩ := p
    exact ⟨y, rfl, p⟩
  · obtain ⟨y, rfl, h1, h2, h3, h4⟩ := p
    obtain ⟨val, rfl, v1⟩ := va1 v
    obtain ⟨t, rfl⟩ := rd_str v1
    refine call_int_fails (s := { s with heap := h', toks := tk' }) h1 h2 h3 R.hd fun h₂ e' msg tk tk₂ htk m => ?_
    exact kE ρ st' al' h' h₂ tk₂ e' _ _ [.str msg] (a.nxs (n.raise htk)) m (.cons (.str _ _) .nil) (h4 _)
end Mine

-- X7
namespace Mine
open PySem PySem.W PySem.Calls PyProof.Rows

variable {cx : Cx} {d : Nat} {env : Env} {ρ : Vars} {st : Store} {pos : Pos}

theorem tsX_forR {b : Bool} {x : PySem.Str} {p : Pos} {iter : Expr} {body : List Stmt} {Post : Fl → Vars → Store → Prop} {PE : Value → List PyData → Store → Prop}
    (h : te cx d env ρ st iter fun v st₁ => ∃ lo hi, v = .rng lo hi ∧ -(2 ^ 62) ≤ lo ∧ lo < 2 ^ 62 ∧ -(2 ^ 62) ≤ hi ∧ hi < 2 ^ 62 ∧ ∃ Inv : List PyData → Vars → Store → Prop, Inv (rngI lo hi) ρ st₁ ∧
      (∀ x' rest ρ st, Inv (x' :: rest) ρ st → tasg cx d env ρ st (.Name x p) (.d x') fun ρ₁ => tbM b cx d env ρ₁ st body (TurnPost (Inv rest) Post) fun _ _ _ => False) ∧ ∀ ρ st, Inv [] ρ st → Post .next ρ st)
    (hs : ∀ x, foldedSetIterable iter env x = pure x := by intro _; rfl) : tsM b cx d env ρ st (.For (.Name x p) iter body [] pos) Post PE := by
  intro A hx al s Q E Fr R a k kE
  refine wpS_For (h A hx al s R a _ E fun v st₁ val al₁ h₁ tk₁ n₁ v₁ p₁ => ?_) hs
  obtain ⟨lo, hi, rfl, b1, b2, b3, b4, Inv, i0, turn, stop⟩ := p₁
  obtain ⟨r, t, u, w, rfl, hr⟩ := v₁
  refine wpAny_pyIter_range (s := { s with heap := h₁, toks := tk₁ }) (vw_get.mp hr).1 (small_one b1 b2 b3 b4) ?_
  exact forLoop_run (s := { s with heap := h₁, toks := tk₁ }) R (a.next n₁) ⟨_, _, rfl⟩ (Nat.le_refl _) (stays_push _ _) (Nat.le_refl _) (feeds_range R.hd) Inv i0 (fun b hb => nomatch hb)
    (fun x rest ρ st hi => tasg_mono (turn x rest ρ st hi) fun ρ₁ q hx al s Q E a k => q A hx al s Q E Fr R a k fun _ _ _ _ _ _ _ _ _ _ _ _ _ p => p.elim) stop (lift_s (a.nxs n₁) k)

theorem ts_forC {target iter : Expr} {body : List Stmt} {Post : Fl → Vars → Store → Prop}
    (h : te cx d env ρ st iter fun v st₁ => ∃ n xs, v = .c n ∧ st₁[n]? = some (.live xs) ∧ ∃ Inv : List PyData → Vars → Prop, Inv xs ρ ∧
      (∀ o x rest ρ, Inv (x :: rest) ρ → tasg cx d env ρ (st₁.set n (.fixed o)) target (.d x) fun ρ₁ => tb cx d env ρ₁ (st₁.set n (.fixed o)) body (TurnPost (fun ρ₂ st₂ => Inv rest ρ₂ ∧ st₂ = st₁.set n (.fixed o)) fun fl ρ₂ st₂ => st₂ = st₁.set n (.fixed o) ∧ Post fl ρ₂ st₁)) ∧
      ∀ ρ, Inv [] ρ → Post .next ρ st₁)
    (hs : ∀ x, foldedSetIterable iter env x = pure x := by intro _; rfl) : ts cx d env ρ st (.For target iter body [] pos) Post := by
  intro A hx al s Q E R a k
  refine wpAny_For (h A hx al s R a _ E fun v st₁ val al₁ h₁ tk₁ n₁ v₁ p₁ => ?_) hs
  obtain ⟨n, xs, rfl, est, Inv, i0, turn, stop⟩ := p₁
  obtain ⟨l, vs, kk, ea, rfl, ho, hr⟩ := n₁.ok.cellX v₁ est
  have hl : h₁.IsList l vs := ⟨_, ho, rfl, kk, rfl⟩
  refine wpAny_pyIter_list hl ?_
  have a₁ := a.next n₁
  have lst : n < st₁.length := (List.getElem?_eq_some_iff.mp est).1
  obtain ⟨o, hoo⟩ : ∃ o, h₁.get? l = some o := ⟨_, ho⟩
  have aF : At cx A env hx (al ++ al₁) ρ (st₁.set n (.fixed o)) h₁ tk₁ := ⟨n₁.ok.setCell fun b eb => by rw [ea] at eb; cases eb; exact hoo, a₁.fn, a₁.gl, a₁.bi, a₁.vars⟩
  have eF : (st₁.set n (.fixed o))[n]? = some (Cell.fixed o) := List.getElem?_set_self lst
  have hlt : l < h₁.objs.size := Heap.lt_size ho
  have hsz : vs.size = xs.length := by rw [← Array.length_toList, hr.length]
  have feeds : Feeds cx A h₁.objs.size target [l] (vw h₁ (ow env hx ++ (al ++ al₁))) xs (h₁.push { cls := .type "list_iterator", data := .fields #[.ref l, .int 0 0] }) := by
    refine ⟨[h₁.objs.size, l], _, _, hsz ▸ Walks.list R.hd h₁.objs.size l (Nat.ne_of_lt hlt) vs, ⟨⟨_, Heap.get?_push_size _ rfl, rfl, rfl⟩, let ⟨o, e, r⟩ := hl; ⟨o, Heap.get?_push_of_some _ e, r⟩⟩, ?_, ?_, ?_, ?_⟩
    · intro b hb
      rcases List.mem_cons.mp hb with q | q
      · exact .inl q
      · exact .inr (.inr q)
    · intro i v hi hv
      obtain ⟨v', e, r⟩ := hr.get (List.getElem?_eq_getElem hi)
      have hv' : vs.toList[i]? = some v := by rw [Array.getElem?_toList]; exact hv
      rw [e] at hv'
      cases hv'
      exact ⟨_, List.getElem?_eq_getElem hi, r⟩
    · rintro i h' ⟨⟨o, e, _, hd⟩, _⟩
      exact ⟨o, e, _, hd⟩
    · intro i v s' Q E hst q
      exact go_list hst.1 q
  refine codeS_all (forLoop_run (c := false) (s := { s with heap := h₁, toks := tk₁ }) (Post := fun fl ρ₂ st₂ => st₂ = st₁.set n (.fixed o) ∧ Post fl ρ₂ st₁) R aF ⟨_, _, rfl⟩ (Nat.le_refl _) (stays_push _ _) (Nat.le_refl _) feeds (fun xs ρ st₂ => Inv xs ρ ∧ st₂ = st₁.set n (.fixed o)) ⟨i0, rfl⟩ ?_ ?_ ?_ ?_)
  · intro b hb
    obtain rfl := List.mem_singleton.mp hb
    exact ⟨n, o, ea, fun _ _ st' q => by rw [q.2]; exact eF⟩
  · rintro x rest ρ _ ⟨hi, rfl⟩
    exact tasg_mono (turn o x rest ρ hi) fun ρ₁ q => q.bodyS R
  · rintro ρ _ ⟨hi, rfl⟩
    exact ⟨rfl, stop ρ hi⟩
  · rintro fl ρ' st' f al' h' tk' n' w ⟨rfl, p⟩
    have okf := n'.at'.ok
    have hx' : h'.get? l = some o := okf.st.2 n l (.fixed _) (getElem?_append_some ea) eF
    have oeq : o = { cls := .type "list", dict := none, data := .seq vs kk, slots := #[] } := by rw [ho] at hoo; exact (Option.some.inj hoo).symm
    have ok' : Ok cx A (ow env hx) (al ++ al₁ ++ al') st₁ h' tk' := by
      have := okf.setCell (n := n) (c := .live xs) fun b eb => by
        rw [getElem?_append_some ea] at eb
        cases eb
        exact ⟨vs, ⟨_, hx', by rw [oeq], kk, by rw [oeq], by rw [oeq], by rw [oeq]⟩, hr.keeps n'.vw⟩
      rwa [set_back est] at this
    exact lift_s (a.nxs n₁) k fl ρ' st₁ f al' h' tk' ⟨n'.hk, ⟨ok', n'.at'.fn, n'.at'.gl, n'.at'.bi, n'.at'.vars⟩, n'.vw⟩ w p
end Mine

-- P2
namespace Mine
open PySem PySem.StrLaws PySem.Builtin PySem.Builtin.Str

theorem slice_SS (l : List Nat) (lo hi : Nat) (h1 : lo ≤ hi) (h2 : hi ≤ l.length) : Txt.slice (S l) (some (lo : Int)) (some (hi : Int)) = S ((l.drop lo).take (hi - lo)) := sliceText_nat (S l) h1 (by rw [S_len]; exact h2)
theorem slice_NS (l : List Nat) (hi : Nat) (h2 : hi ≤ l.length) : Txt.slice (S l) none (some (hi : Int)) = S (l.take hi) := by
  have := sliceText_to (x := S l) (j := (hi : Int)) ⟨by omega, by rw [S_cps]; omega⟩
  refine this.trans ?_
  rw [S_cps]
  simp [S]
end Mine

-- Q1
namespace Mine
open PySem PySem.W PySem.Calls PyProof.Rows PySem.StrLaws PySem.Builtin PySem.Builtin.Str
variable {cx : Cx} {d : Nat} {env : Env} {ρ : Vars} {st : Store} {pos : Pos}

theorem free1 {m : Nat} : ∀ {row : List Nat} (rest : List Nat), m ∉ row → ∀ i, i < row.length → [m].isPrefixOf ((row ++ rest).drop i) = false
  | [], rest, h, i, hi => absurd hi (by simp)
  | c :: r, rest, h, 0, hi => by
    have : m ≠ c := fun e => h (by rw [e]; exact .head _)
    simp [List.isPrefixOf, this]
  | c :: r, rest, h, i + 1, hi => by
    have := free1 (row := r) rest (fun q => h (.tail _ q)) i (by simpa using hi)
    simpa using this

theorem find_list {m : Nat} {row : List Nat} (rest : List Nat) (h : m ∉ row) : Txt.find (S (row ++ m :: rest)) (S [m]) = (row.length : Int) := by
  unfold Txt.find
  rw [S_len, occ_list _ _ (by simp) 0 _ (Nat.zero_le _), List.drop_zero, occL_free _ _ _ _ _ (free1 _ h)]
  have := occL_hit [m] (by simp) 1 (0 + row.length) rest (by decide)
  rw [List.singleton_append] at this
  rw [this]
  simp

theorem find3_list {m : Nat} (pre : List Nat) {row : List Nat} (rest : List Nat) (h : m ∉ row) : Txt.find3 (S (pre ++ (row ++ m :: rest))) (S [m]) (pre.length : Int) = ((pre.length + row.length : Nat) : Int) := by
  unfold Txt.find3
  have e : fromIndex (S (pre ++ (row ++ m :: rest))).length (pre.length : Int) = pre.length := by
    unfold fromIndex
    rw [S_len]
    rw [if_neg (by omega)]
    omega
  rw [e, S_len, occ_list _ _ (by simp) pre.length _ (by simp), List.drop_left, occL_free _ _ _ _ _ (free1 _ h)]
  have := occL_hit [m] (by simp) 1 (pre.length + row.length) rest (by decide)
  rw [List.singleton_append] at this
  rw [this]

theorem split1 {m : Nat} {row : List Nat} (rest : List Nat) (lim : Nat) (hl : lim ≠ 0) (h : m ∉ row) : splitL [m] lim (row ++ m :: rest) = S row :: splitL [m] (lim - 1) rest := by
  have := splitL_more [m] (by simp) lim hl row rest (by rw [List.singleton_append]; exact free1 _ h)
  rw [List.singleton_append] at this
  exact this

theorem split1_end {m : Nat} {row : List Nat} (lim : Nat) (h : m ∉ row) : splitL [m] lim row = [S row] := by
  refine splitL_none _ _ _ fun i hi => ?_
  have := free1 [] h i hi
  rwa [List.append_nil] at this

noncomputable def dec (i : Int) : List Nat := (PySem.Str.ofString (toString i)).cps.toList

theorem S_dec (i : Int) : S (dec i) = PySem.Str.ofString (toString i) := rfl

theorem dec_len {i : Int} (h0 : 0 ≤ i) (h1 : i < 10000000) : (dec i).length ≤ 10 := by
  have := toString_length_le h0 (k := 10) (by decide) (by omega)
  rw [← S_dec, S_len] at this
  exact this

theorem dec_digits {i : Int} (h0 : 0 ≤ i) : ∀ c ∈ dec i, 48 ≤ c ∧ c ≤ 57 := by
  obtain ⟨m, rfl⟩ := Int.eq_ofNat_of_zero_le h0
  intro c hc
  unfold dec at hc
  rw [PySem.W.KIN.signs_num] at hc
  obtain ⟨ch, hch, e⟩ := List.mem_map.mp hc
  have r := PyProof.Rows.digit_range (Nat.isDigit_of_mem_toDigits (by decide) (by decide) hch)
  rw [← e]
  exact r

theorem dec_reads {i : Int} (h0 : 0 ≤ i) (h1 : i < 10000000) : PySem.intText? (S (dec i)) = some i := by
  rw [S_dec]; exact PySem.W.KIN.num_reads h0 (by omega)

noncomputable def Row (r : List Nat) : Prop := ∀ c ∈ r, c ≠ 10 ∧ c ≠ 13

noncomputable def Rows (R : List (List Nat)) : Prop := ∀ r ∈ R, Row r

noncomputable def flat (R : List (List Nat)) : List Nat := R.flatMap (· ++ [13, 10])

theorem flat_cons (r : List Nat) (R : List (List Nat)) : flat (r :: R) = r ++ 13 :: 10 :: flat R := by simp [flat]

theorem free2 {m k : Nat} : ∀ {row : List Nat} (rest : List Nat), m ∉ row → ∀ i, i < row.length → [m, k].isPrefixOf ((row ++ rest).drop i) = false
  | [], rest, h, i, hi => absurd hi (by simp)
  | c :: r, rest, h, 0, hi => by
    have : m ≠ c := fun e => h (by rw [e]; exact .head _)
    simp [List.isPrefixOf, this]
  | c :: r, rest, h, i + 1, hi => by
    have := free2 (k := k) (row := r) rest (fun q => h (.tail _ q)) i (by simpa using hi)
    simpa using this

theorem splitL_rows : ∀ (R : List (List Nat)) (lim : Nat), Rows R → R.length < lim → splitL [13, 10] lim (flat R) = (R ++ [[]]).map S
  | [], lim, _, _ => by
    refine splitL_none _ _ _ fun i hi => absurd hi (by simp [flat])
  | r :: R, lim, h, hl => by
    have hr : 13 ∉ r := fun q => (h r (.head _) 13 q).2 rfl
    have e : flat (r :: R) = r ++ ([13, 10] ++ flat R) := by simp [flat]
    rw [e, splitL_more [13, 10] (by simp) lim (by omega) r (flat R) (free2 _ hr), splitL_rows R (lim - 1) (fun x hx => h x (.tail _ hx)) (by simp at hl; omega)]
    rfl

theorem flat_len : ∀ R : List (List Nat), R.length ≤ (flat R).length
  | [] => Nat.le_refl _
  | r :: R => by
    have := flat_len R
    rw [flat_cons]
    simp
    omega

theorem split_rows {R : List (List Nat)} (h : Rows R) : Txt.split (S (flat R)) (S [13, 10]) = (R ++ [[]]).map S := by
  rw [split_list (by decide +kernel) (by simp)]
  exact splitL_rows R _ h (by have := flat_len R; omega)

theorem join_list (sep : List Nat) : ∀ ts : List (List Nat), Txt.join (S sep) (ts.map S) = S (List.intercalate sep ts)
  | [] => rfl
  | [t] => by
    show Builtin.Str.glued (S sep) [S t] = _
    rw [StrLaws.glued_eq_join]
    show S t = S (List.intercalate sep [t])
    simp [List.intercalate]
  | t :: u :: r => by
    have ih := join_list sep (u :: r)
    show Builtin.Str.glued (S sep) _ = _
    rw [StrLaws.glued_eq_join]
    show S t ++ S sep ++ Str.join (S sep) (S u :: r.map S) = _
    rw [← StrLaws.glued_eq_join]
    have ih' : Builtin.Str.glued (S sep) (S u :: r.map S) = S (List.intercalate sep (u :: r)) := ih
    rw [ih', S_app, S_app]
    congr 1
    simp [List.intercalate, List.intersperse]

theorem idx_ok {n k : Nat} (h : k < n) : seqIndex? (k : Int) n = some k := by
  have := StrLaws.seqIndex_nonneg (i := (k : Int)) (n := n) (by omega) (by omega)
  simpa using this

theorem inter_rows : ∀ R : List (List Nat), List.intercalate [13, 10] (R ++ [[]]) = flat R
  | [] => rfl
  | [r] => by simp [List.intercalate, List.intersperse, flat]
  | r :: u :: R => by
    have ih := inter_rows (u :: R)
    have : List.intercalate [13, 10] ((r :: u :: R) ++ [[]]) = r ++ ([13, 10] ++ List.intercalate [13, 10] ((u :: R) ++ [[]])) := by simp [List.intercalate, List.intersperse]
    rw [this, ih, flat_cons r]
    rfl

noncomputable def dots (t : Nat) (r : List Nat) : List Nat := if r.head? = some 46 then List.replicate t 46 ++ r else r

theorem dots_zero (r : List Nat) : dots 0 r = r := by unfold dots; split <;> simp

theorem dots_head {t : Nat} {r : List Nat} : (dots t r).head? = some 46 ↔ r.head? = some 46 := by
  unfold dots
  split
  · next h => cases t with
    | zero => simp
    | succ t => simp [List.replicate_succ, h]
  · exact Iff.rfl

theorem dots_pos {t : Nat} {r : List Nat} (h : r.head? = some 46) : dots t r = List.replicate t 46 ++ r := if_pos h

theorem dots_neg {t : Nat} {r : List Nat} (h : ¬ r.head? = some 46) : dots t r = r := if_neg h

theorem dots_dots (a b : Nat) (r : List Nat) : dots a (dots b r) = dots (a + b) r := by
  by_cases h : r.head? = some 46
  · rw [dots_pos (dots_head.mpr h), dots_pos h, dots_pos h, ← List.append_assoc, List.replicate_append_replicate]
  · rw [dots_neg (fun q => h (dots_head.mp q)), dots_neg h, dots_neg h]

theorem eol_no {c : Nat} (h : c ≠ 10 ∧ c ≠ 13) : isEol c = false := by unfold isEol; simp [h.1, h.2]

theorem norm_cons {c : Nat} (h : c ≠ 10 ∧ c ≠ 13) (Y : List Nat) : norm (c :: Y) = c :: norm Y := by
  cases Y with
  | nil => simp [norm, eol_no h]
  | cons e r =>
    simp only [norm]
    rw [if_neg (fun q => h.2 q.1), eol_no h]
    simp

theorem norm_row : ∀ {r : List Nat} (X : List Nat), Row r → norm (r ++ X) = r ++ norm X
  | [], X, _ => rfl
  | c :: r, X, h => by
    rw [List.cons_append, norm_cons (h c (.head _)), norm_row X (fun x hx => h x (.tail _ hx))]; rfl

theorem norm_crlf (Y : List Nat) : norm (13 :: 10 :: Y) = 13 :: 10 :: norm Y := by simp [norm]

theorem norm_flat : ∀ {R : List (List Nat)} (X : List Nat), Rows R → norm (flat R ++ X) = flat R ++ norm X
  | [], X, _ => rfl
  | r :: R, X, h => by
    rw [flat_cons, List.append_assoc, norm_row _ (h r (.head _))]
    simp only [List.cons_append]
    rw [norm_crlf, norm_flat X fun x hx => h x (.tail _ hx)]
    simp

theorem dotted_plain : ∀ {r : List Nat} (Y : List Nat), Row r → dotted false (r ++ 13 :: 10 :: Y) = r ++ 13 :: 10 :: dotted true Y
  | [], Y, _ => by simp [dotted]
  | c :: r, Y, h => by
    have hc := (h c (.head _)).1
    rw [List.cons_append]
    simp only [dotted]
    rw [if_neg (by simp)]
    have : (c == 10) = false := by simp [hc]
    rw [this, dotted_plain Y fun x hx => h x (.tail _ hx)]
    rfl

theorem dotted_row {r : List Nat} (Y : List Nat) (h : Row r) : dotted true (r ++ 13 :: 10 :: Y) = dots 1 r ++ 13 :: 10 :: dotted true Y := by
  cases r with
  | nil => simp [dotted, dots]
  | cons c r =>
    have hc := (h c (.head _)).1
    have hr : Row r := fun x hx => h x (.tail _ hx)
    rw [List.cons_append]
    simp only [dotted]
    by_cases e : c = 46
    · subst e
      rw [if_pos (by simp), dotted_plain Y hr]
      simp [dots]
    · rw [if_neg (fun q => e q.2)]
      have : (c == 10) = false := by simp [hc]
      rw [this, dotted_plain Y hr]
      simp [dots, e]

theorem dotted_flat : ∀ {R : List (List Nat)}, Rows R → dotted true (flat R) = flat (R.map (dots 1))
  | [], _ => rfl
  | r :: R, h => by
    rw [flat_cons, dotted_row _ (h r (.head _)), dotted_flat fun x hx => h x (.tail _ hx), List.map_cons, flat_cons]

theorem norm_rows {R : List (List Nat)} (h : Rows R) : norm (flat R) = flat R := by
  have := norm_flat [] h
  simpa [norm] using this

theorem dots_row {t : Nat} {r : List Nat} (h : Row r) : Row (dots t r) := by
  unfold dots
  split
  · intro c hc
    rcases List.mem_append.mp hc with hc | hc
    · have := List.eq_of_mem_replicate hc; omega
    · exact h c hc
  · exact h

theorem Rows.dots {t : Nat} {R : List (List Nat)} (h : Rows R) : Rows (R.map (dots t)) := by
  intro r hr
  obtain ⟨x, hx, rfl⟩ := List.mem_map.mp hr
  exact dots_row (h x hx)

theorem ctl_row {l : List Nat} (h : ∀ c ∈ l, isCtl c = false) : Row l := by
  intro c hc
  have := h c hc
  unfold isCtl at this
  simp at this
  omega

theorem tsub_at {R : List Nat} {j c : Nat} {value slice : Expr} {Q : V → Store → Prop} (hz : R.length ≤ 1000000) (hc : R[j]? = some c) (hq : Q (.d (.str (S [c]))) st) : tsub cx d value slice (.d (.str (S R))) (.d (.int (j : Int))) st Q := by
  have hj : j < R.length := (List.getElem?_eq_some_iff.mp hc).1
  refine tsub_str (c := c) ?_ ?_ hq
  · have a : decide ((j : Int) < -(2 ^ 63 : Int)) = false := decide_eq_false (by omega)
    have b : decide ((j : Int) ≥ 2 ^ 63) = false := decide_eq_false (by omega)
    rw [a, b]; rfl
  · rw [S_len, idx_ok hj]
    show (R.toArray)[j]? = some c
    simpa using hc

theorem eqS1 (a b : Nat) : (S [a] == S [b]) = decide (a = b) := by
  by_cases e : a = b
  · subst e; simp
  · simp only [decide_eq_false e]
    simp only [beq_eq_false_iff_ne, ne_eq]
    intro hh
    exact e (by simpa using S_inj hh)

end Mine

-- Y1
namespace Mine
open PySem PySem.W PySem.Calls PyProof.Rows
variable {cx : Cx} {d : Nat} {env : Env} {ρ : Vars} {st : Store} {pos : Pos} {P : Params}

noncomputable def unq : List Nat → List Nat
  | [] => []
  | c :: r => if c = 34 then (match r with
      | [] => []
      | e :: r' => if e = 34 then 34 :: unq r' else []) else c :: unq r
noncomputable def res257 (l : List Nat) : Option (List Nat) := if l.take 3 = [50, 53, 55] then some (if (l.drop 3).take 2 = [32, 34] then unq (l.drop 5) else []) else none
noncomputable def heard257 (l : List Nat) : PyData := match res257 l with
  | some r => .tuple [.str "name", .str (S r)]
  | none => .tuple [.str "reply", .str (S l)]

theorem te_strS {x : PySem.Str} {l : List Nat} {kk : Nat} {Post : V → Store → Prop} (e : x = S l) (h : Post (.d (.str (S l))) st) : te cx d env ρ st (.Constant (.str x) kk pos) Post := by subst e; exact te_str h
theorem unq_ne {c : Nat} {r : List Nat} (h : c ≠ 34) : unq (c :: r) = c :: unq r := by rw [unq.eq_def]; simp [h]
theorem unq_stop {e : Nat} {r : List Nat} (h : e ≠ 34) : unq (34 :: e :: r) = [] := by rw [unq.eq_def]; simp [h]
theorem unq_two {r : List Nat} : unq (34 :: 34 :: r) = 34 :: unq r := by rw [unq.eq_def]; simp
theorem neS (a b : List Nat) : (S a != S b) = decide (a ≠ b) := by
  by_cases e : a = b
  · subst e; simp
  · have : S a ≠ S b := fun h => e (S_inj h)
    simp [e, this]
theorem eqSS (a b : List Nat) : (S a == S b) = decide (a = b) := by
  by_cases e : a = b
  · subst e; simp
  · have : S a ≠ S b := fun h => e (S_inj h)
    simp [e, this]
theorem slice3 {l : List Nat} (h : 5 ≤ l.length ∨ l = []) : Txt.slice (S l) none (some 3) = S (l.take 3) := by
  rcases h with h | rfl
  · exact slice_NS l 3 (by omega)
  · decide +kernel

set_option maxHeartbeats 4000000 in
theorem f_257 (hK : cx.K = hd.heap_1 P) {b : Bool} {l : List Nat} {Post : V → Store → Prop} {PE : Value → List PyData → Store → Prop} (hl5 : 5 ≤ l.length ∨ l = []) (hz : l.length ≤ 20000) (h : ∀ r, res257 l = some r → Post (.d (.str (S r))) st) (hE : res257 l = none → PE (.ref 61) [.str (S l)] st) :
    tcallX b cx (d + 1) (.ext (.ref 89)) [.d (.str (S l))] [] st Post PE := by
  refine tcallX_def (cx := cx) (f := 89) (names := ["resp"]) (ex := []) (exV := []) (ho := by rw [hK]; rfl) (hcd := by rw [hK]; rfl) (hbind := binds1 fun v => rfl) (hex := fun _ _ => .nil) (hco := rfl) (hgen := rfl) (hk := rfl) (hnames := by decide +kernel) (hnn := by decide +kernel) (hnd := by decide +kernel) fun L => ?_
  have hle : (20002 : Nat) ≤ sizeLine := by decide
  have hz' : (S l).length ≤ sizeLine := by rw [S_len]; omega
  have h257 : ("257" : PySem.Str) = S [50, 53, 55] := by decide +kernel
  have hsq : (" \"" : PySem.Str) = S [32, 34] := by decide +kernel
  have hquote : ("\"" : PySem.Str) = S [34] := by decide +kernel
  refine tbM_cons (tsM_if (tt_cmp (te_slice (te_name rfl (te_int ⟨_, rfl, tsl_str hz' ?_⟩)))))
  rw [slice3 hl5]
  refine te_strS h257 (tcmp_neS (ttr_bool ⟨fun hh => ?_, fun hh => tbM_nil ?_⟩))
  · rw [neS] at hh
    have hr : res257 l = none := if_neg (of_decide_eq_true hh)
    refine tbM_cons (tsM_raise (C := 61) (by rw [hK]; kernel_rfl) (by rw [hK]; kernel_rfl) (by rfl) (te_name rfl ⟨_, rfl, by show 1 ≤ sizeLine; decide, ?_⟩))
    rw [List.take_length]; exact hE hr
  rw [neS] at hh
  have h3 : l.take 3 = [50, 53, 55] := by simpa using hh
  have hl : 5 ≤ l.length := hl5.resolve_right (fun e => by rw [e] at h3; simp at h3)
  have hres : res257 l = some (if (l.drop 3).take 2 = [32, 34] then unq (l.drop 5) else []) := if_pos h3
  refine tbM_c (ts_if (tt_cmp (te_slice (te_name rfl (te_int ⟨_, rfl, te_int ⟨_, rfl, tsl_str hz' ?_⟩⟩)))))
  rw [show Txt.slice (S l) (some 3) (some 5) = S ((l.drop 3).take 2) from slice_SS l 3 5 (by omega) (by omega)]
  refine te_strS hsq (tcmp_neS (ttr_bool ⟨fun hh => ?_, fun hh => tb_nil ?_⟩))
  · rw [neS] at hh
    rw [if_neg (of_decide_eq_true hh)] at hres
    refine tb_cons (ts_ret (te_str ⟨_, rfl, ?_⟩))
    rw [List.take_length]; exact h _ hres
  rw [neS] at hh
  rw [if_pos (by simpa using hh)] at hres
  refine tbM_c (ts_assign (te_str ?_))
  refine tbM_c (ts_assign (te_int ?_))
  refine tbM_c (ts_assign (te_call (by rfl) (te_builtin (v := .builtin "len") (by rw [hK]; kernel_rfl) (by kernel_rfl) ⟨_, rfl, rfl, te_name rfl (tcall_len (by rw [S_len]; omega) ?_)⟩)))
  have fin_here : ∀ r, unq (l.drop 5) = r → ∀ n, ∃ v, fin n st (.ret (.d (.str (S r)))) = some v ∧ Post v (st.take st.length) := fun r e n => ⟨_, rfl, by rw [List.take_length]; exact h _ (by rw [hres, e])⟩
  have hzR : l.length ≤ 1000000 := Nat.le_trans hz (by decide)
  clear h hE hres hl5
  refine tbM_c (ts_while (fun n ρ st' => ∃ done p, n = (l.drop p).length ∧ unq (l.drop 5) = done ++ unq (l.drop p) ∧ done.length ≤ p ∧ ρ.lookup ("resp" : PySem.Str) = some (.d (.str (S l))) ∧ ρ.lookup ("dirname" : PySem.Str) = some (.d (.str (S done))) ∧ ρ.lookup ("i" : PySem.Str) = some (.d (.int (p : Int))) ∧ ρ.lookup ("n" : PySem.Str) = some (.d (.int (l.length : Int))) ∧ st' = st) (l.drop 5).length ?_ ?_)
  · exact ⟨[], 5, rfl, rfl, Nat.zero_le _, rfl, rfl, rfl, by rw [S_len]; rfl, rfl⟩
  · rintro n ρ st' ⟨done, p, rfl, e, hdp, l1, l2, l3, l4, rfl⟩
    have hb : unq (l.drop p) = [] → unq (l.drop 5) = done := fun hq => by rw [e, hq, List.append_nil]
    refine tt_cmp (te_name l3 (te_name l4 (tcmp_ltI (ttr_bool ⟨fun hh => ?_, fun hh => ?_⟩))))
    rotate_left
    · have : ¬ (p : Int) < (l.length : Int) := by simpa using hh
      exact tbM_c (ts_ret (te_name l2 (fin_here done (hb (by rw [List.drop_eq_nil_iff.mpr (by omega)]; rfl)) _)))
    have hpl : p < l.length := by have : (p : Int) < (l.length : Int) := by simpa using hh
                                  omega
    obtain ⟨c, hc⟩ : ∃ c, l[p]? = some c := ⟨_, List.getElem?_eq_getElem hpl⟩
    have hdrop : l.drop p = c :: l.drop (p + 1) := by
      rw [List.drop_eq_getElem_cons hpl]
      rw [List.getElem?_eq_getElem hpl] at hc
      rw [Option.some.inj hc]
    refine tb_cons (ts_assign (te_sub (te_name l1 (te_name l3 (tsub_at hzR hc ?_)))))
    refine tb_cons (ts_assign (te_bin (te_name (by rw [upd_get]; exact l3) (te_int (tbin_add ?_)))))
    generalize hρ2 : upd (upd ρ "c" _) "i" _ = ρ2
    have k1 : ρ2.lookup ("resp" : PySem.Str) = some (.d (.str (S l))) := by rw [← hρ2, upd_get, upd_get]; exact l1
    have k2 : ρ2.lookup ("dirname" : PySem.Str) = some (.d (.str (S done))) := by rw [← hρ2, upd_get, upd_get]; exact l2
    have k3 : ρ2.lookup ("i" : PySem.Str) = some (.d (.int ((p + 1 : Nat) : Int))) := by rw [← hρ2, upd_get]; rfl
    have k4 : ρ2.lookup ("n" : PySem.Str) = some (.d (.int (l.length : Int))) := by rw [← hρ2, upd_get, upd_get]; exact l4
    have k5 : ρ2.lookup ("c" : PySem.Str) = some (.d (.str (S [c]))) := by rw [← hρ2, upd_get, upd_get]; rfl
    have step : ∀ q, p < q → q ≤ l.length + 1 → unq (l.drop p) = c :: unq (l.drop q) → unq (l.drop 5) = (done ++ [c]) ++ unq (l.drop q) ∧ (l.drop q).length < (l.drop p).length ∧ (done ++ [c]).length ≤ q := fun q hq _ hu => ⟨by rw [e, hu]; simp, by simp; omega, by simp; omega⟩
    have cat : (S done).length + (S [c]).length ≤ sizeLine := by rw [S_len, S_len]; simp; omega
    refine tb_cons (ts_if (tt_cmp (te_name k5 (te_strS hquote ?_))))
    refine tcmp_eqS (ttr_bool ⟨fun hh => ?_, fun hh => tb_nil ?_⟩)
    rotate_left
    · rw [eqS1] at hh
      have hc34 : c ≠ 34 := by simpa using hh
      obtain ⟨s1, s2, s3⟩ := step (p + 1) (Nat.lt_succ_self p) (by omega) (by rw [hdrop, unq_ne hc34])
      refine tb_cons (ts_assign (te_bin (te_name k2 (te_name k5 (tbin_cat cat ?_)))))
      rw [S_app]
      exact tb_nil ⟨_, s2, done ++ [c], p + 1, rfl, s1, s3, by rw [upd_get]; exact k1, by rw [upd_get]; rfl, by rw [upd_get]; exact k3, by rw [upd_get]; exact k4, rfl⟩
    rw [eqS1] at hh
    have hc34 : c = 34 := by simpa using hh
    subst hc34
    refine tb_cons (ts_if (tt_or (tt_cmp (te_name k3 (te_name k4 (tcmp_geI (ttr_bool ⟨fun hh => ⟨fun _ => ?_, fun q => by cases q⟩, fun hh => ?_⟩)))))))
    · have : ((p + 1 : Nat) : Int) ≥ (l.length : Int) := by simpa using hh
      exact tb_cons (ts_break (tbM_c (ts_ret (te_name k2 (fin_here done (hb (by rw [hdrop, List.drop_eq_nil_iff.mpr (by omega)]; rfl)) _)))))
    have hlt : p + 1 < l.length := by
      have : ¬ ((p + 1 : Nat) : Int) ≥ (l.length : Int) := by simpa using hh
      omega
    obtain ⟨c2, hc2⟩ : ∃ c, l[p + 1]? = some c := ⟨_, List.getElem?_eq_getElem hlt⟩
    have hdrop2 : l.drop (p + 1) = c2 :: l.drop (p + 2) := by
      rw [List.drop_eq_getElem_cons hlt]
      rw [List.getElem?_eq_getElem hlt] at hc2
      rw [Option.some.inj hc2]
    refine tt_or (tt_cmp (te_sub (te_name k1 (te_name k3 (tsub_at hzR hc2 (te_strS hquote ?_))))))
    refine tcmp_neS (ttr_bool ⟨fun hh => ⟨fun _ => ?_, fun q => by cases q⟩, fun hh => tt_or_nil ⟨fun q => (by cases q), fun _ => tb_nil ?_⟩⟩)
    · rw [neS] at hh
      have hne : c2 ≠ 34 := by simpa using hh
      exact tb_cons (ts_break (tbM_c (ts_ret (te_name k2 (fin_here done (hb (by rw [hdrop, hdrop2, unq_stop hne])) _)))))
    · rw [neS] at hh
      have he : c2 = 34 := by simpa using hh
      refine tb_cons (ts_assign (te_bin (te_name k3 (te_int (tbin_add (tb_nil ?_))))))
      obtain ⟨s1, s2, s3⟩ := step (p + 2) (by omega) (by omega) (by rw [hdrop, hdrop2, he, unq_two])
      refine tb_cons (ts_assign (te_bin (te_name (by rw [upd_get]; exact k2) (te_name (by rw [upd_get]; exact k5) (tbin_cat cat ?_)))))
      rw [S_app]
      exact tb_nil ⟨_, s2, done ++ [34], p + 2, rfl, s1, s3, by rw [upd_get, upd_get]; exact k1, by rw [upd_get]; rfl, by rw [upd_get, upd_get]; rfl, by rw [upd_get, upd_get]; exact k4, rfl⟩
end Mine

-- Y2
namespace Mine
open PySem PySem.StrLaws PySem.Builtin PySem.Builtin.Str

inductive R229 where
  | reply | proto | number | port (n : Int)
noncomputable def P229 (l : List Nat) (R : R229) : Prop :=
  (l.take 3 ≠ [50, 50, 57] ∧ R = .reply) ∨ (l.take 3 = [50, 50, 57] ∧
    ((40 ∉ l ∧ R = .proto) ∨ ∃ a r, l = a ++ 40 :: r ∧ 40 ∉ a ∧
      ((41 ∉ r ∧ R = .proto) ∨ ∃ m T c z, r = (m :: T ++ [c]) ++ 41 :: z ∧ 41 ∉ m :: T ++ [c] ∧ strKind (S [m]) = 1 ∧
        ((c ≠ m ∧ R = .proto) ∨ ∃ ps, m :: T ++ [m] = List.intercalate [m] ps ∧ c = m ∧ ps ≠ [] ∧ (∀ p ∈ ps, m ∉ p) ∧
          ((ps.length ≠ 5 ∧ R = .proto) ∨ ∃ p0 p1 p2 p3 p4, ps = [p0, p1, p2, p3, p4] ∧ p3.length ≤ 640 ∧ (∀ x ∈ p3, x < 65536) ∧ ((PySem.intText? (S p3) = none ∧ R = .number) ∨ ∃ n, PySem.intText? (S p3) = some n ∧ R = .port n))))))

theorem free0 {m : Nat} {l : List Nat} (h : m ∉ l) (i : Nat) (hi : i < l.length) : [m].isPrefixOf (l.drop i) = false := by
  have := free1 [] h i hi
  rwa [List.append_nil] at this
theorem find_no {m : Nat} {l : List Nat} (h : m ∉ l) : Txt.find (S l) (S [m]) = -1 := by
  unfold Txt.find
  rw [S_len, occ_list _ _ (by simp) 0 _ (Nat.zero_le _), List.drop_zero, occL_none _ _ _ _ (free0 h)]
theorem find3_no {m : Nat} (pre : List Nat) {l : List Nat} (h : m ∉ l) : Txt.find3 (S (pre ++ l)) (S [m]) (pre.length : Int) = -1 := by
  unfold Txt.find3
  have e : fromIndex (S (pre ++ l)).length (pre.length : Int) = pre.length := by
    unfold fromIndex
    rw [S_len]
    rw [if_neg (by omega)]
    simp
  rw [e, S_len, occ_list _ _ (by simp) pre.length _ (by simp), List.drop_left, occL_none _ _ _ _ (free0 h)]
theorem split_parts {m : Nat} : ∀ {ps : List (List Nat)} (lim : Nat), ps ≠ [] → (∀ p ∈ ps, m ∉ p) → ps.length ≤ lim → splitL [m] lim (List.intercalate [m] ps) = ps.map S
  | [], _, h, _, _ => absurd rfl h
  | [p], lim, _, h, _ => by
    have : List.intercalate [m] [p] = p := by simp [List.intercalate]
    rw [this, split1_end _ (h p (.head _))]; rfl
  | p :: q :: r, lim, _, h, hl => by
    have : List.intercalate [m] (p :: q :: r) = p ++ m :: List.intercalate [m] (q :: r) := by simp [List.intercalate, List.intersperse]
    have hl' : r.length + 2 ≤ lim := hl
    rw [this, split1 _ _ (by omega) (h p (.head _)), split_parts (lim - 1) (by simp) (fun x hx => h x (.tail _ hx)) (by show r.length + 1 ≤ lim - 1; omega)]
    rfl
theorem inter_len {m : Nat} : ∀ ps : List (List Nat), ps.length ≤ (List.intercalate [m] ps).length + 1
  | [] => by simp
  | [p] => by simp
  | p :: q :: r => by
    have : List.intercalate [m] (p :: q :: r) = p ++ m :: List.intercalate [m] (q :: r) := by simp [List.intercalate, List.intersperse]
    have ih := inter_len (m := m) (q :: r)
    rw [this]
    simp at ih ⊢
    omega
theorem split_ps {m : Nat} {ps : List (List Nat)} (hk : strKind (S [m]) = 1) (h0 : ps ≠ []) (h : ∀ p ∈ ps, m ∉ p) : Txt.split (S (List.intercalate [m] ps)) (S [m]) = ps.map S := by
  rw [split_list hk (by simp)]
  exact split_parts _ h0 h (inter_len ps)
end Mine

-- Y3
namespace Mine
open PySem PySem.W PySem.Calls PyProof.Rows
variable {cx : Cx} {d : Nat} {env : Env} {ρ : Vars} {st : Store} {pos : Pos} {P : Params}

theorem g_len (hK : cx.K = hd.heap_1 P) : nsIn cx.K mainGlobals ("len" : PySem.Str) = some none := by rw [hK]; kernel_rfl
theorem g_int (hK : cx.K = hd.heap_1 P) : nsIn cx.K mainGlobals ("int" : PySem.Str) = some none := by rw [hK]; kernel_rfl
theorem g_str (hK : cx.K = hd.heap_1 P) : nsIn cx.K mainGlobals ("str" : PySem.Str) = some none := by rw [hK]; kernel_rfl
theorem g_reply (hK : cx.K = hd.heap_1 P) : nsIn cx.K mainGlobals ("error_reply" : PySem.Str) = some (some (.ref 61)) := by rw [hK]; kernel_rfl
theorem g_proto (hK : cx.K = hd.heap_1 P) : nsIn cx.K mainGlobals ("error_proto" : PySem.Str) = some (some (.ref 73)) := by rw [hK]; kernel_rfl
theorem x_reply (hK : cx.K = hd.heap_1 P) : excIn cx.K 61 [.type "Exception", .type "BaseException", .type "object"] "Exception.__new__" = true := by rw [hK]; kernel_rfl
theorem x_proto (hK : cx.K = hd.heap_1 P) : excIn cx.K 73 [.type "Exception", .type "BaseException", .type "object"] "Exception.__new__" = true := by rw [hK]; kernel_rfl
theorem X_reply (hK : cx.K = hd.heap_1 P) : XCls cx.K 61 := by rw [hK]; exact ⟨by kernel_rfl, by kernel_rfl, by kernel_rfl⟩
theorem X_proto (hK : cx.K = hd.heap_1 P) : XCls cx.K 73 := by rw [hK]; exact ⟨by kernel_rfl, by kernel_rfl, by kernel_rfl⟩

section
variable {b : Bool} {Post : Fl → Vars → Store → Prop} {PE : Value → List PyData → Store → Prop} {v : V} {c1 c2 p : Pos} {rest : List Stmt}
theorem raise1 {x : PySem.Str} {C : Addr} {l : List Nat} {np ap cpos : Pos} (e : nsIn cx.K mainGlobals x = some (some (.ref C))) (q : excIn cx.K C [.type "Exception", .type "BaseException", .type "object"] "Exception.__new__" = true) (hl : ρ.lookup ("resp" : PySem.Str) = some (.d (.str (S l)))) (h : PE (.ref C) [.str (S l)] st)
    (hkx : env.kindOf x = some .globalImplicit := by rfl) (hd : (x == ("__debug__" : PySem.Str)) = false := by rfl) : tbM b cx d env ρ st (.Raise (some (.Call (.Name x np) [.Name "resp" ap] [] cpos)) none pos :: rest) Post PE :=
  tbM_cons (tsM_raise e q (by rfl) (te_name hl ⟨_, rfl, by show 1 ≤ sizeLine; decide, h⟩) hkx hd)
end

theorem brk_at {l a r : List Nat} {c : Nat} (e : l = a ++ 40 :: (c :: r)) : l[a.length + 1]? = some c := by
  rw [e, List.getElem?_append_right (by omega), show a.length + 1 - a.length = 1 by omega]; rfl
theorem last_at {l a T z : List Nat} {m c : Nat} (e : l = a ++ 40 :: ((m :: T ++ [c]) ++ 41 :: z)) : l[a.length + 2 + T.length]? = some c := by
  have : l = (a ++ 40 :: (m :: T)) ++ (c :: 41 :: z) := by rw [e]; simp
  rw [this, List.getElem?_append_right (by simp; omega)]
  have : a.length + 2 + T.length - (a ++ 40 :: (m :: T)).length = 0 := by simp; omega
  rw [this]; rfl
theorem mid_of {l a T z : List Nat} {m c : Nat} (e : l = a ++ 40 :: ((m :: T ++ [c]) ++ 41 :: z)) : Txt.slice (S l) (some ((a.length + 1 : Nat) : Int)) (some ((a.length + 3 + T.length : Nat) : Int)) = S (m :: T ++ [c]) := by
  refine (slice_SS l _ _ (by omega) (by rw [e]; simp; omega)).trans ?_
  congr 1
  have : l = (a ++ [40]) ++ ((m :: T ++ [c]) ++ 41 :: z) := by rw [e]; simp
  rw [this, List.drop_left' (by simp)]
  exact List.take_left' (by simp; omega)

set_option maxHeartbeats 4000000 in
theorem f_229 (hK : cx.K = hd.heap_1 P) {l : List Nat} {h : PySem.Str} {i : PyData} {R : R229} {Post : V → Store → Prop} {PE : Value → List PyData → Store → Prop} (hl5 : 5 ≤ l.length ∨ l = []) (hz : l.length ≤ 1000) (hp : P229 l R)
    (h1 : ∀ n, R = .port n → Post (.d (.tuple [.str h, .int n])) st) (h2 : R = .reply → PE (.ref 61) [.str (S l)] st) (h3 : R = .proto → PE (.ref 73) [.str (S l)] st) (h4 : R = .number → ∀ ys, PE (.type "ValueError") ys st) :
    tcallX true cx (d + 1) (.ext (.ref 82)) [.d (.str (S l)), .d (.tuple [.str h, i])] [] st Post PE := by
  refine tcallX_def (cx := cx) (f := 82) (names := ["resp", "peer"]) (ex := []) (exV := []) (ho := by rw [hK]; rfl) (hcd := by rw [hK]; rfl) (hbind := binds2 fun v w => rfl) (hex := fun _ _ => .nil) (hco := rfl) (hgen := rfl) (hk := rfl) (hnames := by decide +kernel) (hnn := by decide +kernel) (hnd := by decide +kernel) fun L => ?_
  have back : st.take st.length = st := List.take_length
  have hle : (20002 : Nat) ≤ sizeLine := by decide
  have hz' : (S l).length ≤ sizeLine := by rw [S_len]; omega
  have hz6 : l.length ≤ 1000000 := Nat.le_trans hz (by decide)
  have h229 : ("229" : PySem.Str) = S [50, 50, 57] := by decide +kernel
  have hop : ("(" : PySem.Str) = S [40] := by decide +kernel
  have hcl : (")" : PySem.Str) = S [41] := by decide +kernel
  have gp := g_proto (P := P) hK
  have xp := x_proto (P := P) hK
  rw [← back] at h2 h3 h4
  refine tbM_cons (tsM_if (tt_cmp (te_slice (te_name rfl (te_int ⟨_, rfl, tsl_str hz' ?_⟩)))))
  rw [slice3 hl5]
  refine te_strS h229 (tcmp_neS (ttr_bool ⟨fun hh => ?_, fun hh => tbM_nil ?_⟩))
  · rw [neS] at hh
    exact raise1 (g_reply hK) (x_reply hK) rfl (h2 (hp.elim (·.2) fun q => absurd q.1 (of_decide_eq_true hh)))
  rw [neS] at hh
  have ht : l.take 3 = [50, 50, 57] := by simpa using hh
  have hp := (hp.resolve_left fun q => q.1 ht).2
  refine tbM_c (ts_assign (te_meth (by rfl) (te_name rfl ⟨_, _, rfl, tgm_str (fun q => GM.find q), te_strS hop (tcall_find ?_)⟩)))
  rcases hp with ⟨hno, rfl⟩ | ⟨a, r, e, ha, hp⟩
  · rw [find_no hno]
    exact tbM_cons (tsM_if (tt_cmp (te_name rfl (te_int (tcmp_ltI (ttr_bool ⟨fun _ => raise1 gp xp rfl (h3 rfl), fun hh => absurd hh (by decide)⟩))))))
  rw [show Txt.find (S l) (S [40]) = (a.length : Int) by rw [e]; exact find_list r ha]
  refine tbM_cons (tsM_if (tt_cmp (te_name rfl (te_int (tcmp_ltI (ttr_bool ⟨fun hh => absurd (of_decide_eq_true hh) (by omega), fun _ => tbM_nil ?_⟩))))))
  refine tbM_c (ts_assign (te_meth (by rfl) (te_name rfl ⟨_, _, rfl, tgm_str (fun q => GM.find q), te_strS hcl (te_bin (te_name rfl (te_int (tbin_add (tcall_find3 ?_)))))⟩)))
  have e1 : l = (a ++ [40]) ++ r := by rw [e]; simp
  have e2 : (a.length : Int) + 1 = ((a ++ [40]).length : Int) := by simp
  rcases hp with ⟨hno, rfl⟩ | ⟨m, T, c, z, er, h41, hkd, hp⟩
  · rw [show Txt.find3 (S l) (S [41]) ((a.length : Int) + 1) = -1 by rw [e2, e1]; exact find3_no _ hno]
    exact tbM_cons (tsM_if (tt_cmp (te_name rfl (te_int (tcmp_ltI (ttr_bool ⟨fun _ => raise1 gp xp rfl (h3 rfl), fun hh => absurd hh (by decide)⟩))))))
  rw [show Txt.find3 (S l) (S [41]) ((a.length : Int) + 1) = ((a.length + 3 + T.length : Nat) : Int) by
    rw [e2, e1, er]
    refine (find3_list (a ++ [40]) z h41).trans ?_
    congr 1
    simp; omega]
  rw [er] at e
  have g1 : l[a.length + 1]? = some m := brk_at e
  have g2 := last_at e
  have g3 := mid_of e
  have e4 : (a.length : Int) + 1 = ((a.length + 1 : Nat) : Int) := by omega
  have at1 : ∀ {value slice : Expr} {st : Store} {Q : V → Store → Prop}, Q (.d (.str (S [m]))) st → tsub cx d value slice (.d (.str (S l))) (.d (.int ((a.length : Int) + 1))) st Q := fun hq => by rw [e4]; exact tsub_at hz6 g1 hq
  refine tbM_cons (tsM_if (tt_cmp (te_name rfl (te_int (tcmp_ltI (ttr_bool ⟨fun hh => absurd (of_decide_eq_true hh) (by omega), fun _ => tbM_nil ?_⟩))))))
  refine tbM_cons (tsM_if (tt_cmp (te_sub (te_name rfl (te_bin (te_name rfl (te_int (tbin_add (at1 (te_sub (te_name rfl (te_bin (te_name rfl (te_int (tbin_sub ?_)))))))))))))))
  rw [show ((a.length + 3 + T.length : Nat) : Int) - 1 = ((a.length + 2 + T.length : Nat) : Int) by omega]
  refine tsub_at hz6 g2 (tcmp_neS (ttr_bool ⟨fun hh => ?_, fun hh => tbM_nil ?_⟩))
  · rw [neS] at hh
    have hne : c ≠ m := fun q => of_decide_eq_true hh (by rw [q])
    exact raise1 gp xp rfl (h3 (hp.elim (·.2) fun ⟨_, _, q, _⟩ => absurd q hne))
  rw [neS] at hh
  have hcm : c = m := by simpa using (Decidable.not_not.mp (of_decide_eq_false hh)).symm
  obtain ⟨ps, ei, _, hne, hfree, hp⟩ := hp.resolve_left fun q => q.1 hcm
  refine tbM_c (ts_assign (te_meth (by rfl) (te_slice (te_name rfl (te_bin (te_name rfl (te_int (tbin_add ⟨_, rfl, te_name rfl ⟨_, rfl, tsl_str hz' ?_⟩⟩))))))))
  rw [show Txt.slice (S l) (some ((a.length : Int) + 1)) (some ((a.length + 3 + T.length : Nat) : Int)) = S (List.intercalate [m] ps) by rw [e4, g3, hcm, ei]]
  have hpl : (List.intercalate [m] ps).length ≤ 1000 := by
    have : (m :: T ++ [m]).length ≤ l.length := by rw [e]; simp; omega
    rw [← ei]; omega
  refine ⟨_, _, rfl, tgm_str (fun q => GM.split q), te_sub (te_name rfl (te_bin (te_name rfl (te_int (tbin_add (at1 (tcall_split (by rw [S_len]; rfl) (by rw [S_len]; omega) ?_)))))))⟩
  rw [split_ps hkd hne hfree]
  have hps : (txs (ps.map S)).length = ps.length := by simp [txs]
  have hps2 : ps.length ≤ 1001 := by have := inter_len (m := m) ps; omega
  refine tbM_cons (tsM_if (tt_cmp (te_call (by rfl) (te_builtin (v := .builtin "len") (g_len hK) (by kernel_rfl) ⟨_, rfl, rfl, te_name rfl (tcall_lenL (by rw [hps]; omega) (te_int (tcmp_neI (ttr_bool ⟨fun hh => ?_, fun hh => tbM_nil ?_⟩))))⟩))))
  · rw [hps] at hh
    have hn5 : ps.length ≠ 5 := fun q => by rw [q] at hh; exact absurd hh (by decide)
    exact raise1 gp xp rfl (h3 (hp.elim (·.2) fun ⟨_, _, _, _, _, q, _⟩ => absurd (by rw [q]; rfl) hn5))
  rw [hps] at hh
  have h5 : ps.length = 5 := by
    have : ¬ ((ps.length : Int) ≠ 5) := by simpa using hh
    omega
  obtain ⟨p0, p1, p2, p3, p4, rfl, l3, c3, hp⟩ := hp.resolve_left fun q => q.1 h5
  refine tbM_c (ts_assign (te_sub (te_name rfl (te_int (tsub_tuple (by decide) (by decide) (j := 0) rfl rfl ?_)))))
  have l3' : (S p3).length ≤ 640 := by rw [S_len]; exact l3
  rcases hp with ⟨hn, rfl⟩ | ⟨n, hn, rfl⟩
  · exact tbM_cons (tsM_intFail (g_int hK) (by rfl) (te_sub (te_name rfl (te_int (tsub_list (by decide) (by decide) (j := 3) rfl rfl ⟨_, rfl, l3', fun x hx => Nat.lt_trans (c3 x hx) (by decide), hn, fun ys => h4 rfl ys⟩)))))
  · refine tbM_c (ts_assign (te_call (by rfl) (te_builtin (v := .type "int") (g_int hK) (by kernel_rfl) ⟨_, rfl, rfl, te_sub (te_name rfl (te_int (tsub_list (by decide) (by decide) (j := 3) rfl rfl (tcall_int hn l3' ?_))))⟩)))
    refine tbM_c (ts_ret (te_tuple (by rfl) (te_name rfl (te_name rfl ⟨_, rfl, by show 2 ≤ sizeLine; decide, _, rfl, ?_⟩))))
    rw [back]; exact h1 n rfl
end Mine

-- Y4
namespace Mine
open PySem PySem.W PySem.Calls PyProof.Rows
variable {cx : Cx} {d : Nat} {env : Env} {ρ : Vars} {st : Store} {pos : Pos} {P : Params}

noncomputable def heard229 (l : List Nat) (h : PySem.Str) : R229 → PyData
  | .reply => .tuple [.str "reply", .str (S l)]
  | .proto => .tuple [.str "proto", .str (S l)]
  | .number => .tuple [.str "number", .str ""]
  | .port n => .tuple [.str "port", .tuple [.str h, .int n]]

set_option maxHeartbeats 2000000 in
theorem f_heard257 (hK : cx.K = hd.heap_1 P) {l : List Nat} {Post : V → Store → Prop} (hl5 : 5 ≤ l.length ∨ l = []) (hz : l.length ≤ 20000) (h : Post (.d (heard257 l)) st) : tcall cx (d + 2) (.ext (.ref 287)) [.d (.str (S l))] [] st Post := by
  refine tcallX_plain (tcallX_def (b := false) (cx := cx) (f := 287) (names := ["row"]) (ex := []) (exV := []) (ho := by rw [hK]; rfl) (hcd := by rw [hK]; rfl) (hbind := binds1 fun v => rfl) (hex := fun _ _ => .nil) (hco := rfl) (hgen := rfl) (hk := rfl) (hnames := by decide +kernel) (hnn := by decide +kernel) (hnd := by decide +kernel) fun L => ?_)
  have back : st.take st.length = st := List.take_length
  refine tbM_cons (tsM_try (teX_pair (by rfl) (te_str ⟨_, rfl, teX_call (by rfl) (te_glob (v := .ref 89) (by rw [hK]; kernel_rfl) ⟨_, rfl, by rw [hK]; kernel_rfl, te_name rfl (f_257 hK hl5 hz (fun r hr => ⟨_, rfl, _, rfl, ?_⟩) fun hr => ?_)⟩)⟩)))
  · rw [back]
    unfold heard257 at h
    rw [hr] at h
    exact h
  · unfold heard257 at h
    rw [hr] at h
    exact thand_own (g_reply hK) (X_reply hK) (by rw [hK]; kernel_rfl) (by rw [hK]; kernel_rfl) (g_str hK) ⟨_, rfl, by rw [back]; exact h⟩

set_option maxHeartbeats 2000000 in
theorem f_heard229 (hK : cx.K = hd.heap_1 P) {l : List Nat} {n : PySem.Str} {i : PyData} {R : R229} {Post : V → Store → Prop} (hl5 : 5 ≤ l.length ∨ l = []) (hz : l.length ≤ 1000) (hp : P229 l R) (h : Post (.d (heard229 l n R)) st) :
    tcallX true cx (d + 2) (.ext (.ref 294)) [.d (.str (S l)), .d (.tuple [.str n, i])] [] st Post fun _ _ _ => False := by
  refine tcallX_def (b := true) (cx := cx) (f := 294) (names := ["row", "peer"]) (ex := []) (exV := []) (ho := by rw [hK]; rfl) (hcd := by rw [hK]; rfl) (hbind := binds2 fun v w => rfl) (hex := fun _ _ => .nil) (hco := rfl) (hgen := rfl) (hk := rfl) (hnames := by decide +kernel) (hnn := by decide +kernel) (hnd := by decide +kernel) fun L => ?_
  have back : st.take st.length = st := List.take_length
  have s1 : subIn cx.K (.ref 73) (.ref 61) = some false := by rw [hK]; kernel_rfl
  have s2 : subIn cx.K (.type "ValueError") (.ref 61) = some false := by kernel_rfl
  have s3 : subIn cx.K (.type "ValueError") (.ref 73) = some false := by kernel_rfl
  refine tbM_cons (tsM_try (teX_pair (by rfl) (te_str ⟨_, rfl, teX_call (by rfl) (te_glob (v := .ref 82) (by rw [hK]; kernel_rfl) ⟨_, rfl, by rw [hK]; kernel_rfl, te_name rfl (te_name rfl (f_229 hK hl5 hz hp (fun n hr => ⟨_, rfl, _, rfl, ?_⟩) (fun hr => ?_) (fun hr => ?_) fun hr ys => ?_))⟩)⟩)))
  · rw [back]; subst hr; exact h
  · subst hr
    exact thand_own (g_reply hK) (X_reply hK) (by rw [hK]; kernel_rfl) (by rw [hK]; kernel_rfl) (g_str hK) ⟨_, rfl, by rw [back]; exact h⟩
  · subst hr
    exact thand_skip (g_reply hK) (X_reply hK) s1 (thand_own (g_proto hK) (X_proto hK) (by rw [hK]; kernel_rfl) (by rw [hK]; kernel_rfl) (g_str hK) ⟨_, rfl, by rw [back]; exact h⟩)
  · subst hr
    exact thand_skip (g_reply hK) (X_reply hK) s2 (thand_skip (g_proto hK) (X_proto hK) s3 (thand_val (by rw [hK]; kernel_rfl) ⟨_, rfl, by rw [back]; exact h⟩))
end Mine

-- H9
namespace Mine
open PySem PySem.W PySem.Calls PyProof.Rows
variable {cx : Cx} {d : Nat} {env : Env} {ρ : Vars} {st : Store} {pos : Pos}

set_option maxHeartbeats 1600000 in
theorem list_setall (l b sl : Addr) (items items2 : Array Value) (n n2 : Nat) (dd2 : Option Addr) (sl2 : Array (Option Value)) (hne : l ≠ b) (hs1 : items.size ≤ 100000) (hs2 : items2.size ≤ 100000) :
    Meets (Builtin.«list.__setitem__» ⟨[.ref l, .ref sl, .ref b], []⟩) (fun _ R s => s.heap.get? l = some { cls := .type "list", dict := none, data := .seq items n, slots := #[] } ∧ s.heap.get? b = some { cls := .type "list", dict := dd2, data := .seq items2 n2, slots := sl2 } ∧
      s.heap.get? sl = some { cls := .type "slice", data := .fields #[.none, .none, .none] } ∧ R (.ok (.ret Value.none)) { s with heap := s.heap.update l (Obj.mapSeq fun x => x.extract 0 (if (1 : Int) > 0 then (0 : Int) else (items.size : Int) - 1).toNat ++ items2 ++ x.extract (max (if (1 : Int) > 0 then (0 : Int) else (items.size : Int) - 1) (if (1 : Int) > 0 then (items.size : Int) else -1)).toNat x.size), toks := s.toks }) :=
  .of_wp fun prog w A R s h => by
    obtain ⟨hp, g, d, tk, os⟩ := s
    obtain ⟨hl, hb, hsl, h⟩ := h
    have f1 := AutoSeq1.idx_int
    have f3 := AutoSeq1.sub_list_list
    have f4 : typeLookup (.type "slice") "__index__" = pure none := by rw [typeLookup_type, builtinLookup_eq_fast]; kernel_rfl
    have hne' : Builtin.List.listSameRef (.ref l) (.ref b) = false := by show (l == b) = false; simpa using hne
    have hle : (200002 : Nat) ≤ sizeLine := by decide
    have hc0 : Builtin.List.listTooLong (items.size + items2.size) = false := by
      unfold Builtin.List.listTooLong
      simp
      omega
    have hc1 : items.size ≤ sizeLine := by omega
    have hz' : (items.extract 0 (if (1 : Int) > 0 then (0 : Int) else (items.size : Int) - 1).toNat ++ items2 ++ items.extract (max (if (1 : Int) > 0 then (0 : Int) else (items.size : Int) - 1) (if (1 : Int) > 0 then (items.size : Int) else -1)).toNat items.size).size ≤ sizeLine + 1 := by
      have a1 : ∀ x y, (items.extract x y).size ≤ 100000 := fun x y => by rw [Array.size_extract]; exact Nat.le_trans (Nat.sub_le _ _) (Nat.le_trans (Nat.min_le_right _ _) hs1)
      rw [Array.size_append, Array.size_append]
      exact Nat.le_trans (Nat.add_le_add (Nat.add_le_add (a1 _ _) hs2) (a1 _ _)) (by decide)
    wp_walk using (wpAny_updateSeq hl rfl (hz := hc1) (_hz' := hz')), AutoSeq1.wpAny_loadPart' hl, AutoSeq1.wpAny_loadPart' hb, AutoSeq1.wpAny_loadPart' hsl
    all_goals first | exact ⟨_, rfl, h⟩ | skip
end Mine

-- H0
namespace Mine
open PySem PySem.W PySem.Calls PyProof.Rows
variable {cx : Cx} {d : Nat} {env : Env} {ρ : Vars} {st : Store} {pos : Pos}

theorem release_run {M : Model} {A : Around} {E : Value → Shared → Prop} {s : Shared} {vs ws : List Value} {Q : Unit → Shared → Prop} (h : Q () s) : wpAny M A (release vs ws) Q E s := fun Γ p _ => by rw [Sem.wp_release]; exact h
section
variable {Post : Fl → Vars → Store → Prop}
theorem ts_setOwn {o i value : Expr} {p : Pos} {f : Addr} (hq : noSeq cx.K cx.hC = true) (hs : findIn cx.K (.ref cx.hC) "__setitem__" = some (some (.ref f))) (hf : isFn cx.K (.ref f) = true)
    (h : te cx d env ρ st value fun v st₁ => te cx d env ρ st₁ o fun x st₂ => te cx d env ρ st₂ i fun k st₃ => ∃ u, x = .hdr u ∧ tcall cx d (.ext (.ref f)) [.hdr u, k, v] [] st₃ fun _ st₄ => Post .next ρ st₄)
    (hsw : swapsWith value (some (.Subscript o i p)) pos.line env = pure false := by rfl) : ts cx d env ρ st (.Assign [.Subscript o i p] value pos) Post := by
  intro A hx al s Q E R a k
  refine wpAny_Assign_Subscript (h A hx al s R a _ E fun v st₁ vv al₁ h₁ tk₁ n₁ v₁ p₁ => ?_) hsw
  refine p₁ A hx _ { s with heap := h₁, toks := tk₁ } R (a.next n₁) _ E fun x st₂ vx al₂ h₂ tk₂ n₂ v₂ p₂ => ?_
  refine p₂ A hx _ { s with heap := h₂, toks := tk₂ } R ((a.next n₁).next n₂) _ E fun y st₃ vk al₃ h₃ tk₃ n₃ v₃ p₃ => ?_
  obtain ⟨u, rfl, p₃⟩ := p₃
  have v₂' := VRep.mono (al' := al₃) n₃.vw v₂
  obtain ⟨x, dx, od, hv, rfl, g1, g2, _⟩ := id v₂'
  have X := n₃.ok.K
  have I := inst_at (vw_get.mp g1).1 (vw_get.mp g2).1
  unfold setItem sequenceKey
  refine wpAny_holding (wpAny_bind (wpAny_bind (I.type.here (s := { s with heap := h₃, toks := tk₃ }) ?_)))
  refine wpAny_bind ((anyM_none X hq).here (s := { s with heap := h₃, toks := tk₃ }) ?_)
  rw [if_pos (show (!false) = true from rfl)]
  refine wpAny_pure (wpAny_bind (special_fn (s := { s with heap := h₃, toks := tk₃ }) X I hs (beq_iff_eq.mp hf) ?_))
  refine p₃ A (ow env hx) _ { s with heap := h₃, toks := tk₃ } (.ref f) _ [] R n₃.ok rfl (.cons v₂' (.cons v₃ (.cons (VRep.mono (al' := al₃) n₃.vw (VRep.mono (al' := al₂) n₂.vw v₁)) .nil))) rfl .nil _ E fun r st₄ val al₄ h₄ tk₄ n₄ v₄ p₄ => ?_
  exact wpAny_pure (k .next ρ st₄ .next _ h₄ tk₄ (a.nxs (n₁.trans (n₂.trans (n₃.trans n₄)))) trivial p₄)
theorem ts_delOwn {o i : Expr} {p : Pos} {f : Addr} (hq : noSeq cx.K cx.hC = true) (hs : findIn cx.K (.ref cx.hC) "__delitem__" = some (some (.ref f))) (hf : isFn cx.K (.ref f) = true)
    (h : te cx d env ρ st o fun x st₂ => te cx d env ρ st₂ i fun k st₃ => ∃ u, x = .hdr u ∧ tcall cx d (.ext (.ref f)) [.hdr u, k] [] st₃ fun _ st₄ => Post .next ρ st₄) : ts cx d env ρ st (.Delete [.Subscript o i p] pos) Post := by
  intro A hx al s Q E R a k
  refine wpAny_Delete (wpAny_deleteEach_cons ?_)
  rw [arm_delete_Subscript]
  refine wpAny_bind (h A hx al s R a _ E fun x st₂ vx al₂ h₂ tk₂ n₂ v₂ p₂ => ?_)
  refine wpAny_bind (wpAny_holding (p₂ A hx _ { s with heap := h₂, toks := tk₂ } R (a.next n₂) _ E fun y st₃ vk al₃ h₃ tk₃ n₃ v₃ p₃ => ?_))
  refine wpAny_bind (wpAny_standAt (wpAny_bind (wpAny_holding ?_)))
  obtain ⟨u, rfl, p₃⟩ := p₃
  have v₂' := VRep.mono (al' := al₃) n₃.vw v₂
  obtain ⟨x, dx, od, hv, rfl, g1, g2, _⟩ := id v₂'
  have X := n₃.ok.K
  have I := inst_at (vw_get.mp g1).1 (vw_get.mp g2).1
  unfold delItem sequenceKey
  refine wpAny_holding (wpAny_bind (wpAny_bind (I.type.here (s := { s with heap := h₃, toks := tk₃ }) ?_)))
  refine wpAny_bind ((anyM_none X hq).here (s := { s with heap := h₃, toks := tk₃ }) ?_)
  rw [if_pos (show (!false) = true from rfl)]
  refine wpAny_pure (wpAny_bind (special_fn (s := { s with heap := h₃, toks := tk₃ }) X I hs (beq_iff_eq.mp hf) ?_))
  refine p₃ A (ow env hx) _ { s with heap := h₃, toks := tk₃ } (.ref f) _ [] R n₃.ok rfl (.cons v₂' (.cons v₃ .nil)) rfl .nil _ E fun r st₄ val al₄ h₄ tk₄ n₄ v₄ p₄ => ?_
  exact wpAny_pure (release_run (wpAny_deleteEach_nil (k .next ρ st₄ .next _ h₄ tk₄ (a.nxs (n₂.trans (n₃.trans n₄))) trivial p₄)))
theorem ts_setAll {o value : Expr} {p sp : Pos} (h : te cx d env ρ st value fun v st₁ => te cx d env ρ st₁ o fun x st₂ => ∃ n xs ys, v = .d (.list ys) ∧ x = .c n ∧ st₂[n]? = some (.live xs) ∧ xs.length ≤ 100000 ∧ ys.length ≤ 100000 ∧ Post .next ρ (st₂.set n (.live ys)))
    (hsw : swapsWith value (some (.Subscript o (.Slice none none none sp) p)) pos.line env = pure false := by rfl) : ts cx d env ρ st (.Assign [.Subscript o (.Slice none none none sp) p] value pos) Post := by
  intro A hx al s Q E R a k
  refine wpAny_Assign_Subscript (h A hx al s R a _ E fun v st₁ vv al₁ h₁ tk₁ n₁ v₁ p₁ => ?_) hsw
  refine p₁ A hx _ { s with heap := h₁, toks := tk₁ } R (a.next n₁) _ E fun x st₂ vx al₂ h₂ tk₂ n₂ v₂ p₂ => ?_
  obtain ⟨n, xs, ys, rfl, rfl, e, hz, hz2, p₃⟩ := p₂
  refine wpAny_Slice (wpAny_pure (wpAny_pure (wpAny_pure ?_)))
  obtain ⟨l, ws, kk, ea, rfl, ho, hr⟩ := n₂.ok.cellX v₂ e
  have v₁' := VRep.mono (al' := al₂) n₂.vw v₁
  obtain ⟨b, us, rfl, hl, hr2⟩ := rd_list v₁'
  obtain ⟨⟨c2, dd2, dt2, sl2⟩, hb, hc, n2, hd⟩ := hl
  obtain ⟨hb1, hb2⟩ := vw_get.mp hb
  simp only at hc hd
  subst hc hd
  have hlb : l ≠ b := fun q => hb2 (List.mem_append.mpr (.inr (q ▸ List.mem_of_getElem? ea)))
  have hst := stays_push h₂ { cls := .type "slice", data := .fields #[Value.none, .none, .none] }
  have n₃ : Nx cx A (ow env hx) (al ++ al₁ ++ al₂) [] st₂ h₂ (h₂.push { cls := .type "slice", data := .fields #[Value.none, .none, .none] }) tk₂ := by
    have q := nxs_grow ((a.next n₁).next n₂) hst (Nat.le_refl tk₂)
    exact ⟨q.at'.ok, .of fun a' _ ob e => hst a' ob e, q.vw⟩
  have s1 : ws.size = xs.length := by rw [← Array.length_toList, hr.length]
  have s2 : us.size = ys.length := by rw [← Array.length_toList, hr2.length]
  unfold setItem
  refine wpAny_holding (wpAny_bind (wpAny_sequenceKey (T := "list") ⟨_, hst _ _ ho, rfl⟩ (by decide) (wpAny_bind (wpAny_callSpecial?_slot ⟨_, hst _ _ ho, rfl⟩ F.slot_list_setitem ?_))))
  refine call_meets F.slot_list_setitem ⟨_, hst _ _ ho, rfl⟩ F.entry_list_setitem (F.args_list_setitem_3 _ _ _) (list_setall l b h₂.objs.size ws us kk n2 dd2 sl2 hlb (by omega) (by omega)) ⟨hst _ _ ho, hst _ _ hb1, Heap.get?_push_size _ rfl, ?_⟩
  have hf : ws.extract 0 (if (1 : Int) > 0 then (0 : Int) else (ws.size : Int) - 1).toNat ++ us ++ ws.extract (max (if (1 : Int) > 0 then (0 : Int) else (ws.size : Int) - 1) (if (1 : Int) > 0 then (ws.size : Int) else -1)).toNat ws.size = us := by
    have h1 : (1 : Int) > 0 := by decide
    rw [if_pos h1, if_pos h1]
    have h2 : (max (0 : Int) (ws.size : Int)).toNat = ws.size := by omega
    rw [h2]
    simp
  have lx := lx_update (fun x => x.extract 0 (if (1 : Int) > 0 then (0 : Int) else (ws.size : Int) - 1).toNat ++ us ++ x.extract (max (if (1 : Int) > 0 then (0 : Int) else (ws.size : Int) - 1) (if (1 : Int) > 0 then (ws.size : Int) else -1)).toNat x.size) (hst _ _ ho)
  rw [hf] at lx
  have n₃' := n₃.ok
  rw [List.append_nil] at n₃'
  have hrd : RdAll (vw (h₂.push { cls := .type "slice", data := .fields #[Value.none, .none, .none] }) (ow env hx ++ (al ++ al₁ ++ al₂))) us.toList ys := RdAll.keeps (rd_mono_h hst) hr2
  have n₄ := n₃'.put (Nat.le_refl _) ea (Heap.SameBut.update ..) lx hrd
  refine wpAny_pure (k .next ρ (st₂.set n (.live ys)) .next (al₁ ++ (al₂ ++ [])) _ _ ?_ trivial p₃)
  have n₃₄ : Nx cx A (ow env hx) (al ++ al₁ ++ al₂) [] (st₂.set n (.live ys)) h₂ _ tk₂ := ⟨n₄.ok, n₃.fr.trans n₄.fr, fun b o q => n₄.vw b o (by have := n₃.vw b o q; rwa [List.append_nil] at this)⟩
  exact a.nxs (n₁.trans (n₂.trans n₃₄))
end
end Mine

-- K0
namespace Mine
open PySem PySem.W PySem.Calls PyProof.Rows
variable {cx : Cx} {d : Nat} {env : Env} {ρ : Vars} {st : Store} {pos : Pos}

theorem dictAt0 {prog : Program} {w : World} {h : Heap} {D : Addr} {n : Nat} (e : h.get? D = some { cls := .type "dict", data := .dict #[] n }) : h.DictAt (strKind prog w) D [] n :=
  ⟨_, #[], e, ⟨rfl, rfl, rfl⟩, rfl, by intro e he; simp at he, .nil, .nil⟩
theorem tgm_items : tgm cx d (.emp false) "items" (.builtin "dict.items") [.emp false] st := by
  intro A o al s va pl R ok hv Q E k
  obtain ⟨D, n, h1, h2, h3⟩ := id hv
  obtain rfl : va = .ref D := h3.elim (·.2) fun h => absurd h.1 (by decide)
  have hD := (vw_get.mp h2).1
  exact getMethod_builtin ⟨_, hD, rfl⟩ PySem.F.plainAttrs_dict PySem.F.slot_dict_items PySem.F.type_dict_items (fun a e => by cases e; exact ⟨_, hD, rfl⟩) (k _ s.toks (Nat.le_refl _) (.cons hv .nil))
theorem tcall_items {Post : V → Store → Prop} (h : Post (.emp true) st) : tcall cx d (.ext (.builtin "dict.items")) [.emp false] [] st Post := tcall_bi fun A o al s vs R ok hv => by
  cases hv with
  | cons hv r =>
    cases r
    obtain ⟨D, n, h1, h2, h3⟩ := id hv
    obtain rfl := h3.elim (·.2) fun h => absurd h.1 (by decide)
    have hD := (vw_get.mp h2).1
    refine Op.ofVal ok fun Q E k => ?_
    refine call_meetsIn PySem.F.slot_dict_items ⟨_, hD, rfl⟩ PySem.F.entry_dict_items (PySem.F.args_dict_items_1 _) (meets_dict_items (strKind cx.prog cx.w) D h1) ⟨⟨[], _, #[], n, hD, ⟨rfl, rfl, rfl⟩, rfl, by intro e he; simp at he, .nil, .nil⟩, ?_⟩
    refine k _ _ _ (.emp true) (stays_push _ _) ⟨D, n, h1, vw_get.mpr ⟨stays_push _ _ _ _ hD, (vw_get.mp h2).2⟩, .inr ⟨rfl, _, rfl, vw_get.mpr ⟨Heap.get?_push_size _ rfl, ok.fresh (Nat.le_refl _)⟩⟩⟩ h
theorem ts_forEmp {Post : Fl → Vars → Store → Prop} {target iter : Expr} {body : List Stmt} (h : te cx d env ρ st iter fun v st₁ => v = .emp true ∧ Post .next ρ st₁)
    (hs : ∀ x, foldedSetIterable iter env x = pure x := by intro _; rfl) : ts cx d env ρ st (.For target iter body [] pos) Post := by
  intro A hx al s Q E R a k
  refine wpAny_For (h A hx al s R a _ E fun v st₁ val al₁ h₁ tk₁ n₁ v₁ p₁ => ?_) hs
  obtain ⟨rfl, p⟩ := p₁
  obtain ⟨D, n, q1, q2, q3⟩ := v₁
  obtain ⟨r, rfl, q4⟩ := q3.elim (fun h => absurd h.1 (by decide)) (·.2)
  have hD := (vw_get.mp q2).1
  refine wpAny_pyIter_items (knd := strKind cx.prog cx.w) (s := { s with heap := h₁, toks := tk₁ }) ⟨_, (vw_get.mp q4).1, rfl, rfl⟩ (dictAt0 hD) ?_
  have a₁ := a.next n₁
  have e2 : (h₁.push { cls := .type "dict_itemiterator", data := .fields #[.none, .bool false, .ref D, .int 0 0, .int ([] : List (PySem.Str × Value)).length 0, .int n 0, .none, .none] }).get? D = some { cls := .type "dict", data := .dict #[] n } := stays_push _ _ _ _ hD
  refine codeS_all (codeS_for (b := false) (fun _ s' => s' = { s with heap := h₁.push { cls := .type "dict_itemiterator", data := .fields #[.none, .bool false, .ref D, .int 0 0, .int ([] : List (PySem.Str × Value)).length 0, .int n 0, .none, .none] }, toks := tk₁ }) (fun m s' e => ?_) 0 rfl)
  subst e
  refine wpAny_pyNext_items_end (knd := strKind cx.prog cx.w) (kvs := []) (i := 0) R.hd (Heap.get?_push_size _ rfl) (dictAt0 e2) rfl fun h' e => ?_
  have hk : h₁.StaysIn h' := fun b ob eb => e b ob (Nat.ne_of_lt (Heap.lt_size eb)) (stays_push _ _ b ob eb)
  exact lift_s (a.nxs n₁) k .next ρ st₁ .next [] h' tk₁ (nxs_grow a₁ hk (Nat.le_refl _)) trivial p

theorem bindsKw {fd : FuncData} {n m q z : PySem.Str} (h : ∀ v w u, bindArgs fd ⟨[v, w, u], []⟩ = alloc { cls := .type "dict", data := .dict #[] } >>= fun D => pure [(n, v), (m, w), (q, u), (z, .ref D)]) : BindsG cx fd 3 [] [n, m, q, z] [.emp false] := by
  intro A s vals ks Q E B K hl hk k
  obtain ⟨v, w, u, rfl⟩ : ∃ v w u, vals = [v, w, u] := by
    cases vals with
    | nil => cases hl
    | cons v l => obtain ⟨w, u, rfl⟩ := two_of (Nat.succ.inj hl); exact ⟨v, w, u, rfl⟩
  obtain rfl : ks = [] := by simpa using hk
  rw [h]
  refine wpAny_bind (wpAny_alloc (wpAny_pure ?_))
  refine k _ [.ref s.heap.objs.size] (stays_push _ _) fun l al hlt => .cons ⟨s.heap.objs.size, 0, ?_, vw_get.mpr ⟨Heap.get?_push_size _ rfl, fun m => absurd (hlt _ m) (Nat.lt_irrefl _)⟩, .inl ⟨rfl, rfl⟩⟩ .nil
  exact beq_eq_false_iff_ne.mpr (Nat.ne_of_gt (modules_low (cx.T.nolimit.keeps B)))

theorem tcall_joinC {Post : V → Store → Prop} {x : PySem.Str} {ts : List PySem.Str} {n : Nat} (e : st[n]? = some (.live (txs ts))) (hj : JoinOk x ts = true) (h : Post (.d (.str (Txt.join x ts))) st) : tcall cx d (.ext (.builtin "str.join")) [.d (.str x), .c n] [] st Post := tcall_bi fun A o al s vs R ok hv => by
  obtain ⟨_, _, rfl, v1, v2⟩ := va2 hv
  obtain ⟨t, rfl⟩ := rd_str v1
  obtain ⟨a, ws, _, rfl, hl, hr⟩ := ok.cell v2 e
  obtain ⟨l, e, et⟩ := rd_txs hr
  have hl' : s.heap.IsList a (strValues l).toArray := by rw [← e]; exact hl
  exact Op.ofVal ok fun Q E k => SC.join hl' et hj fun t' k' => k _ s.heap k' (.d (.str (Txt.join x ts))) (fun _ _ e => e) (.str _ _) h
end Mine

-- U2
namespace Mine
open PySem PySem.W PySem.Calls PyProof.Rows

variable {cx : Cx} {d : Nat} {env : Env} {ρ : Vars} {st : Store} {pos : Pos} {P : Params}

theorem hcls (hK : cx.K = hd.heap_1 P) (hC : cx.hC = 252) : HCls cx.K cx.hC := by
  rw [hK, hC]
  refine ⟨?_, ?_, ?_, ?_, ?_, ?_, ?_, ?_⟩ <;> kernel_rfl
theorem pat3_ok (hK : cx.K = hd.heap_1 P) {h : Heap} (X : cx.K.In h) : PatOk h 116 code3 := by
  rw [hK] at X
  exact ⟨_, 115, _, _, X 116 _ (by rfl), rfl, X 115 _ (by rfl), by rfl, by rfl, by decide +kernel⟩
theorem pat4_ok (hK : cx.K = hd.heap_1 P) {h : Heap} (X : cx.K.In h) : PatOk h 121 code4 := by
  rw [hK] at X
  exact ⟨_, 120, _, _, X 121 _ (by rfl), rfl, X 120 _ (by rfl), by rfl, by rfl, by decide +kernel⟩

theorem binds2k {fd : FuncData} {n m k : PySem.Str} (h : ∀ v w u, bindArgs fd ⟨[v, w], [(k, u)]⟩ = pure [(n, v), (m, w), (k, u)]) : Binds cx fd 2 [k] [n, m, k] [] := by
  intro s vals ks K hl hk
  obtain ⟨v, w, rfl⟩ := two_of hl
  obtain ⟨u, rfl⟩ : ∃ u, ks = [(k, u)] := by
    cases ks with
    | nil => cases hk
    | cons p r =>
      obtain ⟨e1, e2⟩ := List.cons.inj hk
      obtain rfl := List.map_eq_nil_iff.mp e2
      exact ⟨p.2, by rw [← e1]⟩
  exact BindsTo.of_eq (h v w u)

set_option maxHeartbeats 2000000 in
theorem f_conv (hK : cx.K = hd.heap_1 P) {self : V} {b : Bool} {l : List Nat} {Post : V → Store → Prop} (hl : l.length ≤ 20000) (hc : ∀ c ∈ l, isCtl c = false) (h : Post (.d (.str (S l))) st) :
    tcall cx (d + 1) (.ext (.ref 151)) [self, .d (.str (S l))] [("name", .d (.bool b))] st Post := by
  refine tcall_def (cx := cx) (f := 151) (names := ["self", "value", "name"]) (ex := []) (exV := []) (ho := by rw [hK]; rfl) (hcd := by rw [hK]; rfl) (hbind := binds2k fun v w u => rfl) (hex := fun _ _ => .nil) (hco := rfl) (hgen := rfl) (hk := rfl) (hnames := by decide +kernel) (hnn := by decide +kernel) (hnd := by decide +kernel) fun L => ?_
  refine tb_cons (ts_if ?_)
  refine tt_cmp (te_call (by rfl) (te_builtin (v := .type "type") (by rw [hK]; kernel_rfl) (by kernel_rfl) ⟨_, rfl, rfl, te_name rfl (tcall_typeS ?_)⟩)) 
  refine te_builtin (v := .type "str") (by rw [hK]; kernel_rfl) (by kernel_rfl) (tcmp_isT (ttr_bool ⟨fun _ => ?_, fun hh => absurd hh (by decide)⟩))
  refine tb_cons (ts_assign (te_ifexp (tt_plain (te_name rfl (ttr_bool ⟨fun hb => ?_, fun hb => ?_⟩)))))
  · refine te_glob (v := .ref 116) (by rw [hK]; kernel_rfl) ?_
    refine tb_cons (ts_if (tt_plain (te_meth (by rfl) (te_name rfl ⟨.builtin "re.Pattern.search", [.ext (.ref 116)], rfl, tgm_re (fun h X => pat3_ok hK X) slot_re_search type_re_search, te_name rfl (tcall_search (fun h X => pat3_ok hK X) (by omega) (.inl rfl) hc (ttr_none ⟨fun hh => absurd hh (by decide), fun _ => tb_nil ?_⟩))⟩))))
    refine tb_cons (ts_ret (te_name rfl ⟨_, rfl, ?_⟩))
    rw [List.take_length]; exact h
  · refine te_glob (v := .ref 121) (by rw [hK]; kernel_rfl) ?_
    refine tb_cons (ts_if (tt_plain (te_meth (by rfl) (te_name rfl ⟨.builtin "re.Pattern.search", [.ext (.ref 121)], rfl, tgm_re (fun h X => pat4_ok hK X) slot_re_search type_re_search, te_name rfl (tcall_search (fun h X => pat4_ok hK X) (by omega) (.inr rfl) hc (ttr_none ⟨fun hh => absurd hh (by decide), fun _ => tb_nil ?_⟩))⟩))))
    refine tb_cons (ts_ret (te_name rfl ⟨_, rfl, ?_⟩))
    rw [List.take_length]; exact h
end Mine

-- K1
namespace Mine
open PySem PySem.W PySem.Calls PyProof.Rows

variable {cx : Cx} {d : Nat} {env : Env} {ρ : Vars} {st : Store} {pos : Pos} {P : Params}

noncomputable abbrev Pr := List Nat × List Nat
noncomputable def prD (p : Pr) : PyData := .tuple [.str (S p.1), .str (S p.2)]
noncomputable def prs (l : List Pr) : List PyData := l.map prD
noncomputable def lw (x : List Nat) : List Nat := x.map fun c => if 65 ≤ c ∧ c ≤ 90 then c + 32 else c
noncomputable def lwS (x : List Nat) : PySem.Str := S (lw x)
theorem lw_len (x : List Nat) : (lw x).length = x.length := by unfold lw; rw [List.length_map]
structure Good (p : Pr) : Prop where
  n1 : p.1.length ≤ 100
  n2 : ∀ c ∈ p.1, isCtl c = false
  n3 : Txt.lower (S p.1) = lwS p.1
  n4 : ∀ c ∈ lw p.1, isCtl c = false
  v1 : p.2.length ≤ 100
  v2 : ∀ c ∈ p.2, isCtl c = false
noncomputable def getL (x : List Nat) : List Pr → PyData
  | [] => .none
  | p :: r => if lw p.1 = x then .str (S p.2) else getL x r

theorem tcall_typeC {n : Nat} {xs : List PyData} {Post : V → Store → Prop} (e : st[n]? = some (.live xs)) (h : Post (.ext (.type "list")) st) : tcall cx d (.ext (.type "type")) [.c n] [] st Post := tcall_bi fun A o al s vs R ok hv => by
  obtain ⟨_, rfl, v1⟩ := va1 hv
  obtain ⟨a, ws, _, rfl, hl, hr⟩ := ok.cell v1 e
  exact Op.ofVal ok fun Q E k => call_type_of hl.typeIs (by decide) (k _ s.heap s.toks (.ext (.type "list")) (fun _ _ e => e) rfl h)
theorem notNone_c {n : Nat} : ∀ g al val, VRep cx g al val (.c n) → (val == Value.none) = false := by
  intro g al val h
  obtain ⟨a, _, rfl⟩ := h
  rfl
theorem handed_c {n : Nat} : ∀ g al val, VRep cx g al val (.c n) → handedIn val = true := by
  intro g al val h
  obtain ⟨a, _, rfl⟩ := h
  rfl

theorem bindsDef {fd : FuncData} {n m : PySem.Str} {q : List PySem.Str} {T : Addr} {o : Obj} {items : Array Value} {nn : Nat} {u : List Value} {k : Value → Value → Option (Array Value) → Sem (List (PySem.Str × Value))} (hd : fd.defaults = .ref T) (ho : cx.K.lookup T = some o) (hs : o.data = .seq items nn)
    (h₁ : ∀ v w, bindArgs fd ⟨[v, w], []⟩ = seqItems? fd.defaults >>= k v w) (h₂ : ∀ v w, k v w (some items) = pure ((n :: m :: q).zip (v :: w :: u))) : Binds cx fd 2 [] (n :: m :: q) u := by
  intro s vals ks K hl hk
  obtain ⟨v, w, rfl⟩ := two_of hl
  obtain rfl : ks = [] := by simpa using hk
  exact binds_K K hd ho hs (h₁ v w) (h₂ v w)

set_option maxHeartbeats 4000000 in
theorem f_headersC (hK : cx.K = hd.heap_1 P) (hC : cx.hC = 252) {n : Nat} {Post : V → Store → Prop} (e : st[n]? = some (.live [])) (h : Post (.hdr (.c n)) st) :
    tcall cx (d + 5) (.ext (.ref cx.hC)) [.c n] [] st Post := by
  have H := hcls hK hC
  refine tcall_init (d := d + 3) (fI := 144) (pre := [_, _]) (names := ["self", "headers"]) (ex := []) (exV := []) (u := .c n) (st₁ := st) H (by rw [hK, hC]; kernel_rfl) (by rw [hK]; kernel_rfl) (ho := by rw [hK]; rfl) (hcd := by rw [hK]; rfl)
    (hbind := bindsDef (T := 137) rfl (by rw [hK]; rfl) rfl (fun v w => rfl) (fun v w => rfl)) (hex := fun _ _ => .nil) (hco := rfl) (hgen := rfl) (hk := rfl) (hnames := by decide +kernel) (hnn := by decide +kernel) (hnd := by decide +kernel) (hu := .inr ⟨_, rfl⟩) (hself := by decide +kernel) (fun L x => ?_) (fun L => ?_)
  · refine tb_cons (ts_assign (te_ifexp (tt_cmp (te_name rfl (te_none (tcmp_isNotNone notNone_c (ttr_bool ⟨fun _ => te_name rfl ?_, fun hh => absurd hh (by decide)⟩)))))))
    refine tb_cons (ts_if (tt_cmp (te_call (by rfl) (te_builtin (v := .type "type") (by rw [hK]; kernel_rfl) (by kernel_rfl) ⟨_, rfl, rfl, te_name rfl (tcall_typeC e ?_)⟩))))
    refine te_builtin (v := .type "list") (by rw [hK]; kernel_rfl) (by kernel_rfl) (tcmp_isNotT (ttr_bool ⟨fun hh => absurd hh (by decide), fun _ => tb_nil (tb_nil ⟨rfl, rfl, rfl, rfl⟩)⟩))
  · refine tb_cons (ts_if (tt_plain ?_))
    refine te_bool ?_
    refine ttr_bool ⟨fun _ => ?_, fun hh => absurd hh (by decide)⟩
    exact tb_cons (ts_forC (te_name rfl ⟨n, [], rfl, e, fun xs _ => xs = [], rfl, (fun _ _ _ _ hi => nomatch hi), fun ρ' _ => tb_nil (tb_nil ⟨rfl, h⟩)⟩))

theorem lower_ {y : List Nat} {z : PySem.Str} {st : Store} {Q : V → Store → Prop} (h1 : y.length ≤ 100) (h2 : Txt.lower (S y) = z) (h3 : Q (.d (.str z)) st) : tcall cx d (.ext (.builtin "str.lower")) [.d (.str (S y))] [] st Q :=
  tcall_lower (by rw [S_len]; exact Nat.le_trans h1 (by decide)) (by rw [h2]; exact h3)
theorem conv_find (hK : cx.K = hd.heap_1 P) (hC : cx.hC = 252) : findIn cx.K (.ref cx.hC) "_convert_string_type" = some (some (.ref 151)) := by rw [hK, hC]; kernel_rfl
theorem conv_fn (hK : cx.K = hd.heap_1 P) : typeIn cx.K (.ref 151) = some (.type "function") := by rw [hK]; kernel_rfl
theorem conv_keep (hK : cx.K = hd.heap_1 P) : keepIn cx.K (.ref 151) = true := by rw [hK]; kernel_rfl
theorem te_conv (hK : cx.K = hd.heap_1 P) (hC : cx.hC = 252) {np kp bp apos : Pos} {bk : Nat} {e : Expr} {b : Bool} {u : V} {Post : V → Store → Prop} (hs : ρ.lookup ("self" : PySem.Str) = some (.hdr u)) (hp : plainArgs [e] = true)
    (h : te cx (d + 1) env ρ st e fun v st₁ => ∃ l, v = .d (.str (S l)) ∧ l.length ≤ 100 ∧ (∀ c ∈ l, isCtl c = false) ∧ Post (.d (.str (S l))) st₁)
    (hbase : attributeBase (.Name "self" np) "_convert_string_type" env (eval (.Name "self" np) env) = eval (.Name "self" np) env := by rfl) (hline : (apos.endLine == pos.line) = true := by rfl) :
    te cx (d + 1) env ρ st (.Call (.Attribute (.Name "self" np) "_convert_string_type" apos) [e] [⟨some "name", .Constant (.bool b) bk bp, kp⟩] pos) Post := by
  refine te_methK hp (te_name hs ⟨.ref 151, [.hdr u], conv_keep hK, tgm_hdr (hcls hK hC) (conv_find hK hC) (conv_fn hK) (by decide +kernel), ?_⟩) hbase hline
  show te cx (d + 1) env ρ st e _
  refine fun A hx al s R a Q E k => h A hx al s R a Q E fun r st' val al' h' tk' n v p => k r st' val al' h' tk' n v ?_
  obtain ⟨l, rfl, z1, z2, z3⟩ := p
  show te cx (d + 1) env ρ _ (.Constant (.bool b) bk bp) _
  refine te_bool ?_
  exact f_conv hK (Nat.le_trans z1 (by decide)) z2 z3
end Mine

-- K2
namespace Mine
open PySem PySem.W PySem.Calls PyProof.Rows

variable {cx : Cx} {d : Nat} {env : Env} {ρ : Vars} {st : Store} {pos : Pos} {P : Params}

noncomputable def GetRho (self : V) (name : PySem.Str) (ρ : Vars) : Prop := ρ.lookup ("name" : PySem.Str) = some (.d (.str name)) ∧ ρ.lookup ("default" : PySem.Str) = some (.d .none)

set_option maxHeartbeats 4000000 in
theorem f_getC (hK : cx.K = hd.heap_1 P) (hC : cx.hC = 252) {l : List Pr} {x y : List Nat} {n : Nat} {Post : V → Store → Prop} (e : st[n]? = some (.live (prs l))) (hl : ∀ p ∈ l, Good p) (hx : x.length ≤ 100) (hlow : Txt.lower (S x) = S y) (hlen : y.length ≤ 100) (hctl : ∀ c ∈ y, isCtl c = false)
    (h : Post (.d (getL y l)) st) :
    tcall cx (d + 2) (.ext (.ref 199)) [.hdr (.c n), .d (.str (S x))] [] st Post := by
  have H := hcls hK hC
  refine tcall_def (cx := cx) (f := 199) (names := ["self", "name", "default"]) (ex := [.none]) (exV := [.d .none]) (ho := by rw [hK]; rfl) (hcd := by rw [hK]; rfl)
    (hbind := bindsDef (T := 192) rfl (by rw [hK]; rfl) rfl (fun v w => rfl) (fun v w => rfl)) (hex := fun _ _ => .cons .none .nil) (hco := rfl) (hgen := rfl) (hk := rfl) (hnames := by decide +kernel) (hnn := by decide +kernel) (hnd := by decide +kernel) fun L => ?_
  refine tb_cons (ts_assign (te_conv hK hC rfl (by rfl) ?_))
  refine te_meth (by rfl) (te_name rfl ⟨_, _, rfl, tgm_str (fun q => GM.lower q), lower_ hx hlow ⟨_, rfl, hlen, hctl, ?_⟩⟩)
  refine tb_cons (ts_forC (te_hdr H (te_name rfl ⟨_, rfl, handed_c, n, prs l, rfl, e, fun rest ρ => ∃ l', rest = prs l' ∧ (∀ p ∈ l', Good p) ∧ getL y l' = getL y l ∧ GetRho (.hdr (.c n)) (S y) ρ, ?_, ?_, ?_⟩)))
  · exact ⟨l, rfl, hl, rfl, rfl, rfl⟩
  · rintro o x' rest ρ ⟨l', e1, hl', hg, hs, hdf⟩
    cases l' with
    | nil => cases e1
    | cons p l' =>
      cases e1
      have G := hl' p (.head _)
      refine tasg_tuple (names := ["k", "v"]) rfl rfl ?_
      have ls : (updAll ρ ((["k", "v"] : List PySem.Str).zip ([PyData.str (S p.1), PyData.str (S p.2)].map .d))).lookup ("name" : PySem.Str) = some (.d (.str (S y))) := (upd_get ..).trans ((upd_get ..).trans hs)
      have ldf : (updAll ρ ((["k", "v"] : List PySem.Str).zip ([PyData.str (S p.1), PyData.str (S p.2)].map .d))).lookup ("default" : PySem.Str) = some (.d .none) := (upd_get ..).trans ((upd_get ..).trans hdf)
      have lk : (updAll ρ ((["k", "v"] : List PySem.Str).zip ([PyData.str (S p.1), PyData.str (S p.2)].map .d))).lookup ("k" : PySem.Str) = some (.d (.str (S p.1))) := (upd_get ..).trans (upd_get ..)
      have lv : (updAll ρ ((["k", "v"] : List PySem.Str).zip ([PyData.str (S p.1), PyData.str (S p.2)].map .d))).lookup ("v" : PySem.Str) = some (.d (.str (S p.2))) := upd_get ..
      refine tb_cons (ts_if (tt_cmp (te_meth (by rfl) (te_name lk ⟨_, _, rfl, tgm_str (fun q => GM.lower q), lower_ G.n1 G.n3 (te_name ls (tcmp_eqS (ttr_bool ⟨fun hh => ?_, fun hh => ?_⟩)))⟩))))
      · have hh' : lw p.1 = y := S_inj (eq_of_beq hh)
        refine tb_cons (ts_ret (te_name lv ⟨rfl, _, rfl, ?_⟩))
        rw [List.take_length]
        have : getL y (p :: l') = .str (S p.2) := if_pos hh'
        rw [← hg, this] at h
        exact h
      · have hh' : ¬ lw p.1 = y := fun q => by rw [show lwS p.1 = S y from congrArg S q, beq_self_eq_true] at hh; cases hh
        exact tb_nil (tb_nil ⟨⟨l', rfl, fun q hq => hl' q (.tail _ hq), (if_neg hh').symm.trans hg, ls, ldf⟩, rfl⟩)
  · rintro ρ ⟨l', e1, _, hg, _, hdf⟩
    have : l' = [] := by cases l' with | nil => rfl | cons _ _ => cases e1
    subst this
    refine tb_cons (ts_ret (te_name hdf ⟨_, rfl, ?_⟩))
    rw [List.take_length]
    rw [← hg] at h
    exact h
end Mine

-- K3
namespace Mine
open PySem PySem.W PySem.Calls PyProof.Rows

variable {cx : Cx} {d : Nat} {env : Env} {ρ : Vars} {st : Store} {pos : Pos} {P : Params}

noncomputable def rowOf (p : Pr) : List Nat := p.1 ++ 58 :: 32 :: p.2
noncomputable def headT (l : List Pr) : List Nat := flat (l.map rowOf ++ [[]])
noncomputable def fmtD : PyData → PyData
  | .tuple [.str a, .str b] => .str (a ++ (": " : PySem.Str) ++ b)
  | x => x
theorem fmt_eq (l : List Pr) : (prs l).map fmtD = txs (l.map fun p => S (rowOf p)) := by
  have : (": " : PySem.Str) = S [58, 32] := by decide +kernel
  simp only [prs, txs, List.map_map]
  refine List.map_congr_left fun p _ => ?_
  show PyData.str (S p.1 ++ (": " : PySem.Str) ++ S p.2) = PyData.str (S (p.1 ++ 58 :: 32 :: p.2))
  rw [this, S_app, S_app, List.append_assoc]; rfl
theorem head_inter (l : List Pr) : List.intercalate [13, 10] (l.map rowOf ++ [[], []]) = headT l := by
  have := inter_rows (l.map rowOf ++ [[]])
  rwa [List.append_assoc] at this
theorem sum_inter (ts : List (List Nat)) : ((ts.map S).map (·.length)).sum ≤ (List.intercalate [13, 10] ts).length := by
  induction ts with
  | nil => simp
  | cons t r ih =>
    cases r with
    | nil => simp [List.intercalate, S_len]
    | cons u r =>
      have : List.intercalate [13, 10] (t :: u :: r) = t ++ [13, 10] ++ List.intercalate [13, 10] (u :: r) := by simp [List.intercalate, List.intersperse]
      rw [this]
      simp only [List.map_cons, List.sum_cons, List.length_append, S_len] at ih ⊢
      omega

set_option maxHeartbeats 4000000 in
theorem f_strC (hK : cx.K = hd.heap_1 P) (hC : cx.hC = 252) {l : List Pr} {n : Nat} {Post : V → Store → Prop} (e : st[n]? = some (.live (prs l))) (hl : l.length ≤ 1000) (hz : (headT l).length ≤ 20000) (hp : ∀ p ∈ l, Good p) (h : Post (.d (.str (S (headT l)))) st) :
    tcall cx (d + 1) (.ext (.ref 228)) [.hdr (.c n)] [] st Post := by
  refine tcall_def (cx := cx) (f := 228) (names := ["self"]) (ex := []) (exV := []) (ho := by rw [hK]; rfl) (hcd := by rw [hK]; rfl) (hbind := binds1 fun v => rfl) (hex := fun _ _ => .nil) (hco := rfl) (hgen := rfl) (hk := rfl) (hnames := by decide +kernel) (hnn := by decide +kernel) (hnd := by decide +kernel) fun L => ?_
  refine tb_cons (ts_ret (te_meth (by rfl) (te_str ⟨.builtin "str.join", _, rfl, tgm_str (fun hg => GM.join hg), ?_⟩)))
  refine te_bin (te_compC (cl := []) (fr := []) (f := fmtD) (te_hdr (hcls hK hC) (te_name rfl ⟨_, rfl, handed_c, n, prs l, rfl, e, by unfold prs; rw [List.length_map]; exact Nat.le_trans hl (by decide), fun x hx => ?_, ?_⟩)) (compOk0 (by decide +kernel)))
  · obtain ⟨p, hp', rfl⟩ := List.mem_map.mp hx
    have G := hp p hp'
    exact ⟨["kv"], [_], .name, by decide +kernel, by kernel_rfl, fun C st => te_bin (te_str (te_name rfl (tbin_fmt (by decide +kernel) (by rw [S_len]; exact Nat.le_trans G.n1 (by decide)) (by rw [S_len]; exact Nat.le_trans G.v1 (by decide)) ⟨rfl, rfl⟩)))⟩
  · rw [fmt_eq]
    refine te_list (by rfl) (te_str (te_str ⟨[.str "", .str ""], rfl, by decide, ?_⟩))
    have e0 : txs (l.map fun (p : Pr) => S (rowOf p)) ++ [PyData.str "", PyData.str ""] = txs ((l.map rowOf ++ [[], []]).map S) := by
      simp only [txs, List.map_append, List.map_map]
      rfl
    refine tbin_addL (by unfold txs; rw [List.length_map, List.length_map]; exact Nat.le_trans (Nat.add_le_add_right hl _) (by decide)) ?_
    rw [e0]
    refine tcall_join ?_ ?_
    · refine joinOk_of_weight ?_ (by decide)
      have := sum_inter (l.map rowOf ++ [[], []])
      rw [head_inter] at this
      simp only [List.length_map, List.length_append, List.length_cons, List.length_nil] at this ⊢
      omega
    · refine ⟨_, rfl, ?_⟩
      have e1 : ("\r\n" : PySem.Str) = S [13, 10] := by decide +kernel
      rw [e1, join_list, head_inter, List.take_length]
      exact h
theorem f_strHC (hK : cx.K = hd.heap_1 P) (hC : cx.hC = 252) {l : List Pr} {n : Nat} {Post : V → Store → Prop} (e : st[n]? = some (.live (prs l))) (hl : l.length ≤ 1000) (hz : (headT l).length ≤ 20000) (hp : ∀ p ∈ l, Good p) (h : Post (.d (.str (S (headT l)))) st) :
    tcall cx (d + 2) (.ext (.type "str")) [.hdr (.c n)] [] st Post :=
  tcall_strH (by rw [hK, hC]; kernel_rfl) (by rw [hK]; kernel_rfl) (f_strC hK hC e hl hz hp ⟨_, rfl, h⟩)
end Mine

-- K4
namespace Mine
open PySem PySem.W PySem.Calls PyProof.Rows

variable {cx : Cx} {d : Nat} {env : Env} {ρ : Vars} {st : Store} {pos : Pos} {P : Params}

theorem binds3 {fd : FuncData} {n m q : PySem.Str} (h : ∀ v w u, bindArgs fd ⟨[v, w, u], []⟩ = pure [(n, v), (m, w), (q, u)]) : Binds cx fd 3 [] [n, m, q] [] := by
  intro s vals ks K hl hk
  obtain ⟨v, w, u, rfl⟩ : ∃ v w u, vals = [v, w, u] := by
    cases vals with
    | nil => cases hl
    | cons v l => obtain ⟨w, u, rfl⟩ := two_of (Nat.succ.inj hl); exact ⟨v, w, u, rfl⟩
  obtain rfl : ks = [] := by simpa using hk
  exact BindsTo.of_eq (h v w u)

theorem st_len {n : Nat} {c : Cell} (e : st[n]? = some c) : n < st.length := (List.getElem?_eq_some_iff.mp e).1
theorem st_set {n : Nat} {c c' : Cell} (e : st[n]? = some c) : (st.set n c')[n]? = some c' := List.getElem?_set_self (st_len e)
theorem st_take {n : Nat} {c : Cell} : (st.set n c).take st.length = st.set n c := by
  have h := List.take_length (l := st.set n c)
  rwa [List.length_set] at h
theorem prs_app (l : List Pr) (p : Pr) : prs l ++ [prD p] = prs (l ++ [p]) := by unfold prs; rw [List.map_append]; rfl
theorem prs_len (l : List Pr) : (prs l).length = l.length := List.length_map ..
noncomputable def delL (x : List Nat) (l : List Pr) : List Pr := l.filter fun p => !decide (lw p.1 = x)
noncomputable def delD (x : List Nat) : PyData → Option PyData
  | .tuple [.str a, b] => if Txt.lower a = S x then none else some (.tuple [.str a, b])
  | y => some y
theorem del_eq (x : List Nat) : ∀ l : List Pr, (∀ p ∈ l, Good p) → (prs l).filterMap (delD x) = prs (delL x l)
  | [], _ => rfl
  | p :: l, h => by
    have G := h p (.head _)
    have ih := del_eq x l fun q hq => h q (.tail _ hq)
    have e1 : prs (p :: l) = prD p :: prs l := rfl
    have e2 : delD x (prD p) = if lwS p.1 = S x then none else some (prD p) := by show (if Txt.lower (S p.1) = S x then none else some (prD p)) = _; rw [G.n3]
    rw [e1, List.filterMap_cons, e2, ih]
    unfold delL
    rw [List.filter_cons]
    by_cases q : lw p.1 = x
    · rw [if_pos (show lwS p.1 = S x from congrArg S q), if_neg (by simp [q])]
    · rw [if_neg (fun z : lwS p.1 = S x => q (S_inj z)), if_pos (by simp [q])]
      rfl

set_option maxHeartbeats 4000000 in
theorem f_delC (hK : cx.K = hd.heap_1 P) (hC : cx.hC = 252) {l : List Pr} {x y : List Nat} {n : Nat} {Post : V → Store → Prop} (e : st[n]? = some (.live (prs l))) (hl : ∀ p ∈ l, Good p) (hz : l.length ≤ 1000) (hx : x.length ≤ 100) (hlow : Txt.lower (S x) = S y) (hlen : y.length ≤ 100) (hctl : ∀ c ∈ y, isCtl c = false)
    (h : Post (.d .none) (st.set n (.live (prs (delL y l))))) :
    tcall cx (d + 2) (.ext (.ref 170)) [.hdr (.c n), .d (.str (S x))] [] st Post := by
  have H := hcls hK hC
  refine tcall_def (cx := cx) (f := 170) (names := ["self", "name"]) (ex := []) (exV := []) (ho := by rw [hK]; rfl) (hcd := by rw [hK]; rfl)
    (hbind := binds2 fun v w => rfl) (hex := fun _ _ => .nil) (hco := rfl) (hgen := rfl) (hk := rfl) (hnames := by decide +kernel) (hnn := by decide +kernel) (hnd := by decide +kernel) fun L => ?_
  refine tb_cons (ts_assign (te_conv hK hC rfl (by rfl) ?_))
  refine te_meth (by rfl) (te_name rfl ⟨_, _, rfl, tgm_str (fun q => GM.lower q), lower_ hx hlow ⟨_, rfl, hlen, hctl, ?_⟩⟩)
  refine tb_cons (ts_setAll (te_compCI (cl := [("name", L + 1)]) (rest := []) (fr := [("name", .d (.str (S y)))]) (f := delD y) (te_hdr H (te_name rfl ⟨_, rfl, handed_c, n, prs l, rfl, e, ?_, ?_, ?_⟩)) ⟨rfl, rfl, by decide, by decide, List.Perm.refl _, fun n c e => e, ?_⟩))
  · rw [prs_len]; exact Nat.le_trans hz (by decide)
  · intro z hzm
    obtain ⟨p, hp, rfl⟩ := List.mem_map.mp hzm
    have G := hl p hp
    refine ⟨["kv"], [_], .name, by decide +kernel, by kernel_rfl, fun C st => ?_⟩
    show tt _ _ _ _ _ _ _
    refine tt_cmp (te_meth (by rfl) (te_sub (te_name rfl (te_int (tsub_tuple (j := 0) (x := .str (S p.1)) (by decide) (by decide) rfl rfl ⟨_, _, rfl, tgm_str (fun q => GM.lower q), lower_ G.n1 G.n3 (te_name rfl (tcmp_neS (ttr_bool ?_)))⟩)))))
    have e2 : delD y (prD p) = if lwS p.1 = S y then none else some (prD p) := by show (if Txt.lower (S p.1) = S y then none else some (prD p)) = _; rw [G.n3]
    refine ⟨rfl, fun hh => e2.trans (if_pos ?_), fun hh => ⟨prD p, e2.trans (if_neg ?_), te_name rfl ⟨rfl, rfl⟩⟩⟩
    · have := bne_eq_false_iff_eq.mp hh; exact this
    · have := bne_iff_ne.mp hh; exact this
  · rw [del_eq y l hl]
    refine te_hdr H (te_name rfl ⟨_, rfl, handed_c, n, prs l, prs (delL y l), rfl, rfl, e, ?_, ?_, tb_nil ⟨_, rfl, ?_⟩⟩)
    · rw [prs_len]; exact Nat.le_trans hz (by decide)
    · rw [prs_len]; exact Nat.le_trans (List.length_filter_le _ _) (Nat.le_trans hz (by decide))
    · rw [st_take]; exact h
  · intro z v ez
    rw [List.lookup_cons] at ez
    cases hz' : z == "name" with
    | false => rw [hz'] at ez; cases ez
    | true =>
      rw [hz'] at ez
      cases ez
      obtain rfl := eq_of_beq hz'
      exact ⟨rfl, .inl rfl, .inl rfl, rfl⟩
end Mine

-- K5
namespace Mine
open PySem PySem.W PySem.Calls PyProof.Rows

variable {cx : Cx} {d : Nat} {env : Env} {ρ : Vars} {st : Store} {pos : Pos} {P : Params}

theorem delL_len (y : List Nat) (l : List Pr) : (delL y l).length ≤ l.length := List.length_filter_le _ _
theorem two_le {a b : PyData} : [a, b].length ≤ sizeLine := show 2 ≤ sizeLine by decide
theorem tcmp_isNone {Post : V → Store → Prop} {v : V} {b : Bool} (hv : ∀ g al val, VRep cx g al val v → (val == Value.none) = b) (h : Post (.d (.bool b)) st) : tcmp cx d .Is v (.d .none) st Post := by
  intro A o al s va vb R ok v1 v2
  cases v2
  refine Op.ofVal ok fun Q E k => is_none_gen ?_
  rw [hv _ _ _ v1]
  exact k _ s.heap s.toks (.d (.bool b)) (fun _ _ e => e) (.bool _) h

set_option maxHeartbeats 4000000 in
theorem f_setC (hK : cx.K = hd.heap_1 P) (hC : cx.hC = 252) {l : List Pr} {p : Pr} {n : Nat} {Post : V → Store → Prop} (e : st[n]? = some (.live (prs l))) (hl : ∀ p ∈ l, Good p) (hz : l.length ≤ 1000) (G : Good p)
    (h : Post (.d .none) (st.set n (.live (prs (delL (lw p.1) l ++ [p]))))) :
    tcall cx (d + 3) (.ext (.ref 165)) [.hdr (.c n), .d (.str (S p.1)), .d (.str (S p.2))] [] st Post := by
  have H := hcls hK hC
  refine tcall_def (cx := cx) (f := 165) (names := ["self", "name", "val"]) (ex := []) (exV := []) (ho := by rw [hK]; rfl) (hcd := by rw [hK]; rfl)
    (hbind := binds3 fun v w u => rfl) (hex := fun _ _ => .nil) (hco := rfl) (hgen := rfl) (hk := rfl) (hnames := by decide +kernel) (hnn := by decide +kernel) (hnd := by decide +kernel) fun L => ?_
  refine tb_cons (ts_delOwn (f := 170) (by rw [hK, hC]; kernel_rfl) (by rw [hK, hC]; kernel_rfl) (by rw [hK]; kernel_rfl) (te_name rfl (te_name rfl ⟨_, rfl, ?_⟩)))
  refine f_delC hK hC e hl hz G.n1 G.n3 (by rw [lw_len]; exact G.n1) G.n4 ?_
  have e' : (st.set n (.live (prs (delL (lw p.1) l))))[n]? = some (.live (prs (delL (lw p.1) l))) := st_set e
  refine tb_cons (ts_expr (te_meth (by rfl) (te_hdr H (te_name rfl ⟨_, rfl, handed_c, .builtin "list.append", [.c n], rfl, tgm_cell e' PySem.F.slot_list_append PySem.F.type_list_append, ?_⟩))))
  refine te_tuple (by rfl) (te_conv hK hC rfl (by rfl) (te_name rfl ⟨_, rfl, G.n1, G.n2, ?_⟩))
  refine te_conv hK hC rfl (by rfl) (te_name rfl ⟨_, rfl, G.v1, G.v2, ⟨[_, _], rfl, two_le, ?_⟩⟩)
  refine tcall_append e' (by rw [prs_len]; exact Nat.le_trans (delL_len _ _) (Nat.le_trans hz (by decide))) (tb_nil ⟨_, rfl, ?_⟩)
  show Post _ (List.take _ _)
  rw [List.set_set, st_take]
  have := prs_app (delL (lw p.1) l) p
  rw [← this] at h
  exact h

set_option maxHeartbeats 4000000 in
theorem f_defC (hK : cx.K = hd.heap_1 P) (hC : cx.hC = 252) {l : List Pr} {p : Pr} {n : Nat} {Post : V → Store → Prop} (e : st[n]? = some (.live (prs l))) (hl : ∀ p ∈ l, Good p) (hz : l.length ≤ 1000) (G : Good p)
    (h1 : getL (lw p.1) l = .none → Post (.d (.str (S p.2))) (st.set n (.live (prs (l ++ [p]))))) (h2 : ∀ v, getL (lw p.1) l = .str v → Post (.d (.str v)) st) :
    tcall cx (d + 3) (.ext (.ref 242)) [.hdr (.c n), .d (.str (S p.1)), .d (.str (S p.2))] [] st Post := by
  have H := hcls hK hC
  refine tcall_def (cx := cx) (f := 242) (names := ["self", "name", "value"]) (ex := []) (exV := []) (ho := by rw [hK]; rfl) (hcd := by rw [hK]; rfl)
    (hbind := binds3 fun v w u => rfl) (hex := fun _ _ => .nil) (hco := rfl) (hgen := rfl) (hk := rfl) (hnames := by decide +kernel) (hnn := by decide +kernel) (hnd := by decide +kernel) fun L => ?_
  refine tb_cons (ts_assign (te_meth (by rfl) (te_name rfl ⟨.ref 199, [.hdr (.c n)], by rw [hK]; kernel_rfl, tgm_hdr H (by rw [hK, hC]; kernel_rfl) (by rw [hK]; kernel_rfl) (by decide +kernel), te_name rfl ?_⟩)))
  refine f_getC hK hC e hl G.n1 G.n3 (by rw [lw_len]; exact G.n1) G.n4 ?_
  have hcase : getL (lw p.1) l = .none ∨ ∃ v, getL (lw p.1) l = .str v := by
    clear h1 h2 e hz
    induction l with
    | nil => exact .inl rfl
    | cons q l ih =>
      show (if lw q.1 = lw p.1 then PyData.str (S q.2) else getL (lw p.1) l) = _ ∨ ∃ v, (if lw q.1 = lw p.1 then PyData.str (S q.2) else getL (lw p.1) l) = _
      by_cases hq : lw q.1 = lw p.1
      · rw [if_pos hq]; exact .inr ⟨_, rfl⟩
      · rw [if_neg hq]; exact ih fun q hq => hl q (.tail _ hq)
  rcases hcase with hg | ⟨v, hg⟩
  · rw [hg]
    refine tb_cons (ts_if (tt_cmp (te_name rfl (te_none (tcmp_isNone (b := true) (fun g al val h => by rw [rd_none h]; rfl) (ttr_bool ⟨fun _ => ?_, (fun hh => nomatch hh)⟩))))))
    refine tb_cons (ts_expr (te_meth (by rfl) (te_hdr H (te_name rfl ⟨_, rfl, handed_c, .builtin "list.append", [.c n], rfl, tgm_cell e PySem.F.slot_list_append PySem.F.type_list_append, ?_⟩))))
    refine te_tuple (by rfl) (te_conv hK hC rfl (by rfl) (te_name rfl ⟨_, rfl, G.n1, G.n2, ?_⟩))
    refine te_conv hK hC rfl (by rfl) (te_name rfl ⟨_, rfl, G.v1, G.v2, ⟨[_, _], rfl, two_le, ?_⟩⟩)
    refine tcall_append e (by rw [prs_len]; exact Nat.le_trans hz (by decide)) (tb_cons (ts_ret (te_name rfl ⟨_, rfl, ?_⟩)))
    show Post _ (List.take _ _)
    rw [st_take]
    have := prs_app l p
    rw [← this] at h1
    exact h1 hg
  · rw [hg]
    refine tb_cons (ts_if (tt_cmp (te_name rfl (te_none (tcmp_isNone (b := false) (fun g al val h => by obtain ⟨t, rfl⟩ := rd_str h; rfl) (ttr_bool ⟨(fun hh => nomatch hh), fun _ => ?_⟩))))))
    refine tb_cons (ts_ret (te_name rfl ⟨_, rfl, ?_⟩))
    show Post _ (List.take _ _)
    rw [List.take_length]
    exact h2 v hg
end Mine

-- K6
namespace Mine
open PySem PySem.W PySem.Calls PyProof.Rows

variable {cx : Cx} {d : Nat} {env : Env} {ρ : Vars} {st : Store} {pos : Pos} {P : Params}

theorem last_get (c : Cell) : (st ++ [c])[st.length]? = some c := by simp
theorem last_set (c c' : Cell) : (st ++ [c]).set st.length c' = st ++ [c'] := by simp
theorem left_set {n : Nat} {c c' k : Cell} (e : st[n]? = some c) : ((st ++ [k]).set n c').take st.length = st.set n c' := by
  rw [List.set_append_left _ _ (st_len e)]
  have h := List.take_left' (l₁ := st.set n c') (l₂ := [k]) (List.length_set ..)
  exact h
theorem join1 (x y : List Nat) : Txt.join (S x) [S y] = S y := by
  have := join_list x [y]
  exact this.trans (by simp [List.intercalate])

set_option maxHeartbeats 4000000 in
theorem f_addC (hK : cx.K = hd.heap_1 P) (hC : cx.hC = 252) {l : List Pr} {p : Pr} {n : Nat} {Post : V → Store → Prop} (e : st[n]? = some (.live (prs l))) (hz : l.length ≤ 1000) (G : Good p)
    (h : Post (.d .none) (st.set n (.live (prs (l ++ [p]))))) :
    tcall cx (d + 2) (.ext (.ref 249)) [.hdr (.c n), .d (.str (S p.1)), .d (.str (S p.2))] [] st Post := by
  have H := hcls hK hC
  refine tcallX_plain (tcallX_defG (cx := cx) (f := 249) (names := ["self", "_name", "_value", "_params"]) (exV := [.emp false]) (ho := by rw [hK]; rfl) (hcd := by rw [hK]; rfl)
    (hbind := bindsKw fun v w u => rfl) (hco := rfl) (hgen := rfl) (hk := rfl) (hnames := by decide +kernel) (hnn := by decide +kernel) (hnd := by decide +kernel) fun L => tsemM_of ?_)
  show tb _ _ _ _ _ _ _
  refine tb_cons (ts_assign (te_listC (by rfl) ⟨[], rfl, by decide, ?_⟩))
  have e1 : (st ++ [.live []])[n]? = some (.live (prs l)) := getElem?_append_some e
  refine tb_cons (ts_if (tt_cmp (te_name rfl (te_none (tcmp_isNotNone (b := false) (fun g al val h => by obtain ⟨t, rfl⟩ := rd_str h; rfl) (ttr_bool ⟨fun _ => ?_, (fun hh => nomatch hh)⟩))))))
  refine tb_cons (ts_assign (te_conv hK hC rfl (by rfl) (te_name rfl ⟨_, rfl, G.v1, G.v2, ?_⟩)))
  refine tb_cons (ts_expr (te_meth (by rfl) (te_name rfl ⟨.builtin "list.append", [.c st.length], rfl, tgm_cell (last_get (.live [])) PySem.F.slot_list_append PySem.F.type_list_append, te_name rfl (tcall_append (last_get (.live [])) (by decide) ?_)⟩)))
  rw [last_set]
  refine tb_nil ?_
  refine tb_cons (ts_forEmp (te_meth (by rfl) (te_name rfl ⟨_, _, rfl, tgm_items, tcall_items ⟨rfl, ?_⟩⟩)))
  have e2 : (st ++ [.live [PyData.str (S p.2)]])[n]? = some (.live (prs l)) := getElem?_append_some e
  refine tb_cons (ts_expr (te_meth (by rfl) (te_hdr H (te_name rfl ⟨_, rfl, handed_c, .builtin "list.append", [.c n], rfl, tgm_cell e2 PySem.F.slot_list_append PySem.F.type_list_append, ?_⟩))))
  refine te_tuple (by rfl) (te_conv hK hC rfl (by rfl) (te_name rfl ⟨_, rfl, G.n1, G.n2, ?_⟩))
  refine te_meth (by rfl) (te_str ⟨.builtin "str.join", _, rfl, tgm_str (fun hg => GM.join hg), te_name rfl (tcall_joinC (ts := [S p.2]) (last_get (.live [PyData.str (S p.2)])) (joinOk_of_weight (by
    have := G.v1
    show ([S p.2].map (·.length)).sum + _ ≤ _
    simp only [List.map_cons, List.map_nil, List.sum_cons, List.sum_nil, S_len, List.length_cons, List.length_nil]
    omega) (by decide)) ⟨[_, _], rfl, two_le, ?_⟩)⟩)
  refine tcall_append e2 (by rw [prs_len]; exact Nat.le_trans hz (by decide)) (tb_nil ⟨_, rfl, ?_⟩)
  rw [left_set e]
  have e3 : Txt.join ("; " : PySem.Str) [S p.2] = S p.2 := join1 [59, 32] p.2
  rw [e3]
  have := prs_app l p
  rw [← this] at h
  exact h
end Mine

-- Z1
namespace Mine
open PySem PySem.W PySem.Calls PyProof.Rows

variable {cx : Cx} {d : Nat} {env : Env} {ρ : Vars} {st : Store} {pos : Pos} {P : Params}

structure Hd where
  nm : List Nat
  vl : List Nat
  b57 : Option (List Nat)
  b29 : R229
noncomputable def Hd.pr (h : Hd) : Pr := (h.nm, h.vl)
noncomputable def b57D : Option (List Nat) → PyData
  | none => .tuple [.str "reply", .none]
  | some t => .tuple [.str "name", .str (S t)]
noncomputable def b29D : R229 → PyData
  | .reply => .tuple [.str "reply", .none]
  | .proto => .tuple [.str "proto", .none]
  | .number => .tuple [.str "number", .str ""]
  | .port n => .tuple [.str "port", .int n]
noncomputable def hdD (h : Hd) : PyData := .tuple [.str (S h.nm), .str (S h.vl), b57D h.b57, b29D h.b29]

section
variable {Post : V → Store → Prop}
theorem tbin_modN {m : Nat} (k : Nat) (hk : (k : Int) ≠ 0) (h : Post (.d (.int ((m % k : Nat) : Int))) st) : tbin cx d .Mod (.d (.int (m : Int))) (.d (.int (k : Int))) st Post :=
  tbin_mod hk (by rw [Int.fmod_eq_emod_of_nonneg _ (Int.natCast_nonneg k)]; exact h)
theorem tbin_divN {m : Nat} (k : Nat) (hk : (k : Int) ≠ 0) (hp : (k : Int).natAbs < 1073741824) (h : Post (.d (.int ((m / k : Nat) : Int))) st) : tbin cx d .FloorDiv (.d (.int (m : Int))) (.d (.int (k : Int))) st Post :=
  tbin_div hk (PyProof.noPylong_small hp) (by rw [Int.fdiv_eq_ediv_of_nonneg _ (Int.natCast_nonneg k)]; exact h)
theorem tbin_catS {x y : List Nat} (hx : x.length + y.length ≤ 100000) (h : Post (.d (.str (S (x ++ y)))) st) : tbin cx d .Add (.d (.str (S x))) (.d (.str (S y))) st Post :=
  tbin_cat (by rw [S_len, S_len]; exact Nat.le_trans hx (by decide)) (by rw [S_app]; exact h)
theorem tinp_catS {x y : List Nat} (hx : x.length + y.length ≤ 100000) (h : Post (.d (.str (S (x ++ y)))) st) : tinp cx d .Add (.d (.str (S x))) (.d (.str (S y))) st Post :=
  tinp_cat (by rw [S_len, S_len]; exact Nat.le_trans hx (by decide)) (by rw [S_app]; exact h)
theorem tbin_repN {c n : Nat} (hn : n ≤ 1000) (h : Post (.d (.str (S (List.replicate n c)))) st) : tbin cx d .Mult (.d (.int (n : Int))) (.d (.str (S [c]))) st Post :=
  tbin_repR (by omega) (by omega) h
theorem tsub_nth {value slice : Expr} {xs : List PyData} {j : Nat} {x : PyData} (hx : xs[j]? = some x) (hz : j < 1000) (h : Post (.d x) st) : tsub cx d value slice (.d (.list xs)) (.d (.int (j : Int))) st Post :=
  tsub_list (by omega) (by omega) (idx_ok (List.getElem?_eq_some_iff.mp hx).1) hx h
theorem big3 {j : Nat} (h : j < 3) : j < 1000 := Nat.lt_trans h (by decide)
theorem big4 {j : Nat} (h : j < 4) : j < 1000 := Nat.lt_trans h (by decide)
theorem big5 {j : Nat} (h : j < 5) : j < 1000 := Nat.lt_trans h (by decide)
theorem nat_beq {a : Nat} (b : Nat) (h : ((a : Int) == (b : Int)) = true) : a = b := Int.ofNat.inj (eq_of_beq h)
theorem half_le {r : Nat} (h : r < 4) : r / 2 ≤ 1000 := Nat.le_trans (Nat.div_le_self _ _) (Nat.le_trans (Nat.le_of_lt h) (by decide))
theorem rep_le {r : Nat} (h : r < 4) : (List.replicate (r / 2) 34).length ≤ 1 := by rw [List.length_replicate]; omega
theorem len4 {a b j : Nat} (h1 : a ≤ 4 * j) (h2 : j < 3) (h3 : b ≤ 1) : a + b ≤ 100000 := by omega
end
theorem drop_next {α : Type} {l r : List α} {x : α} {j : Nat} (e : l.drop j = x :: r) : l[j]? = some x ∧ r = l.drop (j + 1) := by
  constructor
  · rw [← List.head?_drop, e]; rfl
  · rw [← List.tail_drop, e]; rfl
theorem nth_getD {α : Type} {l : List α} {j : Nat} (a : α) (h : j < l.length) : l[j]? = some (l.getD j a) := by
  rw [List.getD_eq_getElem?_getD, List.getElem?_eq_getElem h]; rfl

noncomputable def aA (j : Nat) : Nat := if j = 0 then 97 else 65
noncomputable def sgn (q : Nat) : Nat := if q < 92 then q + 35 else q + 36
noncomputable def tolds : List (Nat × List Nat) → List Nat
  | [] => []
  | (r, s) :: l => List.replicate (r / 2) 34 ++ if r % 2 = 1 then [] else s ++ tolds l
noncomputable def mk57 (a r0 r1 r2 c : Nat) : Hd :=
  { nm := [50, 53, 55, 32, 34] ++ List.replicate r0 34 ++ [a] ++ List.replicate r1 34
    vl := List.replicate r2 34 ++ [c]
    b57 := some (tolds [(r0, [a]), (r1, [58, 32]), (r2, [c])])
    b29 := .reply }
noncomputable def hd57 (w : Nat) : Hd := mk57 (aA (w % 2)) (w / 2 % 3) (w / 6 % 3) (w / 18 % 4) (sgn (w / 72))

theorem te_mono {e : Expr} {P' P : V → Store → Prop} (h : te cx d env ρ st e P) (hp : ∀ v st', P v st' → P' v st') : te cx d env ρ st e P' :=
  fun A hx al s R a Q E k => h A hx al s R a Q E fun r st' val al' h' tk' n v p => k r st' val al' h' tk' n v (hp r st' p)

theorem ts_mono {x : Stmt} {P' P : Fl → Vars → Store → Prop} (h : ts cx d env ρ st x P) (hp : ∀ fl ρ' st', P fl ρ' st' → P' fl ρ' st') : ts cx d env ρ st x P' :=
  fun A hx al s Q E R a k => h A hx al s Q E R a fun fl ρ' st' f al' h' tk' n v p => k fl ρ' st' f al' h' tk' n v (hp fl ρ' st' p)

structure R57 (a r0 r1 r2 c : Nat) (acc : List Nat) (ρ : Vars) : Prop where
  runs : ρ.lookup ("runs" : PySem.Str) = some (.d (.list [.int (r0 : Int), .int (r1 : Int), .int (r2 : Int)]))
  signs : ρ.lookup ("signs" : PySem.Str) = some (.d (.list [.str (S [a]), .str (S [58, 32]), .str (S [c])]))
  letter : ρ.lookup ("letter" : PySem.Str) = some (.d (.str (S [a])))
  told : ρ.lookup ("told" : PySem.Str) = some (.d (.str (S acc)))
theorem R57.next {a r0 r1 r2 c : Nat} {acc acc' : List Nat} (h : R57 a r0 r1 r2 c acc ρ) : R57 a r0 r1 r2 c acc' (upd ρ "told" (.d (.str (S acc')))) :=
  ⟨(upd_get ..).trans h.runs, (upd_get ..).trans h.signs, (upd_get ..).trans h.letter, upd_get ..⟩
theorem R57.step {a r0 r1 r2 c : Nat} {acc : List Nat} {v : V} (h : R57 a r0 r1 r2 c acc ρ) : R57 a r0 r1 r2 c acc (upd ρ "i" v) :=
  ⟨(upd_get ..).trans h.runs, (upd_get ..).trans h.signs, (upd_get ..).trans h.letter, (upd_get ..).trans h.told⟩

theorem s57 : ("257 \"" : PySem.Str) = S [50, 53, 55, 32, 34] := by decide +kernel
theorem squot : ("\"" : PySem.Str) = S [34] := by decide +kernel
theorem aA_at : ∀ j, j < 2 → ([97, 65] : List Nat)[j]? = some (aA j)
  | 0, _ => rfl
  | 1, _ => rfl
theorem i3_at {j : Nat} {x : PyData} {r : List PyData} (e : ([.int 0, .int 1, .int 2] : List PyData).drop j = x :: r) : j < 3 ∧ x = .int (j : Int) ∧ r = ([.int 0, .int 1, .int 2] : List PyData).drop (j + 1) := by
  obtain ⟨h1, h2⟩ := drop_next e
  refine ⟨(List.getElem?_eq_some_iff.mp h1).1, ?_, h2⟩
  match j, h1 with
  | 0, h1 => cases h1; rfl
  | 1, h1 => cases h1; rfl
  | 2, h1 => cases h1; rfl

set_option maxHeartbeats 4000000 in
theorem f_law257 (hK : cx.K = hd.heap_1 P) {w : Nat} {Post : V → Store → Prop} (hw : w < 1000000) (h : Post (.d (hdD (hd57 w))) st) :
    tcall cx (d + 1) (.ext (.ref 263)) [.d (.int (w : Int))] [] st Post := by
  refine tcall_def (cx := cx) (f := 263) (names := ["w"]) (ex := []) (exV := []) (ho := by rw [hK]; rfl) (hcd := by rw [hK]; rfl) (hbind := binds1 fun v => rfl) (hex := fun _ _ => .nil) (hco := rfl) (hgen := rfl) (hk := rfl) (hnames := by decide +kernel) (hnn := by decide +kernel) (hnd := by decide +kernel) fun L => ?_
  have l2 : w % 2 < 2 := Nat.mod_lt _ (by decide)
  refine tb_cons (ts_assign (te_sub (te_strS (l := [97, 65]) (by decide +kernel) (te_bin (te_name rfl (te_int (tbin_modN 2 (by decide) (tsub_at (by decide) (aA_at _ l2) ?_))))))))
  refine tb_cons (ts_assign (te_list (by rfl) ?_))
  refine te_bin (te_bin (te_name rfl (te_int (tbin_divN 2 (by decide) (by decide) (te_int (tbin_modN 3 (by decide) ?_))))))
  refine te_bin (te_bin (te_name rfl (te_int (tbin_divN 6 (by decide) (by decide) (te_int (tbin_modN 3 (by decide) ?_))))))
  refine te_bin (te_bin (te_name rfl (te_int (tbin_divN 18 (by decide) (by decide) (te_int (tbin_modN 4 (by decide) ⟨[_, _, _], rfl, by show 3 ≤ sizeLine; decide, ?_⟩))))))
  refine tb_cons (ts_assign (te_bin (te_name rfl (te_int (tbin_divN 72 (by decide) (by decide) ?_)))))
  have hq : w / 72 < 20000 := by omega
  have hh : Post (.d (hdD (mk57 (aA (w % 2)) (w / 2 % 3) (w / 6 % 3) (w / 18 % 4) (sgn (w / 72))))) st := h
  have b0 : w / 2 % 3 < 3 := Nat.mod_lt _ (by decide)
  have b1 : w / 6 % 3 < 3 := Nat.mod_lt _ (by decide)
  have b2 : w / 18 % 4 < 4 := Nat.mod_lt _ (by decide)
  clear h
  generalize aA (w % 2) = a at hh ⊢
  generalize w / 2 % 3 = r0 at hh b0 ⊢
  generalize w / 6 % 3 = r1 at hh b1 ⊢
  generalize w / 18 % 4 = r2 at hh b2 ⊢
  generalize w / 72 = q at hh hq ⊢
  have hc : ∀ {i : Int}, i = ((sgn q : Nat) : Int) → ∀ {Q : V → Store → Prop} {st : Store}, Q (.d (.str (S [sgn q]))) st → tcall cx d (.ext (.builtin "chr")) [.d (.int i)] [] st Q := by
    rintro i rfl Q st hQ
    refine tcall_chr (Int.natCast_nonneg _) ?_ hQ
    unfold sgn
    split <;> omega
  refine tb_cons (ts_assign (te_list (by rfl) (te_name rfl (te_strS (l := [58, 32]) (by decide +kernel) ?_))))
  refine te_call (by rfl) (te_builtin (v := .builtin "chr") (by rw [hK]; kernel_rfl) (by kernel_rfl) ⟨_, rfl, rfl, ?_⟩)
  refine te_mono (P := fun v st' => v = .d (.int ((sgn q : Nat) : Int)) ∧ st' = st) ?_ ?_
  · refine te_ifexp (tt_cmp (te_name rfl (te_int (tcmp_ltI (ttr_bool ⟨fun hh' => ?_, fun hh' => ?_⟩)))))
    · have := of_decide_eq_true hh'
      exact te_bin (te_name rfl (te_int (tbin_add ⟨by unfold sgn; rw [if_pos (by omega)]; rfl, rfl⟩)))
    · have := of_decide_eq_false hh'
      exact te_bin (te_name rfl (te_int (tbin_add ⟨by unfold sgn; rw [if_neg (by omega)]; rfl, rfl⟩)))
  rintro v st' ⟨rfl, rfl⟩
  refine hc rfl ⟨[_, _, _], rfl, by show 3 ≤ sizeLine; decide, ?_⟩
  generalize sgn q = c at hh hc ⊢
  refine tb_cons (ts_assign (te_strS (l := []) (by decide +kernel) ?_))
  refine tb_cons (ts_mono (P := fun fl ρ₂ st₂ => fl = .next ∧ R57 a r0 r1 r2 c (tolds [(r0, [a]), (r1, [58, 32]), (r2, [c])]) ρ₂ ∧ st₂ = st') (ts_forR ?_) ?_)
  · refine te_call (by rfl) (te_builtin (v := .type "range") (by rw [hK]; kernel_rfl) (by kernel_rfl) ⟨_, rfl, rfl, te_int (tcall_range1 ?_)⟩)
    refine ⟨0, 3, rfl, by decide, by decide, by decide, by decide, fun rest ρ' st₂ => ∃ j acc, rest = ([.int 0, .int 1, .int 2] : List PyData).drop j ∧ j ≤ 3 ∧ R57 a r0 r1 r2 c acc ρ' ∧ acc.length ≤ 4 * j ∧ acc ++ tolds ([(r0, [a]), (r1, [58, 32]), (r2, [c])].drop j) = tolds [(r0, [a]), (r1, [58, 32]), (r2, [c])] ∧ st₂ = st', ?_, ?_, ?_⟩
    · exact ⟨0, [], rfl, by decide, ⟨rfl, rfl, rfl, rfl⟩, Nat.le_refl _, rfl, rfl⟩
    · rintro x rest ρ' st₂ ⟨j, acc, e, hj, R, hz, ht, rfl⟩
      obtain ⟨hj3, rfl, rfl⟩ := i3_at e.symm
      refine tasg_name ?_
      have R₁ := R.step (v := .d (.int (j : Int)))
      obtain ⟨r, s, e1, e2, e3, hr, hs⟩ : ∃ (r : Nat) (s : List Nat), ([.int (r0 : Int), .int (r1 : Int), .int (r2 : Int)] : List PyData)[j]? = some (.int (r : Int)) ∧ ([.str (S [a]), .str (S [58, 32]), .str (S [c])] : List PyData)[j]? = some (.str (S s)) ∧
          ([(r0, [a]), (r1, [58, 32]), (r2, [c])] : List (Nat × List Nat)).drop j = (r, s) :: ([(r0, [a]), (r1, [58, 32]), (r2, [c])] : List (Nat × List Nat)).drop (j + 1) ∧ r < 4 ∧ s.length ≤ 2 := by
        match j, hj3 with
        | 0, _ => exact ⟨r0, [a], rfl, rfl, rfl, by omega, Nat.le_of_ble_eq_true rfl⟩
        | 1, _ => exact ⟨r1, [58, 32], rfl, rfl, rfl, by omega, by decide⟩
        | 2, _ => exact ⟨r2, [c], rfl, rfl, rfl, by omega, Nat.le_of_ble_eq_true rfl⟩
      rw [e3] at ht
      have hji : (upd ρ' "i" (.d (.int (j : Int)))).lookup ("i" : PySem.Str) = some (.d (.int (j : Int))) := upd_get ..
      have hlr : (List.replicate (r / 2) 34).length ≤ 1 := rep_le hr
      refine tb_cons (ts_aug R₁.told (te_bin (te_bin (te_sub (te_name R₁.runs (te_name hji (tsub_nth e1 (big3 hj3) (te_int (tbin_divN 2 (by decide) (by decide) (te_strS squot (tbin_repN (half_le hr) (tinp_catS (len4 hz hj3 hlr) ?_))))))))))))
      have R₂ := R₁.next (acc' := acc ++ List.replicate (r / 2) 34)
      have hji₂ : (upd (upd ρ' "i" (.d (.int (j : Int)))) "told" (.d (.str (S (acc ++ List.replicate (r / 2) 34))))).lookup ("i" : PySem.Str) = some (.d (.int (j : Int))) := (upd_get ..).trans hji
      have ht' : tolds ((r, s) :: ([(r0, [a]), (r1, [58, 32]), (r2, [c])] : List (Nat × List Nat)).drop (j + 1)) = List.replicate (r / 2) 34 ++ if r % 2 = 1 then [] else s ++ tolds (([(r0, [a]), (r1, [58, 32]), (r2, [c])] : List (Nat × List Nat)).drop (j + 1)) := rfl
      refine tb_cons (ts_if (tt_cmp (te_bin (te_sub (te_name R₂.runs (te_name hji₂ (tsub_nth e1 (big3 hj3) (te_int (tbin_modN 2 (by decide) (te_int (tcmp_eqI (ttr_bool ⟨fun hh' => ?_, fun hh' => ?_⟩))))))))))))
      · have h1 : r % 2 = 1 := by exact nat_beq 1 hh'
        rw [ht', if_pos h1, List.append_nil] at ht
        refine tb_cons (ts_break ?_)
        rw [← ht]
        exact ⟨rfl, R₂, rfl⟩
      · have h1 : ¬ r % 2 = 1 := fun q => by rw [q] at hh'; exact nomatch hh'
        rw [ht', if_neg h1, ← List.append_assoc, ← List.append_assoc] at ht
        refine tb_nil (tb_cons (ts_aug R₂.told (te_sub (te_name R₂.signs (te_name hji₂ (tsub_nth e2 (big3 hj3) (tinp_catS ?_ (tb_nil ?_))))))))
        · rw [List.length_append]; omega
        · exact ⟨j + 1, _, rfl, hj3, R₂.next, by rw [List.length_append, List.length_append]; omega, ht, rfl⟩
    · rintro ρ' st₂ ⟨j, acc, e, hj, R, hz, ht, rfl⟩
      have hj' : j = 3 := by
        have := congrArg List.length e
        rw [List.length_drop] at this
        simp at this
        omega
      subst hj'
      have ht' : acc ++ [] = tolds [(r0, [a]), (r1, [58, 32]), (r2, [c])] := ht
      rw [List.append_nil] at ht'
      rw [← ht']
      exact ⟨rfl, R, rfl⟩
  rintro fl ρ₂ st₂ ⟨rfl, R, rfl⟩
  have q0 : (List.replicate r0 34).length ≤ 3 := by rw [List.length_replicate]; omega
  have q1 : (List.replicate r1 34).length ≤ 3 := by rw [List.length_replicate]; omega
  have q2 : (List.replicate r2 34).length ≤ 3 := by rw [List.length_replicate]; omega
  have q3 : ([50, 53, 55, 32, 34] ++ List.replicate r0 34).length ≤ 8 := by rw [List.length_append]; exact Nat.add_le_add (Nat.le_refl 5) q0
  refine tb_cons (ts_assign ?_)
  refine te_bin (te_bin (te_bin (te_strS s57 ?_)))
  refine te_bin (te_sub (te_name R.runs (te_int (tsub_nth (j := 0) rfl (by decide) (te_strS squot (tbin_repN (by omega) (tbin_catS ?_ ?_)))))))
  · exact Nat.le_trans (Nat.add_le_add (Nat.le_refl 5) q0) (by decide)
  refine te_name R.letter (tbin_catS (Nat.le_trans (Nat.add_le_add q3 (Nat.le_refl 1)) (by decide)) ?_)
  refine te_bin (te_sub (te_name R.runs (te_int (tsub_nth (j := 1) rfl (by decide) (te_strS squot (tbin_repN (by omega) (tbin_catS ?_ ?_)))))))
  · rw [List.length_append]; exact Nat.le_trans (Nat.add_le_add (Nat.add_le_add q3 (Nat.le_refl 1)) q1) (by decide)
  have e1 : ∀ {x : PySem.Str} {v : V} {u : V}, ρ₂.lookup x = some u → (x == ("name" : PySem.Str)) = false → (upd ρ₂ "name" v).lookup x = some u := fun h1 h2 => by rw [upd_get, h2]; exact h1
  refine tb_cons (ts_ret (te_tuple (by rfl) (te_name (upd_get ..) ?_)))
  refine te_bin (te_bin (te_sub (te_name (e1 R.runs rfl) (te_int (tsub_nth (j := 2) rfl (by decide) (te_strS squot (tbin_repN (by omega) ?_)))))))
  refine te_sub (te_name (e1 R.signs rfl) (te_int (tsub_nth (j := 2) rfl (by decide) (tbin_catS (Nat.le_trans (Nat.add_le_add q2 (Nat.le_refl 1)) (by decide)) ?_))))
  refine te_tuple (by rfl) (te_str (te_name (e1 R.told rfl) ⟨[_, _], rfl, two_le, ?_⟩))
  refine te_tuple (by rfl) (te_str (te_none ⟨[_, _], rfl, two_le, ⟨[_, _, _, _], rfl, by show 4 ≤ sizeLine; decide, ⟨_, rfl, ?_⟩⟩⟩))
  rw [List.take_length]
  exact hh
end Mine

-- Z2
namespace Mine
open PySem PySem.W PySem.Calls PyProof.Rows

variable {cx : Cx} {d : Nat} {env : Env} {ρ : Vars} {st : Store} {pos : Pos} {P : Params}

noncomputable def nth (l : List Nat) (k : Nat) : Nat := l.getD k 0
noncomputable def ownN (k : Nat) : Nat := nth [1, 1, 2, 2, 3] k
noncomputable def mrkI (k : Nat) : Nat := nth [0, 1, 0, 2, 0] k
noncomputable def mrk (k : Nat) : Nat := nth [58, 124, 32] (mrkI k)
noncomputable def cntN (own u s : Nat) : Nat := nth [4 - own, 4 - own, 1 + u % 4, 5 - own] s
noncomputable abbrev Fd := List Nat × Option Int
noncomputable def optD : Option Int → PyData
  | none => .none
  | some i => .int i
noncomputable def fdD (f : Fd) : PyData := .tuple [.str (S f.1), optD f.2]
noncomputable def filler (j : Nat) : Fd := ([([], none), ([120], none), ([52], some 4), ([34], none)] : List Fd).getD j ([], none)
noncomputable def ender (j : Nat) : Fd := ([([120], none), ([], none), ([45, 55], some (-7)), ([49, 95, 48], some 10)] : List Fd).getD j ([], none)
noncomputable def lastFd (u : Nat) : Fd := if u % 4 = 0 then ender (u / 4 % 4) else (dec (u : Int), some (u : Int))
noncomputable def fieldsL (u c : Nat) : List Fd := (List.range (c - 1)).map (fun i => filler ((u + i) % 4)) ++ [lastFd u]
noncomputable def told29 (own c e : Nat) (fs : List Fd) : R229 :=
  if (e < 2 ∧ own + c = 4) ∨ (e = 2 ∧ own + c = 5 ∧ (fs.getD (c - 1) ([], none)).1 = []) then
    match (fs.getD (3 - own) ([], none)).2 with
    | none => .number
    | some n => .port n
  else .proto
noncomputable def preN (k : Nat) : List Nat := ([[], [124], [58], [32], [58, 58]] : List (List Nat)).getD k []
noncomputable def endN (m e : Nat) : List Nat := ([[m, 41], [m, 41], [41], [m]] : List (List Nat)).getD e []
noncomputable def mk29 (a k c e u : Nat) : Hd :=
  { nm := [50, 50, 57, 32] ++ [a] ++ [40] ++ preN k
    vl := List.intercalate [mrk k] ((fieldsL u c).map (·.1)) ++ endN (mrk k) e
    b57 := none
    b29 := told29 (ownN k) c e (fieldsL u c) }
noncomputable def hd29 (w : Nat) : Hd := mk29 (aA (w % 2)) (w / 2 % 5) (cntN (ownN (w / 2 % 5)) (w / 160) (w / 10 % 4)) (w / 40 % 4) (w / 160)

theorem own_at : ∀ k, k < 5 → ([.int 1, .int 1, .int 2, .int 2, .int 3] : List PyData)[k]? = some (.int (ownN k : Int))
  | 0, _ => rfl
  | 1, _ => rfl
  | 2, _ => rfl
  | 3, _ => rfl
  | 4, _ => rfl
theorem mrkI_at : ∀ k, k < 5 → ([.int 0, .int 1, .int 0, .int 2, .int 0] : List PyData)[k]? = some (.int (mrkI k : Int))
  | 0, _ => rfl
  | 1, _ => rfl
  | 2, _ => rfl
  | 3, _ => rfl
  | 4, _ => rfl
theorem mrk_at : ∀ k, k < 5 → ([58, 124, 32] : List Nat)[mrkI k]? = some (mrk k) := by decide +kernel
theorem own_le : ∀ k, k < 5 → 1 ≤ ownN k ∧ ownN k ≤ 3 := by decide +kernel
theorem cnt_at (own u : Nat) : ∀ s, s < 4 → ([.int ((4 - own : Nat) : Int), .int ((4 - own : Nat) : Int), .int ((1 + u % 4 : Nat) : Int), .int ((5 - own : Nat) : Int)] : List PyData)[s]? = some (.int (cntN own u s : Int))
  | 0, _ => rfl
  | 1, _ => rfl
  | 2, _ => rfl
  | 3, _ => rfl
theorem cnt_le {own : Nat} (u : Nat) (h1 : 1 ≤ own) (h3 : own ≤ 3) : ∀ s, s < 4 → 1 ≤ cntN own u s ∧ cntN own u s ≤ 4
  | 0, _ => by show 1 ≤ 4 - own ∧ 4 - own ≤ 4; omega
  | 1, _ => by show 1 ≤ 4 - own ∧ 4 - own ≤ 4; omega
  | 2, _ => by show 1 ≤ 1 + u % 4 ∧ 1 + u % 4 ≤ 4; omega
  | 3, _ => by show 1 ≤ 5 - own ∧ 5 - own ≤ 4; omega
theorem fill1_at : ∀ j, j < 4 → ([.str (S []), .str (S [120]), .str (S [52]), .str (S [34])] : List PyData)[j]? = some (.str (S (filler j).1))
  | 0, _ => rfl
  | 1, _ => rfl
  | 2, _ => rfl
  | 3, _ => rfl
theorem fill2_at : ∀ j, j < 4 → ([.none, .none, .int 4, .none] : List PyData)[j]? = some (optD (filler j).2)
  | 0, _ => rfl
  | 1, _ => rfl
  | 2, _ => rfl
  | 3, _ => rfl
theorem end1_at : ∀ j, j < 4 → ([.str (S [120]), .str (S []), .str (S [45, 55]), .str (S [49, 95, 48])] : List PyData)[j]? = some (.str (S (ender j).1))
  | 0, _ => rfl
  | 1, _ => rfl
  | 2, _ => rfl
  | 3, _ => rfl
theorem end2_at : ∀ j, j < 4 → ([.none, .none, .int (-7), .int 10] : List PyData)[j]? = some (optD (ender j).2)
  | 0, _ => rfl
  | 1, _ => rfl
  | 2, _ => rfl
  | 3, _ => rfl
theorem pre_at : ∀ k, k < 5 → ([.str (S []), .str (S [124]), .str (S [58]), .str (S [32]), .str (S [58, 58])] : List PyData)[k]? = some (.str (S (preN k)))
  | 0, _ => rfl
  | 1, _ => rfl
  | 2, _ => rfl
  | 3, _ => rfl
  | 4, _ => rfl
theorem ends_at (m : Nat) : ∀ e, e < 4 → ([.str (S [m, 41]), .str (S [m, 41]), .str (S [41]), .str (S [m])] : List PyData)[e]? = some (.str (S (endN m e)))
  | 0, _ => rfl
  | 1, _ => rfl
  | 2, _ => rfl
  | 3, _ => rfl
theorem pre_len : ∀ k, k < 5 → (preN k).length ≤ 2 := by decide +kernel
theorem four_le {a b c d : PyData} : [a, b, c, d].length ≤ sizeLine := show 4 ≤ sizeLine by decide
theorem five_le {a b c d e : PyData} : [a, b, c, d, e].length ≤ sizeLine := show 5 ≤ sizeLine by decide
theorem tun_neg {i : Int} {Post : V → Store → Prop} (h : Post (.d (.int (-i))) st) : tun cx d .USub (.d (.int i)) st Post := by
  intro A o al s va R ok v
  obtain ⟨t, rfl⟩ := rd_int v
  exact Op.ofVal ok fun Q E k => PyProof.Rows.neg_int (k _ s.heap _ (.d (.int (-i))) (fun _ _ e => e) (.int _ _) h)
theorem tbin_addN {m k : Nat} {Post : V → Store → Prop} (h : Post (.d (.int ((m + k : Nat) : Int))) st) : tbin cx d .Add (.d (.int (m : Int))) (.d (.int (k : Int))) st Post :=
  tbin_add (by rw [← Int.natCast_add]; exact h)
theorem tbin_subN {m : Nat} (k : Nat) {Post : V → Store → Prop} (hk : k ≤ m) (h : Post (.d (.int ((m - k : Nat) : Int))) st) : tbin cx d .Sub (.d (.int (m : Int))) (.d (.int (k : Int))) st Post :=
  tbin_sub (by rw [← Int.natCast_sub hk]; exact h)
noncomputable def fillD (u : Nat) : PyData → PyData
  | .int i => fdD (filler ((u + i.toNat) % 4))
  | x => x
theorem fill_map (u c : Nat) : (rngI 0 (c : Int)).map (fillD u) = ((List.range c).map fun i => filler ((u + i) % 4)).map fdD := by
  unfold rngI
  rw [List.map_map, List.map_map, Int.sub_zero, Int.toNat_natCast]
  refine List.map_congr_left fun i _ => ?_
  show fillD u (.int (0 + (i : Int))) = _
  rw [Int.zero_add]; rfl

theorem upd_other {x y : PySem.Str} {v : V} {a : Option V} (hl : ρ.lookup y = a) (hne : (y == x) = false) : (upd ρ x v).lookup y = a := by rw [upd_get, hne]; exact hl
structure R29 (w k own m u c e n : Nat) (t : PyData) (ρ : Vars) : Prop where
  w : ρ.lookup ("w" : PySem.Str) = some (.d (.int (w : Int)))
  k : ρ.lookup ("k" : PySem.Str) = some (.d (.int (k : Int)))
  own : ρ.lookup ("own" : PySem.Str) = some (.d (.int (own : Int)))
  mark : ρ.lookup ("mark" : PySem.Str) = some (.d (.str (S [m])))
  u : ρ.lookup ("u" : PySem.Str) = some (.d (.int (u : Int)))
  count : ρ.lookup ("count" : PySem.Str) = some (.d (.int (c : Int)))
  ends : ρ.lookup ("ends" : PySem.Str) = some (.d (.int (e : Int)))
  fields : ρ.lookup ("fields" : PySem.Str) = some (.c n)
  told : ρ.lookup ("told" : PySem.Str) = some (.d t)
theorem R29.other {w k own m u c e n : Nat} {t : PyData} {x : PySem.Str} {v : V} (h : R29 w k own m u c e n t ρ) (hx : ((["w", "k", "own", "mark", "u", "count", "ends", "fields", "told"] : List PySem.Str).all fun y => !(y == x)) = true) : R29 w k own m u c e n t (upd ρ x v) := by
  have q : ∀ y ∈ (["w", "k", "own", "mark", "u", "count", "ends", "fields", "told"] : List PySem.Str), (y == x) = false := fun y hy => by simpa using List.all_eq_true.mp hx y hy
  exact ⟨upd_other h.w (q _ (.head _)), upd_other h.k (q _ (.tail _ (.head _))), upd_other h.own (q _ (.tail _ (.tail _ (.head _)))), upd_other h.mark (q _ (.tail _ (.tail _ (.tail _ (.head _))))), upd_other h.u (q _ (.tail _ (.tail _ (.tail _ (.tail _ (.head _)))))), upd_other h.count (q _ (.tail _ (.tail _ (.tail _ (.tail _ (.tail _ (.head _))))))),
    upd_other h.ends (q _ (.tail _ (.tail _ (.tail _ (.tail _ (.tail _ (.tail _ (.head _)))))))), upd_other h.fields (q _ (.tail _ (.tail _ (.tail _ (.tail _ (.tail _ (.tail _ (.tail _ (.head _))))))))), upd_other h.told (q _ (.tail _ (.tail _ (.tail _ (.tail _ (.tail _ (.tail _ (.tail _ (.tail _ (.head _))))))))))⟩
theorem R29.now {w k own m u c e n : Nat} {t t' : PyData} (h : R29 w k own m u c e n t ρ) : R29 w k own m u c e n t' (upd ρ "told" (.d t')) :=
  ⟨upd_other h.w rfl, upd_other h.k rfl, upd_other h.own rfl, upd_other h.mark rfl, upd_other h.u rfl, upd_other h.count rfl, upd_other h.ends rfl, upd_other h.fields rfl, upd_get ..⟩
theorem tb_facts {p : Vars → Prop} {xs : List Stmt} {Post : Fl → Vars → Store → Prop} (hp : p ρ) (h : ∀ ρ', p ρ' → tb cx d env ρ' st xs Post) : tb cx d env ρ st xs Post := h ρ hp

noncomputable def tq (cx : Cx) (d : Nat) (env : Env) (ρ : Vars) (st : Store) (e : Expr) (b : Bool) : Prop := tt cx d env ρ st e fun b' st' => b' = b ∧ st' = st
theorem tt_mono {e : Expr} {P P' : Bool → Store → Prop} (h : tt cx d env ρ st e P) (hp : ∀ b st', P b st' → P' b st') : tt cx d env ρ st e P' :=
  fun A hx al s Q E R a k => h A hx al s Q E R a fun b st' al' h' tk' n p => k b st' al' h' tk' n (hp b st' p)
theorem tq_use {e : Expr} {b : Bool} {P : Bool → Store → Prop} (h : tq cx d env ρ st e b) (hp : P b st) : tt cx d env ρ st e P := tt_mono h fun _ _ ⟨h1, h2⟩ => h1 ▸ h2 ▸ hp
theorem tq_and {x : Expr} {r : List Expr} {b c : Bool} (hx : tq cx d env ρ st x b) (hr : tq cx d env ρ st (.BoolOp .And r pos) c) : tq cx d env ρ st (.BoolOp .And (x :: r) pos) (b && c) :=
  tt_and (tq_use hx ⟨fun e => by subst e; exact hr, fun e => by subst e; exact ⟨rfl, rfl⟩⟩)
theorem tq_or {x : Expr} {r : List Expr} {b c : Bool} (hx : tq cx d env ρ st x b) (hr : tq cx d env ρ st (.BoolOp .Or r pos) c) : tq cx d env ρ st (.BoolOp .Or (x :: r) pos) (b || c) :=
  tt_or (tq_use hx ⟨fun e => by subst e; exact ⟨rfl, rfl⟩, fun e => by subst e; exact hr⟩)
theorem tq_and0 : tq cx d env ρ st (.BoolOp .And [] pos) true := tt_and_nil ⟨rfl, rfl⟩
theorem tq_or0 : tq cx d env ρ st (.BoolOp .Or [] pos) false := tt_or_nil ⟨rfl, rfl⟩

theorem str_lo (u : Nat) : (-1000000000 : Int) < (u : Int) := by omega
theorem str_hi {u : Nat} (h : u < 10000) : (u : Int) < 1000000000 := by omega
theorem pred_lt {c : Nat} (h : 1 ≤ c) : c - 1 < c := Nat.sub_lt h (by decide)
theorem idx_lo {n : Nat} : -(2 ^ 63 : Int) ≤ (n : Int) := by omega
theorem idx_hi {n : Nat} (h : n < 1000) : (n : Int) < 2 ^ 63 := by omega
theorem cond_of {e own c : Nat} {x y : List Nat} (hb : ((decide ((e : Int) < 2) && ((((own + c : Nat) : Int) == 4) && true)) || ((((e : Int) == 2) && ((((own + c : Nat) : Int) == 5) && ((S x == S y) && true))) || false)) = true) : (e < 2 ∧ own + c = 4) ∨ (e = 2 ∧ own + c = 5 ∧ x = y) := by
  simp only [Bool.or_eq_true, Bool.and_eq_true, decide_eq_true_eq, beq_iff_eq, Bool.and_true, Bool.or_false] at hb
  rcases hb with ⟨h1, h2⟩ | ⟨h1, h2, h3⟩
  · exact .inl ⟨by omega, by omega⟩
  · exact .inr ⟨by omega, by omega, S_inj h3⟩
theorem cond_to {e own c : Nat} {x y : List Nat} (hq : (e < 2 ∧ own + c = 4) ∨ (e = 2 ∧ own + c = 5 ∧ x = y)) : ((decide ((e : Int) < 2) && ((((own + c : Nat) : Int) == 4) && true)) || ((((e : Int) == 2) && ((((own + c : Nat) : Int) == 5) && ((S x == S y) && true))) || false)) = true := by
  simp only [Bool.or_eq_true, Bool.and_eq_true, decide_eq_true_eq, beq_iff_eq, Bool.and_true, Bool.or_false]
  rcases hq with ⟨h1, h2⟩ | ⟨h1, h2, h3⟩
  · exact .inl ⟨by omega, by omega⟩
  · exact .inr ⟨by omega, by omega, congrArg S h3⟩
theorem idx_lt {e own c : Nat} {p : Prop} (h1 : 1 ≤ own) (h2 : 1 ≤ c) (h : (e < 2 ∧ own + c = 4) ∨ (e = 2 ∧ own + c = 5 ∧ p)) : 3 - own < c := by rcases h with ⟨_, q⟩ | ⟨_, q, _⟩ <;> omega

theorem filler_len (j : Nat) : (filler j).1.length ≤ 10 := by
  unfold filler
  match j with
  | 0 => decide
  | 1 => decide
  | 2 => decide
  | 3 => decide
  | j + 4 => exact Nat.zero_le _
theorem ender_len (j : Nat) : (ender j).1.length ≤ 10 := by
  unfold ender
  match j with
  | 0 => decide
  | 1 => decide
  | 2 => decide
  | 3 => decide
  | j + 4 => exact Nat.zero_le _
theorem fields_len {u : Nat} (hu : u < 10000) (c : Nat) : ∀ f ∈ fieldsL u c, f.1.length ≤ 10 := by
  intro f hf
  rcases List.mem_append.mp hf with hf | hf
  · obtain ⟨i, _, rfl⟩ := List.mem_map.mp hf
    exact filler_len _
  · rw [List.mem_singleton] at hf
    subst hf
    unfold lastFd
    split
    · exact ender_len _
    · exact dec_len (Int.natCast_nonneg _) (by omega)
theorem fields_count (u : Nat) {c : Nat} (h : 1 ≤ c) : (fieldsL u c).length = c := by
  unfold fieldsL
  rw [List.length_append, List.length_map, List.length_range]
  exact Nat.sub_add_cancel h
theorem sum_le {l : List Nat} {b : Nat} (h : ∀ x ∈ l, x ≤ b) : l.sum ≤ l.length * b := by
  induction l with
  | nil => exact Nat.zero_le _
  | cons x l ih =>
    rw [List.sum_cons, List.length_cons, Nat.add_mul, Nat.one_mul, Nat.add_comm]
    exact Nat.add_le_add (ih fun y hy => h y (.tail _ hy)) (h x (.head _))
theorem inter_bound (m : Nat) : ∀ ts : List (List Nat), (List.intercalate [m] ts).length ≤ (ts.map (·.length)).sum + ts.length
  | [] => Nat.le_refl 0
  | [t] => by simp [List.intercalate]
  | t :: u :: r => by
    have : List.intercalate [m] (t :: u :: r) = t ++ m :: List.intercalate [m] (u :: r) := by simp [List.intercalate, List.intersperse]
    have ih := inter_bound m (u :: r)
    rw [this]
    simp only [List.length_append, List.length_cons, List.map_cons, List.sum_cons] at ih ⊢
    omega
noncomputable def oneD : PyData → PyData
  | .tuple (a :: _) => a
  | x => x
theorem one_map (fs : List Fd) : (fs.map fdD).map oneD = txs ((fs.map (·.1)).map S) := by
  unfold txs
  rw [List.map_map, List.map_map, List.map_map]
  rfl
theorem seq_last {n : Nat} (h : 0 < n) : seqIndex? (-1) n = some (n - 1) := by
  unfold seqIndex?
  simp
  omega

set_option maxHeartbeats 4000000 in
theorem f_law229 (hK : cx.K = hd.heap_1 P) {w : Nat} {Post : V → Store → Prop} (hw : w < 1000000) (h : Post (.d (hdD (hd29 w))) st) :
    tcall cx (d + 1) (.ext (.ref 268)) [.d (.int (w : Int))] [] st Post := by
  refine tcall_def (cx := cx) (f := 268) (names := ["w"]) (ex := []) (exV := []) (ho := by rw [hK]; rfl) (hcd := by rw [hK]; rfl) (hbind := binds1 fun v => rfl) (hex := fun _ _ => .nil) (hco := rfl) (hgen := rfl) (hk := rfl) (hnames := by decide +kernel) (hnn := by decide +kernel) (hnd := by decide +kernel) fun L => ?_
  have bk : w / 2 % 5 < 5 := Nat.mod_lt _ (by decide)
  have bs : w / 10 % 4 < 4 := Nat.mod_lt _ (by decide)
  have be : w / 40 % 4 < 4 := Nat.mod_lt _ (by decide)
  have bu : w / 160 < 10000 := by omega
  have l2 : w % 2 < 2 := Nat.mod_lt _ (by decide)
  refine tb_cons (ts_assign (te_bin (te_bin (te_name rfl (te_int (tbin_divN 2 (by decide) (by decide) (te_int (tbin_modN 5 (by decide) ?_))))))))
  have hh : Post (.d (hdD (mk29 (aA (w % 2)) (w / 2 % 5) (cntN (ownN (w / 2 % 5)) (w / 160) (w / 10 % 4)) (w / 40 % 4) (w / 160)))) st := h
  clear h
  generalize w / 2 % 5 = k at hh bk ⊢
  have ho := own_le k bk
  refine tb_cons (ts_assign (te_sub (te_list (by rfl) (te_int (te_int (te_int (te_int (te_int ⟨_, rfl, five_le, te_name rfl (tsub_nth (own_at k bk) (big5 bk) ?_)⟩))))))))
  refine tb_cons (ts_assign (te_sub (te_strS (l := [58, 124, 32]) (by decide +kernel) (te_sub (te_list (by rfl) (te_int (te_int (te_int (te_int (te_int ⟨_, rfl, five_le, te_name rfl (tsub_nth (mrkI_at k bk) (big5 bk) (tsub_at (by decide) (mrk_at k bk) ?_))⟩))))))))))
  refine tb_cons (ts_assign (te_bin (te_name rfl (te_int (tbin_divN 160 (by decide) (by decide) ?_)))))
  generalize w / 160 = u at hh bu ⊢
  refine tb_cons (ts_assign (te_sub (te_list (by rfl) ?_)))
  refine te_bin (te_int (te_name rfl (tbin_subN (m := 4) _ (Nat.le_succ_of_le ho.2) ?_)))
  refine te_bin (te_int (te_name rfl (tbin_subN (m := 4) _ (Nat.le_succ_of_le ho.2) ?_)))
  refine te_bin (te_int (te_bin (te_name rfl (te_int (tbin_modN 4 (by decide) (tbin_addN (m := 1) ?_))))))
  refine te_bin (te_int (te_name rfl (tbin_subN (m := 5) _ (Nat.le_succ_of_le (Nat.le_succ_of_le ho.2)) ⟨_, rfl, four_le, ?_⟩)))
  refine te_bin (te_bin (te_name rfl (te_int (tbin_divN 10 (by decide) (by decide) (te_int (tbin_modN 4 (by decide) (tsub_nth (cnt_at _ u _ bs) (big4 bs) ?_)))))))
  have hcn := cnt_le u ho.1 ho.2 _ bs
  generalize cntN (ownN k) u (w / 10 % 4) = c at hh hcn ⊢
  refine tb_cons (ts_assign (te_bin (te_bin (te_name rfl (te_int (tbin_divN 40 (by decide) (by decide) (te_int (tbin_modN 4 (by decide) ?_))))))))
  generalize w / 40 % 4 = e at hh be ⊢
  refine tb_cons (ts_assignCompR (rest := []) (cl := [("u", L + 1)]) (fr := [("u", .d (.int (u : Int)))]) (f := fillD u) ?_ ⟨rfl, rfl, by decide, by decide, List.Perm.refl _, fun n c e => e, ?_⟩ rfl)
  rotate_left
  · intro z v ez
    rw [List.lookup_cons] at ez
    cases hz' : z == "u" with
    | false => rw [hz'] at ez; cases ez
    | true =>
      rw [hz'] at ez
      cases ez
      obtain rfl := eq_of_beq hz'
      exact ⟨rfl, .inl rfl, .inl rfl, rfl⟩
  refine te_call (by rfl) (te_builtin (v := .type "range") (by rw [hK]; kernel_rfl) (by kernel_rfl) ⟨_, rfl, rfl, te_bin (te_name rfl (te_int (tbin_subN 1 hcn.1 (tcall_range1 ?_))))⟩)
  refine ⟨0, _, rfl, by decide, by decide, by omega, by omega, ?_, fun x hx => ?_, ?_⟩
  · unfold rngI; rw [List.length_map, List.length_range]; omega
  · obtain ⟨i, hi, rfl⟩ := List.mem_map.mp hx
    rw [List.mem_range] at hi
    rw [Int.zero_add]
    have bm : (u + i) % 4 < 4 := Nat.mod_lt _ (by decide)
    refine ⟨["i"], [_], .name, by decide, by kernel_rfl, fun C st => ?_⟩
    refine te_tuple (by rfl) (te_sub (te_list (by rfl) (te_strS (l := []) (by decide +kernel) (te_strS (l := [120]) (by decide +kernel) (te_strS (l := [52]) (by decide +kernel) (te_strS squot ⟨_, rfl, four_le, ?_⟩))))))
    refine te_bin (te_bin (te_name rfl (te_name rfl (tbin_addN (te_int (tbin_modN 4 (by decide) (tsub_nth (fill1_at _ bm) (big4 bm) ?_)))))))
    refine te_sub (te_list (by rfl) (te_none (te_none (te_int (te_none ⟨_, rfl, four_le, ?_⟩)))))
    refine te_bin (te_bin (te_name rfl (te_name rfl (tbin_addN (te_int (tbin_modN 4 (by decide) (tsub_nth (fill2_at _ bm) (big4 bm) ?_)))))))
    exact ⟨[_, _], rfl, two_le, rfl, rfl⟩
  rw [fill_map]
  have bm4 : u / 4 % 4 < 4 := Nat.mod_lt _ (by decide)
  refine tb_facts (p := fun ρ => ∀ t, R29 w k (ownN k) (mrk k) u c e st.length t (upd ρ "told" (.d t))) (fun t => ⟨rfl, rfl, rfl, rfl, rfl, rfl, rfl, rfl, rfl⟩) fun ρ₁ R₁ => ?_
  have lu : ρ₁.lookup ("u" : PySem.Str) = some (.d (.int (u : Int))) := (upd_other (v := .d .none) rfl rfl).symm.trans (R₁ .none).u
  have lf : ρ₁.lookup ("fields" : PySem.Str) = some (.c st.length) := (upd_other (v := .d .none) rfl rfl).symm.trans (R₁ .none).fields
  have lz : (List.map fdD (List.map (fun i => filler ((u + i) % 4)) (List.range (c - 1)))).length ≤ 100000 := by rw [List.length_map, List.length_map, List.length_range]; omega
  refine tb_cons (ts_mono (P := fun fl ρ' st' => fl = .next ∧ ρ' = ρ₁ ∧ st' = st ++ [.live ((fieldsL u c).map fdD)]) (ts_if (tt_cmp (te_bin (te_name lu (te_int (tbin_modN 4 (by decide) (te_int (tcmp_eqI (ttr_bool ⟨fun hb => ?_, fun hb => ?_⟩))))))))) ?_)
  · have hb' : u % 4 = 0 := by exact nat_beq 0 hb
    refine tb_cons (ts_expr (te_meth (by rfl) (te_name lf ⟨.builtin "list.append", [.c st.length], rfl, tgm_cell (last_get _) PySem.F.slot_list_append PySem.F.type_list_append, ?_⟩)))
    refine te_tuple (by rfl) (te_sub (te_list (by rfl) (te_strS (l := [120]) (by decide +kernel) (te_strS (l := []) (by decide +kernel) (te_strS (l := [45, 55]) (by decide +kernel) (te_strS (l := [49, 95, 48]) (by decide +kernel) ⟨_, rfl, four_le, ?_⟩))))))
    refine te_bin (te_bin (te_name lu (te_int (tbin_divN 4 (by decide) (by decide) (te_int (tbin_modN 4 (by decide) (tsub_nth (end1_at _ bm4) (big4 bm4) ?_)))))))
    refine te_sub (te_list (by rfl) (te_none (te_none (te_un (te_int (tun_neg (te_int ⟨_, rfl, four_le, ?_⟩)))))))
    refine te_bin (te_bin (te_name lu (te_int (tbin_divN 4 (by decide) (by decide) (te_int (tbin_modN 4 (by decide) (tsub_nth (end2_at _ bm4) (big4 bm4) ⟨[_, _], rfl, two_le, ?_⟩)))))))
    refine tcall_append (last_get _) lz (tb_nil ⟨rfl, rfl, ?_⟩)
    rw [last_set]
    unfold fieldsL lastFd
    rw [if_pos hb', List.map_append]
    rfl
  · have hb' : ¬ u % 4 = 0 := fun q => by rw [q] at hb; exact nomatch hb
    refine tb_cons (ts_expr (te_meth (by rfl) (te_name lf ⟨.builtin "list.append", [.c st.length], rfl, tgm_cell (last_get _) PySem.F.slot_list_append PySem.F.type_list_append, ?_⟩)))
    refine te_tuple (by rfl) (te_call (by rfl) (te_builtin (v := .type "str") (by rw [hK]; kernel_rfl) (by kernel_rfl) ⟨_, rfl, rfl, te_name lu (tcall_str (str_lo u) (str_hi bu) (te_name lu ⟨[_, _], rfl, two_le, ?_⟩))⟩))
    refine tcall_append (last_get _) lz (tb_nil ⟨rfl, rfl, ?_⟩)
    rw [last_set]
    unfold fieldsL lastFd
    rw [if_neg hb', List.map_append]
    rfl
  rintro fl ρ' st' ⟨rfl, rfl, rfl⟩
  have hfc := fields_count u hcn.1
  have hfl := fields_len bu c
  have hh' : Post (.d (.tuple [.str (S ([50, 50, 57, 32] ++ [aA (w % 2)] ++ [40] ++ preN k)), .str (S (List.intercalate [mrk k] ((fieldsL u c).map (·.1)) ++ endN (mrk k) e)), .tuple [.str "reply", .none], b29D (told29 (ownN k) c e (fieldsL u c))])) st := hh
  clear hh lz lf
  generalize hfs : fieldsL u c = fs at hfc hfl hh' ⊢
  have hml : (fs.map fdD).length = c := by rw [List.length_map]; exact hfc
  have fget : ∀ {j : Nat}, j < c → (fs.map fdD)[j]? = some (fdD (fs.getD j ([], none))) := fun {j} hj => by rw [List.getElem?_map, nth_getD ([], none) (by rw [hfc]; exact hj)]; rfl
  refine tb_cons (ts_assign (te_tuple (by rfl) (te_str (te_none ⟨[_, _], rfl, two_le, ?_⟩))))
  have R := R₁ (.tuple [.str "proto", .none])
  refine tb_cons (ts_mono (P := fun fl ρ' st' => fl = .next ∧ R29 w k (ownN k) (mrk k) u c e st.length (b29D (told29 (ownN k) c e fs)) ρ' ∧ st' = st ++ [.live (fs.map fdD)]) (ts_if (tq_use (tq_or (tq_and ?_ (tq_and ?_ tq_and0)) (tq_or (tq_and ?_ (tq_and ?_ (tq_and ?_ tq_and0))) tq_or0)) (b := ((decide ((e : Int) < 2) && ((((ownN k + c : Nat) : Int) == 4) && true)) || ((((e : Int) == 2) && ((((ownN k + c : Nat) : Int) == 5) && ((S (fs.getD (c - 1) ([], none)).1 == S []) && true))) || false))) ⟨fun hb => ?_, fun hb => ?_⟩)) ?_)
  · exact tt_cmp (te_name R.ends (te_int (tcmp_ltI (ttr_bool ⟨rfl, rfl⟩))))
  · exact tt_cmp (te_bin (te_name R.own (te_name R.count (tbin_addN (te_int (tcmp_eqI (ttr_bool ⟨rfl, rfl⟩)))))))
  · exact tt_cmp (te_name R.ends (te_int (tcmp_eqI (ttr_bool ⟨rfl, rfl⟩))))
  · exact tt_cmp (te_bin (te_name R.own (te_name R.count (tbin_addN (te_int (tcmp_eqI (ttr_bool ⟨rfl, rfl⟩)))))))
  · refine tt_cmp (te_sub (te_sub (te_name R.fields (te_un (te_int (tun_neg (tsub_cell (last_get _) (by decide) (by decide) (j := c - 1) ?_ (fget (pred_lt hcn.1)) ?_)))))))
    · rw [hml]; exact seq_last hcn.1
    exact te_int (tsub_tuple (j := 0) (by decide) (by decide) rfl rfl (te_strS (l := []) (by decide +kernel) (tcmp_eqS (ttr_bool ⟨rfl, rfl⟩))))
  · have hcond : (e < 2 ∧ ownN k + c = 4) ∨ (e = 2 ∧ ownN k + c = 5 ∧ (fs.getD (c - 1) ([], none)).1 = []) := cond_of hb
    have hj : 3 - ownN k < c := idx_lt ho.1 hcn.1 hcond
    have et : told29 (ownN k) c e fs = match (fs.getD (3 - ownN k) ([], none)).2 with | none => .number | some n => .port n := if_pos hcond
    rw [et]
    refine tb_cons (ts_assign (te_sub (te_sub (te_name R.fields (te_bin (te_int (te_name R.own (tbin_subN (m := 3) _ ho.2 (tsub_cell (last_get _) idx_lo (idx_hi (big4 (Nat.lt_of_le_of_lt (Nat.sub_le _ _) (by decide)))) (j := 3 - ownN k) (idx_ok (by rw [hml]; exact hj)) (fget hj) ?_)))))))))
    refine te_int (tsub_tuple (j := 1) (by decide) (by decide) rfl rfl ?_)
    cases hv : (fs.getD (3 - ownN k) ([], none)).2 with
    | none =>
      refine tb_cons (ts_assign (te_ifexp (tt_cmp (te_name (upd_get ..) (te_none (tcmp_isNone (b := true) (fun g al val h => by rw [rd_none h]; rfl) (ttr_bool ⟨fun _ => ?_, (fun hh => nomatch hh)⟩)))))))
      exact te_tuple (by rfl) (te_str (te_str ⟨[_, _], rfl, two_le, tb_nil ⟨rfl, (R.other rfl).now, rfl⟩⟩))
    | some i =>
      refine tb_cons (ts_assign (te_ifexp (tt_cmp (te_name (upd_get ..) (te_none (tcmp_isNone (b := false) (fun g al val h => by obtain ⟨t, rfl⟩ := rd_int h; rfl) (ttr_bool ⟨(fun hh => nomatch hh), fun _ => ?_⟩)))))))
      exact te_tuple (by rfl) (te_str (te_name (upd_get ..) ⟨[_, _], rfl, two_le, tb_nil ⟨rfl, (R.other rfl).now, rfl⟩⟩))
  · have hcond : ¬ ((e < 2 ∧ ownN k + c = 4) ∨ (e = 2 ∧ ownN k + c = 5 ∧ (fs.getD (c - 1) ([], none)).1 = [])) := by
      intro hq
      exact absurd (hb.symm.trans (cond_to hq)) Bool.false_ne_true
    have et : told29 (ownN k) c e fs = .proto := if_neg hcond
    rw [et]
    exact tb_nil ⟨rfl, R, rfl⟩
  rintro fl ρ' st' ⟨rfl, R, rfl⟩
  have hp := pre_len k bk
  refine tb_cons (ts_assign ?_)
  refine te_bin (te_bin (te_bin (te_strS (l := [50, 50, 57, 32]) (by decide +kernel) ?_)))
  refine te_sub (te_strS (l := [97, 65]) (by decide +kernel) (te_bin (te_name R.w (te_int (tbin_modN 2 (by decide) (tsub_at (by decide) (aA_at _ l2) (tbin_catS (by show 5 ≤ 100000; decide) ?_)))))))
  refine te_strS (l := [40]) (by decide +kernel) (tbin_catS (by show 6 ≤ 100000; decide) ?_)
  refine te_sub (te_list (by rfl) (te_strS (l := []) (by decide +kernel) (te_strS (l := [124]) (by decide +kernel) (te_strS (l := [58]) (by decide +kernel) (te_strS (l := [32]) (by decide +kernel) (te_strS (l := [58, 58]) (by decide +kernel) ⟨_, rfl, five_le, te_name R.k (tsub_nth (pre_at k bk) (big5 bk) (tbin_catS ?_ ?_))⟩))))))
  · exact Nat.le_trans (Nat.add_le_add (Nat.le_refl 6) hp) (by decide)
  have R₃ : R29 w k (ownN k) (mrk k) u c e st.length (b29D (told29 (ownN k) c e fs)) (upd ρ' "name" (.d (.str (S ([50, 50, 57, 32] ++ [aA (w % 2)] ++ [40] ++ preN k))))) := R.other rfl
  have hn : (upd ρ' "name" (.d (.str (S ([50, 50, 57, 32] ++ [aA (w % 2)] ++ [40] ++ preN k))))).lookup ("name" : PySem.Str) = some (.d (.str (S ([50, 50, 57, 32] ++ [aA (w % 2)] ++ [40] ++ preN k)))) := upd_get ..
  have hsum : (((fs.map (·.1)).map (·.length)).sum) ≤ 40 := by
    have q := sum_le (l := (fs.map (·.1)).map (·.length)) (b := 10) fun x hx => by
      simp only [List.mem_map] at hx
      obtain ⟨_, ⟨f, hf, rfl⟩, rfl⟩ := hx
      exact hfl f hf
    rw [List.length_map, List.length_map, hfc] at q
    omega
  have hint : (List.intercalate [mrk k] (fs.map (·.1))).length ≤ 44 := by
    have q := inter_bound (mrk k) (fs.map (·.1))
    rw [List.length_map, hfc] at q
    omega
  refine tb_cons (ts_assign (te_bin (te_meth (by rfl) (te_name R₃.mark ⟨.builtin "str.join", _, rfl, tgm_str (fun hg => GM.join hg), ?_⟩))))
  refine te_compC (cl := []) (fr := []) (f := oneD) (te_name R₃.fields ⟨_, _, rfl, last_get _, by rw [hml]; omega, fun x hx => ?_, ?_⟩) (compOk0 (by decide +kernel))
  · obtain ⟨f, hf, rfl⟩ := List.mem_map.mp hx
    exact ⟨["one"], [_], .name, by decide, by kernel_rfl, fun C st => te_sub (te_name rfl (te_int (tsub_tuple (j := 0) (by decide) (by decide) rfl rfl ⟨rfl, rfl⟩)))⟩
  rw [one_map]
  refine tcall_join (joinOk_of_weight ?_ (by rw [S_len]; exact Nat.le_of_ble_eq_true rfl)) ?_
  · have e0 : ((fs.map (·.1)).map S).map (·.length) = (fs.map (·.1)).map (·.length) := by rw [List.map_map]; exact List.map_congr_left fun x _ => S_len x
    rw [e0, List.length_map, List.length_map, hfc]
    omega
  rw [join_list]
  refine te_sub (te_list (by rfl) (te_bin (te_name R₃.mark (te_strS (l := [41]) (by decide +kernel) (tbin_catS (by show 2 ≤ 100000; decide) ?_)))))
  refine te_bin (te_name R₃.mark (te_strS (l := [41]) (by decide +kernel) (tbin_catS (by show 2 ≤ 100000; decide) ?_)))
  refine te_strS (l := [41]) (by decide +kernel) (te_name R₃.mark ⟨_, rfl, four_le, te_name R₃.ends (tsub_nth (ends_at (mrk k) e be) (big4 be) (tbin_catS ?_ ?_))⟩)
  · have : ∀ e < 4, (endN (mrk k) e).length ≤ 2 := fun e he => match e, he with
      | 0, _ => Nat.le_refl 2
      | 1, _ => Nat.le_refl 2
      | 2, _ => by show 1 ≤ 2; decide
      | 3, _ => by show 1 ≤ 2; decide
    have := this e be
    omega
  refine tb_cons (ts_ret (te_tuple (by rfl) (te_name (upd_other hn rfl) (te_name (upd_get ..) (te_tuple (by rfl) (te_str (te_none ⟨[_, _], rfl, two_le, te_name (R₃.other rfl).told ⟨[_, _, _, _], rfl, four_le, ⟨_, rfl, ?_⟩⟩⟩)))))))
  have et : ∀ {c : Cell}, (st ++ [c]).take st.length = st := fun {c} => List.take_left ..
  rw [et]
  exact hh'
end Mine

-- Z3
namespace Mine
open PySem PySem.W PySem.Calls PyProof.Rows

variable {cx : Cx} {d : Nat} {env : Env} {ρ : Vars} {st : Store} {pos : Pos} {P : Params}

noncomputable def up1L (c : Nat) : Nat := if 97 ≤ c ∧ c ≤ 122 then c - 32 else c
noncomputable def openA (k : Nat) : List Nat := ([[50, 53, 55, 32, 34, 97, 34], [50, 50, 57, 32, 97, 40, 58, 58], [34, 97], [50, 53, 48, 32, 97]] : List (List Nat)).getD k []
noncomputable def openB (k : Nat) : List Nat := ([[50, 53, 48, 32, 34, 97, 34], [50, 53, 55, 45, 34, 97, 34], [50, 53, 55, 32, 97], [50, 50, 57, 32, 34, 97]] : List (List Nat)).getD k []
noncomputable def opn (z k : Nat) : List Nat := if z = 0 then openB k else openA k
noncomputable def opnU (z k o : Nat) : List Nat := if o = 1 then (opn z k).map up1L else opn z k
noncomputable def hdO (z k o t : Nat) : Hd :=
  { nm := List.replicate z 46 ++ opnU z k o
    vl := dec (t : Int) ++ [58, 41]
    b57 := if z = 0 ∧ (k = 1 ∨ k = 2) then some [] else none
    b29 := if z = 0 ∧ k = 3 then .proto else .reply }
noncomputable def hdOther (w : Nat) : Hd := hdO (w % 3) (w / 3 % 4) (w / 12 % 2) (w / 24)

theorem openA_at : ∀ k, k < 4 → ([.str (S [50, 53, 55, 32, 34, 97, 34]), .str (S [50, 50, 57, 32, 97, 40, 58, 58]), .str (S [34, 97]), .str (S [50, 53, 48, 32, 97])] : List PyData)[k]? = some (.str (S (openA k)))
  | 0, _ => rfl
  | 1, _ => rfl
  | 2, _ => rfl
  | 3, _ => rfl
theorem openB_at : ∀ k, k < 4 → ([.str (S [50, 53, 48, 32, 34, 97, 34]), .str (S [50, 53, 55, 45, 34, 97, 34]), .str (S [50, 53, 55, 32, 97]), .str (S [50, 50, 57, 32, 34, 97])] : List PyData)[k]? = some (.str (S (openB k)))
  | 0, _ => rfl
  | 1, _ => rfl
  | 2, _ => rfl
  | 3, _ => rfl
theorem opn_up : ∀ z < 3, ∀ k < 4, Txt.upper (S (opn z k)) = S ((opn z k).map up1L) := by decide +kernel
theorem opn_len : ∀ z < 3, ∀ k < 4, (opn z k).length ≤ 8 := by decide +kernel
theorem tcall_upper {x y : List Nat} {Post : V → Store → Prop} (hz : x.length ≤ 100) (e : Txt.upper (S x) = S y) (h : Post (.d (.str (S y))) st) : tcall cx d (.ext (.builtin "str.upper")) [.d (.str (S x))] [] st Post := tcall_bi fun A o al s vs R ok hv => by
  obtain ⟨_, rfl, v1⟩ := va1 hv
  obtain ⟨t, rfl⟩ := rd_str v1
  rw [← e] at h
  exact Op.ofVal ok fun Q E k => SCL.upper (by rw [S_len]; exact Nat.le_trans hz (by decide)) fun _ => k _ s.heap _ (.d (.str (Txt.upper (S x)))) (fun _ _ e => e) (.str _ _) h

theorem one_two {k : Nat} (hk : (((k : Int) == 1) || (((k : Int) == 2) || false)) = true) : k = 1 ∨ k = 2 := by
  simp only [Bool.or_eq_true, beq_iff_eq, Bool.or_false] at hk
  omega
theorem not_one_two {k : Nat} (hk : (((k : Int) == 1) || (((k : Int) == 2) || false)) = false) : ¬ (k = 1 ∨ k = 2) := by
  simp only [Bool.or_eq_false_iff, beq_eq_false_iff_ne, ne_eq, Bool.or_false] at hk
  omega
theorem str_hi2 {u : Nat} (h : u < 1000000) : (u : Int) < 1000000000 := by omega
structure RO (w k : Nat) (op : List Nat) (b7 : Option (List Nat)) (b9 : R229) (ρ : Vars) : Prop where
  w : ρ.lookup ("w" : PySem.Str) = some (.d (.int (w : Int)))
  k : ρ.lookup ("k" : PySem.Str) = some (.d (.int (k : Int)))
  op : ρ.lookup ("opening" : PySem.Str) = some (.d (.str (S op)))
  b7 : ρ.lookup ("by_257" : PySem.Str) = some (.d (b57D b7))
  b9 : ρ.lookup ("by_229" : PySem.Str) = some (.d (b29D b9))
theorem RO.op' {w k : Nat} {op op' : List Nat} {b7 : Option (List Nat)} {b9 : R229} (h : RO w k op b7 b9 ρ) : RO w k op' b7 b9 (upd ρ "opening" (.d (.str (S op')))) := ⟨upd_other h.w rfl, upd_other h.k rfl, upd_get .., upd_other h.b7 rfl, upd_other h.b9 rfl⟩
theorem RO.b7' {w k : Nat} {op : List Nat} {b7 b7' : Option (List Nat)} {b9 : R229} (h : RO w k op b7 b9 ρ) : RO w k op b7' b9 (upd ρ "by_257" (.d (b57D b7'))) := ⟨upd_other h.w rfl, upd_other h.k rfl, upd_other h.op rfl, upd_get .., upd_other h.b9 rfl⟩
theorem RO.b9' {w k : Nat} {op : List Nat} {b7 : Option (List Nat)} {b9 b9' : R229} (h : RO w k op b7 b9 ρ) : RO w k op b7 b9' (upd ρ "by_229" (.d (b29D b9'))) := ⟨upd_other h.w rfl, upd_other h.k rfl, upd_other h.op rfl, upd_other h.b7 rfl, upd_get ..⟩

set_option maxHeartbeats 4000000 in
theorem f_other (hK : cx.K = hd.heap_1 P) {w : Nat} {Post : V → Store → Prop} (hw : w < 1000000) (h : Post (.d (hdD (hdOther w))) st) :
    tcall cx (d + 1) (.ext (.ref 275)) [.d (.int (w : Int))] [] st Post := by
  refine tcall_def (cx := cx) (f := 275) (names := ["w"]) (ex := []) (exV := []) (ho := by rw [hK]; rfl) (hcd := by rw [hK]; rfl) (hbind := binds1 fun v => rfl) (hex := fun _ _ => .nil) (hco := rfl) (hgen := rfl) (hk := rfl) (hnames := by decide +kernel) (hnn := by decide +kernel) (hnd := by decide +kernel) fun L => ?_
  have bz : w % 3 < 3 := Nat.mod_lt _ (by decide)
  have bk : w / 3 % 4 < 4 := Nat.mod_lt _ (by decide)
  have hh : Post (.d (hdD (hdO (w % 3) (w / 3 % 4) (w / 12 % 2) (w / 24)))) st := h
  clear h
  refine tb_cons (ts_assign (te_bin (te_bin (te_name rfl (te_int (tbin_divN 3 (by decide) (by decide) (te_int (tbin_modN 4 (by decide) ?_))))))))
  generalize w / 3 % 4 = k at hh bk ⊢
  refine tb_cons (ts_assign (te_sub (te_list (by rfl) (te_strS (l := [50, 53, 55, 32, 34, 97, 34]) (by decide +kernel) (te_strS (l := [50, 50, 57, 32, 97, 40, 58, 58]) (by decide +kernel) (te_strS (l := [34, 97]) (by decide +kernel) (te_strS (l := [50, 53, 48, 32, 97]) (by decide +kernel) ⟨_, rfl, four_le, te_name rfl (tsub_nth (openA_at k bk) (big4 bk) ?_)⟩)))))))
  refine tb_cons (ts_assignT (te_tuple (by rfl) (te_tuple (by rfl) (te_str (te_none ⟨[_, _], rfl, two_le, te_tuple (by rfl) (te_str (te_none ⟨[_, _], rfl, two_le, ⟨[_, _], rfl, two_le, tasg_tuple (names := ["by_257", "by_229"]) rfl rfl ?_⟩⟩))⟩)))))
  refine tb_facts (p := RO w k (openA k) none .reply) ⟨rfl, rfl, rfl, rfl, rfl⟩ fun ρ₁ R₁ => ?_
  refine tb_cons (ts_mono (P := fun fl ρ' st' => fl = .next ∧ RO w k (opn (w % 3) k) (if w % 3 = 0 ∧ (k = 1 ∨ k = 2) then some [] else none) (if w % 3 = 0 ∧ k = 3 then .proto else .reply) ρ' ∧ st' = st) (ts_if (tt_cmp (te_bin (te_name R₁.w (te_int (tbin_modN 3 (by decide) (te_int (tcmp_eqI (ttr_bool ⟨fun hb => ?_, fun hb => ?_⟩))))))))) ?_)
  · have hz : w % 3 = 0 := nat_beq 0 hb
    refine tb_cons (ts_assign (te_sub (te_list (by rfl) (te_strS (l := [50, 53, 48, 32, 34, 97, 34]) (by decide +kernel) (te_strS (l := [50, 53, 55, 45, 34, 97, 34]) (by decide +kernel) (te_strS (l := [50, 53, 55, 32, 97]) (by decide +kernel) (te_strS (l := [50, 50, 57, 32, 34, 97]) (by decide +kernel) ⟨_, rfl, four_le, te_name R₁.k (tsub_nth (openB_at k bk) (big4 bk) ?_)⟩)))))))
    have R₂ := R₁.op' (op' := openB k)
    refine tb_cons (ts_mono (P := fun fl ρ' st' => fl = .next ∧ RO w k (openB k) (if k = 1 ∨ k = 2 then some [] else none) .reply ρ' ∧ st' = st) (ts_if (tq_use (tq_or ?_ (tq_or ?_ tq_or0)) (b := ((k : Int) == 1) || (((k : Int) == 2) || false)) ⟨fun hk => ?_, fun hk => ?_⟩)) ?_)
    · exact tt_cmp (te_name R₂.k (te_int (tcmp_eqI (ttr_bool ⟨rfl, rfl⟩))))
    · exact tt_cmp (te_name R₂.k (te_int (tcmp_eqI (ttr_bool ⟨rfl, rfl⟩))))
    · have hk' : k = 1 ∨ k = 2 := by
        exact one_two hk
      rw [if_pos hk']
      exact tb_cons (ts_assign (te_tuple (by rfl) (te_str (te_strS (l := []) (by decide +kernel) ⟨[_, _], rfl, two_le, tb_nil ⟨rfl, R₂.b7', rfl⟩⟩))))
    · have hk' : ¬ (k = 1 ∨ k = 2) := by
        exact not_one_two hk
      rw [if_neg hk']
      exact tb_nil ⟨rfl, R₂, rfl⟩
    rintro fl ρ₃ st₃ ⟨rfl, R₃, rfl⟩
    have eb7 : (if w % 3 = 0 ∧ (k = 1 ∨ k = 2) then some [] else none : Option (List Nat)) = if k = 1 ∨ k = 2 then some [] else none := by simp only [hz, true_and]
    rw [eb7, show opn (w % 3) k = openB k from if_pos hz]
    refine tb_cons (ts_if (tt_cmp (te_name R₃.k (te_int (tcmp_eqI (ttr_bool ⟨fun hk => ?_, fun hk => ?_⟩))))))
    · have hk' : k = 3 := nat_beq 3 hk
      rw [show (if w % 3 = 0 ∧ k = 3 then R229.proto else R229.reply) = .proto from if_pos ⟨hz, hk'⟩]
      exact tb_cons (ts_assign (te_tuple (by rfl) (te_str (te_none ⟨[_, _], rfl, two_le, tb_nil (tb_nil ⟨rfl, R₃.b9', rfl⟩)⟩))))
    · have hk' : ¬ k = 3 := fun q => by rw [q] at hk; exact nomatch hk
      rw [show (if w % 3 = 0 ∧ k = 3 then R229.proto else R229.reply) = .reply from if_neg fun q => hk' q.2]
      exact tb_nil (tb_nil ⟨rfl, R₃, rfl⟩)
  · have hz : ¬ w % 3 = 0 := fun q => by rw [q] at hb; exact nomatch hb
    rw [if_neg fun q => hz q.1, if_neg fun q => hz q.1, show opn (w % 3) k = openA k from if_neg hz]
    exact tb_nil ⟨rfl, R₁, rfl⟩
  rintro fl ρ₄ st₄ ⟨rfl, R₄, rfl⟩
  have ol := opn_len _ bz k bk
  refine tb_cons (ts_mono (P := fun fl ρ' st' => fl = .next ∧ RO w k (opnU (w % 3) k (w / 12 % 2)) (if w % 3 = 0 ∧ (k = 1 ∨ k = 2) then some [] else none) (if w % 3 = 0 ∧ k = 3 then .proto else .reply) ρ' ∧ st' = st₄) (ts_if (tt_cmp (te_bin (te_bin (te_name R₄.w (te_int (tbin_divN 12 (by decide) (by decide) (te_int (tbin_modN 2 (by decide) (te_int (tcmp_eqI (ttr_bool ⟨fun hb => ?_, fun hb => ?_⟩)))))))))))) ?_)
  · have ho : w / 12 % 2 = 1 := nat_beq 1 hb
    rw [show opnU (w % 3) k (w / 12 % 2) = (opn (w % 3) k).map up1L from if_pos ho]
    exact tb_cons (ts_assign (te_meth (by rfl) (te_name R₄.op ⟨.builtin "str.upper", _, rfl, tgm_str (fun q => GM.upper q), tcall_upper (Nat.le_trans ol (by decide)) (opn_up _ bz k bk) (tb_nil ⟨rfl, R₄.op', rfl⟩)⟩)))
  · have ho : ¬ w / 12 % 2 = 1 := fun q => by rw [q] at hb; exact nomatch hb
    rw [show opnU (w % 3) k (w / 12 % 2) = opn (w % 3) k from if_neg ho]
    exact tb_nil ⟨rfl, R₄, rfl⟩
  rintro fl ρ₅ st₅ ⟨rfl, R₅, rfl⟩
  have ol5 : (opnU (w % 3) k (w / 12 % 2)).length ≤ 8 := by
    unfold opnU
    split
    · rw [List.length_map]; exact ol
    · exact ol
  have dl : (dec ((w / 24 : Nat) : Int)).length ≤ 10 := dec_len (Int.natCast_nonneg _) (by omega)
  refine tb_cons (ts_ret (te_tuple (by rfl) ?_))
  refine te_bin (te_bin (te_bin (te_name R₅.w (te_int (tbin_modN 3 (by decide) ?_)))))
  refine te_strS (l := [46]) (by decide +kernel) (tbin_repN (by omega) (te_name R₅.op (tbin_catS ?_ ?_)))
  · rw [List.length_replicate]; omega
  refine te_bin (te_call (by rfl) (te_builtin (v := .type "str") (by rw [hK]; kernel_rfl) (by kernel_rfl) ⟨_, rfl, rfl, ?_⟩))
  refine te_bin (te_name R₅.w (te_int (tbin_divN 24 (by decide) (by decide) (tcall_str (str_lo _) (str_hi2 (Nat.lt_of_le_of_lt (Nat.div_le_self _ _) hw)) ?_))))
  refine te_strS (l := [58, 41]) (by decide +kernel) (tbin_catS (x := dec ((w / 24 : Nat) : Int)) (Nat.le_trans (Nat.add_le_add_right dl _) (by decide)) ?_)
  refine te_name R₅.b7 (te_name R₅.b9 ⟨[_, _, _, _], rfl, four_le, ⟨_, rfl, ?_⟩⟩)
  rw [List.take_length]
  exact hh
end Mine

-- Z4
namespace Mine
open PySem PySem.W PySem.Calls PyProof.Rows

variable {cx : Cx} {d : Nat} {env : Env} {ρ : Vars} {st : Store} {pos : Pos} {P : Params}

noncomputable def hdOf (v : Nat) : Hd := if v % 3 = 0 then hd57 (v / 9) else if v % 3 = 1 then hd29 (v / 9) else hdOther (v / 9)
noncomputable def sameL (x : List Nat) (pl : List Hd) : List Hd := pl.filter fun h => decide (lw h.nm = x)
noncomputable def apartL (x : List Nat) (pl : List Hd) : List Hd := pl.filter fun h => !decide (lw h.nm = x)
noncomputable def deedL (pl : List Hd) (v : Nat) : List Hd :=
  if v / 3 % 3 = 0 then pl ++ [hdOf v]
  else if v / 3 % 3 = 1 then (if sameL (lw (hdOf v).nm) pl = [] then pl ++ [hdOf v] else pl)
  else apartL (lw (hdOf v).nm) pl ++ [hdOf v]
noncomputable def hds (pl : List Hd) : List PyData := pl.map hdD
noncomputable def prH (pl : List Hd) : List Pr := pl.map Hd.pr
theorem prH_app (pl : List Hd) (h : Hd) : prH pl ++ [h.pr] = prH (pl ++ [h]) := by unfold prH; rw [List.map_append]; rfl
theorem hds_app (pl : List Hd) (h : Hd) : hds pl ++ [hdD h] = hds (pl ++ [h]) := by unfold hds; rw [List.map_append]; rfl
theorem prH_len (pl : List Hd) : (prH pl).length = pl.length := List.length_map ..
theorem hds_len (pl : List Hd) : (hds pl).length = pl.length := List.length_map ..
theorem prH_good {pl : List Hd} (h : ∀ x ∈ pl, Good x.pr) : ∀ p ∈ prH pl, Good p := fun p hp => by
  obtain ⟨x, hx, rfl⟩ := List.mem_map.mp hp
  exact h x hx
theorem del_prH (x : List Nat) (pl : List Hd) : delL x (prH pl) = prH (apartL x pl) := by
  unfold delL prH apartL
  rw [List.filter_map]; rfl
theorem get_prH (x : List Nat) (pl : List Hd) : getL x (prH pl) = match sameL x pl with | [] => .none | h :: _ => .str (S h.vl) := by
  induction pl with
  | nil => rfl
  | cons h pl ih =>
    have e1 : getL x (prH (h :: pl)) = if lw h.nm = x then .str (S h.vl) else getL x (prH pl) := rfl
    have e2 : sameL x (h :: pl) = if decide (lw h.nm = x) = true then h :: sameL x pl else sameL x pl := List.filter_cons
    rw [e1, e2, ih]
    by_cases q : lw h.nm = x
    · rw [if_pos q, if_pos (decide_eq_true q)]
    · rw [if_neg q, if_neg (by simp [q])]
noncomputable def sameD (x : List Nat) : PyData → Option PyData
  | .tuple [.str a, b, _, _] => if Txt.lower a = S x then some b else none
  | _ => none
noncomputable def apartD (x : List Nat) : PyData → Option PyData
  | .tuple [.str a, b, c, d] => if Txt.lower a = S x then none else some (.tuple [.str a, b, c, d])
  | _ => none
theorem sameD_hd {x : List Nat} {h : Hd} (G : Good h.pr) : sameD x (hdD h) = if lw h.nm = x then some (.str (S h.vl)) else none := by
  show (if Txt.lower (S h.nm) = S x then some (PyData.str (S h.vl)) else none) = _
  rw [show Txt.lower (S h.nm) = S (lw h.nm) from G.n3]
  by_cases q : lw h.nm = x
  · rw [if_pos q, if_pos (congrArg S q)]
  · rw [if_neg q, if_neg fun z => q (S_inj z)]
theorem apartD_hd {x : List Nat} {h : Hd} (G : Good h.pr) : apartD x (hdD h) = if lw h.nm = x then none else some (hdD h) := by
  show (if Txt.lower (S h.nm) = S x then none else some (hdD h)) = _
  rw [show Txt.lower (S h.nm) = S (lw h.nm) from G.n3]
  by_cases q : lw h.nm = x
  · rw [if_pos q, if_pos (congrArg S q)]
  · rw [if_neg q, if_neg fun z => q (S_inj z)]
theorem same_map (x : List Nat) : ∀ pl : List Hd, (∀ h ∈ pl, Good h.pr) → (hds pl).filterMap (sameD x) = (sameL x pl).map fun h => .str (S h.vl)
  | [], _ => rfl
  | h :: pl, hg => by
    have ih := same_map x pl fun q hq => hg q (.tail _ hq)
    have e2 : sameL x (h :: pl) = if decide (lw h.nm = x) = true then h :: sameL x pl else sameL x pl := List.filter_cons
    rw [show hds (h :: pl) = hdD h :: hds pl from rfl, List.filterMap_cons, sameD_hd (hg h (.head _)), e2, ih]
    by_cases q : lw h.nm = x
    · rw [if_pos q, if_pos (decide_eq_true q)]; rfl
    · rw [if_neg q, if_neg (by simp [q])]
theorem apart_map (x : List Nat) : ∀ pl : List Hd, (∀ h ∈ pl, Good h.pr) → (hds pl).filterMap (apartD x) = hds (apartL x pl)
  | [], _ => rfl
  | h :: pl, hg => by
    have ih := apart_map x pl fun q hq => hg q (.tail _ hq)
    have e2 : apartL x (h :: pl) = if (!decide (lw h.nm = x)) = true then h :: apartL x pl else apartL x pl := List.filter_cons
    rw [show hds (h :: pl) = hdD h :: hds pl from rfl, List.filterMap_cons, apartD_hd (hg h (.head _)), e2, ih]
    by_cases q : lw h.nm = x
    · rw [if_pos q, if_neg (by simp [q])]
    · rw [if_neg q, if_pos (by simp [q])]; rfl
theorem st_same {n : Nat} {c : Cell} (e : st[n]? = some c) : st.set n c = st := by
  have h := (List.getElem?_eq_some_iff.mp e).2
  rw [← h]
  exact List.set_getElem_self _

theorem pick_one (x : PyData) : ∀ k, k ≤ 5 → pick [x] (some ((k : Nat) : Int)) none = if k = 0 then [x] else []
  | 0, _ => rfl
  | 1, _ => rfl
  | 2, _ => rfl
  | 3, _ => rfl
  | 4, _ => rfl
  | 5, _ => rfl
theorem one_le {a : PyData} : [a].length ≤ sizeLine := show 1 ≤ sizeLine by decide

structure RD (n : Nat) (pl : List Hd) (v : Nat) (h : Hd) (ρ : Vars) : Prop where
  table : ρ.lookup ("table" : PySem.Str) = some (.hdr (.c n))
  plain : ρ.lookup ("plain" : PySem.Str) = some (.d (.list (hds pl)))
  v : ρ.lookup ("v" : PySem.Str) = some (.d (.int (v : Int)))
  header : ρ.lookup ("header" : PySem.Str) = some (.d (hdD h))
theorem RD.now {n : Nat} {pl : List Hd} {v : Nat} {h h' : Hd} (R : RD n pl v h ρ) : RD n pl v h' (upd ρ "header" (.d (hdD h'))) := ⟨upd_other R.table rfl, upd_other R.plain rfl, upd_other R.v rfl, upd_get ..⟩
theorem RD.other {n : Nat} {pl : List Hd} {v : Nat} {h : Hd} {x : PySem.Str} {u : V} (R : RD n pl v h ρ) (hx : ((["table", "plain", "v", "header"] : List PySem.Str).all fun y => !(y == x)) = true) : RD n pl v h (upd ρ x u) := by
  have q : ∀ y ∈ (["table", "plain", "v", "header"] : List PySem.Str), (y == x) = false := fun y hy => by simpa using List.all_eq_true.mp hx y hy
  exact ⟨upd_other R.table (q _ (.head _)), upd_other R.plain (q _ (.tail _ (.head _))), upd_other R.v (q _ (.tail _ (.tail _ (.head _)))), upd_other R.header (q _ (.tail _ (.tail _ (.tail _ (.head _)))))⟩

set_option maxHeartbeats 4000000 in
theorem f_deed (hK : cx.K = hd.heap_1 P) (hC : cx.hC = 252) {n v : Nat} {pl : List Hd} {Post : V → Store → Prop} (e : st[n]? = some (.live (prs (prH pl)))) (hl : ∀ h ∈ pl, Good h.pr) (hz : pl.length ≤ 5) (hv : v < 1000000) (G : Good (hdOf v).pr)
    (h : Post (.d (.tuple [.list (hds (deedL pl v)), .bool true])) (st.set n (.live (prs (prH (deedL pl v)))))) :
    tcall cx (d + 4) (.ext (.ref 280)) [.hdr (.c n), .d (.list (hds pl)), .d (.int (v : Int))] [] st Post := by
  have H := hcls hK hC
  refine tcall_def (cx := cx) (f := 280) (names := ["table", "plain", "v"]) (ex := []) (exV := []) (ho := by rw [hK]; rfl) (hcd := by rw [hK]; rfl) (hbind := binds3 fun v w u => rfl) (hex := fun _ _ => .nil) (hco := rfl) (hgen := rfl) (hk := rfl) (hnames := by decide +kernel) (hnn := by decide +kernel) (hnd := by decide +kernel) fun L => ?_
  have hv9 : v / 9 < 1000000 := by omega
  refine tb_cons (ts_assign (te_call (by rfl) (te_glob (v := .ref 275) (by rw [hK]; kernel_rfl) ⟨_, rfl, by rw [hK]; kernel_rfl, te_bin (te_name rfl (te_int (tbin_divN 9 (by decide) (by decide) (f_other hK hv9 ?_))))⟩)))
  refine tb_facts (p := RD n pl v (hdOther (v / 9))) ⟨rfl, rfl, rfl, rfl⟩ fun ρ₁ R₁ => ?_
  refine tb_cons (ts_mono (P := fun fl ρ' st' => fl = .next ∧ RD n pl v (if v % 3 = 0 then hd57 (v / 9) else hdOther (v / 9)) ρ' ∧ st' = st) (ts_if (tt_cmp (te_bin (te_name R₁.v (te_int (tbin_modN 3 (by decide) (te_int (tcmp_eqI (ttr_bool ⟨fun hb => ?_, fun hb => ?_⟩))))))))) ?_)
  · have hb' : v % 3 = 0 := by have := eq_of_beq hb; omega
    rw [if_pos hb']
    exact tb_cons (ts_assign (te_call (by rfl) (te_glob (v := .ref 263) (by rw [hK]; kernel_rfl) ⟨_, rfl, by rw [hK]; kernel_rfl, te_bin (te_name R₁.v (te_int (tbin_divN 9 (by decide) (by decide) (f_law257 hK hv9 (tb_nil ⟨rfl, R₁.now, rfl⟩)))))⟩)))
  · have hb' : ¬ v % 3 = 0 := fun q => by rw [q] at hb; exact nomatch hb
    rw [if_neg hb']
    exact tb_nil ⟨rfl, R₁, rfl⟩
  rintro fl ρ₂ st₂ ⟨rfl, R₂, rfl⟩
  refine tb_cons (ts_mono (P := fun fl ρ' st' => fl = .next ∧ RD n pl v (hdOf v) ρ' ∧ st' = st₂) (ts_if (tt_cmp (te_bin (te_name R₂.v (te_int (tbin_modN 3 (by decide) (te_int (tcmp_eqI (ttr_bool ⟨fun hb => ?_, fun hb => ?_⟩))))))))) ?_)
  · have hb' : v % 3 = 1 := by have := eq_of_beq hb; omega
    rw [show hdOf v = hd29 (v / 9) from (if_neg (by omega)).trans (if_pos hb')]
    exact tb_cons (ts_assign (te_call (by rfl) (te_glob (v := .ref 268) (by rw [hK]; kernel_rfl) ⟨_, rfl, by rw [hK]; kernel_rfl, te_bin (te_name R₂.v (te_int (tbin_divN 9 (by decide) (by decide) (f_law229 hK hv9 (tb_nil ⟨rfl, R₂.now, rfl⟩)))))⟩)))
  · have hb' : ¬ v % 3 = 1 := fun q => by rw [q] at hb; exact nomatch hb
    have : hdOf v = if v % 3 = 0 then hd57 (v / 9) else hdOther (v / 9) := by
      unfold hdOf
      by_cases q : v % 3 = 0
      · rw [if_pos q, if_pos q]
      · rw [if_neg q, if_neg q, if_neg hb']
    rw [this]
    exact tb_nil ⟨rfl, R₂, rfl⟩
  rintro fl ρ₃ st₃ ⟨rfl, R₃, rfl⟩
  have hk3 : v / 3 % 3 < 3 := Nat.mod_lt _ (by decide)
  have hd2 : ∀ h : Hd, (([.str (S h.nm), .str (S h.vl), b57D h.b57, b29D h.b29] : List PyData)).take 2 = [.str (S h.nm), .str (S h.vl)] := fun _ => rfl
  have hh : Post (.d (.tuple [.list (hds (if v / 3 % 3 = 0 then pl ++ [hdOf v] else if v / 3 % 3 = 1 then (if sameL (lw (hdOf v).nm) pl = [] then pl ++ [hdOf v] else pl) else apartL (lw (hdOf v).nm) pl ++ [hdOf v])), .bool true]))
      (st₃.set n (.live (prs (prH (if v / 3 % 3 = 0 then pl ++ [hdOf v] else if v / 3 % 3 = 1 then (if sameL (lw (hdOf v).nm) pl = [] then pl ++ [hdOf v] else pl) else apartL (lw (hdOf v).nm) pl ++ [hdOf v]))))) := h
  clear h
  generalize hdOf v = h at hh G R₃ ⊢
  refine tb_cons (ts_assignT (te_slice (te_name R₃.header (te_int ⟨_, rfl, tsl_tupleUpto (b := 2) (by show 2 < 4; decide) four_le ?_⟩))))
  rw [hd2]
  refine tasg_tuple (names := ["name", "value"]) rfl rfl ?_
  refine tb_facts (p := fun ρ => RD n pl v h ρ ∧ ρ.lookup ("name" : PySem.Str) = some (.d (.str (S h.nm))) ∧ ρ.lookup ("value" : PySem.Str) = some (.d (.str (S h.vl)))) ⟨(R₃.other rfl).other rfl, upd_other (upd_get ..) rfl, upd_get ..⟩ ?_
  rintro ρ₄ ⟨R₄, ln, lv⟩
  have hpl : (hds pl).length ≤ 100000 := by rw [hds_len]; omega
  refine tb_cons (ts_assignCompI (rest := []) (cl := [("name", L + 1)]) (fr := [("name", .d (.str (S h.nm)))]) (f := sameD (lw h.nm)) (te_name R₄.plain ⟨_, rfl, hpl, fun x hx => ?_, ?_⟩) ⟨rfl, rfl, by decide, by decide, List.Perm.refl _, fun n c e => e, ?_⟩ rfl)
  · obtain ⟨q, hq, rfl⟩ := List.mem_map.mp hx
    have Gq := hl q hq
    have e2 := sameD_hd (x := lw h.nm) Gq
    refine ⟨["one"], [_], .name, by decide, by kernel_rfl, fun C st => ?_⟩
    show tt _ _ _ _ _ _ _
    refine tt_cmp (te_meth (by rfl) (te_sub (te_name rfl (te_int (tsub_tuple (j := 0) (x := .str (S q.nm)) (by decide) (by decide) rfl rfl ⟨_, _, rfl, tgm_str (fun q => GM.lower q), lower_ Gq.n1 Gq.n3 ?_⟩)))))
    refine te_meth (by rfl) (te_name rfl ⟨_, _, rfl, tgm_str (fun q => GM.lower q), lower_ G.n1 G.n3 (tcmp_eqS (ttr_bool ⟨rfl, fun hb => e2.trans (if_neg fun z => ?_), fun hb => ⟨_, e2.trans (if_pos (S_inj (eq_of_beq hb))), te_sub (te_name rfl (te_int (tsub_tuple (j := 1) (by decide) (by decide) rfl rfl ⟨rfl, rfl⟩)))⟩⟩))⟩)
    rw [show lwS q.pr.1 = lwS h.pr.1 from congrArg S z, beq_self_eq_true] at hb
    exact nomatch hb
  rotate_left
  · intro z u ez
    rw [List.lookup_cons] at ez
    cases hz' : z == "name" with
    | false => rw [hz'] at ez; cases ez
    | true =>
      rw [hz'] at ez
      cases ez
      obtain rfl := eq_of_beq hz'
      exact ⟨ln, .inl rfl, .inl rfl, rfl⟩
  rw [same_map _ _ hl]
  refine tb_facts (p := fun ρ => RD n pl v h ρ ∧ ρ.lookup ("name" : PySem.Str) = some (.d (.str (S h.nm))) ∧ ρ.lookup ("value" : PySem.Str) = some (.d (.str (S h.vl))) ∧ ρ.lookup ("same" : PySem.Str) = some (.d (.list ((sameL (lw h.nm) pl).map fun h => .str (S h.vl))))) ⟨R₄.other rfl, upd_other ln rfl, upd_other lv rfl, upd_get ..⟩ ?_
  clear R₄ ln lv R₃ R₂ R₁
  rintro ρ₅ ⟨R, ln, lv, ls⟩
  have hz2 : pl.length ≤ 1000 := Nat.le_trans hz (by decide)
  have hzp : (prH pl).length ≤ 1000 := by rw [prH_len]; exact hz2
  refine tb_cons (ts_if (tt_cmp (te_bin (te_bin (te_name R.v (te_int (tbin_divN 3 (by decide) (by decide) (te_int (tbin_modN 3 (by decide) (te_int (tcmp_eqI (ttr_bool ⟨fun hb => ?_, fun hb => ?_⟩))))))))))))
  · have hb' : v / 3 % 3 = 0 := by have := eq_of_beq hb; omega
    rw [if_pos hb'] at hh
    refine tb_cons (ts_ret (te_tuple (by rfl) (te_bin (te_name R.plain (te_list (by rfl) (te_name R.header ⟨[_], rfl, one_le, tbin_addL (by rw [hds_len]; show pl.length + 1 ≤ _; omega) ?_⟩))))))
    rw [hds_app]
    refine te_cmp (te_meth (by rfl) (te_name R.table ⟨.ref 249, [.hdr (.c n)], by rw [hK]; kernel_rfl, tgm_hdr H (by rw [hK, hC]; kernel_rfl) (by rw [hK]; kernel_rfl) (by decide +kernel), te_name ln (te_name lv ?_)⟩))
    refine f_addC (p := h.pr) hK hC e hzp G ?_
    refine te_none (tcmp_isNone (b := true) (fun g al val h => by rw [rd_none h]; rfl) ⟨[_, _], rfl, two_le, ⟨_, rfl, ?_⟩⟩)
    rw [prH_app, st_take]
    exact hh
  · have hb' : ¬ v / 3 % 3 = 0 := fun q => by rw [q] at hb; exact nomatch hb
    rw [if_neg hb'] at hh
    refine tb_nil (tb_cons (ts_if (tt_cmp (te_bin (te_bin (te_name R.v (te_int (tbin_divN 3 (by decide) (by decide) (te_int (tbin_modN 3 (by decide) (te_int (tcmp_eqI (ttr_bool ⟨fun hb2 => ?_, fun hb2 => ?_⟩)))))))))))))
    · have hb2' : v / 3 % 3 = 1 := by have := eq_of_beq hb2; omega
      rw [if_pos hb2'] at hh
      have hg := get_prH (lw h.nm) pl
      have hsl : (sameL (lw h.nm) pl).length ≤ 5 := Nat.le_trans (List.length_filter_le _ _) hz
      have hxs : ∀ l : List Hd, (l.map fun h => PyData.str (S h.vl)).length = l.length := fun l => List.length_map ..
      refine tb_cons (ts_assign (te_sub (te_bin (te_name ls (te_list (by rfl) (te_name lv ⟨[_], rfl, one_le, tbin_addL (by rw [hxs]; show _ + 1 ≤ _; omega) ?_⟩))))))
      refine te_int (tsub_nth (j := 0) (x := .str (S (match sameL (lw h.nm) pl with | [] => h.vl | q :: _ => q.vl))) ?_ (by decide) ?_)
      · cases sameL (lw h.nm) pl <;> rfl
      have R₆ := R.other (x := "due") (u := .d (.str (S (match sameL (lw h.nm) pl with | [] => h.vl | q :: _ => q.vl)))) rfl
      refine tb_cons (ts_ret (te_tuple (by rfl) (te_bin (te_name R₆.plain (te_slice (te_list (by rfl) (te_name R₆.header ⟨[_], rfl, one_le, ?_⟩)))))))
      refine te_call (by rfl) (te_builtin (v := .builtin "len") (by rw [hK]; kernel_rfl) (by kernel_rfl) ⟨_, rfl, rfl, te_name (upd_other ls rfl) (tcall_lenL (by rw [hxs]; omega) ⟨_, rfl, ?_⟩)⟩)
      dsimp only [tpart]
      refine tsl_list one_le ?_
      rw [hxs, pick_one _ _ hsl]
      refine tbin_addL (by rw [hds_len]; split <;> (first | (show pl.length + 1 ≤ _; omega) | (show pl.length + 0 ≤ _; omega))) ?_
      refine te_cmp (te_meth (by rfl) (te_name R₆.table ⟨.ref 242, [.hdr (.c n)], by rw [hK]; kernel_rfl, tgm_hdr H (by rw [hK, hC]; kernel_rfl) (by rw [hK]; kernel_rfl) (by decide +kernel), te_name (upd_other ln rfl) (te_name (upd_other lv rfl) ?_)⟩))
      cases hs : sameL (lw h.nm) pl with
      | nil =>
        rw [hs] at hg hh
        refine f_defC (p := h.pr) hK hC e (prH_good hl) hzp G (fun _ => ?_) fun w hw => absurd (hg.symm.trans hw) (by simp)
        refine te_name (upd_get ..) (tcmp_eqS ⟨[_, _], rfl, two_le, ⟨_, rfl, ?_⟩⟩)
        rw [prH_app, st_take]
        have e1 : ((S h.pr.2 == S h.vl) : Bool) = true := beq_self_eq_true _
        show Post (.d (.tuple [.list (hds pl ++ [hdD h]), .bool (S h.pr.2 == S h.vl)])) _
        rw [e1, hds_app]
        rw [if_pos rfl] at hh
        exact hh
      | cons q r =>
        rw [hs] at hg hh
        refine f_defC (p := h.pr) hK hC e (prH_good hl) hzp G (fun hw => absurd (hg.symm.trans hw) (by simp)) fun w hw => ?_
        have ew : w = S q.vl := by have := hg.symm.trans hw; simpa using this.symm
        refine te_name (upd_get ..) (tcmp_eqS ⟨[_, _], rfl, two_le, ⟨_, rfl, ?_⟩⟩)
        rw [List.take_length, ew]
        have e1 : ((S q.vl == S q.vl) : Bool) = true := beq_self_eq_true _
        show Post (.d (.tuple [.list (hds pl ++ []), .bool (S q.vl == S q.vl)])) _
        rw [e1, List.append_nil]
        rw [if_neg (by simp), st_same e] at hh
        exact hh
    · have hb2' : ¬ v / 3 % 3 = 1 := fun q => by rw [q] at hb2; exact nomatch hb2
      rw [if_neg hb2'] at hh
      refine tb_nil (tb_cons (ts_setOwn (f := 165) (by rw [hK, hC]; kernel_rfl) (by rw [hK, hC]; kernel_rfl) (by rw [hK]; kernel_rfl) (te_name lv (te_name R.table (te_name ln ⟨_, rfl, ?_⟩)))))
      refine f_setC (p := h.pr) hK hC e (prH_good hl) hzp G ?_
      refine tb_cons (ts_ret (te_tuple (by rfl) (te_bin (te_compI (rest := []) (cl := [("name", L + 1)]) (fr := [("name", .d (.str (S h.nm)))]) (f := apartD (lw h.nm)) (te_name R.plain ⟨_, rfl, hpl, fun x hx => ?_, ?_⟩) ⟨rfl, rfl, by decide, by decide, List.Perm.refl _, fun n c e => e, ?_⟩))))
      · obtain ⟨q, hq, rfl⟩ := List.mem_map.mp hx
        have Gq := hl q hq
        have e2 := apartD_hd (x := lw h.nm) Gq
        refine ⟨["one"], [_], .name, by decide, by kernel_rfl, fun C st => ?_⟩
        show tt _ _ _ _ _ _ _
        refine tt_cmp (te_meth (by rfl) (te_sub (te_name rfl (te_int (tsub_tuple (j := 0) (x := .str (S q.nm)) (by decide) (by decide) rfl rfl ⟨_, _, rfl, tgm_str (fun q => GM.lower q), lower_ Gq.n1 Gq.n3 ?_⟩)))))
        refine te_meth (by rfl) (te_name rfl ⟨_, _, rfl, tgm_str (fun q => GM.lower q), lower_ G.n1 G.n3 (tcmp_neS (ttr_bool ⟨rfl, fun hb => e2.trans (if_pos (S_inj (bne_eq_false_iff_eq.mp hb))), fun hb => ⟨_, e2.trans (if_neg fun z => bne_iff_ne.mp hb (congrArg S z)), te_name rfl ⟨rfl, rfl⟩⟩⟩))⟩)
      · rw [apart_map _ _ hl]
        refine te_list (by rfl) (te_name R.header ⟨[_], rfl, one_le, tbin_addL (by rw [hds_len]; show _ + 1 ≤ _; have := List.length_filter_le (fun q => !decide (lw q.nm = lw h.nm)) pl; unfold apartL; omega) (te_bool ⟨[_, _], rfl, two_le, ⟨_, rfl, ?_⟩⟩)⟩)
        rw [hds_app, del_prH, prH_app, st_take]
        exact hh
      · intro z u ez
        rw [List.lookup_cons] at ez
        cases hz' : z == "name" with
        | false => rw [hz'] at ez; cases ez
        | true =>
          rw [hz'] at ez
          cases ez
          obtain rfl := eq_of_beq hz'
          exact ⟨ln, .inl rfl, .inl rfl, rfl⟩
end Mine

-- Z5
namespace Mine
open PySem PySem.W PySem.Calls PyProof.Rows

variable {cx : Cx} {d : Nat} {env : Env} {ρ : Vars} {st : Store} {pos : Pos} {P : Params}

theorem tt_not {x : Expr} {Q : Bool → Store → Prop} (h : tt cx d env ρ st x fun b st₁ => Q (!b) st₁) : tt cx d env ρ st (.UnaryOp .Not x pos) Q := by
  intro A hx al s Q' E R a k
  exact wpAny_isTrue_Not (h A hx al s _ E R a fun b st' al' h' tk' n p => k _ st' al' h' tk' n p)
theorem clip_min (n i : Nat) : clipAt n (i : Int) = min i n := by
  unfold clipAt
  rw [if_neg (by omega)]
  omega
theorem pick_upTo {α : Type} {xs : List α} {i : Nat} : pick xs none (some (i : Int)) = xs.take i := by
  unfold pick
  simp only [Option.elim]
  rw [clip_min]
  simp only [List.drop_zero, Nat.sub_zero]
  exact (List.take_eq_take_min).symm
theorem pick_from {α : Type} {xs : List α} {i : Nat} (h : i ≤ xs.length) : pick xs (some (i : Int)) none = xs.drop i := by
  unfold pick
  simp only [Option.elim]
  rw [clip_min, Nat.min_eq_left h]
  exact List.take_of_length_le (by simp)
theorem rngI_cons {a b : Int} (h : a < b) : rngI a b = .int a :: rngI (a + 1) b := by
  unfold rngI
  have e : (b - a).toNat = (b - (a + 1)).toNat + 1 := by omega
  rw [e, List.range_succ_eq_map, List.map_cons, List.map_map]
  congr 1
  · simp
  · refine List.map_congr_left fun i _ => ?_
    show PyData.int (a + ((i + 1 : Nat) : Int)) = PyData.int (a + 1 + (i : Int))
    congr 1
    push_cast
    omega
theorem rngI_nil {a b : Int} (h : b ≤ a) : rngI a b = [] := by
  unfold rngI
  rw [show (b - a).toNat = 0 by omega]; rfl

noncomputable def drawnN (ns : List Int) : List Nat := (ns.take 5).map (fun x => (x % 1000000).toNat) ++ [360, 2154, 110917, 1133, 6796].drop (ns.take 5).length
noncomputable def intsD (l : List Nat) : List PyData := l.map fun (n : Nat) => .int (n : Int)
theorem drawn_len (ns : List Int) : (drawnN ns).length = 5 := by
  unfold drawnN
  simp
  omega
theorem drawn_bd (ns : List Int) : ∀ v ∈ drawnN ns, v < 1000000 := by
  intro v hv
  unfold drawnN at hv
  rcases List.mem_append.mp hv with hv | hv
  · obtain ⟨x, _, rfl⟩ := List.mem_map.mp hv
    omega
  · have := List.mem_of_mem_drop hv
    simp at this
    omega
noncomputable def modD : PyData → PyData
  | .int x => .int (x % 1000000)
  | x => x
theorem mod_map (l : List Int) : (l.map PyData.int).map modD = intsD (l.map fun x => (x % 1000000).toNat) := by
  unfold intsD
  rw [List.map_map, List.map_map]
  refine List.map_congr_left fun x _ => ?_
  show PyData.int (x % 1000000) = PyData.int (((x % 1000000).toNat : Nat) : Int)
  rw [Int.toNat_of_nonneg (Int.emod_nonneg _ (by decide))]
theorem ints_sum (l : List Nat) : (l.map fun (n : Nat) => (n : Int)).sum = ((l.sum : Nat) : Int) := by
  induction l with
  | nil => rfl
  | cons n l ih => rw [List.map_cons, List.sum_cons, List.sum_cons, ih, Int.natCast_add]

structure Fine (h : Hd) : Prop where
  good : Good h.pr
  ne : ∃ c r, h.nm = c :: r
  five : 5 ≤ (rowOf h.pr).length
  sm : ∀ c ∈ rowOf h.pr, c < 1114112
  s57 : ∀ t, h.b57 = some t → ∀ c ∈ t, c < 1114112
  r57 : ∀ t, t < 3 → res257 (dots t (rowOf h.pr)) = h.b57
  r29 : ∀ t, t < 3 → P229 (dots t (rowOf h.pr)) h.b29
  sw : ∃ sw, Txt.swapcase (S h.nm) = S sw ∧ sw.length ≤ 100 ∧ Txt.lower (S sw) = lwS h.nm
noncomputable def run (l : List Nat) : List Hd := l.foldl deedL []
theorem run_app (l : List Nat) (v : Nat) : run (l ++ [v]) = deedL (run l) v := by unfold run; rw [List.foldl_append]; rfl
theorem deed_mem {pl : List Hd} {v : Nat} {h : Hd} (m : h ∈ deedL pl v) : h ∈ pl ∨ h = hdOf v := by
  have app : ∀ {l : List Hd}, (∀ x ∈ l, x ∈ pl) → h ∈ l ++ [hdOf v] → h ∈ pl ∨ h = hdOf v := fun hl m => (List.mem_append.mp m).imp (hl h) fun q => List.mem_singleton.mp q
  unfold deedL at m
  split at m
  · exact app (fun _ q => q) m
  · split at m
    · split at m
      · exact app (fun _ q => q) m
      · exact .inl m
    · exact app (fun _ q => (List.mem_filter.mp q).1) m
theorem deed_len (pl : List Hd) (v : Nat) : (deedL pl v).length ≤ pl.length + 1 := by
  unfold deedL
  split
  · rw [List.length_append]; exact Nat.le_refl _
  · split
    · split
      · rw [List.length_append]; exact Nat.le_refl _
      · exact Nat.le_succ _
    · rw [List.length_append]; exact Nat.add_le_add_right (List.length_filter_le _ _) 1
theorem run_fine (hF : ∀ v, v < 1000000 → Fine (hdOf v)) : ∀ l : List Nat, (∀ v ∈ l, v < 1000000) → (∀ h ∈ run l, Fine h) ∧ (run l).length ≤ l.length := by
  intro l
  unfold run
  suffices ∀ pl : List Hd, (∀ h ∈ pl, Fine h) → (∀ v ∈ l, v < 1000000) → (∀ h ∈ l.foldl deedL pl, Fine h) ∧ (l.foldl deedL pl).length ≤ pl.length + l.length by
    intro hv
    have := this [] (fun _ q => nomatch q) hv
    simpa using this
  induction l with
  | nil => exact fun pl h1 _ => ⟨h1, Nat.le_refl _⟩
  | cons v l ih =>
    intro pl h1 hv
    have := ih (deedL pl v) (fun h m => (deed_mem m).elim (h1 h) fun q => q ▸ hF v (hv v (.head _))) fun w hw => hv w (.tail _ hw)
    refine ⟨this.1, Nat.le_trans this.2 ?_⟩
    have := deed_len pl v
    show _ ≤ pl.length + (l.length + 1)
    omega

noncomputable def rowsN (pl : List Hd) : List (List Nat) := pl.map fun h => rowOf h.pr
theorem head_eq (pl : List Hd) : headT (prH pl) = flat (rowsN pl ++ [[]]) := by
  unfold headT prH rowsN
  rw [List.map_map]; rfl
theorem row_row {h : Hd} (G : Good h.pr) : Row (rowOf h.pr) := by
  intro c hc
  rcases List.mem_append.mp hc with hc | hc
  · exact ctl_row G.n2 c hc
  · rcases List.mem_cons.mp hc with rfl | hc
    · decide
    · rcases List.mem_cons.mp hc with rfl | hc
      · decide
      · exact ctl_row G.v2 c hc
theorem rows_rows {pl : List Hd} (h : ∀ x ∈ pl, Fine x) : Rows (rowsN pl ++ [[]]) := by
  intro r hr
  rcases List.mem_append.mp hr with hr | hr
  · obtain ⟨x, hx, rfl⟩ := List.mem_map.mp hr
    exact row_row (h x hx).good
  · rw [List.mem_singleton] at hr
    subst hr
    exact fun c hc => nomatch hc
theorem row_len {h : Hd} (G : Good h.pr) : (rowOf h.pr).length ≤ 202 := by
  have h1 := G.n1
  have h2 := G.v1
  show (h.nm ++ 58 :: 32 :: h.vl).length ≤ 202
  rw [List.length_append]
  show h.nm.length + (h.vl.length + 1 + 1) ≤ 202
  have h1' : h.nm.length ≤ 100 := h1
  have h2' : h.vl.length ≤ 100 := h2
  omega
theorem dots_len (t : Nat) (r : List Nat) : (dots t r).length ≤ t + r.length := by
  unfold dots
  split
  · rw [List.length_append, List.length_replicate]; exact Nat.le_refl _
  · exact Nat.le_add_left _ _
theorem flat_le {b : Nat} : ∀ {R : List (List Nat)}, (∀ r ∈ R, r.length ≤ b) → (flat R).length ≤ R.length * (b + 2)
  | [], _ => Nat.zero_le _
  | r :: R, h => by
    have ih := flat_le (b := b) (R := R) fun x hx => h x (.tail _ hx)
    have h1 := h r (.head _)
    rw [flat_cons, List.length_append]
    show r.length + ((flat R).length + 1 + 1) ≤ (R.length + 1) * (b + 2)
    rw [Nat.add_mul, Nat.one_mul]
    omega
noncomputable def sentL (pl : List Hd) (t : Nat) : List Nat := flat ((rowsN pl ++ [[]]).map (dots t))
theorem sent_zero (pl : List Hd) : sentL pl 0 = headT (prH pl) := by
  rw [head_eq]
  unfold sentL
  congr 1
  conv => rhs; rw [← List.map_id (rowsN pl ++ [[]])]
  exact List.map_congr_left fun r _ => dots_zero r
theorem sent_len {pl : List Hd} {t : Nat} (h : ∀ x ∈ pl, Fine x) (hl : pl.length ≤ 5) (ht : t ≤ 3) : (sentL pl t).length ≤ 2000 := by
  refine Nat.le_trans (flat_le (b := 205) fun r hr => ?_) ?_
  · obtain ⟨x, hx, rfl⟩ := List.mem_map.mp hr
    refine Nat.le_trans (dots_len t x) ?_
    rcases List.mem_append.mp hx with hx | hx
    · obtain ⟨y, hy, rfl⟩ := List.mem_map.mp hx
      have := row_len (h y hy).good
      omega
    · rw [List.mem_singleton] at hx
      subst hx
      show t + 0 ≤ 205
      omega
  · rw [List.length_map, List.length_append]
    unfold rowsN
    rw [List.length_map]
    show (pl.length + 1) * 207 ≤ 2000
    omega
theorem sent_next {pl : List Hd} {t : Nat} (h : ∀ x ∈ pl, Fine x) : dotted true (norm (sentL pl t)) = sentL pl (t + 1) := by
  have hr : Rows ((rowsN pl ++ [[]]).map (dots t)) := (rows_rows h).dots
  unfold sentL
  rw [norm_rows hr, dotted_flat hr, List.map_map]
  congr 1
  refine List.map_congr_left fun r _ => ?_
  show dots 1 (dots t r) = dots (t + 1) r
  rw [dots_dots, Nat.add_comm]
noncomputable def sentR (pl : List Hd) (t : Nat) : List (List Nat) := (rowsN pl).map (dots t) ++ [[], []]
theorem sent_split {pl : List Hd} {t : Nat} (h : ∀ x ∈ pl, Fine x) : Txt.split (S (sentL pl t)) (S [13, 10]) = (sentR pl t).map S := by
  unfold sentL
  rw [split_rows (rows_rows h).dots]
  unfold sentR
  rw [List.map_append (f := dots t), List.append_assoc]
  rfl
noncomputable def rowD (t : Nat) : PyData → PyData
  | .tuple (.str a :: .str b :: _) => .str (S (dots t (a.cps.toList ++ 58 :: 32 :: b.cps.toList)))
  | x => x
theorem rowD_map (t : Nat) (pl : List Hd) : (hds pl).map (rowD t) = txs (((rowsN pl).map (dots t)).map S) := by
  unfold hds txs rowsN
  rw [List.map_map, List.map_map, List.map_map, List.map_map]
  rfl
noncomputable def small (l : List Nat) : Prop := ∀ c ∈ l, c < 1114112
theorem strOk_S {l : List Nat} (h : small l) : PyData.strOk (S l) = true := by
  unfold PyData.strOk
  rw [Array.all_eq_true_iff_forall_mem]
  intro c hc
  have hc' : c ∈ l := by simpa [S] using hc
  exact decide_eq_true (h c hc')
theorem txs_shaped : ∀ {ts : List (List Nat)}, (∀ t ∈ ts, small t) → PyData.canLayAll0 (txs (ts.map S)) = true ∧ PyData.depthAll (txs (ts.map S)) = 0
  | [], _ => ⟨rfl, rfl⟩
  | t :: ts, h => by
    obtain ⟨h1, h2⟩ := txs_shaped (ts := ts) fun u hu => h u (.tail _ hu)
    constructor
    · show (PyData.canLay0 (.str (S t)) && PyData.canLayAll0 (txs (ts.map S))) = true
      rw [h1, Bool.and_true]
      exact strOk_S (h t (.head _))
    · show max 0 (PyData.depthAll (txs (ts.map S))) = 0
      rw [h2]; rfl
theorem shaped_txs {ts : List (List Nat)} (h : ∀ t ∈ ts, small t) : SeqAt.shaped (.list (txs (ts.map S))) = true := by
  obtain ⟨h1, h2⟩ := txs_shaped h
  unfold SeqAt.shaped
  rw [Bool.and_eq_true]
  refine ⟨h1, decide_eq_true ?_⟩
  show PyData.depthAll _ + 1 ≤ 64
  omega
theorem shaped_two {a b : PySem.Str} (h1 : PyData.strOk a = true) (h2 : PyData.strOk b = true) : SeqAt.shaped (.tuple [.str a, .str b]) = true := by
  unfold SeqAt.shaped
  rw [Bool.and_eq_true]
  refine ⟨?_, rfl⟩
  show (PyData.strOk a && (PyData.strOk b && true)) = true
  rw [h1, h2]; rfl
theorem shaped_port {a b : PySem.Str} {n : Int} (h1 : PyData.strOk a = true) (h2 : PyData.strOk b = true) : SeqAt.shaped (.tuple [.str a, .tuple [.str b, .int n]]) = true := by
  unfold SeqAt.shaped
  rw [Bool.and_eq_true]
  refine ⟨?_, rfl⟩
  show (PyData.strOk a && ((PyData.strOk b && true) && true)) = true
  rw [h1, h2]; rfl
theorem sentR_txs (pl : List Hd) (t : Nat) : txs (((rowsN pl).map (dots t)).map S) ++ [.str (S []), .str (S [])] = txs ((sentR pl t).map S) := by
  unfold sentR txs
  rw [List.map_append (f := S), List.map_append]; rfl
theorem sentR_small {pl : List Hd} {t : Nat} (h : ∀ x ∈ pl, Fine x) : ∀ r ∈ sentR pl t, ∀ c ∈ r, c < 1114112 := by
  intro r hr
  rcases List.mem_append.mp hr with hr | hr
  · obtain ⟨y, hy, rfl⟩ := List.mem_map.mp hr
    obtain ⟨x, hx, rfl⟩ := List.mem_map.mp hy
    unfold dots
    split
    · intro c hc
      rcases List.mem_append.mp hc with hc | hc
      · have := List.eq_of_mem_replicate hc; omega
      · exact (h x hx).sm c hc
    · exact (h x hx).sm
  · simp at hr
    subst hr
    exact fun c hc => nomatch hc
theorem sentR_at {pl : List Hd} {t j : Nat} {h : Hd} (e : pl[j]? = some h) : (txs ((sentR pl t).map S))[j]? = some (.str (S (dots t (rowOf h.pr)))) := by
  have hj := (List.getElem?_eq_some_iff.mp e).1
  unfold sentR txs rowsN
  rw [List.getElem?_map, List.getElem?_map, List.getElem?_append_left (by rw [List.length_map, List.length_map]; exact hj), List.getElem?_map, List.getElem?_map, e]; rfl
theorem sentR_last (pl : List Hd) (t : Nat) : (txs ((sentR pl t).map S))[pl.length + 1]? = some (.str (S [])) := by
  unfold sentR txs rowsN
  rw [List.getElem?_map, List.getElem?_map, List.getElem?_append_right (by rw [List.length_map, List.length_map]; omega), List.length_map, List.length_map, show pl.length + 1 - pl.length = 1 by omega]; rfl
theorem sentR_len (pl : List Hd) (t : Nat) : (txs ((sentR pl t).map S)).length = pl.length + 2 := by
  unfold sentR txs rowsN
  rw [List.length_map, List.length_map, List.length_append, List.length_map, List.length_map]; rfl
theorem row_pre {t : Nat} {h : Hd} (F : Fine h) {c : Nat} {r : List Nat} (e : h.nm = c :: r) : dots t (rowOf h.pr) = (((if c = 46 then List.replicate t 46 else []) ++ h.nm) ++ [58, 32]) ++ h.vl := by
  have e1 : rowOf h.pr = h.nm ++ 58 :: 32 :: h.vl := rfl
  unfold dots
  rw [e1, e]
  by_cases q : c = 46
  · rw [if_pos (by rw [q]; rfl), if_pos q]; simp
  · rw [if_neg (by simpa using q), if_neg q]; simp
theorem small_dots {t : Nat} {r : List Nat} (h : small r) : small (dots t r) := by
  unfold dots
  split
  · intro c hc
    rcases List.mem_append.mp hc with hc | hc
    · have := List.eq_of_mem_replicate hc; omega
    · exact h c hc
  · exact h
end Mine

-- Z6
namespace Mine
open PySem PySem.W PySem.Calls PyProof.Rows

variable {cx : Cx} {d : Nat} {env : Env} {ρ : Vars} {st : Store} {pos : Pos} {P : Params}

theorem tbM_facts {b : Bool} {p : Vars → Prop} {xs : List Stmt} {Post : Fl → Vars → Store → Prop} {PE : Value → List PyData → Store → Prop} (hp : p ρ) (h : ∀ ρ', p ρ' → tbM b cx d env ρ' st xs Post PE) : tbM b cx d env ρ st xs Post PE := h ρ hp
theorem scrlf : ("\u000d\n" : PySem.Str) = S [13, 10] := by decide +kernel
structure RL (n : Nat) (dr : List Nat) (pl : List Hd) (ρ : Vars) : Prop where
  drawn : ρ.lookup ("drawn" : PySem.Str) = some (.d (.list (intsD dr)))
  table : ρ.lookup ("table" : PySem.Str) = some (.hdr (.c n))
  plain : ρ.lookup ("plain" : PySem.Str) = some (.d (.list (hds pl)))
theorem RL.other {n : Nat} {dr : List Nat} {pl : List Hd} {x : PySem.Str} {u : V} (R : RL n dr pl ρ) (hx : ((["drawn", "table", "plain"] : List PySem.Str).all fun y => !(y == x)) = true) : RL n dr pl (upd ρ x u) := by
  have q : ∀ y ∈ (["drawn", "table", "plain"] : List PySem.Str), (y == x) = false := fun y hy => by simpa using List.all_eq_true.mp hx y hy
  exact ⟨upd_other R.drawn (q _ (.head _)), upd_other R.table (q _ (.tail _ (.head _))), upd_other R.plain (q _ (.tail _ (.tail _ (.head _))))⟩
theorem rng_step {t j : Nat} (h : j < t) : rngI (j : Int) (t : Int) = .int (j : Int) :: rngI ((j + 1 : Nat) : Int) (t : Int) := by
  rw [rngI_cons (by omega)]; rfl

structure RT (n : Nat) (dr : List Nat) (pl : List Hd) (t j : Nat) (ρ : Vars) : Prop where
  rl : RL n dr pl ρ
  times : ρ.lookup ("times" : PySem.Str) = some (.d (.int (t : Int)))
  sent : ρ.lookup ("sent" : PySem.Str) = some (.d (.str (S (sentL pl j))))
structure RI (n : Nat) (dr : List Nat) (pl : List Hd) (t : Nat) (ρ : Vars) : Prop where
  rl : RL n dr pl ρ
  times : ρ.lookup ("times" : PySem.Str) = some (.d (.int (t : Int)))
  rows : ρ.lookup ("rows" : PySem.Str) = some (.d (.list (txs ((sentR pl t).map S))))
theorem RI.other {n : Nat} {dr : List Nat} {pl : List Hd} {t : Nat} {x : PySem.Str} {u : V} (R : RI n dr pl t ρ) (hx : ((["drawn", "table", "plain", "times", "rows"] : List PySem.Str).all fun y => !(y == x)) = true) : RI n dr pl t (upd ρ x u) := by
  have q : ∀ y ∈ (["drawn", "table", "plain", "times", "rows"] : List PySem.Str), (y == x) = false := fun y hy => by simpa using List.all_eq_true.mp hx y hy
  exact ⟨⟨upd_other R.rl.drawn (q _ (.head _)), upd_other R.rl.table (q _ (.tail _ (.head _))), upd_other R.rl.plain (q _ (.tail _ (.tail _ (.head _))))⟩, upd_other R.times (q _ (.tail _ (.tail _ (.tail _ (.head _))))), upd_other R.rows (q _ (.tail _ (.tail _ (.tail _ (.tail _ (.head _))))))⟩

structure RB (n : Nat) (dr : List Nat) (pl : List Hd) (t j : Nat) (h : Hd) (ρ : Vars) : Prop where
  ri : RI n dr pl t ρ
  i : ρ.lookup ("i" : PySem.Str) = some (.d (.int (j : Int)))
  name : ρ.lookup ("name" : PySem.Str) = some (.d (.str (S h.nm)))
  b7 : ρ.lookup ("by_257" : PySem.Str) = some (.d (b57D h.b57))
  b9 : ρ.lookup ("by_229" : PySem.Str) = some (.d (b29D h.b29))
theorem RB.other {n : Nat} {dr : List Nat} {pl : List Hd} {t j : Nat} {h : Hd} {x : PySem.Str} {u : V} (R : RB n dr pl t j h ρ) (hx : ((["drawn", "table", "plain", "times", "rows", "i", "name", "by_257", "by_229"] : List PySem.Str).all fun y => !(y == x)) = true) : RB n dr pl t j h (upd ρ x u) := by
  have q : ∀ y ∈ (["drawn", "table", "plain", "times", "rows", "i", "name", "by_257", "by_229"] : List PySem.Str), (y == x) = false := fun y hy => by simpa using List.all_eq_true.mp hx y hy
  refine ⟨R.ri.other (List.all_eq_true.mpr fun y hy => ?_), upd_other R.i (q _ (by simp)), upd_other R.name (q _ (by simp)), upd_other R.b7 (q _ (by simp)), upd_other R.b9 (q _ (by simp))⟩
  rw [q y (List.mem_append.mpr (.inl hy) : y ∈ (["drawn", "table", "plain", "times", "rows"] : List PySem.Str) ++ (["i", "name", "by_257", "by_229"] : List PySem.Str))]; rfl
section
variable {x s : PySem.Str} {p1 p2 p3 p4 p5 p6 p7 p8 p9 p10 p11 p12 p13 p14 p15 : Pos} {k1 k2 k3 k4 k5 j : Nat} {r : List Nat} {xs : List PyData} {Post : V → Store → Prop}
theorem te_dueN (hl : ρ.lookup x = some (.d (.tuple [.str s, .none]))) (lr : ρ.lookup ("rows" : PySem.Str) = some (.d (.list xs))) (li : ρ.lookup ("i" : PySem.Str) = some (.d (.int (j : Int)))) (hat : xs[j]? = some (.str (S r))) (hj : j < 1000)
    (h : Post (.d (.tuple [.str s, .str (S r)])) st) (hd : (x == ("__debug__" : PySem.Str)) = false := by rfl) (hn : (x == ("__classdict__" : PySem.Str)) = false := by rfl) :
    te cx d env ρ st (.Tuple [.Subscript (.Name x p1) (.Constant (.int 0) k1 p2) p3, .IfExp (.Compare (.Subscript (.Name x p4) (.Constant (.int 1) k2 p5) p6) [.Is] [.Constant .none k3 p7] p8) (.Subscript (.Name "rows" p9) (.Name "i" p10) p11) (.Subscript (.Name x p12) (.Constant (.int 1) k4 p13) p14) p15] k5 pos) Post := by
  refine te_tuple (by rfl) (te_sub (te_name hl (te_int (tsub_tuple (j := 0) (by decide) (by decide) rfl rfl ?_)) hd hn))
  refine te_ifexp (tt_cmp (te_sub (te_name hl (te_int (tsub_tuple (j := 1) (by decide) (by decide) rfl rfl (te_none (tcmp_isNone (b := true) (fun g al val h => by rw [rd_none h]; rfl) (ttr_bool ⟨fun _ => ?_, (fun hh => nomatch hh)⟩))))) hd hn)))
  exact te_sub (te_name lr (te_name li (tsub_nth hat hj ⟨[_, _], rfl, two_le, h⟩)))
theorem te_dueS {v : PyData} (hl : ρ.lookup x = some (.d (.tuple [.str s, v]))) (hv : ∀ g al val, VRep cx g al val (.d v) → (val == Value.none) = false)
    (h : Post (.d (.tuple [.str s, v])) st) (hd : (x == ("__debug__" : PySem.Str)) = false := by rfl) (hn : (x == ("__classdict__" : PySem.Str)) = false := by rfl) :
    te cx d env ρ st (.Tuple [.Subscript (.Name x p1) (.Constant (.int 0) k1 p2) p3, .IfExp (.Compare (.Subscript (.Name x p4) (.Constant (.int 1) k2 p5) p6) [.Is] [.Constant .none k3 p7] p8) (.Subscript (.Name "rows" p9) (.Name "i" p10) p11) (.Subscript (.Name x p12) (.Constant (.int 1) k4 p13) p14) p15] k5 pos) Post := by
  refine te_tuple (by rfl) (te_sub (te_name hl (te_int (tsub_tuple (j := 0) (by decide) (by decide) rfl rfl ?_)) hd hn))
  refine te_ifexp (tt_cmp (te_sub (te_name hl (te_int (tsub_tuple (j := 1) (by decide) (by decide) rfl rfl (te_none (tcmp_isNone (b := false) hv (ttr_bool ⟨(fun hh => nomatch hh), fun _ => ?_⟩))))) hd hn)))
  exact te_sub (te_name hl (te_int (tsub_tuple (j := 1) (by decide) (by decide) rfl rfl ⟨[_, _], rfl, two_le, h⟩)) hd hn)
theorem noneS {x : PySem.Str} : ∀ g al val, VRep cx g al val (.d (.str x)) → (val == Value.none) = false := fun g al val h => by obtain ⟨t, rfl⟩ := rd_str h; rfl
theorem noneI {x : Int} : ∀ g al val, VRep cx g al val (.d (.int x)) → (val == Value.none) = false := fun g al val h => by obtain ⟨t, rfl⟩ := rd_int h; rfl
end
noncomputable def pre229 (r : List Nat) : R229 → PyData
  | .reply => .tuple [.str "reply", .str (S r)]
  | .proto => .tuple [.str "proto", .str (S r)]
  | .number => .tuple [.str "number", .str ""]
  | .port n => .tuple [.str "port", .int n]
theorem heard257_shaped {h : Hd} (F : Fine h) {t : Nat} (ht : t < 3) (hs : ∀ c ∈ dots t (rowOf h.pr), c < 1114112) : SeqAt.shaped (heard257 (dots t (rowOf h.pr))) = true := by
  unfold heard257
  rw [F.r57 t ht]
  cases hb : h.b57 with
  | none => exact shaped_two (by decide +kernel) (strOk_S hs)
  | some u => exact shaped_two (by decide +kernel) (strOk_S (F.s57 u hb))
theorem heard229_shaped {h : Hd} (F : Fine h) {t : Nat} (hs : ∀ c ∈ dots t (rowOf h.pr), c < 1114112) : SeqAt.shaped (heard229 (dots t (rowOf h.pr)) (S h.nm) h.b29) = true := by
  cases h.b29 with
  | reply => exact shaped_two (by decide +kernel) (strOk_S hs)
  | proto => exact shaped_two (by decide +kernel) (strOk_S hs)
  | number => exact shaped_two (by decide +kernel) (by decide +kernel)
  | port n => exact shaped_port (by decide +kernel) (strOk_S fun c hc => F.sm c (List.mem_append.mpr (.inl hc)))
theorem heard_nil : heard257 [] = .tuple [.str "reply", .str (S [])] := rfl
theorem seq_neg {n : Nat} : seqIndex? (-1) (n + 2) = some (n + 1) := seq_last (Nat.succ_pos _)
theorem same_mem {pl : List Hd} {h : Hd} (hh : h ∈ pl) : ∃ q r, sameL (lw h.nm) pl = q :: r := by
  cases hs : sameL (lw h.nm) pl with
  | nil =>
    have : h ∈ sameL (lw h.nm) pl := List.mem_filter.mpr ⟨hh, decide_eq_true rfl⟩
    rw [hs] at this
    cases this
  | cons q r => exact ⟨q, r, rfl⟩

set_option maxHeartbeats 8000000 in
theorem f_law (hF : ∀ v, v < 1000000 → Fine (hdOf v)) (hK : cx.K = hd.heap_1 P) (hC : cx.hC = 252) {ns : List Int} (hn : ns.length ≤ 63) :
    tcallX true cx (d + 6) (.ext (.ref 299)) [.d (.list (ns.map .int))] [] st (fun r _ => r = .d (.bool true)) fun _ _ _ => False := by
  have H := hcls hK hC
  refine tcallX_def (b := true) (cx := cx) (f := 299) (names := ["script"]) (ex := []) (exV := []) (ho := by rw [hK]; rfl) (hcd := by rw [hK]; rfl) (hbind := binds1 fun v => rfl) (hex := fun _ _ => .nil) (hco := rfl) (hgen := rfl) (hk := rfl) (hnames := by decide +kernel) (hnn := by decide +kernel) (hnd := by decide +kernel) fun L => ?_
  have epk : pick (ns.map PyData.int) none (some 5) = (ns.map PyData.int).take 5 := pick_upTo (i := 5)
  refine tbM_c (ts_assignComp (cl := []) (fr := []) (f := modD) (te_slice (te_name rfl (te_int ⟨_, rfl, tsl_list (by rw [List.length_map]; exact Nat.le_trans hn (by decide)) ⟨_, rfl, ?_, fun x hx => ?_, ?_⟩⟩))) (compOk0 (by decide +kernel)) rfl)
  · rw [epk, List.length_take]; omega
  · rw [epk] at hx
    obtain ⟨i, _, rfl⟩ := List.mem_map.mp (List.mem_of_mem_take hx)
    refine ⟨["x"], [_], .name, by decide, by kernel_rfl, fun C st => te_bin (te_name rfl (te_int (tbin_mod (by decide) ⟨?_, rfl⟩)))⟩
    rw [Int.fmod_eq_emod_of_nonneg _ (by decide)]; rfl
  rw [epk, ← List.map_take, mod_map]
  have hl5 : (intsD ((ns.take 5).map fun x => (x % 1000000).toNat)).length = (ns.take 5).length := by unfold intsD; rw [List.length_map, List.length_map]
  have h5 : (ns.take 5).length ≤ 5 := by rw [List.length_take]; omega
  refine tbM_c (ts_assign (te_bin (te_name rfl (te_slice (te_list (by rfl) (te_int (te_int (te_int (te_int (te_int ⟨_, rfl, five_le, ?_⟩))))))))))
  refine te_call (by rfl) (te_builtin (v := .builtin "len") (by rw [hK]; kernel_rfl) (by kernel_rfl) ⟨_, rfl, rfl, te_name rfl (tcall_lenL (by rw [hl5]; omega) ⟨_, rfl, ?_⟩)⟩)
  dsimp only [tpart]
  rw [hl5]
  refine tsl_list five_le ?_
  rw [pick_from h5]
  refine tbin_addL (by rw [hl5, List.length_drop]; show _ + (5 - _) ≤ _; omega) ?_
  have ed2 : intsD ((ns.take 5).map fun x => (x % 1000000).toNat) ++ ([.int 360, .int 2154, .int 110917, .int 1133, .int 6796] : List PyData).drop (ns.take 5).length = intsD (drawnN ns) := by
    unfold drawnN intsD
    rw [List.map_append, List.map_drop]; rfl
  rw [ed2]
  have dlen := drawn_len ns
  have dbd := drawn_bd ns
  clear ed2 hl5 h5 epk hn
  generalize drawnN ns = dr at dlen dbd ⊢
  refine tbM_c (ts_assign (te_call (by rfl) (te_glob (v := .ref cx.hC) (by rw [hK, hC]; kernel_rfl) ⟨_, rfl, by rw [hK, hC]; kernel_rfl, te_listC (by rfl) ⟨[], rfl, by decide, f_headersC (d := d) hK hC (last_get (.live [])) ?_⟩⟩)))
  refine tbM_c (ts_assign (te_list (by rfl) ⟨[], rfl, by decide, ?_⟩))
  refine tbM_facts (p := RL st.length dr []) ⟨rfl, rfl, rfl⟩ fun ρ₁ R₁ => ?_
  refine tbM_c (ts_mono (P := fun fl ρ' st' => fl = .next ∧ RL st.length dr (run dr) ρ' ∧ st' = st ++ [.live (prs (prH (run dr)))]) (ts_for (te_name R₁.drawn ⟨_, rfl, fun rest ρ' st' => ∃ l1 l2, dr = l1 ++ l2 ∧ rest = intsD l2 ∧ RL st.length dr (run l1) ρ' ∧ st' = st ++ [.live (prs (prH (run l1)))], ?_, ?_, ?_⟩)) ?_)
  · exact ⟨[], dr, rfl, rfl, R₁, rfl⟩
  · rintro x rest ρ' st' ⟨l1, l2, e, er, R, rfl⟩
    cases l2 with
    | nil => cases er
    | cons v l2 =>
      cases er
      have hv : v < 1000000 := dbd v (by rw [e]; exact List.mem_append.mpr (.inr (.head _)))
      obtain ⟨fine, len⟩ := run_fine hF l1 fun w hw => dbd w (by rw [e]; exact List.mem_append.mpr (.inl hw))
      have hl1 : l1.length ≤ 5 := by
        have := congrArg List.length e
        rw [List.length_append, dlen] at this
        omega
      refine tasg_name ?_
      have R' := R.other (x := "v") (u := .d (.int (v : Int))) rfl
      refine tb_cons (ts_assignT (te_call (by rfl) (te_glob (v := .ref 280) (by rw [hK]; kernel_rfl) ⟨_, rfl, by rw [hK]; kernel_rfl, te_name R'.table (te_name R'.plain (te_name (upd_get ..) (f_deed (d := d + 1) hK hC (last_get _) (fun h hh => (fine h hh).good) (Nat.le_trans len hl1) hv (hF v hv).good ?_)))⟩)))
      rw [last_set, ← run_app]
      refine tasg_tuple (names := ["plain", "right"]) rfl rfl ?_
      refine tb_facts (p := fun ρ => RL st.length dr (run (l1 ++ [v])) ρ ∧ ρ.lookup ("right" : PySem.Str) = some (.d (.bool true))) ⟨⟨upd_other (upd_other R'.drawn rfl) rfl, upd_other (upd_other R'.table rfl) rfl, upd_other (upd_get ..) rfl⟩, upd_get ..⟩ ?_
      rintro ρ₂ ⟨R₂, lr⟩
      refine tb_cons (ts_if (tt_not (tt_plain (te_name lr (ttr_bool ⟨(fun hh => nomatch hh), fun _ => tb_nil (tb_nil ⟨l1 ++ [v], l2, by rw [e, List.append_assoc]; rfl, rfl, R₂, rfl⟩)⟩)))))
  · rintro ρ' st' ⟨l1, l2, e, er, R, rfl⟩
    have : l2 = [] := by cases l2 with | nil => rfl | cons _ _ => cases er
    subst this
    rw [List.append_nil] at e
    subst e
    exact ⟨rfl, R, rfl⟩
  rintro fl ρ₂ st₂ ⟨rfl, R₂, rfl⟩
  obtain ⟨fine, len⟩ := run_fine hF dr dbd
  rw [dlen] at len
  generalize run dr = pl at fine len R₂ ⊢
  have ld : ρ₂.lookup ("drawn" : PySem.Str) = some (.d (.list ((dr.map fun (n : Nat) => (n : Int)).map .int))) := by rw [List.map_map]; exact R₂.drawn
  refine tbM_c (ts_assign (te_bin (te_call (by rfl) (te_builtin (v := .builtin "sum") (by rw [hK]; kernel_rfl) (by kernel_rfl) ⟨_, rfl, rfl, te_name ld (tcall_sum ?_)⟩))))
  rw [ints_sum]
  refine te_int (tbin_modN 3 (by decide) ?_)
  have ht : dr.sum % 3 < 3 := Nat.mod_lt _ (by decide)
  generalize dr.sum % 3 = t at ht ⊢
  have hz0 : (headT (prH pl)).length ≤ 20000 := by rw [← sent_zero]; exact Nat.le_trans (sent_len fine len (by decide)) (by decide)
  have good : ∀ p ∈ prH pl, Good p := prH_good fun h hh => (fine h hh).good
  refine tbM_c (ts_assign (te_call (by rfl) (te_builtin (v := .type "str") (by rw [hK]; kernel_rfl) (by kernel_rfl) ⟨_, rfl, rfl, te_name (upd_other R₂.table rfl) (f_strHC (d := d + 3) hK hC (last_get _) (by rw [prH_len]; exact Nat.le_trans len (by decide)) hz0 good ?_)⟩)))
  rw [← sent_zero]
  refine tbM_facts (p := RT st.length dr pl t 0) ⟨(R₂.other rfl).other rfl, upd_other (upd_get ..) rfl, upd_get ..⟩ fun ρ₃ R₃ => ?_
  refine tbM_c (ts_mono (P := fun fl ρ' st' => fl = .next ∧ RT st.length dr pl t t ρ' ∧ st' = st ++ [.live (prs (prH pl))]) (ts_forR ?_) ?_)
  · refine te_call (by rfl) (te_builtin (v := .type "range") (by rw [hK]; kernel_rfl) (by kernel_rfl) ⟨_, rfl, rfl, te_name R₃.times (tcall_range1 ?_)⟩)
    refine ⟨0, (t : Int), rfl, by decide, by decide, by omega, by omega, fun rest ρ' st' => ∃ j, j ≤ t ∧ rest = rngI ((j : Nat) : Int) (t : Int) ∧ RT st.length dr pl t j ρ' ∧ st' = st ++ [.live (prs (prH pl))], ?_, ?_, ?_⟩
    · exact ⟨0, Nat.zero_le _, rfl, R₃, rfl⟩
    · rintro x rest ρ' st' ⟨j, hj, er, R, rfl⟩
      have hjt : j < t := by
        rcases Nat.lt_or_ge j t with q | q
        · exact q
        · rw [rngI_nil (by omega)] at er; cases er
      rw [rng_step hjt] at er
      cases er
      refine tasg_name ?_
      refine tb_cons (ts_assign (te_call (by rfl) (te_glob (v := .ref 106) (by rw [hK]; kernel_rfl) ⟨_, rfl, by rw [hK]; kernel_rfl, te_name (upd_other R.sent rfl) (f_quotedata (d := d + 4) hK (Nat.le_trans (sent_len fine len (by omega)) (by decide)) ?_)⟩)))
      rw [sent_next fine]
      exact tb_nil ⟨j + 1, hjt, rfl, ⟨(R.rl.other rfl).other rfl, upd_other (upd_other R.times rfl) rfl, upd_get ..⟩, rfl⟩
    · rintro ρ' st' ⟨j, hj, er, R, rfl⟩
      have hjt : j = t := by
        rcases Nat.lt_or_ge j t with q | q
        · rw [rng_step q] at er; cases er
        · omega
      subst hjt
      exact ⟨rfl, R, rfl⟩
  rintro fl ρ₄ st₄ ⟨rfl, R₄, rfl⟩
  refine tbM_c (ts_assign (te_meth (by rfl) (te_name R₄.sent ⟨_, _, rfl, tgm_str (fun q => GM.split q), te_strS scrlf (tcall_split (by rw [S_len]; rfl) (by rw [S_len]; exact Nat.le_trans (sent_len fine len (by omega)) (by decide)) ?_)⟩)))
  rw [sent_split fine]
  refine tbM_facts (p := RI st.length dr pl t) ⟨R₄.rl.other rfl, upd_other R₄.times rfl, upd_get ..⟩ fun ρ₅ R₅ => ?_
  clear R₄ R₃ R₂ R₁ ld hz0
  have shp : SeqAt.shaped (.list (txs ((sentR pl t).map S))) = true := shaped_txs (sentR_small fine)
  have hpl : (hds pl).length ≤ 100000 := by rw [hds_len]; omega
  refine tbM_c (ts_if (tt_cmp (te_name R₅.rows (te_bin (te_comp (rest := [L + 2]) (cl := [("times", L + 1)]) (fr := [("times", .d (.int (t : Int)))]) (f := rowD t) (te_name R₅.rl.plain ⟨_, rfl, hpl, fun x hx => ?_, ?_⟩) ⟨rfl, rfl, by decide, by decide, List.Perm.swap _ _ _, fun n c e => ?_, ?_⟩)))))
  · obtain ⟨h, hh, rfl⟩ := List.mem_map.mp hx
    have F := fine h hh
    obtain ⟨c, r, e⟩ := F.ne
    refine ⟨["one"], [_], .name, by decide, by kernel_rfl, fun C st => ?_⟩
    refine te_bin (te_bin (te_bin (te_mono (P := fun v st' => v = .d (.str (S (if c = 46 then List.replicate t 46 else []))) ∧ st' = st) (te_ifexp (tt_cmp ?_)) ?_)))
    · refine te_sub (te_sub (te_name rfl (te_int (tsub_tuple (j := 0) (x := .str (S h.nm)) (by decide) (by decide) rfl rfl (te_int (tsub_at (j := 0) (c := c) (Nat.le_trans F.good.n1 (by decide)) (by rw [e]; rfl) ?_))))))
      refine te_strS (l := [46]) (by decide +kernel) (tcmp_eqS (ttr_bool ⟨fun hb => ?_, fun hb => ?_⟩))
      · have hc : c = 46 := by rw [eqSS] at hb; simpa using hb
        rw [if_pos hc]
        exact te_bin (te_name rfl (te_strS (l := [46]) (by decide +kernel) (tbin_repN (by omega) ⟨rfl, rfl⟩)))
      · have hc : ¬ c = 46 := fun q => by rw [eqSS, q] at hb; simp at hb
        rw [if_neg hc]
        exact te_strS (l := []) (by decide +kernel) ⟨rfl, rfl⟩
    rintro v st' ⟨rfl, rfl⟩
    have lp : (if c = 46 then List.replicate t 46 else []).length ≤ 3 := by
      split
      · rw [List.length_replicate]; omega
      · exact Nat.zero_le _
    have ln : h.nm.length ≤ 100 := F.good.n1
    have lv : h.vl.length ≤ 100 := F.good.v1
    have l1 : ((if c = 46 then List.replicate t 46 else []) ++ h.nm).length ≤ 103 := by rw [List.length_append]; omega
    have l2 : (((if c = 46 then List.replicate t 46 else []) ++ h.nm) ++ [58, 32]).length ≤ 105 := by rw [List.length_append]; exact Nat.add_le_add_right l1 2
    refine te_sub (te_name rfl (te_int (tsub_tuple (j := 0) (x := .str (S h.nm)) (by decide) (by decide) rfl rfl (tbin_catS (by omega) ?_))))
    refine te_strS (l := [58, 32]) (by decide +kernel) (tbin_catS (Nat.le_trans (Nat.add_le_add_right l1 2) (by decide)) ?_)
    refine te_sub (te_name rfl (te_int (tsub_tuple (j := 1) (x := .str (S h.vl)) (by decide) (by decide) rfl rfl (tbin_catS (by omega) ⟨?_, rfl⟩))))
    have : rowD t (hdD h) = .str (S (dots t (rowOf h.pr))) := rfl
    rw [this, row_pre F e]
  rotate_left
  · rw [List.lookup_cons] at e
    cases hz' : n == "times" with
    | false => rw [hz'] at e; cases e
    | true =>
      rw [hz'] at e
      cases e
      obtain rfl := eq_of_beq hz'
      rfl
  · intro z u ez
    rw [List.lookup_cons] at ez
    cases hz' : z == "times" with
    | false => rw [hz'] at ez; cases ez
    | true =>
      rw [hz'] at ez
      cases ez
      obtain rfl := eq_of_beq hz'
      exact ⟨R₅.times, .inl rfl, .inl rfl, rfl⟩
  rw [rowD_map]
  refine te_list (by rfl) (te_strS (l := []) (by decide +kernel) (te_strS (l := []) (by decide +kernel) ⟨_, rfl, two_le, tbin_addL ?_ ?_⟩))
  · unfold txs rowsN
    rw [List.length_map, List.length_map, List.length_map, List.length_map]
    show _ + 2 ≤ _
    omega
  rw [sentR_txs]
  refine tcmp_neD shp shp ?_
  rw [SeqAt.eqv_refl _ (SeqAt.canLay_of_shaped shp)]
  refine ttr_bool ⟨(fun hh => nomatch hh), fun _ => tb_nil ?_⟩
  refine tbM_cons (tsX_forR ?_)
  refine te_call (by rfl) (te_builtin (v := .type "range") (by rw [hK]; kernel_rfl) (by kernel_rfl) ⟨_, rfl, rfl, ?_⟩)
  refine te_call (by rfl) (te_builtin (v := .builtin "len") (by rw [hK]; kernel_rfl) (by kernel_rfl) ⟨_, rfl, rfl, te_name R₅.rl.plain (tcall_lenL (by rw [hds_len]; omega) (tcall_range1 ?_))⟩)
  rw [hds_len]
  refine ⟨0, (pl.length : Int), rfl, by decide, by decide, by omega, by omega, fun rest ρ' st' => ∃ j, j ≤ pl.length ∧ rest = rngI ((j : Nat) : Int) (pl.length : Int) ∧ RI st.length dr pl t ρ' ∧ st' = st ++ [.live (prs (prH pl))], ?_, ?_, ?_⟩
  · exact ⟨0, Nat.zero_le _, rfl, R₅, rfl⟩
  · rintro x rest ρ' st' ⟨j, hj, er, R, rfl⟩
    have hjt : j < pl.length := by
      rcases Nat.lt_or_ge j pl.length with q | q
      · exact q
      · rw [rngI_nil (by omega)] at er; cases er
    rw [rng_step hjt] at er
    cases er
    obtain ⟨h, eh⟩ : ∃ h, pl[j]? = some h := ⟨_, List.getElem?_eq_getElem hjt⟩
    have hmem := List.mem_of_getElem? eh
    have F := fine h hmem
    have hs : ∀ c ∈ dots t (rowOf h.pr), c < 1114112 := small_dots F.sm
    have hat := sentR_at (t := t) eh
    have hdl : (rowOf h.pr).length ≤ (dots t (rowOf h.pr)).length := by
      unfold dots
      split
      · rw [List.length_append]; exact Nat.le_add_left _ _
      · exact Nat.le_refl _
    have hj3 : j < 1000 := Nat.lt_of_lt_of_le hjt (Nat.le_trans len (by decide))
    have h5 : 5 ≤ (dots t (rowOf h.pr)).length ∨ dots t (rowOf h.pr) = [] := .inl (Nat.le_trans F.five hdl)
    clear hdl
    have hrl : (dots t (rowOf h.pr)).length ≤ 1000 := by
      have := row_len F.good
      have := dots_len t (rowOf h.pr)
      omega
    have sh7 := heard257_shaped F ht hs
    have sh9 := heard229_shaped F hs
    have hr7 := F.r57 t ht
    have hr9 := F.r29 t ht
    generalize dots t (rowOf h.pr) = r at hs hat h5 hrl sh7 sh9 hr7 hr9
    refine tasg_name ?_
    have R₁ := R.other (x := "i") (u := .d (.int (j : Int))) rfl
    refine tbM_c (ts_assignT (te_sub (te_name R₁.rl.plain (te_name (upd_get ..) (tsub_nth (x := hdD h) (by unfold hds; rw [List.getElem?_map, eh]; rfl) hj3 ?_)))))
    refine tasg_tuple (names := ["name", "value", "by_257", "by_229"]) (xs := [.str (S h.nm), .str (S h.vl), b57D h.b57, b29D h.b29]) rfl rfl ?_
    refine tbM_facts (p := RB st.length dr pl t j h) ⟨(((R₁.other rfl).other rfl).other rfl).other rfl, upd_other (upd_other (upd_other (upd_other (upd_get ..) rfl) rfl) rfl) rfl, upd_other (upd_other (upd_other (upd_get ..) rfl) rfl) rfl, upd_other (upd_get ..) rfl, upd_get ..⟩ fun ρ₆ R₆ => ?_
    refine tbM_c (ts_mono (P := fun fl ρ' st' => fl = .next ∧ RB st.length dr pl t j h ρ' ∧ ρ'.lookup ("due_257" : PySem.Str) = some (.d (heard257 r)) ∧ st' = st ++ [.live (prs (prH pl))]) (ts_assign ?_) ?_)
    · have eh7 : heard257 r = match h.b57 with | some u => .tuple [.str "name", .str (S u)] | none => .tuple [.str "reply", .str (S r)] := by unfold heard257; rw [hr7]; all_goals (cases h.b57 <;> rfl)
      have l7 := R₆.b7
      rw [eh7]
      cases hb : h.b57 with
      | none => rw [hb] at l7; exact te_dueN l7 R₆.ri.rows R₆.i hat hj3 ⟨rfl, R₆.other rfl, upd_get .., rfl⟩
      | some u => rw [hb] at l7; exact te_dueS l7 noneS ⟨rfl, R₆.other rfl, upd_get .., rfl⟩
    rintro fl ρ₇ st₇ ⟨rfl, R₇, d7, rfl⟩
    refine tbM_c (ts_mono (P := fun fl ρ' st' => fl = .next ∧ (RB st.length dr pl t j h ρ' ∧ ρ'.lookup ("due_257" : PySem.Str) = some (.d (heard257 r)) ∧ ρ'.lookup ("due_229" : PySem.Str) = some (.d (pre229 r h.b29))) ∧ st' = st ++ [.live (prs (prH pl))]) (ts_assign ?_) ?_)
    · have key : ∀ {v : V}, RB st.length dr pl t j h (upd ρ₇ "due_229" v) ∧ (upd ρ₇ "due_229" v).lookup ("due_257" : PySem.Str) = some (.d (heard257 r)) ∧ (upd ρ₇ "due_229" v).lookup ("due_229" : PySem.Str) = some v := fun {v} => ⟨R₇.other rfl, upd_other d7 rfl, upd_get ..⟩
      have l9 := R₇.b9
      cases hb : h.b29 with
      | reply => rw [hb] at l9; exact te_dueN l9 R₇.ri.rows R₇.i hat hj3 ⟨rfl, key, rfl⟩
      | proto => rw [hb] at l9; exact te_dueN l9 R₇.ri.rows R₇.i hat hj3 ⟨rfl, key, rfl⟩
      | number => rw [hb] at l9; exact te_dueS l9 noneS ⟨rfl, key, rfl⟩
      | port n => rw [hb] at l9; exact te_dueS l9 noneI ⟨rfl, key, rfl⟩
    rintro fl ρ₈ st₈ ⟨rfl, ⟨R₈, d7, d9⟩, rfl⟩
    clear R₇ R₆ R₁ R
    refine tbM_c (ts_mono (P := fun fl ρ' st' => fl = .next ∧ (RB st.length dr pl t j h ρ' ∧ ρ'.lookup ("due_257" : PySem.Str) = some (.d (heard257 r)) ∧ ρ'.lookup ("due_229" : PySem.Str) = some (.d (heard229 r (S h.nm) h.b29))) ∧ st' = st ++ [.live (prs (prH pl))]) (ts_if (tt_cmp ?_)) ?_)
    · have l9 := R₈.b9
      cases hb : h.b29 with
      | reply =>
        rw [hb] at l9 d9
        exact te_sub (te_name l9 (te_int (tsub_tuple (j := 0) (by decide) (by decide) rfl rfl (te_str (tcmp_eqS (ttr_bool ⟨fun hh => absurd hh (by decide +kernel), fun _ => tb_nil ⟨rfl, ⟨R₈, d7, d9⟩, rfl⟩⟩))))))
      | proto =>
        rw [hb] at l9 d9
        exact te_sub (te_name l9 (te_int (tsub_tuple (j := 0) (by decide) (by decide) rfl rfl (te_str (tcmp_eqS (ttr_bool ⟨fun hh => absurd hh (by decide +kernel), fun _ => tb_nil ⟨rfl, ⟨R₈, d7, d9⟩, rfl⟩⟩))))))
      | number =>
        rw [hb] at l9 d9
        exact te_sub (te_name l9 (te_int (tsub_tuple (j := 0) (by decide) (by decide) rfl rfl (te_str (tcmp_eqS (ttr_bool ⟨fun hh => absurd hh (by decide +kernel), fun _ => tb_nil ⟨rfl, ⟨R₈, d7, d9⟩, rfl⟩⟩))))))
      | port n =>
        rw [hb] at l9 d9
        refine te_sub (te_name l9 (te_int (tsub_tuple (j := 0) (by decide) (by decide) rfl rfl (te_str (tcmp_eqS (ttr_bool ⟨fun _ => ?_, fun hh => absurd hh (by decide +kernel)⟩))))))
        refine tb_cons (ts_assign (te_tuple (by rfl) (te_str (te_tuple (by rfl) (te_name R₈.name (te_sub (te_name l9 (te_int (tsub_tuple (j := 1) (by decide) (by decide) rfl rfl ?_)))))))))
        exact ⟨[_, _], rfl, two_le, ⟨[_, _], rfl, two_le, tb_nil ⟨rfl, ⟨R₈.other rfl, upd_other d7 rfl, upd_get ..⟩, rfl⟩⟩⟩
    rintro fl ρ₉ st₉ ⟨rfl, ⟨R₉, d7', d9'⟩, rfl⟩
    refine tbM_cons (tsX_if (ttX_or (ttX_of (tt_cmp (te_call (by rfl) (te_glob (v := .ref 287) (by rw [hK]; kernel_rfl) ⟨_, rfl, by rw [hK]; kernel_rfl, te_sub (te_name R₉.ri.rows (te_name R₉.i (tsub_nth hat hj3 (f_heard257 (d := d + 3) hK h5 (Nat.le_trans hrl (by decide)) (te_name d7' (tcmp_neD sh7 sh7 ?_))))))⟩))))))
    rw [SeqAt.eqv_refl _ (SeqAt.canLay_of_shaped sh7)]
    refine ttr_bool ⟨(fun hh => nomatch hh), fun _ => ?_⟩
    refine ttX_or (ttX_cmp (teX_call (by rfl) (te_glob (v := .ref 294) (by rw [hK]; kernel_rfl) ⟨_, rfl, by rw [hK]; kernel_rfl, te_sub (te_name R₉.ri.rows (te_name R₉.i (tsub_nth hat hj3 (te_tuple (by rfl) (te_name R₉.name (te_name R₉.i ⟨[_, _], rfl, two_le, ?_⟩))))))⟩)))
    refine f_heard229 (d := d + 3) hK h5 hrl hr9 (te_name d9' (tcmp_neD sh9 sh9 ?_))
    rw [SeqAt.eqv_refl _ (SeqAt.canLay_of_shaped sh9)]
    refine ttr_bool ⟨(fun hh => nomatch hh), fun _ => ttX_of (tt_or_nil ⟨(fun hh => nomatch hh), fun _ => tbM_nil ?_⟩)⟩
    obtain ⟨sw, sw1, sw2, sw3⟩ := F.sw
    obtain ⟨q, qs, hq⟩ := same_mem hmem
    have hg := get_prH (lw h.nm) pl
    rw [hq] at hg
    refine tbM_c (ts_if (tt_cmp (te_meth (by rfl) (te_name R₉.ri.rl.table ⟨.ref 199, [.hdr (.c st.length)], by rw [hK]; kernel_rfl, tgm_hdr H (by rw [hK, hC]; kernel_rfl) (by rw [hK]; kernel_rfl) (by decide +kernel), ?_⟩))))
    refine te_meth (by rfl) (te_name R₉.name ⟨_, _, rfl, tgm_str (fun q => GM.swapcase q), tcall_swapcase (by rw [S_len]; exact Nat.le_trans F.good.n1 (by decide)) ?_⟩)
    rw [sw1]
    refine f_getC (d := d + 3) hK hC (last_get _) good sw2 sw3 (by rw [lw_len]; exact F.good.n1) F.good.n4 ?_
    rw [hg]
    refine te_sub (te_compI (rest := [L + 1]) (cl := [("name", L + 2)]) (fr := [("name", .d (.str (S h.nm)))]) (f := sameD (lw h.nm)) (te_name R₉.ri.rl.plain ⟨_, rfl, hpl, fun x hx => ?_, ?_⟩) ⟨rfl, rfl, by decide, by decide, List.Perm.refl _, fun n c e => ?_, ?_⟩)
    · obtain ⟨q, hq, rfl⟩ := List.mem_map.mp hx
      have Gq := (fine q hq).good
      have G := F.good
      have e2 := sameD_hd (x := lw h.nm) Gq
      refine ⟨["one"], [_], .name, by decide, by kernel_rfl, fun C st => ?_⟩
      show tt _ _ _ _ _ _ _
      refine tt_cmp (te_meth (by rfl) (te_sub (te_name rfl (te_int (tsub_tuple (j := 0) (x := .str (S q.nm)) (by decide) (by decide) rfl rfl ⟨_, _, rfl, tgm_str (fun q => GM.lower q), lower_ Gq.n1 Gq.n3 ?_⟩)))))
      refine te_meth (by rfl) (te_name rfl ⟨_, _, rfl, tgm_str (fun q => GM.lower q), lower_ G.n1 G.n3 (tcmp_eqS (ttr_bool ⟨rfl, fun hb => e2.trans (if_neg fun z => ?_), fun hb => ⟨_, e2.trans (if_pos (S_inj (eq_of_beq hb))), te_sub (te_name rfl (te_int (tsub_tuple (j := 1) (by decide) (by decide) rfl rfl ⟨rfl, rfl⟩)))⟩⟩))⟩)
      rw [show lwS q.pr.1 = lwS h.pr.1 from congrArg S z, beq_self_eq_true] at hb
      exact nomatch hb
    · rw [same_map _ _ fun h hh => (fine h hh).good, hq]
      refine te_int (tsub_nth (j := 0) rfl (by decide) (tcmp_neS (ttr_bool ⟨fun hh => ?_, fun _ => tb_nil (tbM_nil ⟨j + 1, hjt, rfl, R₉.ri, rfl⟩)⟩)))
      rw [bne_self_eq_false] at hh
      exact nomatch hh
    · rw [List.lookup_cons] at e
      cases hz' : n == "name" with
      | false => rw [hz'] at e; cases e
      | true =>
        rw [hz'] at e
        cases e
        obtain rfl := eq_of_beq hz'
        rfl
    · intro z u ez
      rw [List.lookup_cons] at ez
      cases hz' : z == "name" with
      | false => rw [hz'] at ez; cases ez
      | true =>
        rw [hz'] at ez
        cases ez
        obtain rfl := eq_of_beq hz'
        exact ⟨R₉.name, .inl rfl, .inl rfl, rfl⟩
  · rintro ρ' st' ⟨j, hj, er, R, rfl⟩
    refine tbM_c (ts_ret (te_cmp (te_call (by rfl) (te_glob (v := .ref 287) (by rw [hK]; kernel_rfl) ⟨_, rfl, by rw [hK]; kernel_rfl, te_sub (te_name R.rows (te_un (te_int (tun_neg (tsub_list (by decide) (by decide) (j := pl.length + 1) (by rw [sentR_len]; exact seq_neg) (sentR_last pl t) (f_heard257 (d := d + 3) hK (.inr rfl) (Nat.zero_le _) ?_))))))⟩))))
    rw [heard_nil]
    have sh : SeqAt.shaped (.tuple [.str "reply", .str (S [])]) = true := shaped_two (by decide +kernel) (by decide +kernel)
    refine te_tuple (by rfl) (te_str (te_strS (l := []) (by decide +kernel) ⟨[_, _], rfl, two_le, tcmp_eqD sh sh ⟨_, rfl, ?_⟩⟩))
    rw [SeqAt.eqv_refl _ (SeqAt.canLay_of_shaped sh)]
end Mine

-- Z7
namespace Mine
open PySem PySem.W PySem.Calls PyProof.Rows

theorem ok_top {cx : Cx} {s : Shared} (hb : cx.base = s.heap) : Ok cx callerA [] [] [] s.heap s.toks :=
  ⟨⟨[], rfl, fun env m => (nomatch m)⟩, Nat.zero_le _, (by rw [hb]; exact fun b o e => vw_get.mpr ⟨e, fun m => (nomatch m)⟩), List.nodup_nil, (fun a m => nomatch m), ⟨rfl, fun i a c e => (by simp at e)⟩⟩
theorem ints_rd {g : Heap} {vs : List Value} {ns : List Int} (h : IntsAre vs ns) : RdAll g vs (ns.map .int) := by
  induction h with
  | nil => exact .nil
  | cons n t _ ih => exact .cons (.int n t) ih
theorem room_top : Room callerA 20 := by
  refine ⟨rfl, ?_, ?_⟩
  · show 1 + claimMargin + 4 * 20 + 8 < recursionLimit
    decide +kernel
  · show 4 + 20 * 20 + 200 < cLine
    decide +kernel
theorem law_S (hF : ∀ v, v < 1000000 → Fine (hdOf v)) {cx : Cx} {P : Params} (hK : cx.K = hd.heap_1 P) (hC : cx.hC = 252) {s : Shared} (hb : cx.base = s.heap) {l : Addr} {vs : List Value} {ns : List Int} (hL : s.heap.IsList l vs.toArray) (hI : IntsAre vs ns) (hn : ns.length ≤ 63)
    {Q : Value → Shared → Prop} {E : Value → Shared → Prop} (k : ∀ h' tk', s.heap.StaysIn h' → Q (.bool true) { s with heap := h', toks := tk' }) : wpS true (model cx.prog cx.w) callerA (call (.ref 299) [.ref l]) Q E s := by
  have hv : ∀ b o, s.heap.get? b = some o → (vw s.heap ([] ++ [])).get? b = some o := fun b o e => vw_get.mpr ⟨e, fun m => nomatch m⟩
  have hL' : (vw s.heap ([] ++ [])).IsList l vs.toArray := let ⟨o, e, r⟩ := hL; ⟨o, hv _ _ e, r⟩
  have hf := f_law (d := 14) (st := []) hF hK hC hn callerA [] [] s (.ref 299) [.ref l] [] room_top (ok_top hb) rfl (.cons (Rd.list hL' (ints_rd hI)) .nil) rfl .nil
  refine hf Q E (fun r st' val al' h' tk' n v p => ?_) fun _ _ _ _ _ _ _ _ _ _ _ p => p.elim
  subst p
  rw [rd_bool v]
  exact k h' tk' fun b o e => (vw_get.mp (n.vw b o (hv b o e))).1
end Mine

-- Z8
namespace Mine
open PySem PySem.StrLaws PySem.Builtin PySem.Builtin.Str

noncomputable def swL (x : List Nat) : List Nat := x.map fun c => if 65 ≤ c ∧ c ≤ 90 then c + 32 else if 97 ≤ c ∧ c ≤ 122 then c - 32 else c
noncomputable def nameOk (x : List Nat) : Bool := decide (x.length ≤ 20) && x.all (fun c => !isCtl c && decide (c < 128)) && (Txt.lower (S x) == lwS x) && (lw x).all (fun c => !isCtl c) && (Txt.swapcase (S x) == S (swL x)) && (Txt.lower (S (swL x)) == lwS x) && !x.isEmpty
theorem names57 : ∀ j < 2, ∀ r0 < 3, ∀ r1 < 3, nameOk ([50, 53, 55, 32, 34] ++ List.replicate r0 34 ++ [aA j] ++ List.replicate r1 34) = true := by decide +kernel
theorem names29 : ∀ j < 2, ∀ k < 5, nameOk ([50, 50, 57, 32] ++ [aA j] ++ [40] ++ preN k) = true := by decide +kernel
theorem namesO : ∀ z < 3, ∀ k < 4, ∀ o < 2, nameOk (List.replicate z 46 ++ opnU z k o) = true := by decide +kernel

noncomputable def valOk (x : List Nat) : Prop := x.length ≤ 100 ∧ ∀ c ∈ x, isCtl c = false ∧ c < 1114112
theorem name_good {x v : List Nat} (h : nameOk x = true) (hv : valOk v) : Good (x, v) ∧ (∃ c r, x = c :: r) ∧ (∃ sw, Txt.swapcase (S x) = S sw ∧ sw.length ≤ 100 ∧ Txt.lower (S sw) = lwS x) ∧ ∀ c ∈ x, c < 128 := by
  unfold nameOk at h
  simp only [Bool.and_eq_true, List.all_eq_true, decide_eq_true_eq, beq_iff_eq, Bool.not_eq_true'] at h
  obtain ⟨⟨⟨⟨⟨⟨h1, h2⟩, h3⟩, h4⟩, h5⟩, h6⟩, h7⟩ := h
  refine ⟨⟨Nat.le_trans h1 (by decide), fun c hc => (h2 c hc).1, h3, h4, hv.1, fun c hc => (hv.2 c hc).1⟩, ?_, ⟨swL x, h5, ?_, h6⟩, fun c hc => (h2 c hc).2⟩
  · cases x with
    | nil => cases h7
    | cons c r => exact ⟨c, r, rfl⟩
  · unfold swL
    rw [List.length_map]
    exact Nat.le_trans h1 (by decide)
theorem row_small {x v : List Nat} (h : ∀ c ∈ x, c < 128) (hv : valOk v) : ∀ c ∈ rowOf (x, v), c < 1114112 := by
  intro c hc
  rcases List.mem_append.mp hc with hc | hc
  · have := h c hc; omega
  · rcases List.mem_cons.mp hc with rfl | hc
    · decide
    · rcases List.mem_cons.mp hc with rfl | hc
      · decide
      · exact (hv.2 c hc).2
theorem fine_of {h : Hd} (hn : nameOk h.nm = true) (hv : valOk h.vl) (h5 : 5 ≤ (rowOf h.pr).length) (s57 : ∀ t, h.b57 = some t → ∀ c ∈ t, c < 1114112) (r57 : ∀ t, t < 3 → res257 (dots t (rowOf h.pr)) = h.b57) (r29 : ∀ t, t < 3 → P229 (dots t (rowOf h.pr)) h.b29) : Fine h := by
  obtain ⟨g, ne, sw, sm⟩ := name_good hn hv
  exact ⟨g, ne, h5, row_small sm hv, s57, r57, r29, sw⟩

theorem isCtl_of {c : Nat} (h1 : 32 ≤ c) (h2 : c ≠ 127) : isCtl c = false := by
  unfold isCtl
  simp
  omega
theorem sgn_ok {q : Nat} (h : q < 20000) : isCtl (sgn q) = false ∧ sgn q < 1114112 ∧ sgn q ≠ 34 := by
  unfold sgn
  split
  · exact ⟨isCtl_of (by omega) (by omega), by omega, by omega⟩
  · exact ⟨isCtl_of (by omega) (by omega), by omega, by omega⟩
theorem unq_run {x : Nat} (h : x ≠ 34) (Y : List Nat) : ∀ r < 4, unq (List.replicate r 34 ++ x :: Y) = List.replicate (r / 2) 34 ++ if r % 2 = 1 then [] else x :: unq Y
  | 0, _ => unq_ne h
  | 1, _ => unq_stop h
  | 2, _ => by
    show unq (34 :: 34 :: x :: Y) = 34 :: (x :: unq Y)
    rw [unq_two, unq_ne h]
  | 3, _ => by
    show unq (34 :: 34 :: 34 :: x :: Y) = 34 :: []
    rw [unq_two, unq_stop h]
theorem unq_row {a c : Nat} (ha : a ≠ 34) (hc : c ≠ 34) {r0 r1 r2 : Nat} (h0 : r0 < 4) (h1 : r1 < 4) (h2 : r2 < 4) :
    unq (List.replicate r0 34 ++ a :: (List.replicate r1 34 ++ 58 :: 32 :: (List.replicate r2 34 ++ [c]))) = tolds [(r0, [a]), (r1, [58, 32]), (r2, [c])] := by
  have e : tolds [(r0, [a]), (r1, [58, 32]), (r2, [c])] = List.replicate (r0 / 2) 34 ++ if r0 % 2 = 1 then [] else [a] ++ (List.replicate (r1 / 2) 34 ++ if r1 % 2 = 1 then [] else [58, 32] ++ (List.replicate (r2 / 2) 34 ++ if r2 % 2 = 1 then [] else [c] ++ [])) := rfl
  rw [e, unq_run ha _ r0 h0, unq_run (by decide) _ r1 h1, unq_ne (by decide), unq_run hc _ r2 h2]
  rfl
theorem dots_no {t c : Nat} {r : List Nat} (h : c ≠ 46) : dots t (c :: r) = c :: r := if_neg (by simpa using h)
theorem fine57 {w : Nat} (hw : w < 1000000) : Fine (hd57 w) := by
  have hj : w % 2 < 2 := Nat.mod_lt _ (by decide)
  have h0 : w / 2 % 3 < 3 := Nat.mod_lt _ (by decide)
  have h1 : w / 6 % 3 < 3 := Nat.mod_lt _ (by decide)
  have h2 : w / 18 % 4 < 4 := Nat.mod_lt _ (by decide)
  obtain ⟨s1, s2, s3⟩ := sgn_ok (q := w / 72) (by omega)
  have ha : ∀ j, aA j ≠ 34 ∧ aA j < 128 := fun j => by unfold aA; split <;> decide
  unfold hd57
  generalize sgn (w / 72) = c at s1 s2 s3
  generalize w / 18 % 4 = r2 at h2
  generalize w / 6 % 3 = r1 at h1
  generalize w / 2 % 3 = r0 at h0
  have er : rowOf (mk57 (aA (w % 2)) r0 r1 r2 c).pr = 50 :: 53 :: 55 :: 32 :: 34 :: (List.replicate r0 34 ++ aA (w % 2) :: (List.replicate r1 34 ++ 58 :: 32 :: (List.replicate r2 34 ++ [c]))) := by
    show ([50, 53, 55, 32, 34] ++ List.replicate r0 34 ++ [aA (w % 2)] ++ List.replicate r1 34) ++ 58 :: 32 :: (List.replicate r2 34 ++ [c]) = _
    simp
  have key := unq_row (ha (w % 2)).1 s3 (Nat.lt_succ_of_lt h0) (Nat.lt_succ_of_lt h1) h2
  refine fine_of (names57 _ hj _ h0 _ h1) ⟨?_, fun x hx => ?_⟩ (by rw [er]; exact Nat.le_add_left 5 _) (fun t ht x hx => ?_) (fun t _ => ?_) fun t _ => ?_
  · show (List.replicate r2 34 ++ [c]).length ≤ 100
    rw [List.length_append, List.length_replicate]
    show r2 + 1 ≤ 100
    omega
  · rcases List.mem_append.mp hx with hx | hx
    · have := List.eq_of_mem_replicate hx; subst this; decide
    · rw [List.mem_singleton] at hx; subst hx; exact ⟨s1, s2⟩
  · have ht' : tolds [(r0, [aA (w % 2)]), (r1, [58, 32]), (r2, [c])] = t := Option.some.inj ht
    have rep : ∀ {n : Nat} {y : Nat}, y ∈ List.replicate n 34 → y < 1114112 := fun hy => by have := List.eq_of_mem_replicate hy; omega
    have tl : ∀ (l : List (Nat × List Nat)), (∀ p ∈ l, ∀ y ∈ p.2, y < 1114112) → ∀ y ∈ tolds l, y < 1114112 := by
      intro l
      induction l with
      | nil => exact fun _ y hy => nomatch hy
      | cons p l ih =>
        intro hp y hy
        have e : tolds (p :: l) = List.replicate (p.1 / 2) 34 ++ if p.1 % 2 = 1 then [] else p.2 ++ tolds l := rfl
        rw [e] at hy
        rcases List.mem_append.mp hy with hy | hy
        · exact rep hy
        · split at hy
          · cases hy
          · rcases List.mem_append.mp hy with hy | hy
            · exact hp p (.head _) y hy
            · exact ih (fun q hq => hp q (.tail _ hq)) y hy
    rw [← ht'] at hx
    refine tl _ (fun p hp y hy => ?_) x hx
    simp only [List.mem_cons, List.mem_nil_iff, or_false] at hp
    rcases hp with rfl | rfl | rfl
    · have := (ha (w % 2)).2; simp at hy; omega
    · simp at hy; omega
    · simp at hy; omega
  · rw [er, dots_no (by decide)]
    exact (if_pos rfl).trans (congrArg some ((if_pos rfl).trans key))
  · rw [er, dots_no (by decide)]
    exact .inl ⟨(fun q => nomatch q), rfl⟩

theorem dec_ok {n : Nat} (h : n < 10000000) : valOk (dec (n : Int) ++ [58, 41]) := by
  refine ⟨?_, fun c hc => ?_⟩
  · have := dec_len (Int.natCast_nonneg n) (by omega)
    rw [List.length_append]
    show _ + 2 ≤ 100
    omega
  · rcases List.mem_append.mp hc with hc | hc
    · have := dec_digits (Int.natCast_nonneg n) c hc
      exact ⟨isCtl_of (by omega) (by omega), by omega⟩
    · simp at hc
      rcases hc with rfl | rfl <;> decide
end Mine

-- Z9
namespace Mine
open PySem PySem.StrLaws PySem.Builtin PySem.Builtin.Str

theorem pre_len5 : ∀ k < 4, ∀ o < 2, 5 ≤ (opnU 0 k o).length := by decide +kernel
theorem pre_k0 : ∀ o < 2, (opnU 0 0 o).take 3 = [50, 53, 48] := by decide +kernel
theorem pre_k1 : ∀ o < 2, (opnU 0 1 o).take 3 = [50, 53, 55] ∧ ((opnU 0 1 o).drop 3).take 2 ≠ [32, 34] := by decide +kernel
theorem pre_k2 : ∀ o < 2, (opnU 0 2 o).take 3 = [50, 53, 55] ∧ ((opnU 0 2 o).drop 3).take 2 ≠ [32, 34] := by decide +kernel
theorem pre_k3 : ∀ o < 2, (opnU 0 3 o).take 3 = [50, 50, 57] ∧ 40 ∉ opnU 0 3 o := by decide +kernel
theorem other_pre : ∀ k < 4, ∀ o < 2, 5 ≤ (opnU 0 k o).length ∧ (k = 0 → (opnU 0 k o).take 3 = [50, 53, 48]) ∧ (k = 1 ∨ k = 2 → (opnU 0 k o).take 3 = [50, 53, 55] ∧ ((opnU 0 k o).drop 3).take 2 ≠ [32, 34]) ∧ (k = 3 → (opnU 0 k o).take 3 = [50, 50, 57] ∧ 40 ∉ opnU 0 k o) := by
  intro k hk o ho
  refine ⟨pre_len5 k hk o ho, fun q => ?_, fun q => ?_, fun q => ?_⟩
  · subst q; exact pre_k0 o ho
  · rcases q with rfl | rfl
    · exact pre_k1 o ho
    · exact pre_k2 o ho
  · subst q; exact pre_k3 o ho
theorem other_ne : ∀ z < 3, ∀ k < 4, ∀ o < 2, z ≠ 0 → 2 ≤ (opnU z k o).length := by decide +kernel
theorem zero_head : ∀ k < 4, ∀ o < 2, (opnU 0 k o).head? ≠ some 46 := by decide +kernel
theorem take_app {l m : List Nat} {n : Nat} (h : n ≤ l.length) : (l ++ m).take n = l.take n := List.take_append_of_le_length h
theorem fineO {w : Nat} (hw : w < 1000000) : Fine (hdOther w) := by
  have hz : w % 3 < 3 := Nat.mod_lt _ (by decide)
  have hk : w / 3 % 4 < 4 := Nat.mod_lt _ (by decide)
  have ho : w / 12 % 2 < 2 := Nat.mod_lt _ (by decide)
  have ht' : w / 24 < 10000000 := by omega
  have hv := dec_ok ht'
  have hd : ∀ c ∈ dec ((w / 24 : Nat) : Int), 48 ≤ c ∧ c ≤ 57 := dec_digits (Int.natCast_nonneg _)
  unfold hdOther
  generalize w / 24 = t' at hv hd
  generalize w / 12 % 2 = o at ho
  generalize w / 3 % 4 = k at hk
  generalize w % 3 = z at hz
  have er : rowOf (hdO z k o t').pr = List.replicate z 46 ++ (opnU z k o ++ 58 :: 32 :: (dec (t' : Int) ++ [58, 41])) := by
    show (List.replicate z 46 ++ opnU z k o) ++ 58 :: 32 :: (dec (t' : Int) ++ [58, 41]) = _
    rw [List.append_assoc]
  by_cases z0 : z = 0
  · subst z0
    obtain ⟨p1, p2, p3, p4⟩ := other_pre k hk o ho
    have hh := zero_head k hk o ho
    have er0 : rowOf (hdO 0 k o t').pr = opnU 0 k o ++ 58 :: 32 :: (dec (t' : Int) ++ [58, 41]) := er
    have ed : ∀ t, dots t (rowOf (hdO 0 k o t').pr) = opnU 0 k o ++ 58 :: 32 :: (dec (t' : Int) ++ [58, 41]) := fun t => by
      rw [er0]
      refine if_neg fun q => hh ?_
      cases hl : opnU 0 k o with
      | nil => rw [hl] at p1; cases p1
      | cons c r => rw [hl] at q; exact q
    have e3 : (opnU 0 k o ++ 58 :: 32 :: (dec (t' : Int) ++ [58, 41])).take 3 = (opnU 0 k o).take 3 := take_app (Nat.le_trans (by decide) p1)
    have e5 : ((opnU 0 k o ++ 58 :: 32 :: (dec (t' : Int) ++ [58, 41])).drop 3).take 2 = ((opnU 0 k o).drop 3).take 2 := by
      rw [List.drop_append_of_le_length (Nat.le_trans (by decide) p1)]
      exact take_app (by rw [List.length_drop]; omega)
    refine fine_of (namesO 0 (by decide) k hk o ho) hv (by rw [er0, List.length_append]; omega) (fun u hu c hc => ?_) (fun t _ => ?_) fun t _ => ?_
    · have : (if (0 : Nat) = 0 ∧ (k = 1 ∨ k = 2) then some [] else none : Option (List Nat)) = some u := hu
      split at this
      · cases this; cases hc
      · cases this
    · rw [ed]
      show _ = (if (0 : Nat) = 0 ∧ (k = 1 ∨ k = 2) then some [] else none : Option (List Nat))
      unfold res257
      rw [e3, e5]
      by_cases q : k = 1 ∨ k = 2
      · rw [if_pos (p3 q).1, if_neg (p3 q).2, if_pos ⟨rfl, q⟩]
      · rw [show (if (0 : Nat) = 0 ∧ (k = 1 ∨ k = 2) then some [] else none : Option (List Nat)) = none from if_neg fun z => q z.2]
        refine if_neg fun z => ?_
        by_cases q0 : k = 0
        · rw [p2 q0] at z; exact nomatch z
        · rw [(p4 (by omega)).1] at z; exact nomatch z
    · rw [ed]
      show P229 _ (if (0 : Nat) = 0 ∧ k = 3 then .proto else .reply)
      by_cases q : k = 3
      · rw [if_pos ⟨rfl, q⟩]
        refine .inr ⟨by rw [e3]; exact (p4 q).1, .inl ⟨fun m => ?_, rfl⟩⟩
        rcases List.mem_append.mp m with m | m
        · exact (p4 q).2 m
        · simp only [List.mem_cons, List.mem_append, List.mem_nil_iff, or_false] at m
          rcases m with m | m | m | m | m
          · omega
          · omega
          · have := hd _ m; omega
          · omega
          · omega
      · rw [if_neg fun z => q z.2]
        refine .inl ⟨?_, rfl⟩
        rw [e3]
        by_cases q0 : k = 0
        · rw [p2 q0]; decide
        · rw [(p3 (by omega)).1]; decide
  · obtain ⟨n, rfl⟩ := Nat.exists_eq_succ_of_ne_zero z0
    have o2 : 2 ≤ (opnU (n + 1) k o).length := other_ne _ hz k hk o ho z0
    have er' : rowOf (hdO (n + 1) k o t').pr = 46 :: (List.replicate n 46 ++ (opnU (n + 1) k o ++ 58 :: 32 :: (dec (t' : Int) ++ [58, 41]))) := er
    have ed : ∀ t, ∃ r, dots t (rowOf (hdO (n + 1) k o t').pr) = 46 :: r := fun t => by
      rw [er']
      cases t with
      | zero => exact ⟨_, dots_zero _⟩
      | succ t => exact ⟨_, if_pos rfl⟩
    refine fine_of (namesO _ hz k hk o ho) hv ?_ (fun u hu c hc => ?_) (fun t _ => ?_) fun t _ => ?_
    · rw [er', List.length_cons, List.length_append, List.length_append]
      show 5 ≤ (_ + ((opnU (n + 1) k o).length + ((dec (t' : Int) ++ [58, 41]).length + 1 + 1))) + 1
      omega
    · have : (if n + 1 = 0 ∧ (k = 1 ∨ k = 2) then some [] else none : Option (List Nat)) = some u := hu
      rw [if_neg (fun q => z0 q.1)] at this
      cases this
    · obtain ⟨r, e⟩ := ed t
      rw [e]
      show _ = (if n + 1 = 0 ∧ (k = 1 ∨ k = 2) then some [] else none : Option (List Nat))
      rw [if_neg (fun q => z0 q.1)]
      exact if_neg fun q => nomatch q
    · obtain ⟨r, e⟩ := ed t
      rw [e]
      show P229 _ (if n + 1 = 0 ∧ k = 3 then .proto else .reply)
      rw [if_neg (fun q => z0 q.1)]
      exact .inl ⟨(fun q => nomatch q), rfl⟩
end Mine

-- Z10
namespace Mine
open PySem PySem.StrLaws PySem.Builtin PySem.Builtin.Str

theorem inter1 (m : Nat) (p : List Nat) : List.intercalate [m] [p] = p := by simp [List.intercalate]
theorem inter2 (m : Nat) (p q : List Nat) (r : List (List Nat)) : List.intercalate [m] (p :: q :: r) = p ++ m :: List.intercalate [m] (q :: r) := by simp [List.intercalate, List.intersperse]
theorem inter_add (m : Nat) (a p : List Nat) (r : List (List Nat)) : List.intercalate [m] ((a ++ p) :: r) = a ++ List.intercalate [m] (p :: r) := by
  cases r with
  | nil => rw [inter1, inter1]
  | cons q r => rw [inter2, inter2, List.append_assoc]
theorem inter_end (m : Nat) : ∀ {L : List (List Nat)}, L ≠ [] → List.intercalate [m] (L ++ [[]]) = List.intercalate [m] L ++ [m]
  | [], h => absurd rfl h
  | [p], _ => by
    show List.intercalate [m] [p, []] = _
    rw [inter2, inter1, inter1]
  | p :: q :: r, _ => by
    have ih := inter_end m (L := q :: r) (by simp)
    show List.intercalate [m] (p :: q :: (r ++ [[]])) = _
    rw [inter2, inter2]
    show p ++ m :: List.intercalate [m] (q :: r ++ [[]]) = _
    rw [ih, List.append_assoc]; rfl
theorem inter_mem {m x : Nat} : ∀ {ps : List (List Nat)}, x ∈ List.intercalate [m] ps → x = m ∨ ∃ p ∈ ps, x ∈ p
  | [], h => by simp [List.intercalate] at h
  | [p], h => .inr ⟨p, .head _, by rwa [inter1] at h⟩
  | p :: q :: r, h => by
    rw [inter2] at h
    rcases List.mem_append.mp h with h | h
    · exact .inr ⟨p, .head _, h⟩
    · rcases List.mem_cons.mp h with h | h
      · exact .inl h
      · exact (inter_mem h).imp id fun ⟨y, hy, hx⟩ => ⟨y, .tail _ hy, hx⟩
theorem inter_last (m : Nat) : ∀ {ps : List (List Nat)} (h : ps ≠ []), ps.getLast h ≠ [] → ∃ Y c, List.intercalate [m] ps = Y ++ [c] ∧ c ∈ ps.getLast h
  | [], h, _ => absurd rfl h
  | [p], _, hl => ⟨p.dropLast, p.getLast hl, by rw [inter1]; exact (List.dropLast_concat_getLast hl).symm, List.getLast_mem hl⟩
  | p :: q :: r, _, hl => by
    have e : (p :: q :: r).getLast (by simp) = (q :: r).getLast (by simp) := List.getLast_cons (by simp)
    obtain ⟨Y, c, h1, h2⟩ := inter_last m (ps := q :: r) (by simp) (by rw [← e]; exact hl)
    exact ⟨p ++ m :: Y, c, by rw [inter2, h1, List.append_assoc]; rfl, by rw [e]; exact h2⟩
theorem inter_last0 (m : Nat) {ps : List (List Nat)} (h : ps ≠ []) (hl : ps.getLast h = []) (h2 : 2 ≤ ps.length) : ∃ Y, List.intercalate [m] ps = Y ++ [m] := by
  have e := List.dropLast_concat_getLast h
  rw [hl] at e
  have hd : ps.dropLast ≠ [] := fun q => by
    have := congrArg List.length q
    rw [List.length_dropLast] at this
    simp at this
    omega
  exact ⟨_, by rw [← e]; exact inter_end m hd⟩

theorem p229_of {head : List Nat} {m : Nat} {Q : List (List Nat)} {R : R229} (h3 : head.take 3 = [50, 50, 57]) (hl : 3 ≤ head.length) (h40 : 40 ∉ head) (hk : strKind (S [m]) = 1) (hm : m ≠ 41) (hQ : Q ≠ []) (hX : 2 ≤ Q.length ∨ Q.getLast hQ ≠ []) (hp : ∀ p ∈ Q, m ∉ p ∧ 41 ∉ p)
    (hR : (Q.getLast hQ ≠ [] ∧ R = .proto) ∨ (Q.getLast hQ = [] ∧ ((Q.length ≠ 4 ∧ R = .proto) ∨ ∃ p1 p2 p3 p4, Q = [p1, p2, p3, p4] ∧ p3.length ≤ 640 ∧ (∀ x ∈ p3, x < 65536) ∧ ((PySem.intText? (S p3) = none ∧ R = .number) ∨ ∃ n, PySem.intText? (S p3) = some n ∧ R = .port n)))) :
    P229 (head ++ 40 :: (List.intercalate [m] ([] :: Q) ++ [41])) R := by
  have e0 : List.intercalate [m] ([] :: Q) = m :: List.intercalate [m] Q := by
    cases Q with
    | nil => exact absurd rfl hQ
    | cons q qs => rw [inter2]; rfl
  have no41 : 41 ∉ m :: List.intercalate [m] Q := fun x => by
    rcases List.mem_cons.mp x with x | x
    · exact hm x.symm
    · rcases inter_mem x with x | ⟨p, h1, h2⟩
      · exact hm x.symm
      · exact (hp p h1).2 h2
  refine .inr ⟨by rw [take_app hl]; exact h3, .inr ⟨head, List.intercalate [m] ([] :: Q) ++ [41], rfl, h40, .inr ?_⟩⟩
  rcases hR with ⟨hne, hr⟩ | ⟨he, hr⟩
  · obtain ⟨T, c, h1, h2⟩ := inter_last m hQ hne
    refine ⟨m, T, c, [], by rw [e0, h1]; rfl, by rw [List.cons_append, ← h1]; exact no41, hk, .inl ⟨fun q => ?_, hr⟩⟩
    rw [q] at h2
    exact (hp _ (List.getLast_mem hQ)).1 h2
  · have h2 : 2 ≤ Q.length := hX.elim id fun q => absurd he q
    obtain ⟨T, h1⟩ := inter_last0 m hQ he h2
    refine ⟨m, T, m, [], by rw [e0, h1]; rfl, by rw [List.cons_append, ← h1]; exact no41, hk, .inr ⟨[] :: Q, by rw [e0, h1]; rfl, rfl, by simp, fun p hp' => ?_, ?_⟩⟩
    · rcases List.mem_cons.mp hp' with rfl | hp'
      · simp
      · exact (hp p hp').1
    · rcases hr with ⟨h4, hr⟩ | ⟨p1, p2, p3, p4, e, r⟩
      · exact .inl ⟨fun q => h4 (Nat.succ.inj q), hr⟩
      · exact .inr ⟨[], p1, p2, p3, p4, by rw [e], r⟩

noncomputable def okc (c : Nat) : Prop := c = 34 ∨ c = 45 ∨ c = 95 ∨ c = 120 ∨ (48 ≤ c ∧ c ≤ 57)
theorem seen_ascii {l : List Nat} (h : ∀ c ∈ l, 0 < c ∧ c < 128) : PySem.numTextOf (S l) = l ∧ PySem.numSeenOf (S l) = l := by
  have e1 : PySem.numTextOf (S l) = l := by
    refine if_pos ?_
    rw [← Array.all_toList, List.all_eq_true]
    intro c hc
    exact decide_eq_true (h c hc).2
  refine ⟨e1, ?_⟩
  show (PySem.numTextOf (S l)).takeWhile _ = _
  rw [e1]
  clear e1
  induction l with
  | nil => rfl
  | cons c l ih =>
    have := (h c (.head _)).1
    rw [List.takeWhile_cons, if_pos (bne_iff_ne.mpr (by omega)), ih fun x hx => h x (.tail _ hx)]
theorem blank_reads {l : List Nat} (h : ∀ c ∈ l, 0 < c ∧ c < 128) : PySem.intText? (S (32 :: l)) = PySem.intText? (S l) := by
  obtain ⟨a1, a2⟩ := seen_ascii h
  obtain ⟨b1, b2⟩ := seen_ascii (l := 32 :: l) fun c hc => (List.mem_cons.mp hc).elim (fun q => by omega) (h c)
  unfold PySem.intText?
  rw [a1, a2, b1, b2]
  have e : (32 :: l).dropWhile PySem.NumText.blank = l.dropWhile PySem.NumText.blank := List.dropWhile_cons_of_pos (by decide)
  have e2 : PySem.NumText.core (32 :: l) = PySem.NumText.core l := by unfold PySem.NumText.core; rw [e]
  rw [e, e2, beq_self_eq_true, beq_self_eq_true]
structure FdOk (f : Fd) : Prop where
  c : ∀ x ∈ f.1, okc x
  r : PySem.intText? (S f.1) = f.2
  n : f.1.length ≤ 10
theorem okc_lt {x : Nat} (h : okc x) : 0 < x ∧ x < 128 := by unfold okc at h; omega
noncomputable def okb (x : Nat) : Bool := [34, 45, 95, 120, 48, 49, 50, 51, 52, 53, 54, 55, 56, 57].contains x
theorem okb_of {x : Nat} (h : okb x = true) : okc x := by
  have h' : x ∈ [34, 45, 95, 120, 48, 49, 50, 51, 52, 53, 54, 55, 56, 57] := List.contains_iff_mem.mp h
  have all : ∀ y ∈ [34, 45, 95, 120, 48, 49, 50, 51, 52, 53, 54, 55, 56, 57], okc y := by unfold okc; decide +kernel
  exact all x h'
theorem fd_of {f : Fd} (h : f.1.all okb = true) (r : PySem.intText? (S f.1) = f.2) (n : f.1.length ≤ 10) : FdOk f :=
  ⟨fun x hx => okb_of (List.all_eq_true.mp h x hx), r, n⟩
theorem filler_ok : ∀ j < 4, FdOk (filler j)
  | 0, _ => fd_of (by decide +kernel) (by decide +kernel) (by decide)
  | 1, _ => fd_of (by decide +kernel) (by decide +kernel) (by decide)
  | 2, _ => fd_of (by decide +kernel) (by decide +kernel) (by decide)
  | 3, _ => fd_of (by decide +kernel) (by decide +kernel) (by decide)
theorem ender_ok : ∀ j < 4, FdOk (ender j)
  | 0, _ => fd_of (by decide +kernel) (by decide +kernel) (by decide)
  | 1, _ => fd_of (by decide +kernel) (by decide +kernel) (by decide)
  | 2, _ => fd_of (by decide +kernel) (by decide +kernel) (by decide)
  | 3, _ => fd_of (by decide +kernel) (by decide +kernel) (by decide)
theorem fields_ok {u : Nat} (hu : u < 10000) (c : Nat) : ∀ f ∈ fieldsL u c, FdOk f := by
  intro f hf
  rcases List.mem_append.mp hf with hf | hf
  · obtain ⟨i, _, rfl⟩ := List.mem_map.mp hf
    exact filler_ok _ (Nat.mod_lt _ (by decide))
  · rw [List.mem_singleton] at hf
    subst hf
    unfold lastFd
    split
    · exact ender_ok _ (Nat.mod_lt _ (by decide))
    · exact ⟨fun x hx => .inr (.inr (.inr (.inr (dec_digits (Int.natCast_nonneg _) x hx)))), dec_reads (Int.natCast_nonneg _) (by omega), dec_len (Int.natCast_nonneg _) (by omega)⟩

noncomputable def midP (k : Nat) : List (List Nat) := ([[], [], [[]], [[58]], [[], []]] : List (List (List Nat))).getD k []
noncomputable def addP (k : Nat) : List Nat := ([[32], [58, 32], [32], [], [32]] : List (List Nat)).getD k []
noncomputable def partsQ (k : Nat) (f0 : List Nat) (rest : List (List Nat)) : List (List Nat) := midP k ++ (addP k ++ f0) :: rest
theorem mid_eq (f0 : List Nat) (rest : List (List Nat)) : ∀ k < 5, preN k ++ 58 :: 32 :: List.intercalate [mrk k] (f0 :: rest) = List.intercalate [mrk k] ([] :: partsQ k f0 rest)
  | 0, _ => by
    show 58 :: 32 :: List.intercalate [58] (f0 :: rest) = List.intercalate [58] ([] :: ([32] ++ f0) :: rest)
    rw [inter2, inter_add]; rfl
  | 1, _ => by
    show 124 :: 58 :: 32 :: List.intercalate [124] (f0 :: rest) = List.intercalate [124] ([] :: ([58, 32] ++ f0) :: rest)
    rw [inter2, inter_add]; rfl
  | 2, _ => by
    show 58 :: 58 :: 32 :: List.intercalate [58] (f0 :: rest) = List.intercalate [58] ([] :: [] :: ([32] ++ f0) :: rest)
    rw [inter2, inter2, inter_add]; rfl
  | 3, _ => by
    show 32 :: 58 :: 32 :: List.intercalate [32] (f0 :: rest) = List.intercalate [32] ([] :: [58] :: f0 :: rest)
    rw [inter2, inter2]; rfl
  | 4, _ => by
    show 58 :: 58 :: 58 :: 32 :: List.intercalate [58] (f0 :: rest) = List.intercalate [58] ([] :: [] :: [] :: ([32] ++ f0) :: rest)
    rw [inter2, inter2, inter2, inter_add]; rfl
theorem mid_len : ∀ k < 5, (midP k).length + 1 = ownN k := by decide +kernel
theorem mid_ok : ∀ k < 5, (∀ p ∈ midP k, mrk k ∉ p ∧ 41 ∉ p) ∧ mrk k ∉ addP k ∧ 41 ∉ addP k ∧ (mrk k = 58 ∨ mrk k = 124 ∨ mrk k = 32) := by decide +kernel
theorem parts_at (g : Fd) (gs : List Fd) (ex : List (List Nat)) : ∀ k < 5, 3 - ownN k < (g :: gs).length → (partsQ k g.1 (gs.map Prod.fst) ++ ex)[2]? = some ((if k = 4 then [32] else []) ++ ((g :: gs).getD (3 - ownN k) ([], none)).1)
  | 0, _, h => by
    have h' : 1 < gs.length := Nat.lt_of_succ_lt_succ h
    show (gs.map Prod.fst ++ ex)[1]? = some (gs.getD 1 ([], none)).1
    rw [List.getElem?_append_left (by rw [List.length_map]; exact h'), List.getElem?_map, nth_getD ([], none) h']; rfl
  | 1, _, h => by
    have h' : 1 < gs.length := Nat.lt_of_succ_lt_succ h
    show (gs.map Prod.fst ++ ex)[1]? = some (gs.getD 1 ([], none)).1
    rw [List.getElem?_append_left (by rw [List.length_map]; exact h'), List.getElem?_map, nth_getD ([], none) h']; rfl
  | 2, _, h => by
    have h' : 0 < gs.length := Nat.lt_of_succ_lt_succ h
    show (gs.map Prod.fst ++ ex)[0]? = some (gs.getD 0 ([], none)).1
    rw [List.getElem?_append_left (by rw [List.length_map]; exact h'), List.getElem?_map, nth_getD ([], none) h']; rfl
  | 3, _, h => by
    have h' : 0 < gs.length := Nat.lt_of_succ_lt_succ h
    show (gs.map Prod.fst ++ ex)[0]? = some (gs.getD 0 ([], none)).1
    rw [List.getElem?_append_left (by rw [List.length_map]; exact h'), List.getElem?_map, nth_getD ([], none) h']; rfl
  | 4, _, _ => rfl
theorem parts_last {k : Nat} {f0 : List Nat} {rest : List (List Nat)} (hr : rest ≠ []) (h : partsQ k f0 rest ≠ []) : (partsQ k f0 rest).getLast h = rest.getLast hr := by
  have e : (partsQ k f0 rest).getLast? = rest.getLast? := by
    unfold partsQ
    cases rest with
    | nil => exact absurd rfl hr
    | cons r rs => simp [List.getLast?_append, List.getLast?_cons]
  rw [List.getLast?_eq_some_getLast h, List.getLast?_eq_some_getLast hr] at e
  exact Option.some.inj e
theorem parts_last1 {k : Nat} {f0 : List Nat} (h : partsQ k f0 [] ≠ []) : (partsQ k f0 []).getLast h = addP k ++ f0 := by
  have e : (partsQ k f0 []).getLast? = some (addP k ++ f0) := by
    unfold partsQ
    simp
  rw [List.getLast?_eq_some_getLast h] at e
  exact Option.some.inj e
end Mine

-- Z11
namespace Mine
open PySem PySem.StrLaws PySem.Builtin PySem.Builtin.Str

theorem add_nil : ∀ k < 5, addP k = [] → k = 3 := by decide +kernel
theorem okc_ne {x m : Nat} (h : okc x) (hm : m = 58 ∨ m = 124 ∨ m = 32) : x ≠ m ∧ x ≠ 41 := by
  unfold okc at h
  omega
theorem mk_ne {m : Nat} (hm : m = 58 ∨ m = 124 ∨ m = 32) : m ≠ 41 := by omega
theorem len_lem {a b c o : Nat} (h1 : a + 1 = o) (h2 : c = b + 1) : a + (b + 1) + 1 = o + c := by omega
theorem no40 {a : Nat} (ha : a = 97 ∨ a = 65) : 40 ∉ [50, 50, 57, 32, a] := by
  intro x
  simp only [List.mem_cons, List.mem_nil_iff, or_false] at x
  omega
theorem three_of {e : Nat} (he : e < 4) : e < 2 ∨ e = 2 ∨ e = 3 := by omega
theorem mk_kind {m : Nat} (h : m = 58 ∨ m = 124 ∨ m = 32) : strKind (S [m]) = 1 := by
  rcases h with rfl | rfl | rfl <;> decide +kernel
theorem four_of {α : Type} {l : List α} (h : l.length = 4) : ∃ a b c d, l = [a, b, c, d] := by
  match l, h with
  | [a, b, c, d], _ => exact ⟨a, b, c, d, rfl⟩

theorem port_told {own c e : Nat} {fs : List Fd} {p3 : List Nat} (hc : (e < 2 ∧ own + c = 4) ∨ (e = 2 ∧ own + c = 5 ∧ (fs.getD (c - 1) ([], none)).1 = [])) (h : PySem.intText? (S p3) = (fs.getD (3 - own) ([], none)).2) :
    (PySem.intText? (S p3) = none ∧ told29 own c e fs = .number) ∨ ∃ n, PySem.intText? (S p3) = some n ∧ told29 own c e fs = .port n := by
  have et : told29 own c e fs = match (fs.getD (3 - own) ([], none)).2 with | none => .number | some n => .port n := if_pos hc
  rw [et, h]
  cases (fs.getD (3 - own) ([], none)).2 with
  | none => exact .inl ⟨rfl, rfl⟩
  | some n => exact .inr ⟨n, rfl, rfl⟩

theorem row229 {k c e a : Nat} {g : Fd} {gs : List Fd} (hk : k < 5) (hc : c = gs.length + 1) (he : e < 4) (ha : a = 97 ∨ a = 65) (hf : ∀ f ∈ g :: gs, FdOk f) :
    P229 ([50, 50, 57, 32, a] ++ 40 :: (List.intercalate [mrk k] ([] :: partsQ k g.1 (gs.map Prod.fst)) ++ endN (mrk k) e)) (told29 (ownN k) c e (g :: gs)) := by
  obtain ⟨m1, m2, m3, m4⟩ := mid_ok k hk
  have ml := mid_len k hk
  have ol := own_le k hk
  have hm41 : mrk k ≠ 41 := mk_ne m4
  have hmk : ∀ f ∈ g :: gs, mrk k ∉ f.1 ∧ 41 ∉ f.1 := fun f h => by
    have q := (hf f h).c
    exact ⟨fun x => (okc_ne (q _ x) m4).1 rfl, fun x => (okc_ne (q _ x) m4).2 rfl⟩
  have hQ : ∀ p ∈ partsQ k g.1 (gs.map Prod.fst), mrk k ∉ p ∧ 41 ∉ p := by
    intro p hp
    rcases List.mem_append.mp hp with hp | hp
    · exact m1 p hp
    · rcases List.mem_cons.mp hp with rfl | hp
      · obtain ⟨q1, q2⟩ := hmk g (.head _)
        exact ⟨fun x => (List.mem_append.mp x).elim m2 q1, fun x => (List.mem_append.mp x).elim m3 q2⟩
      · obtain ⟨f, hf', rfl⟩ := List.mem_map.mp hp
        exact hmk f (.tail _ hf')
  have hlen : (partsQ k g.1 (gs.map Prod.fst)).length + 1 = ownN k + c := by
    show (midP k ++ (addP k ++ g.1) :: gs.map Prod.fst).length + 1 = _
    rw [List.length_append, List.length_cons, List.length_map]
    exact len_lem ml hc
  have h40 : 40 ∉ [50, 50, 57, 32, a] := no40 ha
  have hk1 := mk_kind m4
  clear m4 ha hmk m1 m2 m3
  have hQ0 : partsQ k g.1 (gs.map Prod.fst) ≠ [] := by
    intro q
    rw [q] at hlen
    simp at hlen
    omega
  have p3ok : ∀ {p3 : List Nat} {ex : List (List Nat)}, 3 - ownN k < c → (partsQ k g.1 (gs.map Prod.fst) ++ ex)[2]? = some p3 → p3.length ≤ 640 ∧ (∀ x ∈ p3, x < 65536) ∧ PySem.intText? (S p3) = ((g :: gs).getD (3 - ownN k) ([], none)).2 := by
    intro p3 ex h3 e3
    have hlt : 3 - ownN k < (g :: gs).length := by show _ < gs.length + 1; omega
    rw [parts_at g gs ex k hk hlt] at e3
    have e3' := Option.some.inj e3
    have hin : (g :: gs).getD (3 - ownN k) ([], none) ∈ g :: gs := by
      have := nth_getD ([], none) hlt
      exact List.mem_of_getElem? this
    have F := hf _ hin
    generalize (g :: gs).getD (3 - ownN k) ([], none) = f at e3' F
    subst e3'
    by_cases q : k = 4
    · rw [if_pos q]
      refine ⟨?_, fun x hx => ?_, ?_⟩
      · have := F.n
        rw [List.length_append]
        show 1 + _ ≤ 640
        omega
      · rcases List.mem_append.mp hx with hx | hx
        · simp at hx; omega
        · have := okc_lt (F.c x hx); omega
      · exact (blank_reads fun x hx => okc_lt (F.c x hx)).trans F.r
    · rw [if_neg q]
      exact ⟨Nat.le_trans F.n (by decide), fun x hx => by have := okc_lt (F.c x hx); omega, F.r⟩
  have hcase : e < 2 ∨ e = 2 ∨ e = 3 := three_of he
  rcases hcase with q | q | q
  · -- the mark and the bracket
    have ee : endN (mrk k) e = [mrk k, 41] := by
      match e, q with
      | 0, _ => rfl
      | 1, _ => rfl
    have er : List.intercalate [mrk k] ([] :: partsQ k g.1 (gs.map Prod.fst)) ++ endN (mrk k) e = List.intercalate [mrk k] ([] :: (partsQ k g.1 (gs.map Prod.fst) ++ [[]])) ++ [41] := by
      have := inter_end (mrk k) (L := [] :: partsQ k g.1 (gs.map Prod.fst)) (by simp)
      rw [List.cons_append] at this
      rw [this, ee, List.append_assoc]; rfl
    rw [er]
    have hne : partsQ k g.1 (gs.map Prod.fst) ++ [[]] ≠ [] := by simp
    have hlast : (partsQ k g.1 (gs.map Prod.fst) ++ [[]]).getLast hne = [] := List.getLast_concat ..
    have hl2 : (partsQ k g.1 (gs.map Prod.fst) ++ [[]]).length = ownN k + c := by rw [List.length_append]; exact hlen
    refine p229_of rfl (Nat.le_of_ble_eq_true rfl) h40 hk1 hm41 hne (.inl (by rw [hl2]; omega)) (fun p hp => ?_) (.inr ⟨hlast, ?_⟩)
    · rcases List.mem_append.mp hp with hp | hp
      · exact hQ p hp
      · rw [List.mem_singleton] at hp; subst hp; exact ⟨by simp, by simp⟩
    by_cases h4 : ownN k + c = 4
    · obtain ⟨p1, p2, p3, p4, e4⟩ := four_of (hl2.trans h4)
      obtain ⟨z1, z2, z3⟩ := p3ok (p3 := p3) (ex := [[]]) (by omega) (by rw [e4]; rfl)
      exact .inr ⟨p1, p2, p3, p4, e4, z1, z2, port_told (.inl ⟨q, h4⟩) z3⟩
    · refine .inl ⟨by rw [hl2]; exact h4, if_neg fun z => ?_⟩
      rcases z with z | z
      · exact h4 z.2
      · omega
  · -- the bracket alone
    subst q
    have ee : endN (mrk k) 2 = [41] := rfl
    rw [ee]
    have lastc : 2 ≤ c → (partsQ k g.1 (gs.map Prod.fst)).getLast hQ0 = ((g :: gs).getD (c - 1) ([], none)).1 := by
      intro h2
      have hgs : gs ≠ [] := fun z => by rw [z] at hc; simp at hc; omega
      have hgs' : gs.map Prod.fst ≠ [] := by simpa using hgs
      rw [parts_last hgs' hQ0, List.getLast_map]
      have e2 : (g :: gs).getD (c - 1) ([], none) = gs.getLast hgs := by
        have hc1 : c - 1 = (gs.length - 1) + 1 := by omega
        rw [hc1]
        show gs.getD (gs.length - 1) ([], none) = _
        rw [List.getD_eq_getElem?_getD, ← List.getLast?_eq_getElem?, List.getLast?_eq_some_getLast hgs]; rfl
      rw [e2]
    by_cases hlast : (partsQ k g.1 (gs.map Prod.fst)).getLast hQ0 = []
    · have h2 : 2 ≤ (partsQ k g.1 (gs.map Prod.fst)).length := by
        by_cases c2 : 2 ≤ c
        · omega
        · have hg : gs = [] := List.eq_nil_of_length_eq_zero (by omega)
          subst hg
          have hlast' := (parts_last1 hQ0).symm.trans hlast
          have ha0 : addP k = [] := (List.append_eq_nil_iff.mp hlast').1
          have : k = 3 := add_nil k hk ha0
          subst this
          show 2 ≤ ([[58]] ++ [addP 3 ++ g.1]).length
          simp
      refine p229_of rfl (Nat.le_of_ble_eq_true rfl) h40 hk1 hm41 hQ0 (.inl h2) hQ (.inr ⟨hlast, ?_⟩)
      by_cases h5 : ownN k + c = 5
      · have c2 : 2 ≤ c := by omega
        obtain ⟨p1, p2, p3, p4, e4⟩ := four_of (l := partsQ k g.1 (gs.map Prod.fst)) (by omega)
        obtain ⟨z1, z2, z3⟩ := p3ok (p3 := p3) (ex := []) (by omega) (by rw [List.append_nil, e4]; rfl)
        exact .inr ⟨p1, p2, p3, p4, e4, z1, z2, port_told (.inr ⟨rfl, h5, by rw [← lastc c2]; exact hlast⟩) z3⟩
      · refine .inl ⟨by omega, if_neg fun z => ?_⟩
        rcases z with z | z
        · omega
        · exact h5 z.2.1
    · refine p229_of rfl (Nat.le_of_ble_eq_true rfl) h40 hk1 hm41 hQ0 (.inr hlast) hQ (.inl ⟨hlast, if_neg fun z => ?_⟩)
      rcases z with z | z
      · omega
      · exact hlast ((lastc (by omega)).trans z.2.2)
  · -- no bracket
    subst q
    have ee : endN (mrk k) 3 = [mrk k] := rfl
    rw [ee]
    refine .inr ⟨rfl, .inr ⟨[50, 50, 57, 32, a], _, rfl, h40, .inl ⟨fun x => ?_, if_neg fun z => ?_⟩⟩⟩
    · rcases List.mem_append.mp x with x | x
      · rcases inter_mem x with x | ⟨p, h1, h2⟩
        · exact hm41 x.symm
        · rcases List.mem_cons.mp h1 with rfl | h1
          · cases h2
          · exact (hQ p h1).2 h2
      · rw [List.mem_singleton] at x; exact hm41 x.symm
    · omega

theorem fine29 {w : Nat} (hw : w < 1000000) : Fine (hd29 w) := by
  have hj : w % 2 < 2 := Nat.mod_lt _ (by decide)
  have hk : w / 2 % 5 < 5 := Nat.mod_lt _ (by decide)
  have hs : w / 10 % 4 < 4 := Nat.mod_lt _ (by decide)
  have he : w / 40 % 4 < 4 := Nat.mod_lt _ (by decide)
  have hu : w / 160 < 10000 := by omega
  have ol := own_le _ hk
  have hcn := cnt_le (w / 160) ol.1 ol.2 _ hs
  unfold hd29
  generalize cntN (ownN (w / 2 % 5)) (w / 160) (w / 10 % 4) = c at hcn
  generalize w / 40 % 4 = e at he
  generalize w / 2 % 5 = k at hk ol
  generalize w / 160 = u at hu
  have hfs := fields_ok hu c
  have hfl := fields_count u hcn.1
  have hn := names29 _ hj k hk
  have ha : aA (w % 2) = 97 ∨ aA (w % 2) = 65 := by unfold aA; split; exact .inl rfl; exact .inr rfl
  have hm := (mid_ok k hk).2.2.2
  have hends : ∀ x ∈ endN (mrk k) e, x = mrk k ∨ x = 41 := by
    intro x hx
    match e, he with
    | 0, _ => simpa [endN] using hx
    | 1, _ => simpa [endN] using hx
    | 2, _ => exact .inr (by simpa [endN] using hx)
    | 3, _ => exact .inl (by simpa [endN] using hx)
  have hendl : (endN (mrk k) e).length ≤ 2 := by
    match e, he with
    | 0, _ => exact Nat.le_refl 2
    | 1, _ => exact Nat.le_refl 2
    | 2, _ => show 1 ≤ 2; decide
    | 3, _ => show 1 ≤ 2; decide
  have hv : valOk (List.intercalate [mrk k] ((fieldsL u c).map (·.1)) ++ endN (mrk k) e) := by
    constructor
    · have q := sum_le (l := ((fieldsL u c).map (·.1)).map (·.length)) (b := 10) fun x hx => by
        simp only [List.mem_map] at hx
        obtain ⟨_, ⟨f, hf, rfl⟩, rfl⟩ := hx
        exact (hfs f hf).n
      have q2 := inter_bound (mrk k) ((fieldsL u c).map (·.1))
      rw [List.length_map, List.length_map, hfl] at q
      rw [List.length_map, hfl] at q2
      rw [List.length_append]
      omega
    · intro x hx
      have hx' : x = mrk k ∨ x = 41 ∨ okc x := by
        rcases List.mem_append.mp hx with hx | hx
        · rcases inter_mem hx with hx | ⟨p, h1, h2⟩
          · exact .inl hx
          · obtain ⟨f, hf, rfl⟩ := List.mem_map.mp h1
            exact .inr (.inr ((hfs f hf).c x h2))
        · exact (hends x hx).imp id .inl
      unfold okc at hx'
      exact ⟨isCtl_of (by omega) (by omega), by omega⟩
  have eg : ∃ g gs, fieldsL u c = g :: gs ∧ c = gs.length + 1 := by
    cases hl : fieldsL u c with
    | nil => rw [hl] at hfl; simp at hfl; omega
    | cons g gs => rw [hl] at hfl; exact ⟨g, gs, rfl, hfl.symm⟩
  obtain ⟨g, gs, eg, hc⟩ := eg
  have er : rowOf (mk29 (aA (w % 2)) k c e u).pr = [50, 50, 57, 32, aA (w % 2)] ++ 40 :: (List.intercalate [mrk k] ([] :: partsQ k g.1 (gs.map Prod.fst)) ++ endN (mrk k) e) := by
    show ([50, 50, 57, 32] ++ [aA (w % 2)] ++ [40] ++ preN k) ++ 58 :: 32 :: (List.intercalate [mrk k] ((fieldsL u c).map (·.1)) ++ endN (mrk k) e) = _
    rw [← mid_eq _ _ k hk, eg]
    simp
  have er2 : ∀ t, dots t (rowOf (mk29 (aA (w % 2)) k c e u).pr) = [50, 50, 57, 32, aA (w % 2)] ++ 40 :: (List.intercalate [mrk k] ([] :: partsQ k g.1 (gs.map Prod.fst)) ++ endN (mrk k) e) := fun t => by
    rw [er]; exact dots_no (by decide)
  refine fine_of hn hv (by rw [er]; exact Nat.le_add_left 5 _) (fun t ht => nomatch ht) (fun t _ => ?_) fun t _ => ?_
  · rw [er2]; exact if_neg fun q => nomatch q
  · rw [er2]
    have := row229 (e := e) hk hc he ha (g := g) (gs := gs) (by rw [← eg]; exact hfs)
    rw [← eg] at this
    exact this
theorem fine_all (v : Nat) (hv : v < 1000000) : Fine (hdOf v) := by
  have h9 : v / 9 < 1000000 := by omega
  unfold hdOf
  split
  · exact fine57 h9
  · split
    · exact fine29 h9
    · exact fineO h9
end Mine

-- Z12
namespace Mine
open PySem PySem.W PySem.Calls PyProof.Rows

theorem len63 {ns : List Int} (h : ¬ (63 : Int) < (ns.length : Int)) : ns.length ≤ 63 := by omega
local macro_rules | `(tactic| k_qdec) => `(tactic| decide +kernel)
set_option maxHeartbeats 0 in
theorem cw : PySem.Challenge.rw_tp0033_02.Holds := hd (by
  intro w s₀ s₁ mg mb a args vals as ⟨G, Y, hgens, hpre, hlay, hrd, hwl, hlo⟩ ha
  have KX := kIn_of Y
  refine Ground.open G ?_
  intro T B D TE TW
  wrow_args hpre hlay hrd hwl hlo
  have hL := ‹Heap.IsList _ _ _›
  have hI := ‹IntsAre _ _›
  have hn := len63 ‹¬ ((63 : Int) < _)›
  have ea : Value.ref a = .ref 299 := Option.some.inj (ha.symm.trans (mg_of KX T.g (by kernel_rfl)))
  cases ea
  refine law_S (cx := { prog := _, w := w, K := hd.heap_1 w.params, base := s₁.heap, p := _, loose := _, mean := _, mg := mg, mb := mb, hC := 252, X := KX, T := T }) fine_all rfl rfl rfl hL hI hn fun h' tk' keep => ?_
  refine ⟨.inl ⟨.bool true, .bool true, [], rfl, ?_, .bool true, ?_, ?_⟩, keep, rfl, hgens⟩
  · intro cls; rfl
  · kernel_rfl
  · intro _; exact ⟨List.nodup_nil, fun a ha => by cases ha⟩)
end Mine

theorem PySem.Challenge.cw_tp0033_02_holds : PySem.Challenge.rw_tp0033_02.Holds := by
  exact Mine.cw
