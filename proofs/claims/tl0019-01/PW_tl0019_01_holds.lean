import PyProof.Rows.All
import Wide.All
import OpenK.AllK
import Wide.FinOn
import PySem.Challenge.RW_tl0019_01
set_option Elab.async false
set_option linter.all false
set_option compiler.extract_closed false
section
local macro_rules | `(tactic| k_room) => `(tactic| ktr_room)
/-! text C1 -/
section
open PySem PySem.W PyProof.Rows PySem.Calls
open PySem.Sem (wp)
namespace Mine
/-! the logic once more, under the caller's own code: what the model looks up in the stack -/
noncomputable def HasC (l : List (Code × Pos)) : Prop := (l.map (·.1)).any Code.isCaller = true
theorem HasC.cons {l : List (Code × Pos)} (x : Code × Pos) (h : HasC l) : HasC (x :: l) := by
  unfold HasC at *
  rw [List.map_cons, List.any_cons, h, Bool.or_true]
noncomputable def Under (Γ : PySem.Ctx) : Prop := ∀ p, HasC ((Γ.code, p) :: Γ.below)
theorem Under.of_below {Γ : PySem.Ctx} (h : HasC Γ.below) : Under Γ := fun _ => h.cons _
noncomputable def wpC {α : Type} (M : Model) (A : Around) (t : Sem α) (Q : α → Shared → Prop) (E : Value → Shared → Prop) (s : Shared) : Prop :=
  ∀ Γ p, Γ.In A → Under Γ → wp M Γ t (fun a _ s' => Q a s') (fun e _ s' => E e s') p s
noncomputable def codeC (M : Model) (A : Around) (c : Code) (R : Result → Shared → Prop) (s : Shared) : Prop :=
  ∀ Γ p, Γ.code = c → Γ.Below A → HasC Γ.below → wpCode M Γ R p s
namespace C
section
variable {α β : Type} {M : Model} {A : Around} {E : Value → Shared → Prop} {s : Shared}
theorem of {t : Sem α} {Q : α → Shared → Prop} (h : wpAny M A t Q E s) : wpC M A t Q E s := fun Γ p hΓ _ => h Γ p hΓ
theorem pure {a : α} {Q : α → Shared → Prop} (h : Q a s) : wpC M A (Pure.pure a) Q E s := of (wpAny_pure h)
theorem mono {t : Sem α} {Q Q' : α → Shared → Prop} {E' : Value → Shared → Prop} (h : wpC M A t Q E s)
    (hQ : ∀ a s, Q a s → Q' a s) (hE : ∀ e s, E e s → E' e s) : wpC M A t Q' E' s :=
  fun Γ p hΓ hu => Sem.wp_mono M Γ t (fun a _ s => hQ a s) (fun e _ s => hE e s) p s (h Γ p hΓ hu)
theorem bind {m : Sem α} {f : α → Sem β} {Q : β → Shared → Prop} (h : wpC M A m (fun a s' => wpC M A (f a) Q E s') E s) :
    wpC M A (m >>= f) Q E s := fun Γ p hΓ hu => by
  rw [Sem.wp_bind']
  exact Sem.wp_mono M Γ m (fun a p' s' h' => h' Γ p' hΓ hu) (fun _ _ _ h' => h') p s (h Γ p hΓ hu)
theorem bindA {m : Sem α} {f : α → Sem β} {Q : β → Shared → Prop} (h : wpAny M A m (fun a s' => wpC M A (f a) Q E s') E s) :
    wpC M A (m >>= f) Q E s := bind (of h)
theorem onRaise {m : Sem α} {k : Value → Sem Unit} {Q : α → Shared → Prop}
    (h : wpC M A m Q (fun e s' => wpAny M A (k e) (fun _ s'' => E e s'') E s') s) : wpC M A (m.onRaise k) Q E s := fun Γ p hΓ hu => by
  rw [Sem.wp_onRaise]
  exact Sem.wp_mono M Γ m (fun _ _ _ h' => h') (fun e p' s' h' => h' Γ p' hΓ) p s (h Γ p hΓ hu)
theorem attempt {m : Sem α} {Q : Except Value α → Shared → Prop} (h : wpC M A m (fun a => Q (.ok a)) (fun e => Q (.error e)) s) :
    wpC M A m.attempt Q E s := fun Γ p hΓ hu => by rw [Sem.wp_attempt]; exact h Γ p hΓ hu
theorem holding {vs : List Value} {m : Sem α} {Q : α → Shared → Prop} (h : wpC M A m Q E s) : wpC M A (PySem.holding vs m) Q E s :=
  fun Γ p hΓ hu => by rw [Sem.wp_holding]; exact h Γ p hΓ hu
theorem keep {vs : List Value} {m : Sem α} {Q : α → Shared → Prop} (h : wpC M A m Q E s) : wpC M A (m.keep vs) Q E s :=
  fun Γ p hΓ hu => by rw [Sem.wp_keep]; exact h Γ p hΓ hu
theorem in1 {t : Sem α} {Q : α → Shared → Prop} (h : wpC M A.in1 t Q E s) : wpC M A t Q E s :=
  fun Γ p hΓ hu => h Γ p ⟨hΓ.1, hΓ.2.1, hΓ.2.2.1, hΓ.2.2.2.1, Nat.le_succ_of_le hΓ.2.2.2.2⟩ hu
theorem codeMono {c : Code} {R R' : Result → Shared → Prop} (h : codeC M A c R s) (hR : ∀ r s, R r s → R' r s) : codeC M A c R' s :=
  fun Γ p hc hΓ hu => wpCode_mono hR (h Γ p hc hΓ hu)
theorem codeOf {c : Code} {R : Result → Shared → Prop} (h : codeAny M A c R s) : codeC M A c R s := fun Γ p hc hΓ _ => h Γ p hc hΓ
theorem run {c : Code} {h : Option Value} {Q : Flow → Shared → Prop}
    (hc : codeC M (A.mark h) c (fun r s' => match r with | .ok f => Q f s' | .error e => E e s') s) (hnb : h ≠ some byPass := by intro x; cases x) :
    wpC M A (PySem.run c h) Q E s :=
  fun Γ p hΓ hu => by rw [Sem.wp_run]; exact hc _ p rfl (hΓ.enter c h p hnb) (hu p)
theorem runValue {c : Code} {Q : Value → Shared → Prop}
    (hc : codeC M A c (fun r s' => match r with | .ok (.ret v) => Q v s' | .ok _ => False | .error e => E e s') s) :
    wpC M A (PySem.runValue c) Q E s := fun Γ p hΓ hu => by rw [Sem.wp_runValue]; exact hc _ p rfl (hΓ.enter c none p (by intro x; cases x)) (hu p)
theorem call {f : Value} {pos : List Value} {kw : List (Str × Value)} {Q : Value → Shared → Prop}
    (hc : codeC M A (.call f ⟨pos, kw⟩) (fun r s' => match r with | .ok (.ret v) => Q v s' | .ok _ => False | .error e => E e s') s) :
    wpC M A (PySem.call f pos kw) Q E s := runValue hc
theorem codeOfTree {c : Code} {R : Result → Shared → Prop}
    (h : wpC M (A.under c) (M.den c) (fun fin s' => match fin with | .done f => R (.ok f) s' | .again c' => c'.quiet = true ∧ codeC M A c' R s')
      (fun e s' => R (.error e) s') s) : codeC M A c R s := fun Γ p hc hΓ hu => by
  rw [wpCode_iff_wp, hc]
  refine Sem.wp_mono M Γ _ (fun fin p' s' h' => ?_) (fun _ _ _ h' => h') p s (h Γ p (hc ▸ hΓ.in) (.of_below hu))
  cases fin with
  | done f => exact h'
  | again c' => exact ⟨h'.1, h'.2 (Γ.goto c') p' rfl (hΓ.goto c') hu⟩
theorem codeLoop {c : Code} {R : Result → Shared → Prop} (hq : c.quiet = true) (I : Nat → Shared → Prop)
    (turn : ∀ n s, I n s → wpC M (A.under c) (M.den c)
      (fun fin s' => match fin with
        | .done f => R (.ok f) s'
        | .again c' => (c' = c ∧ ∃ m, m < n ∧ I m s') ∨ (c'.quiet = true ∧ codeC M A c' R s')) (fun e s' => R (.error e) s') s)
    (n : Nat) (h : I n s) : codeC M A c R s := by
  induction n using Nat.strongRecOn generalizing s with
  | ind n ih =>
    refine codeOfTree (mono (turn n s h) (fun fin s' hf => ?_) fun _ _ h' => h')
    cases fin with
    | done f => exact hf
    | again c' =>
      rcases hf with ⟨rfl, m, hm, hI⟩ | hf
      · exact ⟨hq, ih m hm hI⟩
      · exact hf
end
section
variable {M : Model} {A : Around} {E : Value → Shared → Prop} {s : Shared} {env : Env}
theorem noted {α : Type} {m : Sem α} {Q : α → Shared → Prop} (h : wpC M A m Q (notedBy M A env E) s) : wpC M A (m.onRaise fun x => do noteFrame x env; theTreesLotGoes x) Q E s :=
  onRaise (mono h (fun _ _ q => q) fun _ _ hx => wpAny_bind (wpAny_mono hx (fun _ _ e => wpAny_theTreesLotGoes e) fun _ _ e => e))
theorem runOwn {c : Code} {h : Option Value} {Q : Flow → Shared → Prop}
    (hc : codeC M (A.mark h) c (fun r s' => match r with | .ok f => Q f s' | .error e => cameBackBy M A env E e s') s) (hnb : h ≠ some byPass := by intro x; cases x) :
    wpC M A (PySem.runOwn c env h) Q E s := by
  unfold PySem.runOwn
  exact onRaise (run hc hnb)
theorem execs_cons {st : Stmt} {rest : List Stmt} {Q : Flow → Shared → Prop}
    (h : wpC M A (exec st env) (fun f s' => match f with | .next => wpC M A (execs rest env) Q E s' | f => Q f s') E s) :
    wpC M A (execs (st :: rest) env) Q E s := by
  show wpC M A (exec st env >>= _) Q E s
  refine bind (mono h (fun f s' h' => ?_) fun _ _ x => x)
  cases f <;> first | exact h' | exact pure h'
theorem execs_consA {st : Stmt} {rest : List Stmt} {Q : Flow → Shared → Prop}
    (h : wpAny M A (exec st env) (fun f s' => match f with | .next => wpC M A (execs rest env) Q E s' | f => Q f s') E s) :
    wpC M A (execs (st :: rest) env) Q E s := execs_cons (of h)
theorem Return_some {e : Expr} {pos : Pos} {Q : Flow → Shared → Prop} (h : wpC M A (eval e env) (fun v => Q (.ret v)) E s) :
    wpC M A (exec (.Return (some e) pos) env) Q E s := by
  rw [exec_Return_some]
  exact bindA (wpAny_standAt (bind (mono h (fun _ _ q => pure q) fun _ _ x => x)))
theorem Assign_Name {x : Str} {pos' pos : Pos} {value : Expr} {Q : Flow → Shared → Prop}
    (h : wpC M A (eval value env) (fun v s₁ => wpAny M A (storeName env x v) (fun _ => Q .next) E s₁) E s)
    (hs : swapsWith value (some (.Name x pos')) pos.line env = Pure.pure false := by rfl) :
    wpC M A (exec (.Assign [.Name x pos'] value pos) env) Q E s := fun Γ p hΓ hu => by
  simp only [exec_Assign_Name env x pos' value pos hs, Sem.wp_bind', Sem.wp_cmd_standAt, Sem.wp_bindName, Sem.wp_pure']
  exact Sem.wp_mono M Γ _ (fun v _ s₁ h₁ => h₁ Γ _ hΓ) (fun _ _ _ h' => h') _ _ (h Γ _ hΓ hu)
theorem For {target iter : Expr} {body orelse : List Stmt} {pos : Pos} {Q : Flow → Shared → Prop}
    (h : wpAny M A (eval iter env) (fun x s₁ => wpAny M A (pyIter x) (fun it s₂ =>
      codeC M A (.forLoop target it body orelse env) (fun r s' => match r with | .ok f => Q f s' | .error e => cameBackBy M A env E e s') s₂) E s₁) E s)
    (hs : ∀ x, foldedSetIterable iter env x = Pure.pure x := by intro _; rfl) :
    wpC M A (exec (.For target iter body orelse pos) env) Q E s := by
  rw [exec_For]
  exact bindA (wpAny_standAt (bindA (wpAny_mono h (fun x s₁ h₁ => bindA (wpAny_of_eq (hs x) (bindA (wpAny_standAt (bindA (wpAny_holding
    (wpAny_mono h₁ (fun it s₂ h₂ => runOwn h₂) fun _ _ h' => h'))))))) fun _ _ h' => h')))
end
section
variable {prog : Program} {w : World} {A : Around} {E : Value → Shared → Prop} {s : Shared}
theorem block {stmts : List Stmt} {env : Env} {R : Result → Shared → Prop}
    (h : wpC (model prog w) A (execs stmts env) (fun f s' => R (.ok f) s') (notedBy (model prog w) A env fun e s' => R (.error e) s') s) : codeC (model prog w) A (.block stmts env) R s := by
  refine codeOfTree ?_
  show wpC _ _ (do return Fin.done (← (execs stmts env).onRaise (fun x => do noteFrame x env; theTreesLotGoes x))) _ _ s
  exact bind (noted (mono h (fun f s' h' => pure h') fun _ _ h' => h'))
theorem forLoop {R : Result → Shared → Prop} {target : Expr} {it : Value} {body orelse : List Stmt} {env : Env} (I : Nat → Shared → Prop)
    (turn : ∀ n s, I n s → wpAny (model prog w) A (pyNext it) (fun r s₁ => match r with
      | none => wpAny (model prog w) A (execs orelse env) (fun f s₃ => R (.ok f) s₃) (notedBy (model prog w) A env fun e s' => R (.error e) s') s₁
      | some v => wpAny (model prog w) A (assign target env v) (fun _ s₂ => wpC (model prog w) A (execs body env) (fun f s₃ => match f with
          | .next | .cont => ∃ m, m < n ∧ I m s₃
          | .brk => R (.ok .next) s₃
          | .ret v => R (.ok (.ret v)) s₃) (notedBy (model prog w) A env fun e s' => R (.error e) s') s₂) (notedBy (model prog w) A env fun e s' => R (.error e) s') s₁) (notedBy (model prog w) A env fun e s' => R (.error e) s') s)
    (n : Nat) (h : I n s) (ht : ∀ v, letOwnedTupleGo target it v = Pure.pure () := by intro _; rfl) : codeC (model prog w) A (.forLoop target it body orelse env) R s := by
  refine codeLoop rfl I (fun n s hI => ?_) n h
  show wpC _ _ ((forTurn target it body orelse env).onRaise (fun x => do noteFrame x env; theTreesLotGoes x)) _ _ s
  refine noted ?_
  simp only [forTurn]
  refine bindA (wpAny_standAt (bindA (wpAny_onRaise (wpAny_mono (turn n s hI) (fun r s₁ h₁ => ?_) fun _ _ h' => wpAny_standAt h'))))
  cases r with
  | none => exact pure (.inr ⟨rfl, block (of h₁)⟩)
  | some v =>
    refine bindA (wpAny_of_eq (ht v) ?_)
    refine bindA (wpAny_mono h₁ (fun _ s₂ h₂ => bind (mono h₂ (fun f s₃ h₃ => ?_) fun _ _ h' => h')) fun _ _ h' => h')
    cases f with
    | next => exact pure (.inl ⟨rfl, h₃⟩)
    | cont => exact pure (.inl ⟨rfl, h₃⟩)
    | brk => exact pure h₃
    | ret v => exact pure h₃
theorem func {body : List Stmt} {env : Env} {R : Result → Shared → Prop}
    (h : wpC (model prog w) (A.deeper env) (execs body env) (fun f s' => R (.ok (.ret (match f with | .ret v => v | _ => .none))) s')
      (fun e s' => wpAny (model prog w) (A.deeper env) (leaving env e) (fun _ s'' => R (.error e) s'') (fun e' s'' => R (.error e') s'') s') s) :
    codeC (model prog w) A (.func body env) R s := by
  refine codeOfTree ?_
  show wpC _ (A.deeper env) (do point; match ← (execs body env).onRaise (leaving env) with | .ret v => ret v | _ => ret .none) _ _ s
  refine bindA (wpAny_point (bind (onRaise (mono h (fun f s' h' => ?_) fun _ _ h' => h'))))
  cases f <;> exact pure h'
theorem call_function {a : Addr} {args : Args} {o : Obj} {fd : FuncData} {body : List Stmt} {R : Result → Shared → Prop} (hroom : A.depth < recursionLimit)
    (ho : s.heap.get? a = some o)
    (hd' : o.data = .func fd) (hco : fd.scope.isCoroutine = false) (hgen : fd.scope.isGenerator = false) (hbody : fd.body = .stmts body) (hcd : s.heap.CodeRec fd.code fd.qualname)
    (h : wpAny (model prog w) A.in1 (bindArgs fd args) (fun binds s₁ =>
      wpAny (model prog w) A.in1 (newFunctionEnv fd.scope fd.globals fd.closure binds (fd.qualname ++ ".<locals>.") (some a) fd.code none fd.builtins)
        (fun env s₂ => s₂.heap.NoLimit ∧ codeC (model prog w) A (.func body env) R s₂) (fun e s' => R (.error e) s') s₁) (fun e s' => R (.error e) s') s) :
    codeC (model prog w) A (.call (.ref a) args) R s := by
  refine codeOfTree ?_
  show wpC _ A.in1 (callAny (.ref a) args) _ _ s
  simp only [callAny]
  refine bindA (wpAny_load ho ?_)
  obtain ⟨c, oc, vs, tq, hc, hoc, hdc, hq⟩ := hcd
  simp only [hd', callFunction, hco, hgen, hbody, hc]
  rw [hc] at h
  refine bindA (m := field (.ref c) 1) (wpAny_field hoc hdc hq (bindA (wpAny_pure ?_)))
  exact bindA (wpAny_mono h (fun binds s₁ h₁ => bindA (wpAny_mono h₁ (fun env s₂ h₂ => bindA (wpAny_enterFrame h₂.1 hroom
    (pure (And.intro rfl h₂.2)))) fun _ _ h' => h')) fun _ _ h' => h')
theorem call_def {R : Result → Shared → Prop} {a : Addr} {o : Obj} {fd : FuncData} {body : List Stmt} {args : Args} {binds : List (Str × Value)}
    (hroom : A.depth < recursionLimit) (ho : s.heap.get? a = some o) (hdata : o.data = .func fd) (hlim : s.heap.NoLimit) (hcd : s.heap.CodeRec fd.code fd.qualname)
    (hbody : fd.body = .stmts body) (hbind : BindsTo s fd args binds)
    (hcell : ∀ x ∈ fd.scope.names, x.2 ≠ .cell) (hloc : ∀ x ∈ binds, fd.scope.names.lookup x.1 = some .local)
    (h : ∀ h₀, h₀.Ns s.heap.objs.size (fun x => binds.reverse.lookup x) → (∀ b o, s.heap.get? b = some o → h₀.get? b = some o) →
      wpC (model prog w) (A.deeper (callEnv fd s.heap.objs.size a)) (execs body (callEnv fd s.heap.objs.size a)) (fun f s' => R (.ok (.ret (match f with | .ret v => v | _ => .none))) s')
        (fun e s' => wpAny (model prog w) (A.deeper (callEnv fd s.heap.objs.size a)) (leaving (callEnv fd s.heap.objs.size a) e) (fun _ s'' => R (.error e) s'') (fun e' s'' => R (.error e') s'') s')
        { s with heap := h₀, toks := s.toks + binds.length })
    (hco : fd.scope.isCoroutine = false := by rfl) (hgen : fd.scope.isGenerator = false := by rfl) (hk : fd.scope.kind = .function := by rfl) :
    codeC (model prog w) A (.call (.ref a) args) R s := by
  refine call_function hroom ho hdata hco hgen hbody hcd (hbind _ _ _ _ ?_)
  refine wpAny_newFunctionEnv hcell hloc (fun h₀ hns₀ hsb₀ => ⟨hlim.fresh _ hsb₀, func (h h₀ hns₀ fun b o e => ?_)⟩) hk
  exact hsb₀.extBut b o (Nat.ne_of_lt (Heap.lt_size e)) (Heap.get?_push_of_some _ e)
end
end C
/-! taking apart in one step what stands under many quantifiers: small terms -/
theorem ex1k {C : Prop} {α : Type} {p9 : α → Prop} (k9 : ∀ a, p9 a → C) (h9 : ∃ a, p9 a) : C := Exists.elim h9 k9
theorem ex2k {C : Prop} {α β : Type} {p9 : α → β → Prop} (k9 : ∀ a b, p9 a b → C) (h9 : ∃ a b, p9 a b) : C := Exists.elim h9 fun a => ex1k (k9 a)
theorem ex3k {C : Prop} {α β γ : Type} {p9 : α → β → γ → Prop} (k9 : ∀ a b c, p9 a b c → C) (h9 : ∃ a b c, p9 a b c) : C := Exists.elim h9 fun a => ex2k (k9 a)
theorem ex4k {C : Prop} {α β γ δ : Type} {p9 : α → β → γ → δ → Prop} (k9 : ∀ a b c d, p9 a b c d → C) (h9 : ∃ a b c d, p9 a b c d) : C := Exists.elim h9 fun a => ex3k (k9 a)
theorem ex5k {C : Prop} {α β γ δ ε : Type} {p9 : α → β → γ → δ → ε → Prop} (k9 : ∀ a b c d e, p9 a b c d e → C) (h9 : ∃ a b c d e, p9 a b c d e) : C := Exists.elim h9 fun a => ex4k (k9 a)
theorem ex6k {C : Prop} {α β γ δ ε ζ : Type} {p9 : α → β → γ → δ → ε → ζ → Prop} (k9 : ∀ a b c d e f, p9 a b c d e f → C) (h9 : ∃ a b c d e f, p9 a b c d e f) : C := Exists.elim h9 fun a => ex5k (k9 a)
theorem ex7k {C : Prop} {α β γ δ ε ζ η : Type} {p9 : α → β → γ → δ → ε → ζ → η → Prop} (k9 : ∀ a b c d e f g, p9 a b c d e f g → C) (h9 : ∃ a b c d e f g, p9 a b c d e f g) : C := Exists.elim h9 fun a => ex6k (k9 a)
theorem ex8k {C : Prop} {α β γ δ ε ζ η θ : Type} {p9 : α → β → γ → δ → ε → ζ → η → θ → Prop} (k9 : ∀ a b c d e f g h, p9 a b c d e f g h → C) (h9 : ∃ a b c d e f g h, p9 a b c d e f g h) : C := Exists.elim h9 fun a => ex7k (k9 a)
theorem ex9k {C : Prop} {α β γ δ ε ζ η θ ι : Type} {p9 : α → β → γ → δ → ε → ζ → η → θ → ι → Prop} (k9 : ∀ a b c d e f g h i, p9 a b c d e f g h i → C) (h9 : ∃ a b c d e f g h i, p9 a b c d e f g h i) : C := Exists.elim h9 fun a => ex8k (k9 a)
theorem ex10k {C : Prop} {α β γ δ ε ζ η θ ι κ : Type} {p9 : α → β → γ → δ → ε → ζ → η → θ → ι → κ → Prop} (k9 : ∀ a b c d e f g h i j, p9 a b c d e f g h i j → C) (h9 : ∃ a b c d e f g h i j, p9 a b c d e f g h i j) : C := Exists.elim h9 fun a => ex9k (k9 a)
theorem and2k {C pa pb : Prop} (k9 : pa → pb → C) (h9 : pa ∧ pb) : C := k9 h9.1 h9.2
theorem and3k {C pa pb pc : Prop} (k9 : pa → pb → pc → C) (h9 : pa ∧ pb ∧ pc) : C := and2k (k9 h9.1) h9.2
theorem and4k {C pa pb pc pd : Prop} (k9 : pa → pb → pc → pd → C) (h9 : pa ∧ pb ∧ pc ∧ pd) : C := and3k (k9 h9.1) h9.2
theorem and5k {C pa pb pc pd pe : Prop} (k9 : pa → pb → pc → pd → pe → C) (h9 : pa ∧ pb ∧ pc ∧ pd ∧ pe) : C := and4k (k9 h9.1) h9.2
theorem and6k {C pa pb pc pd pe pf : Prop} (k9 : pa → pb → pc → pd → pe → pf → C) (h9 : pa ∧ pb ∧ pc ∧ pd ∧ pe ∧ pf) : C := and5k (k9 h9.1) h9.2
theorem and7k {C pa pb pc pd pe pf pg : Prop} (k9 : pa → pb → pc → pd → pe → pf → pg → C) (h9 : pa ∧ pb ∧ pc ∧ pd ∧ pe ∧ pf ∧ pg) : C := and6k (k9 h9.1) h9.2
theorem and8k {C pa pb pc pd pe pf pg ph : Prop} (k9 : pa → pb → pc → pd → pe → pf → pg → ph → C) (h9 : pa ∧ pb ∧ pc ∧ pd ∧ pe ∧ pf ∧ pg ∧ ph) : C := and7k (k9 h9.1) h9.2
theorem int2 {a : Int} (h0 : 0 ≤ a) (h1 : a < 2) : a = 0 ∨ a = 1 := by
  obtain ⟨n, rfl⟩ := Int.eq_ofNat_of_zero_le h0
  have h : n < 2 := Int.ofNat_lt.mp h1
  rcases n with _ | _ | n
  · exact .inl rfl
  · exact .inr (rfl)
  · exact absurd h (Nat.not_lt.mpr (Nat.le_add_left 2 n))
theorem int3 {a : Int} (h0 : 0 ≤ a) (h1 : a < 3) : a = 0 ∨ a = 1 ∨ a = 2 := by
  obtain ⟨n, rfl⟩ := Int.eq_ofNat_of_zero_le h0
  have h : n < 3 := Int.ofNat_lt.mp h1
  rcases n with _ | _ | _ | n
  · exact .inl rfl
  · exact .inr (.inl rfl)
  · exact .inr (.inr (rfl))
  · exact absurd h (Nat.not_lt.mpr (Nat.le_add_left 3 n))
theorem int4 {a : Int} (h0 : 0 ≤ a) (h1 : a < 4) : a = 0 ∨ a = 1 ∨ a = 2 ∨ a = 3 := by
  obtain ⟨n, rfl⟩ := Int.eq_ofNat_of_zero_le h0
  have h : n < 4 := Int.ofNat_lt.mp h1
  rcases n with _ | _ | _ | _ | n
  · exact .inl rfl
  · exact .inr (.inl rfl)
  · exact .inr (.inr (.inl rfl))
  · exact .inr (.inr (.inr (rfl)))
  · exact absurd h (Nat.not_lt.mpr (Nat.le_add_left 4 n))
theorem int6 {a : Int} (h0 : 0 ≤ a) (h1 : a < 6) : a = 0 ∨ a = 1 ∨ a = 2 ∨ a = 3 ∨ a = 4 ∨ a = 5 := by
  obtain ⟨n, rfl⟩ := Int.eq_ofNat_of_zero_le h0
  have h : n < 6 := Int.ofNat_lt.mp h1
  rcases n with _ | _ | _ | _ | _ | _ | n
  · exact .inl rfl
  · exact .inr (.inl rfl)
  · exact .inr (.inr (.inl rfl))
  · exact .inr (.inr (.inr (.inl rfl)))
  · exact .inr (.inr (.inr (.inr (.inl rfl))))
  · exact .inr (.inr (.inr (.inr (.inr (rfl)))))
  · exact absurd h (Nat.not_lt.mpr (Nat.le_add_left 6 n))
theorem sub_one {b c : Nat} (h : c ≤ b) : ((b : Int) - (c : Int) + 1).toNat = b + 1 - c := by
  rw [← Int.ofNat_sub h, Nat.succ_sub h]
  rfl
theorem sub_low {i n : Nat} (h : i < n) : i + 1 - n = i - n := by rw [Nat.sub_eq_zero_of_le h, Nat.sub_eq_zero_of_le (Nat.le_of_lt h)]
theorem sub_up {i n : Nat} (h : n < i) : ∃ j, i - n = j + 1 := Nat.exists_eq_succ_of_ne_zero (Nat.sub_ne_zero_of_lt h)
theorem kind_split {k : Int} (h1 : k < 32) : k < 24 ∨ k = 30 ∨ k = 31 ∨ (24 ≤ k ∧ k ≠ 30 ∧ k ≠ 31) := by
  by_cases a : k < 24
  · exact .inl a
  by_cases b : k = 30
  · exact .inr (.inl b)
  by_cases c : k = 31
  · exact .inr (.inr (.inl c))
  exact .inr (.inr (.inr ⟨Int.not_lt.mp a, b, c⟩))
theorem sub3 {l a b : Nat} (h : a ≤ b) : ((l : Int) - ((b : Int) - (a : Int))).toNat = l - (b - a) := by
  rw [← Int.ofNat_sub h]
  exact Int.toNat_sub l (b - a)
theorem sub4 {l a b : Nat} (h : a ≤ b) : ((l : Int) - ((b : Int) - (a : Int)) - 1).toNat = l - (b - a) - 1 := by
  rw [← Int.ofNat_sub h, Int.sub_sub, show ((b - a : Nat) : Int) + 1 = ((b - a + 1 : Nat) : Int) from rfl, Int.toNat_sub, Nat.sub_sub]
theorem hideA {α : Type} {M : Model} {A : Around} {t : Sem α} {Q : α → Shared → Prop} {E : Value → Shared → Prop} {s : Shared} (h : ∀ Q', (∀ f s', Q f s' → Q' f s') → wpAny M A t Q' E s) : wpAny M A t Q E s := h Q fun _ _ g => g
theorem hideC {α : Type} {M : Model} {A : Around} {t : Sem α} {Q : α → Shared → Prop} {E : Value → Shared → Prop} {s : Shared} (h : ∀ Q', (∀ f s', Q f s' → Q' f s') → wpC M A t Q' E s) : wpC M A t Q E s := h Q fun _ _ g => g
end Mine
end
local macro_rules | `(tactic| walk_at "cjR") => `(tactic| first | (with_reducible assumption) | (refine' And.right ?z9r; (case z9r => first | (with_reducible assumption) | (refine' And.right ?z9r; (case z9r => first | (with_reducible assumption) | (refine' And.right ?z9r; (case z9r => first | (with_reducible assumption) | (refine' And.right ?z9r; (case z9r => first | (with_reducible assumption) | (refine' And.right ?z9r; (case z9r => first | (with_reducible assumption) | (refine' And.right ?z9r; (case z9r => first | (with_reducible assumption) | (refine' And.right ?z9r; (case z9r => first | (with_reducible assumption) | (refine' And.right ?z9r; (case z9r => first | (with_reducible assumption) | (refine' And.right ?z9r; (case z9r => first | (with_reducible assumption) | (refine' And.right ?z9r; (case z9r => first | (with_reducible assumption) | (refine' And.right ?z9r; (case z9r => first | (with_reducible assumption) | (refine' And.right ?z9r; (case z9r => first | (with_reducible assumption) | (refine' And.right ?z9r; (case z9r => (with_reducible assumption))))))))))))))))))))))))))))
local macro_rules | `(tactic| walk_at "cj") => `(tactic| first | (refine' And.left ?z9l; (case z9l => walk_at "cjR")) | walk_at "cjR")
local macro_rules | `(tactic| walk_at "cj3") => `(tactic| first | walk_at "cj" | (refine' And.left (And.left ?z9l); (case z9l => walk_at "cjR")) | (refine' And.left (And.right (And.left ?z9l)); (case z9l => walk_at "cjR")) | (refine' And.right (And.right (And.left ?z9l)); (case z9l => walk_at "cjR")) | (refine' Nat.ne_of_lt ?z9t; (case z9t => first | (with_reducible assumption) | walk_at "cj")))
local macro_rules | `(tactic| omega) => `(tactic| first | ((with_reducible show _ = _ ∨ _); first | (refine' Mine.int2 ?z9a ?z9b; (case z9a => assumption); (case z9b => assumption)) | (refine' Mine.int3 ?z9a ?z9b; (case z9a => assumption); (case z9b => assumption)) | (refine' Mine.int4 ?z9a ?z9b; (case z9a => assumption); (case z9b => assumption)) | (refine' Mine.int6 ?z9a ?z9b; (case z9a => assumption); (case z9b => assumption))) | (with_reducible exact Int.natCast_nonneg _) | ((with_reducible show _ < PySem.recursionLimit); assumption) | ((with_reducible show _ < PySem.cLine); assumption) | ((with_reducible show _ + _ < PySem.recursionLimit); refine' Nat.lt_of_le_of_lt (Nat.add_le_add_left ?z9p _) ?z9o; (case z9o => assumption); (case z9p => exact Nat.le_of_ble_eq_true rfl)) | ((with_reducible show _ < PySem.recursionLimit); refine' Nat.lt_of_le_of_lt (Nat.le_add_right _ _) ?z9o; (case z9o => assumption)) | ((with_reducible show _ + _ < PySem.cLine); refine' Nat.lt_of_le_of_lt (Nat.add_le_add_left ?z9p _) ?z9o; (case z9o => assumption); (case z9p => exact Nat.le_of_ble_eq_true rfl)) | ((with_reducible show _ < PySem.cLine); refine' Nat.lt_of_le_of_lt (Nat.le_add_right _ _) ?z9o; (case z9o => assumption)) | ((with_reducible show _ ≠ _); first | (with_reducible assumption) | walk_at "cj3" | ((with_reducible refine' Ne.symm ?z9o); (case z9o => first | (with_reducible assumption) | walk_at "cj3"))) | ((with_reducible show _ ≠ _ ∧ _); refine' And.intro ?z9a ?z9b; (case z9a => omega); (case z9b => omega)))
theorem Mine.fresh_C0 : True ∧ True := by
  w_on
  w_top off
  walk1
  all_goals trivial
/-! text C0 -/
section
open PySem PySem.W PyProof.Rows PySem.Calls
namespace Mine
theorem endsC {prog : Program} {w : World} {t : Sem Fin} {s : Shared} {R : Result → Shared → Prop} (hreg : s.asleep)
    (h : wpC (model prog w) callerA t (fun fin s' => ∃ f, fin = .done f ∧ (R (.ok f) s' ∧ leftWithCleanup s'.gens = false)) (fun e s' => R (.error e) s' ∧ leftWithCleanup s'.gens = false) s) :
    ∃ n r s' s'', runN (denote table) prog w n s ⟨t, .builtin "claim.caller" {}, default, []⟩ = .halted (outcomeOf r) s' ∧
      schedN (denote table) prog w n (.single s ⟨t, .builtin "claim.caller" {}, default, []⟩) = .halted (outcomeOf r) s' ∧ s'.forget = s''.forget ∧ R r s'' := by
  have hu : Under (⟨.builtin "claim.caller" {}, none, none, [], none⟩ : PySem.Ctx) := fun p => by unfold HasC; rfl
  have h1 := h ⟨.builtin "claim.caller" {}, none, none, [], none⟩ default caller_in hu
  have h2 : Sem.wp (model prog w) ⟨.builtin "claim.caller" {}, none, none, [], none⟩ t
      (Sem.finPost (model prog w) ⟨.builtin "claim.caller" {}, none, none, [], none⟩ fun r s' => R r s' ∧ leftWithCleanup s'.gens = false)
      (fun e _ s' => R (.error e) s' ∧ leftWithCleanup s'.gens = false) default s := by
    refine Sem.wp_mono _ _ t (fun fin p' s' h' => ?_) (fun _ _ _ h' => h') default s h1
    obtain ⟨f, rfl, hf⟩ := h'
    exact hf
  obtain ⟨n, r, s₁, s₂, hs, hn, hfo, hR⟩ := wp_halts_full (M := model prog w) (R := R) hreg h2
  exact ⟨n, r, s₂, s₁, hn, hs, hfo, hR⟩

theorem callFromC {c : ClaimW} {tree : List Value → Sem Fin} {w : World} {s : Shared} {free : Addr → Prop} {gens : Prop} {kept : Heap → Prop} (hz : s.asleep) (hgens : s.gens = #[])
    (hspec : ∀ args, c.pre args = true → WData.layableAll args = true →
      ∀ ord : List DictEntry → List DictEntry, (∀ l, (ord l).Perm l) →
      ∃ vs s₁, layAllW c.records (classAt s.heap) w.params ord args s = some (vs, s₁) ∧
        wpC (model c.prog w) callerA (tree vs) (fun fin s' => ∃ f, fin = .done f ∧ (c.Ends s args vs s₁ (.ok f) s' ∧ s'.os = s.os ∧ AllBare s'.gens ∧ kept s'.heap))
          (fun e s' => c.Ends s args vs s₁ (.error e) s' ∧ s'.os = s.os ∧ AllBare s'.gens ∧ kept s'.heap) s₁) :
    c.CallFrom (fun vs => ⟨tree vs, .builtin "claim.caller" {}, default, []⟩) w free gens kept s := by
  intro args hpre hlay ord hord
  have h8 := hspec args hpre hlay ord hord
  revert h8
  refine ex2k (fun vs s₁ => and2k (fun hlaid hcode => ?_))
  have hal := layAllW_rest _ _ _ hlaid
  have h9 := endsC (prog := c.prog) (w := w) (t := tree vs) (s := s₁)
    (R := fun r s' => c.Ends s args vs s₁ r s' ∧ s'.os = s.os ∧ kept s'.heap)
    (Shared.asleep_of_life hal.2.2.2 hz)
    (C.mono hcode (by
      rintro fin s' ⟨f, e, h1, h2, h3, h4⟩
      exact ⟨f, e, ⟨h1, h2, h4⟩, leftWithCleanup_false_of_bare h3⟩) (by
      rintro e s' ⟨h1, h2, h3, h4⟩
      exact ⟨⟨h1, h2, h4⟩, leftWithCleanup_false_of_bare h3⟩))
  revert h9
  refine ex4k (fun k r s' s'' => and6k (fun hrun hsched hfo hcase hos hkp => ?_))
  obtain ⟨eh, _, _, eo, _⟩ := Shared.forget_eq hfo
  have hcase' := hcase.congr eh
  have hkp' : kept s'.heap := by rw [eh]; exact hkp
  have hos' : s'.os = s.os := eo.trans hos
  have hlife : s'.heap.life = s.heap.life := (runN_life _ _ _ hrun).trans hal.2.2.2
  refine ⟨vs, s₁, hlaid, k, _, s', hsched, ?_, (fun _ i x hx => by rw [hgens] at hx; simp at hx), hkp', by rw [hlife], Shared.rest_eq hos'⟩
  rcases hcase' with ⟨v, rfl, d1, d2, d3, d4, d5⟩ | ⟨e, ob, cls, rfl, d1, d2, d3, d4, d5⟩
  · exact .inl ⟨v, rfl, d1, d2, d3, fun b o y _ => d4 b o y, d5⟩
  · exact .inr ⟨e, ob, cls, rfl, d1, d2, d3, d4, fun b o y _ => d5 b o y⟩

/-- what is to be shown of the law's call, under the caller's code -/
noncomputable abbrev WalkC (q : Program) (loose : List Str) (XP : (Str → Option Value) → Heap → Prop) (YP : World → Heap → Prop) (r : RowW) (d : DefRec) (kwd : List (Str × Expr)) : Prop :=
  ∀ (w : World) (s₀ s₁ : Shared) (mg mb : Str → Option Value), Ground q loose r.records XP w s₀ mg mb s₁.heap → YP w s₁.heap → ∀ (a : Addr) (o : Obj) (pm cd doc dV kV : Value), s₁.heap.get? a = some o →
    o.data = .func { docDef d.name d.params d.body d.scope pm cd doc with defaults := dV, kwdefaults := kV } → s₁.heap.CodeRec cd d.name → Dflts mg s₁.heap d.params kwd dV kV → mg d.name = some (.ref a) → s₁.gens = #[] →
    ∀ (args : List WData) (vals : List Value) (as : List Addr), r.claim.pre args = true → WData.layableAll args = true → ReadsAllW r.records (classAt s₀.heap) s₁.heap vals args as → WellAll w.params s₁.heap vals args → (∀ a ∈ as, (a == sysModules) = false) →
      wpC (model r.prog w) callerA (PySem.call (.ref a) vals) (fun v s' => GoodWG r.claim (classAt s₀.heap) (ExcName.means s₀.heap) args s₁ (.ok (.ret v)) s')
        (fun e s' => GoodWG r.claim (classAt s₀.heap) (ExcName.means s₀.heap) args s₁ (.error e) s') s₁

theorem PySem.W.holds_open {r : OpenRow} {q : Program} {loose : List Str} {Xt : Shared → Bool} {XP : (Str → Option Value) → Heap → Prop} {α : Type} {Yf : Shared → α} {Ya : World → α} {YP : World → Heap → Prop} {d : DefRec} {kwd : List (Str × Expr)} {N : Nat}
    (left : LeftO r.prog q loose Xt Yf Ya N) (hY : ∀ w s, Yf s = Ya w → YP w s.heap) (hYk : ∀ w h h', YP w h → (∀ b o, h.get? b = some o → h'.get? b = some o) → YP w h')
    (hX : ∀ s, Xt s = true → XP (s.heap.nsMap mainGlobals) s.heap) (hXk : ∀ mg h h', XP mg h → (∀ b o, h.get? b = some o → h'.get? b = some o) → XP mg h')
    (hdef : defOf q r.name = some (d, kwd)) (hp : r.prog.theDef r.name = some (d.params, d.body, d.scope)) (hk : kwWritten? d.params.kwonlyargs d.params.kw_defaults = some kwd) (hRf : ∀ s, Xt s = true → RecFacts r.records s.heap) (hwr : (!r.writes || r.records.isEmpty) = true)
    (k1 : r.wellSaid = true) (ok : (chainsOk q && opensWell r.prog && (frees r.toRowW && r.within.isEmpty)) = true) (hb : r.prog.bare) (hw : r.toRowW.promised)
    (call : WalkC q loose XP YP r.toRowW d kwd) : r.Holds := by
  refine ⟨k1, hw, ?_⟩
  obtain ⟨ok, k5⟩ := Bool.and_eq_true_iff.mp ok
  obtain ⟨hch, o1⟩ := Bool.and_eq_true_iff.mp ok
  obtain ⟨k5, k6⟩ := Bool.and_eq_true_iff.mp k5
  obtain ⟨hsame, hu, ha, hap, hm⟩ := frees_parts k5
  refine ⟨⟨hb, o1, by show r.toRowW.makers.map _ = []; rw [hm]; rfl⟩, hw.witness, fun w => ⟨(left.behind hX hch w).1, fun s' hs' => ?_⟩⟩
  obtain ⟨s₀, hf, hg0, s, hT, hz, hgens, hg, G00, y⟩ := (left.behind (XP := fun mg h => XP mg h ∧ RecFacts r.records h) (fun s hs => ⟨hX s hs, hRf s hs⟩) hch w).2 s' hs'
  have G0 : Ground q loose [] XP w s (s.heap.nsMap mainGlobals) (s.heap.nsMap builtinsNs) s.heap := ⟨G00.T, G00.B, G00.D, G00.TE, G00.TD, G00.W, G00.X.1, G00.cls, G00.has, G00.apart, G00.once, G00.K⟩
  have RF := G00.X.2
  have pin : ∀ n ∈ (if r.pinned then [r.name] else []), isTheDefsW r.prog s.heap n := fun n hn => by
    obtain rfl : n = r.name := by split at hn <;> simp_all
    exact pinned_of_view hg G0 hdef hp hk
  refine ⟨s₀, hf, hg0, s, hT, pin, RF.1, RF.2.1, ?_⟩
  have hgens : s.gens = #[] := Array.eq_empty_of_size_eq_zero (beq_iff_eq.mp hgens)
  have G : Ground q loose r.records XP w s _ _ s.heap := RF.ground G0
  refine callFromC (c := r.toRowW.claim) hz hgens fun args hpre hlay ord hord => ?_
  obtain ⟨⟨vs, s₁⟩, hlaid⟩ := Option.isSome_iff_exists.mp (layAllW_isSome (P := w.params) (ord := ord) G.has args r.args s (pre_splitW hpre).1)
  have keeps := layAllW_keeps _ _ _ hlaid
  have hal := layAllW_rest _ _ _ hlaid
  obtain ⟨as, hrd, hin, hold⟩ := reads_layAllW hord _ _ _ hlaid hlay s₁.heap (fun _ _ e => e)
  have L : Laid r.records w s s₁ args vs as := ⟨⟨ord, hord, hlaid⟩, hrd, hin, hold, keeps, hal.1.trans hgens, hal.2.2.1⟩
  have G₁ := G.keeps hXk keeps
  obtain ⟨a, o, pm, cd, doc, dV, kV, h1, h2, h3, h4, h5⟩ := G₁.fn hdef
  have h := call w s s₁ _ _ G₁ (hYk _ _ _ (hY w s y) keeps) a o pm cd doc dV kV h2 h3 h4 h5 (defOf_name hdef ▸ h1) L.gens args vs as hpre hlay L.reads L.well (L.low G.low)
  have hi := ident_freeW hu ha hap
  have hwi : r.toRowW.claim.within = [] := List.isEmpty_iff.mp k6
  refine ⟨vs, s₁, hlaid, C.bindA (wpAny_nsGet G₁.T.g ?_)⟩
  rw [h1]
  exact C.bind (C.mono h (fun v s' g => C.of (wpAny_pure ⟨_, rfl, have z := g.laid (c := r.toRowW.claim) hsame hwi hi L; ⟨z.1, z.2.1, z.2.2, fun q => ⟨namesKept_of hT hg r.keeps keeps g.2.1.old, noTable hwr q⟩⟩⟩))
    fun e s' g => have z := g.laid (c := r.toRowW.claim) hsame hwi hi L; ⟨z.1, z.2.1, z.2.2, fun q => ⟨namesKept_of hT hg r.keeps keeps g.2.1.old, noTable hwr q⟩⟩)
end Mine
end
theorem Mine.fresh_T19 : True ∧ True := by
  w_on
  w_top off
  walk1
  all_goals trivial
/-! text T19 -/
section
open PySem PySem.W PyProof.Rows
namespace Mine
/-! the law's head by hand: the written part of the heap (its defs' own texts are read out of the row's program, none is written here), the view, and what the top leaves, in one check for each of the world's two answers -/
noncomputable def topBody : List Stmt := (RowW.prog (OpenRow.toRowW (OpenLaw.row PySem.Challenge.rw_tl0019_01))).main.body
noncomputable def fnParts : Stmt → Arguments × List Stmt × Scope
  | .FunctionDef _ a b _ _ _ c _ _ _ => (a, b, c)
  | _ => (⟨[], [], none, [], [], none, []⟩, [], ⟨.function, [], false, false, []⟩)
noncomputable def clsBody : Stmt → List Stmt
  | .ClassDef _ _ _ b _ _ _ _ _ _ _ => b
  | _ => []
set_option maxRecDepth 100000 in
set_option maxHeartbeats 8000000 in
noncomputable def hd.heap_39 : Params → Frag := fun P => (fun (s0 s1 s2 s3 s4 s5 s6 s7 s8 s9 s10 s11 s12 s13 s14 s15 : Stmt) (_ : topBody = [s0, s1, s2, s3, s4, s5, s6, s7, s8, s9, s10, s11, s12, s13, s14, s15]) (m0 m1 m2 m3 m4 m5 m6 m7 : Stmt) (_ : clsBody s10 = [m0, m1, m2, m3, m4, m5, m6, m7]) as0 bs0 cs0 as5 bs5 cs5 as8 bs8 cs8 am1 bm1 cm1 am2 bm2 cm2 am3 bm3 cm3 am4 bm4 cm4 am5 bm5 cm5 am6 bm6 cm6 am7 bm7 cm7 as12 bs12 cs12 as13 bs13 cs13 as14 bs14 cs14 as15 bs15 cs15 (_ : fnParts s0 = (as0, bs0, cs0)) (_ : fnParts s5 = (as5, bs5, cs5)) (_ : fnParts s8 = (as8, bs8, cs8)) (_ : fnParts m1 = (am1, bm1, cm1)) (_ : fnParts m2 = (am2, bm2, cm2)) (_ : fnParts m3 = (am3, bm3, cm3)) (_ : fnParts m4 = (am4, bm4, cm4)) (_ : fnParts m5 = (am5, bm5, cm5)) (_ : fnParts m6 = (am6, bm6, cm6)) (_ : fnParts m7 = (am7, bm7, cm7)) (_ : fnParts s12 = (as12, bs12, cs12)) (_ : fnParts s13 = (as13, bs13, cs13)) (_ : fnParts s14 = (as14, bs14, cs14)) (_ : fnParts s15 = (as15, bs15, cs15)) => (
  ((nat_lit 2), (Obj.mk Value.none (Option.none) (Data.dict #[(DictEntry.mk (PyData.keyHash P (Str.ofString "type.__subclasses__.Exception.0")) (Value.str (Str.ofString "type.__subclasses__.Exception.0") 212) (Value.int 31 0)), (DictEntry.mk (PyData.keyHash P (Str.ofString "type.__subclasses__.Exception.n")) (Value.str (Str.ofString "type.__subclasses__.Exception.n") 213) (Value.int 1 0))] 2) #[])) ::
  ((nat_lit 3), (Obj.mk (Value.type "dict") (Option.none) (Data.dict #[(DictEntry.mk (PyData.keyHash P (Str.ofString "__name__")) (Value.str (Str.ofString "__name__") 165) (Value.str (Str.ofString "law_tl0019_01") 375)), (DictEntry.mk (PyData.keyHash P (Str.ofString "__doc__")) (Value.str (Str.ofString "__doc__") 166) Value.none), (DictEntry.mk (PyData.keyHash P (Str.ofString "__package__")) (Value.str (Str.ofString "__package__") 167) Value.none), (DictEntry.mk (PyData.keyHash P (Str.ofString "__loader__")) (Value.str (Str.ofString "__loader__") 168) (Value.builtin "__main__.__loader__#\x6fpaque")), (DictEntry.mk (PyData.keyHash P (Str.ofString "__spec__")) (Value.str (Str.ofString "__spec__") 169) Value.none), (DictEntry.mk (PyData.keyHash P (Str.ofString "__annotations__")) (Value.str (Str.ofString "__annotations__") 170) (Value.ref 6)), (DictEntry.mk (PyData.keyHash P (Str.ofString "__builtins__")) (Value.str (Str.ofString "__builtins__") 171) (Value.ref 4)), (DictEntry.mk (PyData.keyHash P (Str.ofString "__file__")) (Value.str (Str.ofString "__file__") 173) (Value.str (Str.ofString "/claim/cut.py") 172)), (DictEntry.mk (PyData.keyHash P (Str.ofString "__cached__")) (Value.str (Str.ofString "__cached__") 174) Value.none), (DictEntry.mk (PyData.keyHash P (Str.ofString "_wall")) (Value.str (Str.ofString "_wall") 193) (Value.ref 21)), (DictEntry.mk (PyData.keyHash P (Str.ofString "Error")) (Value.str (Str.ofString "Error") 215) (Value.ref 31)), (DictEntry.mk (PyData.keyHash P (Str.ofString "error_reply")) (Value.str (Str.ofString "error_reply") 231) (Value.ref 44)), (DictEntry.mk (PyData.keyHash P (Str.ofString "error_proto")) (Value.str (Str.ofString "error_proto") 247) (Value.ref 56)), (DictEntry.mk (PyData.keyHash P (Str.ofString "parse229")) (Value.str (Str.ofString "parse229") 260) (Value.ref 65)), (DictEntry.mk (PyData.keyHash P (Str.ofString "ELLIPSIS_MARKER")) (Value.str (Str.ofString "ELLIPSIS_MARKER") 264) (Value.str (Str.ofString "...") 263)), (DictEntry.mk (PyData.keyHash P (Str.ofString "_ellipsis_match")) (Value.str (Str.ofString "_ellipsis_match") 276) (Value.ref 72)), (DictEntry.mk (PyData.keyHash P (Str.ofString "Whitespace")) (Value.str (Str.ofString "Whitespace") 374) (Value.ref 134)), (DictEntry.mk (PyData.keyHash P (Str.ofString "_law_reply")) (Value.str (Str.ofString "_law_reply") 390) (Value.ref 145)), (DictEntry.mk (PyData.keyHash P (Str.ofString "_law_hear")) (Value.str (Str.ofString "_law_hear") 399) (Value.ref 152)), (DictEntry.mk (PyData.keyHash P (Str.ofString "_law_step")) (Value.str (Str.ofString "_law_step") 409) (Value.ref 159)), (DictEntry.mk (PyData.keyHash P (Str.ofString "law")) (Value.str (Str.ofString "law") 415) (Value.ref 164))] 21) #[])) ::
  ((nat_lit 6), (Obj.mk (Value.type "dict") (Option.none) (Data.dict #[] 0) #[])) ::
  ((nat_lit 15), (Obj.mk (Value.type "tuple") (Option.none) (Data.seq #[] 0) #[])) ::
  ((nat_lit 17), (Obj.mk (Value.type "tuple") (Option.none) (Data.seq #[(Value.str (Str.ofString "k") 190)] 0) #[])) ::
  ((nat_lit 18), (Obj.mk (Value.type "tuple") (Option.none) (Data.seq #[] 0) #[])) ::
  ((nat_lit 20), (Obj.mk (Value.type "code") (Option.none) (Data.fields #[(Value.str (Str.ofString "_wall") 187), (Value.str (Str.ofString "_wall") 188), (Value.str (Str.ofString "/claim/cut.py") 189), (Value.int 1 0), (Value.int 1 0), (Value.int 0 0), (Value.int 0 0), (Value.int 3 0), (Value.ref 15), (Value.bool Bool.true), (Value.int 181 0), (Value.ref 16), Value.none, (Value.ref 17), (Value.ref 18), (Value.ref 19), (Value.int 191 0), (Value.int 1 0), (Value.str (Str.ofString "/claim/cut.py") 192)]) #[])) ::
  ((nat_lit 21), (Obj.mk (Value.type "function") (Option.none) (Data.func (FuncData.mk (Str.ofString "_wall") (Str.ofString "_wall") as0 (FuncBody.stmts bs0) cs0 3 [] Value.none Value.none Value.none (Value.str (Str.ofString "__main__") 164) (Option.none) (Value.ref 20) Value.none 0)) #[])) ::
  ((nat_lit 22), (Obj.mk (Value.type "tuple") (Option.none) (Data.seq #[(Value.type "Exception")] 0) #[])) ::
  ((nat_lit 29), (Obj.mk (Value.type "tuple") (Option.none) (Data.seq #[] 0) #[])) ::
  ((nat_lit 30), (Obj.mk (Value.type "dict") (Option.none) (Data.dict #[(DictEntry.mk (PyData.keyHash P (Str.ofString "__module__")) (Value.str (Str.ofString "__module__") 203) (Value.str (Str.ofString "cpy313.ftplib") 194)), (DictEntry.mk (PyData.keyHash P (Str.ofString "__firstlineno__")) (Value.str (Str.ofString "__firstlineno__") 207) (Value.int 5 206)), (DictEntry.mk (PyData.keyHash P (Str.ofString "__static_attributes__")) (Value.str (Str.ofString "__static_attributes__") 208) (Value.ref 29)), (DictEntry.mk (PyData.keyHash P (Str.ofString "__weakref__")) (Value.str (Str.ofString "__weakref__") 210) (Value.ref 32)), (DictEntry.mk (PyData.keyHash P (Str.ofString "__doc__")) (Value.str (Str.ofString "__doc__") 211) Value.none)] 3) #[])) ::
  ((nat_lit 31), (Obj.mk (Value.type "type") (Option.none) (Data.cls (ClassData.mk (Str.ofString "Error") [(Value.type "Exception")] [(Value.ref 31), (Value.type "Exception"), (Value.type "BaseException"), (Value.type "object")] 30 (Str.ofString "Error") Bool.true [] [(Value.ref 44), (Value.ref 56)] Bool.false (Option.none) Bool.false)) #[(Option.some (Value.ref 22)), (Option.none), (Option.some (Value.str (Str.ofString "Error") 196)), (Option.some (Value.str (Str.ofString "Error") 204)), (Option.some (Value.builtin "Exception.__new__")), (Option.some (Value.bool Bool.true))])) ::
  ((nat_lit 32), (Obj.mk (Value.type "getset_descriptor") (Option.none) (Data.fields #[(Value.str (Str.ofString "__weakref__") 209), (Value.ref 31), (Value.builtin "ExceptionGroup.__weakref__"), Value.none]) #[])) ::
  ((nat_lit 35), (Obj.mk (Value.type "tuple") (Option.none) (Data.seq #[(Value.ref 31)] 0) #[])) ::
  ((nat_lit 42), (Obj.mk (Value.type "tuple") (Option.none) (Data.seq #[] 0) #[])) ::
  ((nat_lit 43), (Obj.mk (Value.type "dict") (Option.none) (Data.dict #[(DictEntry.mk (PyData.keyHash P (Str.ofString "__module__")) (Value.str (Str.ofString "__module__") 223) (Value.str (Str.ofString "cpy313.ftplib") 194)), (DictEntry.mk (PyData.keyHash P (Str.ofString "__firstlineno__")) (Value.str (Str.ofString "__firstlineno__") 227) (Value.int 7 226)), (DictEntry.mk (PyData.keyHash P (Str.ofString "__static_attributes__")) (Value.str (Str.ofString "__static_attributes__") 228) (Value.ref 42)), (DictEntry.mk (PyData.keyHash P (Str.ofString "__doc__")) (Value.str (Str.ofString "__doc__") 229) Value.none)] 2) #[])) ::
  ((nat_lit 44), (Obj.mk (Value.type "type") (Option.none) (Data.cls (ClassData.mk (Str.ofString "error_reply") [(Value.ref 31)] [(Value.ref 44), (Value.ref 31), (Value.type "Exception"), (Value.type "BaseException"), (Value.type "object")] 43 (Str.ofString "error_reply") Bool.true [] [] Bool.false (Option.none) Bool.false)) #[(Option.some (Value.ref 35)), (Option.none), (Option.some (Value.str (Str.ofString "error_reply") 216)), (Option.some (Value.str (Str.ofString "error_reply") 224)), (Option.some (Value.builtin "Exception.__new__")), (Option.some (Value.bool Bool.true))])) ::
  ((nat_lit 47), (Obj.mk (Value.type "tuple") (Option.none) (Data.seq #[(Value.ref 31)] 0) #[])) ::
  ((nat_lit 54), (Obj.mk (Value.type "tuple") (Option.none) (Data.seq #[] 0) #[])) ::
  ((nat_lit 55), (Obj.mk (Value.type "dict") (Option.none) (Data.dict #[(DictEntry.mk (PyData.keyHash P (Str.ofString "__module__")) (Value.str (Str.ofString "__module__") 239) (Value.str (Str.ofString "cpy313.ftplib") 194)), (DictEntry.mk (PyData.keyHash P (Str.ofString "__firstlineno__")) (Value.str (Str.ofString "__firstlineno__") 243) (Value.int 9 242)), (DictEntry.mk (PyData.keyHash P (Str.ofString "__static_attributes__")) (Value.str (Str.ofString "__static_attributes__") 244) (Value.ref 54)), (DictEntry.mk (PyData.keyHash P (Str.ofString "__doc__")) (Value.str (Str.ofString "__doc__") 245) Value.none)] 2) #[])) ::
  ((nat_lit 56), (Obj.mk (Value.type "type") (Option.none) (Data.cls (ClassData.mk (Str.ofString "error_proto") [(Value.ref 31)] [(Value.ref 56), (Value.ref 31), (Value.type "Exception"), (Value.type "BaseException"), (Value.type "object")] 55 (Str.ofString "error_proto") Bool.true [] [] Bool.false (Option.none) Bool.false)) #[(Option.some (Value.ref 47)), (Option.none), (Option.some (Value.str (Str.ofString "error_proto") 232)), (Option.some (Value.str (Str.ofString "error_proto") 240)), (Option.some (Value.builtin "Exception.__new__")), (Option.some (Value.bool Bool.true))])) ::
  ((nat_lit 59), (Obj.mk (Value.type "tuple") (Option.none) (Data.seq #[] 0) #[])) ::
  ((nat_lit 61), (Obj.mk (Value.type "tuple") (Option.none) (Data.seq #[(Value.str (Str.ofString "resp") 251), (Value.str (Str.ofString "peer") 252), (Value.str (Str.ofString "left") 253), (Value.str (Str.ofString "right") 254), (Value.str (Str.ofString "parts") 255), (Value.str (Str.ofString "host") 256), (Value.str (Str.ofString "port") 257)] 0) #[])) ::
  ((nat_lit 62), (Obj.mk (Value.type "tuple") (Option.none) (Data.seq #[] 0) #[])) ::
  ((nat_lit 64), (Obj.mk (Value.type "code") (Option.none) (Data.fields #[(Value.str (Str.ofString "parse229") 248), (Value.str (Str.ofString "parse229") 249), (Value.str (Str.ofString "/claim/cut.py") 250), (Value.int 11 0), (Value.int 2 0), (Value.int 0 0), (Value.int 0 0), (Value.int 3 0), (Value.ref 59), (Value.bool Bool.true), (Value.int 181 0), (Value.ref 60), Value.none, (Value.ref 61), (Value.ref 62), (Value.ref 63), (Value.int 258 0), (Value.int 11 0), (Value.str (Str.ofString "/claim/cut.py") 259)]) #[])) ::
  ((nat_lit 65), (Obj.mk (Value.type "function") (Option.none) (Data.func (FuncData.mk (Str.ofString "parse229") (Str.ofString "parse229") as5 (FuncBody.stmts bs5) cs5 3 [] Value.none Value.none Value.none (Value.str (Str.ofString "cpy313.ftplib") 194) (Option.none) (Value.ref 64) Value.none 0)) #[])) ::
  ((nat_lit 66), (Obj.mk (Value.type "tuple") (Option.none) (Data.seq #[] 0) #[])) ::
  ((nat_lit 68), (Obj.mk (Value.type "tuple") (Option.none) (Data.seq #[(Value.str (Str.ofString "want") 268), (Value.str (Str.ofString "got") 269), (Value.str (Str.ofString "ws") 270), (Value.str (Str.ofString "startpos") 271), (Value.str (Str.ofString "endpos") 272), (Value.str (Str.ofString "w") 273)] 0) #[])) ::
  ((nat_lit 69), (Obj.mk (Value.type "tuple") (Option.none) (Data.seq #[] 0) #[])) ::
  ((nat_lit 71), (Obj.mk (Value.type "code") (Option.none) (Data.fields #[(Value.str (Str.ofString "_ellipsis_match") 265), (Value.str (Str.ofString "_ellipsis_match") 266), (Value.str (Str.ofString "/claim/cut.py") 267), (Value.int 30 0), (Value.int 2 0), (Value.int 0 0), (Value.int 0 0), (Value.int 3 0), (Value.ref 66), (Value.bool Bool.true), (Value.int 181 0), (Value.ref 67), Value.none, (Value.ref 68), (Value.ref 69), (Value.ref 70), (Value.int 274 0), (Value.int 30 0), (Value.str (Str.ofString "/claim/cut.py") 275)]) #[])) ::
  ((nat_lit 72), (Obj.mk (Value.type "function") (Option.none) (Data.func (FuncData.mk (Str.ofString "_ellipsis_match") (Str.ofString "_ellipsis_match") as8 (FuncBody.stmts bs8) cs8 3 [] Value.none Value.none Value.none (Value.str (Str.ofString "cpy313.doctest") 261) (Option.none) (Value.ref 71) Value.none 0)) #[])) ::
  ((nat_lit 83), (Obj.mk (Value.type "tuple") (Option.none) (Data.seq #[] 0) #[])) ::
  ((nat_lit 85), (Obj.mk (Value.type "tuple") (Option.none) (Data.seq #[(Value.str (Str.ofString "self") 299), (Value.str (Str.ofString "ws") 300), (Value.str (Str.ofString "S") 301), (Value.str (Str.ofString "T") 302), (Value.str (Str.ofString "count") 303), (Value.str (Str.ofString "b") 304), (Value.str (Str.ofString "n") 305), (Value.str (Str.ofString "nt") 306), (Value.str (Str.ofString "ch") 307)] 0) #[])) ::
  ((nat_lit 86), (Obj.mk (Value.type "tuple") (Option.none) (Data.seq #[] 0) #[])) ::
  ((nat_lit 88), (Obj.mk (Value.type "code") (Option.none) (Data.fields #[(Value.str (Str.ofString "__init__") 296), (Value.str (Str.ofString "Whitespace.__init__") 297), (Value.str (Str.ofString "/claim/cut.py") 298), (Value.int 62 0), (Value.int 2 0), (Value.int 0 0), (Value.int 0 0), (Value.int 3 0), (Value.ref 83), (Value.bool Bool.true), (Value.int 181 0), (Value.ref 84), Value.none, (Value.ref 85), (Value.ref 86), (Value.ref 87), (Value.int 308 0), (Value.int 62 0), (Value.str (Str.ofString "/claim/cut.py") 309)]) #[])) ::
  ((nat_lit 89), (Obj.mk (Value.type "function") (Option.none) (Data.func (FuncData.mk (Str.ofString "__init__") (Str.ofString "Whitespace.__init__") am1 (FuncBody.stmts bm1) cm1 3 [] Value.none Value.none Value.none (Value.str (Str.ofString "cpy313.tabnanny") 277) (Option.none) (Value.ref 88) Value.none 0)) #[])) ::
  ((nat_lit 90), (Obj.mk (Value.type "tuple") (Option.none) (Data.seq #[] 0) #[])) ::
  ((nat_lit 92), (Obj.mk (Value.type "tuple") (Option.none) (Data.seq #[(Value.str (Str.ofString "self") 314)] 0) #[])) ::
  ((nat_lit 93), (Obj.mk (Value.type "tuple") (Option.none) (Data.seq #[] 0) #[])) ::
  ((nat_lit 95), (Obj.mk (Value.type "code") (Option.none) (Data.fields #[(Value.str (Str.ofString "longest_run_of_spaces") 311), (Value.str (Str.ofString "Whitespace.longest_run_of_spaces") 312), (Value.str (Str.ofString "/claim/cut.py") 313), (Value.int 85 0), (Value.int 1 0), (Value.int 0 0), (Value.int 0 0), (Value.int 3 0), (Value.ref 90), (Value.bool Bool.true), (Value.int 181 0), (Value.ref 91), Value.none, (Value.ref 92), (Value.ref 93), (Value.ref 94), (Value.int 315 0), (Value.int 85 0), (Value.str (Str.ofString "/claim/cut.py") 316)]) #[])) ::
  ((nat_lit 96), (Obj.mk (Value.type "function") (Option.none) (Data.func (FuncData.mk (Str.ofString "longest_run_of_spaces") (Str.ofString "Whitespace.longest_run_of_spaces") am2 (FuncBody.stmts bm2) cm2 3 [] Value.none Value.none Value.none (Value.str (Str.ofString "cpy313.tabnanny") 277) (Option.none) (Value.ref 95) Value.none 0)) #[])) ::
  ((nat_lit 97), (Obj.mk (Value.type "tuple") (Option.none) (Data.seq #[] 0) #[])) ::
  ((nat_lit 99), (Obj.mk (Value.type "tuple") (Option.none) (Data.seq #[(Value.str (Str.ofString "self") 321), (Value.str (Str.ofString "tabsize") 322), (Value.str (Str.ofString "count") 323), (Value.str (Str.ofString "trailing") 324), (Value.str (Str.ofString "il") 325), (Value.str (Str.ofString "i") 326)] 0) #[])) ::
  ((nat_lit 100), (Obj.mk (Value.type "tuple") (Option.none) (Data.seq #[] 0) #[])) ::
  ((nat_lit 102), (Obj.mk (Value.type "code") (Option.none) (Data.fields #[(Value.str (Str.ofString "indent_level") 318), (Value.str (Str.ofString "Whitespace.indent_level") 319), (Value.str (Str.ofString "/claim/cut.py") 320), (Value.int 88 0), (Value.int 2 0), (Value.int 0 0), (Value.int 0 0), (Value.int 3 0), (Value.ref 97), (Value.bool Bool.true), (Value.int 181 0), (Value.ref 98), Value.none, (Value.ref 99), (Value.ref 100), (Value.ref 101), (Value.int 327 0), (Value.int 88 0), (Value.str (Str.ofString "/claim/cut.py") 328)]) #[])) ::
  ((nat_lit 103), (Obj.mk (Value.type "function") (Option.none) (Data.func (FuncData.mk (Str.ofString "indent_level") (Str.ofString "Whitespace.indent_level") am3 (FuncBody.stmts bm3) cm3 3 [] Value.none Value.none Value.none (Value.str (Str.ofString "cpy313.tabnanny") 277) (Option.none) (Value.ref 102) Value.none 0)) #[])) ::
  ((nat_lit 104), (Obj.mk (Value.type "tuple") (Option.none) (Data.seq #[] 0) #[])) ::
  ((nat_lit 106), (Obj.mk (Value.type "tuple") (Option.none) (Data.seq #[(Value.str (Str.ofString "self") 333), (Value.str (Str.ofString "other") 334)] 0) #[])) ::
  ((nat_lit 107), (Obj.mk (Value.type "tuple") (Option.none) (Data.seq #[] 0) #[])) ::
  ((nat_lit 109), (Obj.mk (Value.type "code") (Option.none) (Data.fields #[(Value.str (Str.ofString "equal") 330), (Value.str (Str.ofString "Whitespace.equal") 331), (Value.str (Str.ofString "/claim/cut.py") 332), (Value.int 95 0), (Value.int 2 0), (Value.int 0 0), (Value.int 0 0), (Value.int 3 0), (Value.ref 104), (Value.bool Bool.true), (Value.int 181 0), (Value.ref 105), Value.none, (Value.ref 106), (Value.ref 107), (Value.ref 108), (Value.int 335 0), (Value.int 95 0), (Value.str (Str.ofString "/claim/cut.py") 336)]) #[])) ::
  ((nat_lit 110), (Obj.mk (Value.type "function") (Option.none) (Data.func (FuncData.mk (Str.ofString "equal") (Str.ofString "Whitespace.equal") am4 (FuncBody.stmts bm4) cm4 3 [] Value.none Value.none Value.none (Value.str (Str.ofString "cpy313.tabnanny") 277) (Option.none) (Value.ref 109) Value.none 0)) #[])) ::
  ((nat_lit 111), (Obj.mk (Value.type "tuple") (Option.none) (Data.seq #[] 0) #[])) ::
  ((nat_lit 113), (Obj.mk (Value.type "tuple") (Option.none) (Data.seq #[(Value.str (Str.ofString "self") 341), (Value.str (Str.ofString "other") 342)] 0) #[])) ::
  ((nat_lit 114), (Obj.mk (Value.type "tuple") (Option.none) (Data.seq #[] 0) #[])) ::
  ((nat_lit 116), (Obj.mk (Value.type "code") (Option.none) (Data.fields #[(Value.str (Str.ofString "not_equal_witness") 338), (Value.str (Str.ofString "Whitespace.not_equal_witness") 339), (Value.str (Str.ofString "/claim/cut.py") 340), (Value.int 98 0), (Value.int 2 0), (Value.int 0 0), (Value.int 0 0), (Value.int 3 0), (Value.ref 111), (Value.bool Bool.true), (Value.int 181 0), (Value.ref 112), Value.none, (Value.ref 113), (Value.ref 114), (Value.ref 115), (Value.int 343 0), (Value.int 98 0), (Value.str (Str.ofString "/claim/cut.py") 344)]) #[])) ::
  ((nat_lit 117), (Obj.mk (Value.type "function") (Option.none) (Data.func (FuncData.mk (Str.ofString "not_equal_witness") (Str.ofString "Whitespace.not_equal_witness") am5 (FuncBody.stmts bm5) cm5 3 [] Value.none Value.none Value.none (Value.str (Str.ofString "cpy313.tabnanny") 277) (Option.none) (Value.ref 116) Value.none 0)) #[])) ::
  ((nat_lit 118), (Obj.mk (Value.type "tuple") (Option.none) (Data.seq #[] 0) #[])) ::
  ((nat_lit 120), (Obj.mk (Value.type "tuple") (Option.none) (Data.seq #[(Value.str (Str.ofString "self") 349), (Value.str (Str.ofString "other") 350)] 0) #[])) ::
  ((nat_lit 121), (Obj.mk (Value.type "tuple") (Option.none) (Data.seq #[] 0) #[])) ::
  ((nat_lit 123), (Obj.mk (Value.type "code") (Option.none) (Data.fields #[(Value.str (Str.ofString "less") 346), (Value.str (Str.ofString "Whitespace.less") 347), (Value.str (Str.ofString "/claim/cut.py") 348), (Value.int 101 0), (Value.int 2 0), (Value.int 0 0), (Value.int 0 0), (Value.int 3 0), (Value.ref 118), (Value.bool Bool.true), (Value.int 181 0), (Value.ref 119), Value.none, (Value.ref 120), (Value.ref 121), (Value.ref 122), (Value.int 351 0), (Value.int 101 0), (Value.str (Str.ofString "/claim/cut.py") 352)]) #[])) ::
  ((nat_lit 124), (Obj.mk (Value.type "function") (Option.none) (Data.func (FuncData.mk (Str.ofString "less") (Str.ofString "Whitespace.less") am6 (FuncBody.stmts bm6) cm6 3 [] Value.none Value.none Value.none (Value.str (Str.ofString "cpy313.tabnanny") 277) (Option.none) (Value.ref 123) Value.none 0)) #[])) ::
  ((nat_lit 125), (Obj.mk (Value.type "tuple") (Option.none) (Data.seq #[] 0) #[])) ::
  ((nat_lit 127), (Obj.mk (Value.type "tuple") (Option.none) (Data.seq #[(Value.str (Str.ofString "self") 357), (Value.str (Str.ofString "other") 358)] 0) #[])) ::
  ((nat_lit 128), (Obj.mk (Value.type "tuple") (Option.none) (Data.seq #[] 0) #[])) ::
  ((nat_lit 130), (Obj.mk (Value.type "code") (Option.none) (Data.fields #[(Value.str (Str.ofString "not_less_witness") 354), (Value.str (Str.ofString "Whitespace.not_less_witness") 355), (Value.str (Str.ofString "/claim/cut.py") 356), (Value.int 104 0), (Value.int 2 0), (Value.int 0 0), (Value.int 0 0), (Value.int 3 0), (Value.ref 125), (Value.bool Bool.true), (Value.int 181 0), (Value.ref 126), Value.none, (Value.ref 127), (Value.ref 128), (Value.ref 129), (Value.int 359 0), (Value.int 104 0), (Value.str (Str.ofString "/claim/cut.py") 360)]) #[])) ::
  ((nat_lit 131), (Obj.mk (Value.type "function") (Option.none) (Data.func (FuncData.mk (Str.ofString "not_less_witness") (Str.ofString "Whitespace.not_less_witness") am7 (FuncBody.stmts bm7) cm7 3 [] Value.none Value.none Value.none (Value.str (Str.ofString "cpy313.tabnanny") 277) (Option.none) (Value.ref 130) Value.none 0)) #[])) ::
  ((nat_lit 132), (Obj.mk (Value.type "tuple") (Option.none) (Data.seq #[(Value.str (Str.ofString "is_simple") 362), (Value.str (Str.ofString "n") 363), (Value.str (Str.ofString "norm") 364), (Value.str (Str.ofString "nt") 365), (Value.str (Str.ofString "raw") 366)] 0) #[])) ::
  ((nat_lit 133), (Obj.mk (Value.type "dict") (Option.none) (Data.dict #[(DictEntry.mk (PyData.keyHash P (Str.ofString "__module__")) (Value.str (Str.ofString "__module__") 286) (Value.str (Str.ofString "cpy313.tabnanny") 277)), (DictEntry.mk (PyData.keyHash P (Str.ofString "__firstlineno__")) (Value.str (Str.ofString "__firstlineno__") 290) (Value.int 59 289)), (DictEntry.mk (PyData.keyHash P (Str.ofString "S")) (Value.str (Str.ofString "S") 294) (Value.str (Str.ofString " ") 292)), (DictEntry.mk (PyData.keyHash P (Str.ofString "T")) (Value.str (Str.ofString "T") 295) (Value.str (Str.ofString "\t") 293)), (DictEntry.mk (PyData.keyHash P (Str.ofString "__init__")) (Value.str (Str.ofString "__init__") 310) (Value.ref 89)), (DictEntry.mk (PyData.keyHash P (Str.ofString "longest_run_of_spaces")) (Value.str (Str.ofString "longest_run_of_spaces") 317) (Value.ref 96)), (DictEntry.mk (PyData.keyHash P (Str.ofString "indent_level")) (Value.str (Str.ofString "indent_level") 329) (Value.ref 103)), (DictEntry.mk (PyData.keyHash P (Str.ofString "equal")) (Value.str (Str.ofString "equal") 337) (Value.ref 110)), (DictEntry.mk (PyData.keyHash P (Str.ofString "not_equal_witness")) (Value.str (Str.ofString "not_equal_witness") 345) (Value.ref 117)), (DictEntry.mk (PyData.keyHash P (Str.ofString "less")) (Value.str (Str.ofString "less") 353) (Value.ref 124)), (DictEntry.mk (PyData.keyHash P (Str.ofString "not_less_witness")) (Value.str (Str.ofString "not_less_witness") 361) (Value.ref 131)), (DictEntry.mk (PyData.keyHash P (Str.ofString "__static_attributes__")) (Value.str (Str.ofString "__static_attributes__") 367) (Value.ref 132)), (DictEntry.mk (PyData.keyHash P (Str.ofString "__dict__")) (Value.str (Str.ofString "__dict__") 369) (Value.ref 135)), (DictEntry.mk (PyData.keyHash P (Str.ofString "__weakref__")) (Value.str (Str.ofString "__weakref__") 371) (Value.ref 136)), (DictEntry.mk (PyData.keyHash P (Str.ofString "__doc__")) (Value.str (Str.ofString "__doc__") 372) Value.none)] 4) #[])) ::
  ((nat_lit 134), (Obj.mk (Value.type "type") (Option.none) (Data.cls (ClassData.mk (Str.ofString "Whitespace") [(Value.type "object")] [(Value.ref 134), (Value.type "object")] 133 (Str.ofString "Whitespace") Bool.true [] [] Bool.false (Option.none) Bool.false)) #[(Option.none), (Option.none), (Option.some (Value.str (Str.ofString "Whitespace") 279)), (Option.some (Value.str (Str.ofString "Whitespace") 287)), (Option.some (Value.builtin "object.__new__")), (Option.some (Value.bool Bool.true))])) ::
  ((nat_lit 135), (Obj.mk (Value.type "getset_descriptor") (Option.none) (Data.fields #[(Value.str (Str.ofString "__dict__") 368), (Value.ref 134), (Value.builtin "function.__dict__"), (Value.builtin "function.__dict__#set")]) #[])) ::
  ((nat_lit 136), (Obj.mk (Value.type "getset_descriptor") (Option.none) (Data.fields #[(Value.str (Str.ofString "__weakref__") 370), (Value.ref 134), (Value.builtin "ExceptionGroup.__weakref__"), Value.none]) #[])) ::
  ((nat_lit 139), (Obj.mk (Value.type "tuple") (Option.none) (Data.seq #[] 0) #[])) ::
  ((nat_lit 141), (Obj.mk (Value.type "tuple") (Option.none) (Data.seq #[(Value.str (Str.ofString "x") 380), (Value.str (Str.ofString "port") 381), (Value.str (Str.ofString "kind") 382), (Value.str (Str.ofString "mark") 383), (Value.str (Str.ofString "field") 384), (Value.str (Str.ofString "figures") 385), (Value.str (Str.ofString "inside") 386), (Value.str (Str.ofString "code") 387)] 0) #[])) ::
  ((nat_lit 142), (Obj.mk (Value.type "tuple") (Option.none) (Data.seq #[] 0) #[])) ::
  ((nat_lit 144), (Obj.mk (Value.type "code") (Option.none) (Data.fields #[(Value.str (Str.ofString "_law_reply") 377), (Value.str (Str.ofString "_law_reply") 378), (Value.str (Str.ofString "/claim/cut.py") 379), (Value.int 107 0), (Value.int 2 0), (Value.int 0 0), (Value.int 0 0), (Value.int 3 0), (Value.ref 139), (Value.bool Bool.true), (Value.int 181 0), (Value.ref 140), Value.none, (Value.ref 141), (Value.ref 142), (Value.ref 143), (Value.int 388 0), (Value.int 107 0), (Value.str (Str.ofString "/claim/cut.py") 389)]) #[])) ::
  ((nat_lit 145), (Obj.mk (Value.type "function") (Option.none) (Data.func (FuncData.mk (Str.ofString "_law_reply") (Str.ofString "_law_reply") as12 (FuncBody.stmts bs12) cs12 3 [] Value.none Value.none Value.none (Value.str (Str.ofString "law_tl0019_01") 375) (Option.none) (Value.ref 144) Value.none 0)) #[])) ::
  ((nat_lit 146), (Obj.mk (Value.type "tuple") (Option.none) (Data.seq #[] 0) #[])) ::
  ((nat_lit 148), (Obj.mk (Value.type "tuple") (Option.none) (Data.seq #[(Value.str (Str.ofString "reply") 394), (Value.str (Str.ofString "at") 395), (Value.str (Str.ofString "refused") 396)] 0) #[])) ::
  ((nat_lit 149), (Obj.mk (Value.type "tuple") (Option.none) (Data.seq #[] 0) #[])) ::
  ((nat_lit 151), (Obj.mk (Value.type "code") (Option.none) (Data.fields #[(Value.str (Str.ofString "_law_hear") 391), (Value.str (Str.ofString "_law_hear") 392), (Value.str (Str.ofString "/claim/cut.py") 393), (Value.int 127 0), (Value.int 2 0), (Value.int 0 0), (Value.int 0 0), (Value.int 3 0), (Value.ref 146), (Value.bool Bool.true), (Value.int 181 0), (Value.ref 147), Value.none, (Value.ref 148), (Value.ref 149), (Value.ref 150), (Value.int 397 0), (Value.int 127 0), (Value.str (Str.ofString "/claim/cut.py") 398)]) #[])) ::
  ((nat_lit 152), (Obj.mk (Value.type "function") (Option.none) (Data.func (FuncData.mk (Str.ofString "_law_hear") (Str.ofString "_law_hear") as13 (FuncBody.stmts bs13) cs13 3 [] Value.none Value.none Value.none (Value.str (Str.ofString "law_tl0019_01") 375) (Option.none) (Value.ref 151) Value.none 0)) #[])) ::
  ((nat_lit 153), (Obj.mk (Value.type "tuple") (Option.none) (Data.seq #[] 0) #[])) ::
  ((nat_lit 155), (Obj.mk (Value.type "tuple") (Option.none) (Data.seq #[(Value.str (Str.ofString "replies") 403), (Value.str (Str.ofString "first") 404), (Value.str (Str.ofString "at") 405), (Value.str (Str.ofString "told") 406)] 0) #[])) ::
  ((nat_lit 156), (Obj.mk (Value.type "tuple") (Option.none) (Data.seq #[] 0) #[])) ::
  ((nat_lit 158), (Obj.mk (Value.type "code") (Option.none) (Data.fields #[(Value.str (Str.ofString "_law_step") 400), (Value.str (Str.ofString "_law_step") 401), (Value.str (Str.ofString "/claim/cut.py") 402), (Value.int 136 0), (Value.int 3 0), (Value.int 0 0), (Value.int 0 0), (Value.int 3 0), (Value.ref 153), (Value.bool Bool.true), (Value.int 181 0), (Value.ref 154), Value.none, (Value.ref 155), (Value.ref 156), (Value.ref 157), (Value.int 407 0), (Value.int 136 0), (Value.str (Str.ofString "/claim/cut.py") 408)]) #[])) ::
  ((nat_lit 159), (Obj.mk (Value.type "function") (Option.none) (Data.func (FuncData.mk (Str.ofString "_law_step") (Str.ofString "_law_step") as14 (FuncBody.stmts bs14) cs14 3 [] Value.none Value.none Value.none (Value.str (Str.ofString "law_tl0019_01") 375) (Option.none) (Value.ref 158) Value.none 0)) #[])) ::
  ((nat_lit 160), (Obj.mk (Value.type "tuple") (Option.none) (Data.seq #[] 0) #[])) ::
  ((nat_lit 163), (Obj.mk (Value.type "code") (Option.none) (Data.fields #[(Value.str (Str.ofString "law") 410), (Value.str (Str.ofString "law") 411), (Value.str (Str.ofString "/claim/cut.py") 412), (Value.int 139 0), (Value.int 1 0), (Value.int 0 0), (Value.int 0 0), (Value.int 3 0), (Value.ref 160), (Value.bool Bool.true), (Value.int 181 0), (Value.ref 161), Value.none, Value.none, Value.none, (Value.ref 162), (Value.int 413 0), (Value.int 139 0), (Value.str (Str.ofString "/claim/cut.py") 414)]) #[])) ::
  ((nat_lit 164), (Obj.mk (Value.type "function") (Option.none) (Data.func (FuncData.mk (Str.ofString "law") (Str.ofString "law") as15 (FuncBody.stmts bs15) cs15 3 [] Value.none Value.none Value.none (Value.str (Str.ofString "law_tl0019_01") 375) (Option.none) (Value.ref 163) Value.none 0)) #[])) :: [])) _ _ _ _ _ _ _ _ _ _ _ _ _ _ _ _ rfl _ _ _ _ _ _ _ _ rfl _ _ _ _ _ _ _ _ _ _ _ _ _ _ _ _ _ _ _ _ _ _ _ _ _ _ _ _ _ _ _ _ _ _ _ _ _ _ _ _ _ _ rfl rfl rfl rfl rfl rfl rfl rfl rfl rfl rfl rfl rfl rfl
set_option maxRecDepth 100000 in
set_option maxHeartbeats 8000000 in
noncomputable def hd.view_39 : Program := (fun (s0 s1 s2 s3 s4 s5 s6 s7 s8 s9 s10 s11 s12 s13 s14 s15 : Stmt) (_ : topBody = [s0, s1, s2, s3, s4, s5, s6, s7, s8, s9, s10, s11, s12, s13, s14, s15]) => { RowW.prog (OpenRow.toRowW (OpenLaw.row PySem.Challenge.rw_tl0019_01)) with main := { (RowW.prog (OpenRow.toRowW (OpenLaw.row PySem.Challenge.rw_tl0019_01))).main with body := [s0, s2, s3, s4, s5, s7, s8, s10, s12, s13, s14, s15] } }) _ _ _ _ _ _ _ _ _ _ _ _ _ _ _ _ rfl
theorem hd.keys (P : Params) : (2 :: 3 :: 6 :: 15 :: 17 :: 18 :: 20 :: 21 :: 22 :: 29 :: 30 :: 31 :: 32 :: 35 :: 42 :: 43 :: 44 :: 47 :: 54 :: 55 :: 56 :: 59 :: 61 :: 62 :: 64 :: 65 :: 66 :: 68 :: 69 :: 71 :: 72 :: 83 :: 85 :: 86 :: 88 :: 89 :: 90 :: 92 :: 93 :: 95 :: 96 :: 97 :: 99 :: 100 :: 102 :: 103 :: 104 :: 106 :: 107 :: 109 :: 110 :: 111 :: 113 :: 114 :: 116 :: 117 :: 118 :: 120 :: 121 :: 123 :: 124 :: 125 :: 127 :: 128 :: 130 :: 131 :: 132 :: 133 :: 134 :: 135 :: 136 :: 139 :: 141 :: 142 :: 144 :: 145 :: 146 :: 148 :: 149 :: 151 :: 152 :: 153 :: 155 :: 156 :: 158 :: 159 :: 160 :: 163 :: 164 :: []) = (hd.heap_39 P).map (·.1) := by kernel_rfl
noncomputable abbrev hd.hook : Hook := kHook hd.heap_39 (2 :: 3 :: 6 :: 15 :: 17 :: 18 :: 20 :: 21 :: 22 :: 29 :: 30 :: 31 :: 32 :: 35 :: 42 :: 43 :: 44 :: 47 :: 54 :: 55 :: 56 :: 59 :: 61 :: 62 :: 64 :: 65 :: 66 :: 68 :: 69 :: 71 :: 72 :: 83 :: 85 :: 86 :: 88 :: 89 :: 90 :: 92 :: 93 :: 95 :: 96 :: 97 :: 99 :: 100 :: 102 :: 103 :: 104 :: 106 :: 107 :: 109 :: 110 :: 111 :: 113 :: 114 :: 116 :: 117 :: 118 :: 120 :: 121 :: 123 :: 124 :: 125 :: 127 :: 128 :: 130 :: 131 :: 132 :: 133 :: 134 :: 135 :: 136 :: 139 :: 141 :: 142 :: 144 :: 145 :: 146 :: 148 :: 149 :: 151 :: 152 :: 153 :: 155 :: 156 :: 158 :: 159 :: 160 :: 163 :: 164 :: []) hd.keys
noncomputable abbrev hd.xt (s : Shared) : Bool := xlAt hd.view_39 [] s && recOk (RowW.records (OpenRow.toRowW (OpenLaw.row PySem.Challenge.rw_tl0019_01))) s
noncomputable def hd.ends (w : World) : Prop := (openEnds treeTable (RowW.prog (OpenRow.toRowW (OpenLaw.row PySem.Challenge.rw_tl0019_01))) w 2882).map (fun s => (openSeen hd.view_39 [Str.ofString "Whitespace"] (importedModules (RowW.prog (OpenRow.toRowW (OpenLaw.row PySem.Challenge.rw_tl0019_01))).main.body) hd.xt true s, hd.hook.obs s)) = some (openGood hd.view_39 [Str.ofString "Whitespace"], hd.hook.val w)
set_option maxRecDepth 100000 in
theorem hd.ends_f (w : World) : hd.ends (w.withFollow "special-get-raises" false) := by
  unfold hd.ends
  kernel_rfl
set_option maxRecDepth 100000 in
theorem hd.ends_t (w : World) : hd.ends (w.withFollow "special-get-raises" true) := by
  unfold hd.ends
  kernel_rfl
theorem hd.left : LeftO (RowW.prog (OpenRow.toRowW (OpenLaw.row PySem.Challenge.rw_tl0019_01))) hd.view_39 [Str.ofString "Whitespace"] hd.xt hd.hook.obs hd.hook.val 2882 := fun w => byRow2 (P := hd.ends) "special-get-raises" hd.ends_f hd.ends_t w
set_option maxRecDepth 100000 in
set_option maxHeartbeats 8000000 in
theorem hd {d : DefRec} {kwd : List (Str × Expr)} (hdef : defOf hd.view_39 (OpenLaw.row PySem.Challenge.rw_tl0019_01).name = some (d, kwd)) (hp : (OpenLaw.row PySem.Challenge.rw_tl0019_01).prog.theDef (OpenLaw.row PySem.Challenge.rw_tl0019_01).name = some (d.params, d.body, d.scope)) (hk : kwWritten? d.params.kwonlyargs d.params.kw_defaults = some kwd)
    (walk : WalkC hd.view_39 [Str.ofString "Whitespace"] (XL hd.view_39 []) hd.hook.says (OpenLaw.row PySem.Challenge.rw_tl0019_01).toRowW d kwd) : PySem.Challenge.rw_tl0019_01.Holds := by
  w_on
  refine holds_law (by decide +kernel) fun said => ?_
  refine' PySem.W.holds_open (q := hd.view_39) (loose := [Str.ofString "Whitespace"]) (Xt := hd.xt) (XP := XL hd.view_39 []) (Yf := hd.hook.obs) (Ya := hd.hook.val) (YP := hd.hook.says) (N := 2882) hd.left hd.hook.of hd.hook.keeps (fun s e => xl_of s (Bool.and_eq_true_iff.mp e).1) XL.keeps hdef hp hk (fun s e => recFacts_of (Bool.and_eq_true_iff.mp e).2) (by rfl) said (by decide +kernel) ⟨rfl, rfl, rfl, rfl, rfl, by decide +kernel⟩ ?hw walk
  (case hw => w_witness2)
end Mine
end
theorem Mine.fresh_B1 : True ∧ True := by
  w_on
  w_top off
  walk1
  all_goals trivial
/-! text B1 -/
section
open PySem PySem.W PyProof.Rows PySem.Spec PySem.Calls
namespace Mine
noncomputable abbrev Ar (dp un : Nat) (gd : Option (List Code)) (fr : Option (List Env)) : Around := { handled := none, depth := dp, frames := fr, guards := gd, units := un }
/-- what a call that only makes new things leaves behind -/
noncomputable def Back (s : Shared) (P : Value → Heap → Prop) (v : Value) (s' : Shared) : Prop :=
  ∃ h' tk', s' = { s with heap := h', toks := tk' } ∧ s.heap.StaysIn h' ∧ P v h'
theorem Back.intro {s : Shared} {P : Value → Heap → Prop} {v : Value} {h h' : Heap} {L : Addr} {m : Str → Option Value} {tk : Nat} (e : s.heap = h) (F : Fr h L h' m) (p : P v h') :
    Back s P v { s with heap := h', toks := tk } := ⟨h', tk, rfl, fun b o q => F.keep b o (e ▸ q), p⟩
section
variable {prog : Program} {w : World} {A : Around} {E : Value → Shared → Prop} {s : Shared} {H₀ : Heap} {K : Frag} {p : Program} {loose : List Str} {mean : ExcName → Option Value} {mg mb : Str → Option Value}
  {name qual : Str} {params : Arguments} {body : List Stmt} {scope : Scope} {dV kV doc pm cdv ct oc : Value} {an od : Option Addr} {osl : Array (Option Value)} {f : Addr} {pos : List Value} {binds : List (Str × Value)}
theorem simple {Q : Value → Shared → Prop} (P : Value → Heap → Prop)
    (X : K.In H₀) (T : Top p loose mean mg mb H₀) (st : H₀.StaysIn s.heap)
    (ho : K.lookup f = some ⟨oc, od, .func (fnOf name qual params body scope dV kV doc pm an cdv ct), osl⟩) (hcd : codeIn K cdv qual = true) (hroom : A.depth < recursionLimit)
    (hbind : BindsTo s (fnOf name qual params body scope dV kV doc pm an cdv ct) ⟨pos, []⟩ binds) (hloc : ∀ y ∈ binds, scope.names.lookup y.1 = some .local)
    (h : ∀ L' h₁ tk₁, K.In s.heap → Top p loose mean mg mb s.heap → Fr s.heap L' h₁ (fun y => binds.reverse.lookup y) → News s.heap L' h₁ [] →
      wpAny (model prog w) (A.deeper (envOf qual scope L' f cdv)) (execs body (envOf qual scope L' f cdv))
        (fun fl s' => Back s P (match fl with | .ret v => v | _ => .none) s') (fun _ _ => False) { s with heap := h₁, toks := tk₁ })
    (hQ : ∀ v h' tk', s.heap.StaysIn h' → P v h' → Q v { s with heap := h', toks := tk' })
    (hco : scope.isCoroutine = false) (hgen : scope.isGenerator = false) (hk : scope.kind = .function)
    (hcell : ∀ x ∈ scope.names, x.2 ≠ .cell) : wpAny (model prog w) A (call (.ref f) pos) Q E s := by
  have Xs := X.keeps st
  have Ts := T.keeps st
  refine wpAny_call (codeAny_call_def (fd := fnOf name qual params body scope dV kV doc pm an cdv ct) (body := body) (binds := binds) hroom (Xs _ _ ho) rfl Ts.nolimit (codeRec_of Xs hcd) rfl hbind hcell hloc (fun h₁ hns hk₁ => ?_) hco hgen hk)
  refine wpAny_mono (h s.heap.objs.size h₁ _ Xs Ts ⟨hns, hk₁, Nat.le_refl _⟩ (fun _ hp => nomatch hp)) (fun fl s' hl => ?_) fun _ _ e => e.elim
  obtain ⟨h', tk', e, stay, hp⟩ := hl
  subst e
  exact hQ _ _ _ stay hp
end
end Mine
end
theorem Mine.fresh_P1 : True ∧ True := by
  w_on
  w_top off
  walk1
  all_goals trivial
/-! text P1 -/
section
open PySem PySem.W PyProof.Rows PySem.Spec PySem.Calls
open PySem.Builtin PySem.Builtin.Str PySem.StrLaws
namespace Mine
/-- str.find over a span -/
noncomputable def findIn (x y : PySem.Str) (lo hi : Nat) : Int := match occurrences x y lo hi 1 with | i :: _ => (i : Int) | [] => -1
theorem occ_head_span (x y : PySem.Str) (lo hi limit : Nat) (hl : 1 ≤ limit) :
    (occurrences x y lo hi limit = [] ∧ ∀ i, lo ≤ i → ¬ At x y hi i) ∨
    ∃ i r, occurrences x y lo hi limit = i :: r ∧ lo ≤ i ∧ At x y hi i ∧ ∀ k, lo ≤ k → k < i → ¬ At x y hi k := by
  rw [occ_eq]
  rcases occ_first x y hi limit hl (List.range' lo (hi + 1 - lo)) lo (fun i h => (List.mem_range'_1.mp h).1) with ⟨h0, hn⟩ | ⟨pre, a, post, e, h0, ha, hn⟩
  · refine .inl ⟨by rw [h0], fun i hlo hA => hn i ?_ hA⟩
    have := hA.1
    rw [List.mem_range'_1]; omega
  · have hs := range'_split_from e
    generalize he : (forIn (List.range' lo (hi + 1 - lo)) ((#[] : Array Nat), lo) (occBody x y hi limit)).run.fst = arr at h0
    refine .inr ⟨a, arr.toList.tail, ?_, hs.1, ha, fun k h1 h2 => hn k (hs.2 k h1 h2)⟩
    have h1 : arr.toList[0]? = some a := by simpa using h0
    cases hL : arr.toList with
    | nil => rw [hL] at h1; cases h1
    | cons b t => rw [hL] at h1; simp at h1; rw [h1]; rfl
theorem findIn_empty (x y : PySem.Str) (lo hi : Nat) (hy : y.length = 0) (h : lo ≤ hi) : findIn x y lo hi = (lo : Int) := by
  have hA : At x y hi lo := ⟨by omega, by
    have e : y.cps = #[] := by simpa [PySem.Str.length] using hy
    rw [subAt_eq, hy, e]; simp⟩
  unfold findIn
  rcases occ_head_span x y lo hi 1 (Nat.le_refl 1) with ⟨_, hn⟩ | ⟨i, r, e, h1, _, hn⟩
  · exact absurd hA (hn lo (Nat.le_refl _))
  · rw [e]
    by_cases q : lo < i
    · exact absurd hA (hn lo (Nat.le_refl _) q)
    · have : i = lo := by omega
      rw [this]
theorem gives_find_span (x y : PySem.Str) (i j : Int) (t u v w : Tok) : Gives («str.find» ⟨[.str x t, .str y u, .int i v, .int j w], []⟩) (.int (findIn x y (fromIndex x.length i) (min (fromIndex x.length j) x.length))) := by
  show Gives (match occurrences x y (fromIndex x.length i) (min (fromIndex x.length j) x.length) 1 with | k :: _ => retInt k | [] => (do rule "str.find.not-found"; retInt (-1))) _
  unfold findIn
  cases occurrences x y (fromIndex x.length i) (min (fromIndex x.length j) x.length) 1 with
  | nil => exact .rule (.of_eq rfl)
  | cons k _ => exact .of_eq rfl
section
variable {prog : Program} {w : World} {A : Around} {E : Value → Shared → Prop} {s : Shared} {Q : Value → Shared → Prop} {x y : PySem.Str} {t u v z : Tok}
theorem find_span {i j : Int} (h : Q (.int (findIn x y (fromIndex x.length i) (min (fromIndex x.length j) x.length)) s.toks) { s with toks := s.toks + 1 }) :
    wpAny (model prog w) A (call (.builtin "str.find") [.str x t, .str y u, .int i v, .int j z]) Q E s :=
  call_gives F.slot_str_find (typeIs_str _ _ _) F.entry_str_find (F.args_str_find_4 _ _ _ _) (gives_find_span x y i j t u v z) h
theorem fromIndex_nonneg {n : Nat} {i : Int} (h : 0 ≤ i) : fromIndex n i = i.toNat := by
  unfold fromIndex
  rw [if_neg (Int.not_lt.mpr h), Int.max_eq_right h]
theorem find_span_empty {i j : Int} (hy : y.length = 0) (h0 : 0 ≤ i) (hij : i ≤ j) (hj : j ≤ x.length) (h : Q (.int i s.toks) { s with toks := s.toks + 1 }) :
    wpAny (model prog w) A (call (.builtin "str.find") [.str x t, .str y u, .int i v, .int j z]) Q E s := by
  refine find_span ?_
  rw [fromIndex_nonneg h0, fromIndex_nonneg (by omega), findIn_empty x y _ _ hy (by omega)]
  have e : ((i.toNat : Nat) : Int) = i := by omega
  rw [e]; exact h
end
end Mine
end
theorem Mine.fresh_C2 : True ∧ True := by
  w_on
  w_top off
  walk1
  all_goals trivial
/-! text C2 -/
section
open PySem PySem.W PyProof.Rows PySem.Calls PySem.NumText
set_option maxRecDepth 100000
namespace Mine
section
variable {prog : Program} {w : World} {A : Around} {E : Value → Shared → Prop} {s : Shared}
theorem C_stack {M : Model} {Q : List (Code × Pos) → Shared → Prop} (h : ∀ st, HasC st → Q st s) : wpC M A stack Q E s := fun Γ p _ hu => by
  show Q ((Γ.code, p) :: Γ.below) s
  exact h _ (hu p)
theorem not_made {own : List String} {l : List (Code × Pos)} (h : HasC l) : pythonCodeMadeTheCall own (l.map (·.1)) = false := by
  obtain ⟨c, hc, hq⟩ := List.any_eq_true.mp h
  unfold pythonCodeMadeTheCall
  rw [Bool.and_eq_false_iff]
  left
  rw [Bool.and_eq_false_iff]
  left
  rw [Bool.not_eq_false']
  refine List.any_eq_true.mpr ⟨c, hc, ?_⟩
  unfold Code.isCaller at hq
  split at hq
  · rfl
  · cases hq
theorem C_mark {M : Model} {own : List String} {e : Value} {Q : Unit → Shared → Prop} (h : Q () s) : wpC M A (markTheRefusal own e) Q E s := by
  unfold markTheRefusal
  refine C.bind (C_stack fun st hst => ?_)
  rw [not_made hst]
  exact C.pure h
theorem msg_fits (c : Array Nat) : (Str.ofString (toString "invalid literal for int() with base " ++ toString 10 ++ toString ": ") ++ ({ cps := c.extract 0 200 } : PySem.Str)).length ≤ sizeLine := by
  rw [Str.length_append]
  have e1 : (Str.ofString (toString "invalid literal for int() with base " ++ toString 10 ++ toString ": ")).length ≤ 100 := by decide +kernel
  have e2 : ({ cps := c.extract 0 200 } : PySem.Str).length ≤ 200 := by
    show (c.extract 0 200).size ≤ 200
    rw [Array.size_extract]; omega
  rw [sizeLine_eq]; omega
theorem fromText_bad {x : PySem.Str} {t : Tok} {text : List Nat} {Q : Value → Shared → Prop} (hh : A.handled = none)
    (hs : (text.takeWhile (· != 0)).length ≤ 640) (hr : (int_private% "readNumeral") 0 10 (text.takeWhile (· != 0)) = int_private% "Numeral.invalid")
    (hx : (reprText x).length ≤ sizeLine)
    (h : ∀ h' e m tk, Heap.MadeExc s.heap h' e "ValueError" [m] → E (.ref e) { s with heap := h', toks := tk }) :
    wpC (model prog w) A ((int_private% "intFromText") (.str x t) text 10) Q E s := by
  conv => arg 3; whnf
  cases hdec : (text.takeWhile (· != 0)).length.decLe 640 with
  | isFalse hn => exact absurd hs hn
  | isTrue _ =>
    dsimp only
    refine C.bind (C.pure ?_)
    rw [hr]
    dsimp only
    refine C.bindA (wpAny_of_eq (a := none) rfl ?_)
    rw [if_neg (by simp)]
    refine C.bindA (wpAny_rule ?_)
    refine C.bindA (wpAny_of_eq (a := none) rfl ?_)
    dsimp only
    refine C.bindA (wpAny_pyRepr_str ?_ hx)
    refine C.bindA (wpAny_mkStr ?_ (msg_fits _))
    refine C.bindA (wpAny_newExc_plain plainExc_ValueError (fun h' e hm => ?_) (by simp [sizeLine_eq]))
    refine C.bind (C_mark ?_)
    exact C.of (wpAny_raiseNew_none hh (h h' e _ _ hm))
/-- the walker's step, over a wpC tree: its first part by the library's steps -/
theorem intNew_bad {x : PySem.Str} {t : Tok} {Q : Fin → Shared → Prop} (hh : A.handled = none)
    (hn : PySem.intText? x = none) (hz : ((numSeenOf x).length == (numTextOf x).length) = true) (hl : x.length ≤ 640) (hx : (reprText x).length ≤ sizeLine)
    (h : ∀ h' e m tk, Heap.MadeExc s.heap h' e "ValueError" [m] → E (.ref e) { s with heap := h', toks := tk }) :
    wpC (model prog w) A (Builtin.«int.__new__» ⟨[.type "int", .str x t], []⟩) Q E s := by
  have hs : (numSeenOf x).length ≤ 640 := Nat.le_trans (seen_length x) hl
  have hr : (int_private% "readNumeral") 0 10 (numSeenOf x) = int_private% "Numeral.invalid" := by
    rcases read0 x hs with ⟨m, h1, _, _⟩ | ⟨_, h2 | ⟨i, _, h3⟩⟩
    · rw [hn] at h1; cases h1
    · exact h2
    · exact absurd hz h3
  have f1 := F.conv_sub_int
  have f2 := F.madeHere_int
  have f3 := KIN.str_int
  have f4 := KIN.str_idx
  have f5 := KIN.str_trunc
  unfold Builtin.«int.__new__»
  dsimp only
  refine C.bindA (wpAny_of_eq (a := true) rfl ?_)
  rw [if_neg (by simp)]
  refine C.bindA (wpAny_of_eq f1 ?_)
  rw [if_neg (by simp)]
  refine C.bindA (wpAny_of_eq f2 ?_)
  rw [if_neg (by simp)]
  rw [if_neg (by simp)]
  refine C.bindA (wpAny_pure ?_)
  dsimp only [List.head?_cons]
  refine C.bind (C.mono (Q := fun _ _ => False) ?_ (fun _ _ q => q.elim) fun _ _ q => q)
  show wpC _ A ((int_private% "intFromText") (.str x t) (numTextOf x) 10) _ E s
  exact fromText_bad hh hs hr hx h
end
end Mine
end
theorem Mine.fresh_C3 : True ∧ True := by
  w_on
  w_top off
  walk1
  all_goals trivial
/-! text C3 -/
section
open PySem PySem.W PyProof.Rows PySem.Calls PySem.NumText
set_option maxRecDepth 100000
namespace Mine
namespace C
section
variable {prog : Program} {w : World} {A : Around} {E : Value → Shared → Prop} {s : Shared}
theorem codeBuiltin {R : Result → Shared → Prop} {id : String} {args : Args} {b : Builtin} (hb : entryFor table id = some b)
    (h : wpC (model prog w) (A.under (.builtin id args)) (b args)
      (fun fin s' => match fin with | .done f => R (.ok f) s' | .again c' => c'.quiet = true ∧ codeC (model prog w) A c' R s') (fun e s' => R (.error e) s') s) :
    codeC (model prog w) A (.builtin id args) R s := by
  refine codeOfTree ?_
  show wpC _ _ (match entryFor table id with | some b => b args | none => unsupported ((withoutEnding? id "#data").getD id)) _ _ s
  rw [hb]; exact h
theorem codeCallBuiltin {R : Result → Shared → Prop} {id : String} {args : Args} {b : Builtin} (hq : plainId id = true) (hb : entryFor table id = some b)
    (hc : checkBuiltinCall id args = Pure.pure ())
    (h : wpC (model prog w) A.in1 (b args)
      (fun fin s' => match fin with | .done f => R (.ok f) s' | .again c' => c'.quiet = true ∧ codeC (model prog w) A c' R s') (fun e s' => R (.error e) s') s) :
    codeC (model prog w) A (.call (.builtin id) args) R s := by
  refine codeOfTree ?_
  show wpC _ A.in1 (do checkBuiltinCall id args; again (.builtin id args)) _ _ s
  refine bindA (wpAny_of_eq hc ?_)
  refine pure (And.intro (plainId_quiet hq args) (codeBuiltin hb ?_))
  rw [Around.under_plainId hq args]
  exact h
end
section
variable {M : Model} {A : Around} {E : Value → Shared → Prop} {s : Shared} {env : Env} {pos : Pos} {first : List Value} {Q : Value → Shared → Prop}
theorem callWith_of {P : Heap → Prop} {f : Value} {args : List (Bool × Sem Value)} {keywords : List (Option Str × Sem Value)} (hplain : (args.any (·.1) || keywords.any (·.1.isNone)) = false)
    (hk : ∀ h, P h → ∃ k, (k = Keeper.frame ∨ k = Keeper.machine ∨ k = Keeper.boundFrame) ∧ Looks M h (keeperOf f) k)
    (h : wpAny M A (evalArgs f true args keywords) (fun a s₁ => P s₁.heap ∧ wpC M A (PySem.call f (first ++ a.pos) a.kw) Q E s₁) E s) : wpC M A (callWith pos f first args keywords) Q E s := by
  unfold callWith
  refine bindA (wpAny_holding (wpAny_mono h (fun a s₁ h₁ => bindA (wpAny_standAt ?_)) fun _ _ x => x))
  obtain ⟨k, hk', L⟩ := hk _ h₁.1
  simp only [hplain]
  refine bindA (L.here ?_)
  have tail : ∀ {t : Sem Value}, wpC M A t Q E s₁ → wpC M A (t >>= fun r => PySem.holding [r] point >>= fun _ => Pure.pure r) Q E s₁ :=
    fun ht => bind (mono ht (fun r s₂ hr => bindA (wpAny_holding (wpAny_point (pure hr)))) fun _ _ x => x)
  have marked (mk : Value) : wpC M A (callMarked mk f (first ++ a.pos) a.kw) Q E s₁ := by unfold callMarked; exact keep h₁.2
  rcases hk' with rfl | rfl | rfl <;> dsimp only <;> first | exact tail h₁.2 | (split <;> first | exact tail h₁.2 | exact tail (marked _))
theorem callWith_K {K : Frag} {f : Value} {e : Expr} {rest : List Expr} (hk : keepIn K f = true) (h : wpAny M A (spliced (backTo pos (starEach (e :: rest) env))) (fun vs s₁ => K.In s₁.heap ∧ wpC M A (PySem.call f (first ++ vs)) Q E s₁) E s)
    (he : starEach (e :: rest) env = (false, eval e env) :: starEach rest env := by rfl) (hplain : (backTo pos (starEach rest env)).any (·.1) = false := by rfl) :
    wpC M A (callWith pos f first (backTo pos (starEach (e :: rest) env)) []) Q E s := by
  rw [he] at h ⊢
  exact callWith_of (by show ((false || (backTo pos (starEach rest env)).any (·.1)) || false) = false; rw [hplain]; rfl) (keeps_K hk) (evalArgs_plain h)
theorem callWith_type' {T : String} {args : List (Bool × Sem Value)} (hplain : args.any (·.1) = false)
    (h : wpAny M A (evalArgs (.type T) true args []) (fun a s₁ => wpC M A (PySem.call (.type T) (first ++ a.pos) a.kw) Q E s₁) E s) :
    wpC M A (callWith pos (.type T) first args []) Q E s := by
  unfold callWith
  refine bindA (wpAny_holding (wpAny_mono h (fun a s₁ h₁ => bindA (wpAny_standAt ?_)) fun _ _ x => x))
  simp only [hplain, List.any_nil, Bool.or_false]
  refine bindA (wpAny_pure ?_)
  exact bind (mono h₁ (fun r s₂ hr => bindA (wpAny_holding (wpAny_point (pure hr)))) fun _ _ x => x)
theorem callWith_type {T : String} {e : Expr} {rest : List Expr}
    (h : wpAny M A (spliced (backTo pos (starEach (e :: rest) env))) (fun vs s₁ => wpC M A (PySem.call (.type T) vs) Q E s₁) E s)
    (he : starEach (e :: rest) env = (false, eval e env) :: starEach rest env := by rfl)
    (hplain : (backTo pos (starEach rest env)).any (·.1) = false := by rfl) :
    wpC M A (callWith pos (.type T) [] (backTo pos (starEach (e :: rest) env)) []) Q E s := by
  rw [he] at h ⊢
  exact callWith_type' (by show (false || (backTo pos (starEach rest env)).any (·.1)) = false; rw [hplain]; rfl) (evalArgs_plain h)
theorem Call_Name {x : Str} {p pos : Pos} {args : List Expr}
    (h : wpAny M A (eval (.Name x p) env) (fun f s₁ => wpC M A (callWith pos f [] (backTo pos (starEach args env)) []) Q E s₁) E s) :
    wpC M A (eval (.Call (.Name x p) args [] pos) env) Q E s := bindA h
theorem tryStmt_except {body orelse : Sem Flow} {h₀ : ExceptHandler} {hs : List ExceptHandler} {Q : Flow → Shared → Prop}
    (h : wpC M A body (fun f s₁ => match f with | .next => wpAny M A orelse Q E s₁ | f => Q f s₁)
      (fun e s₁ => wpAny M A (noteFrame e env) (fun _ s₂ => wpAny M A (setFlight e none) (fun _ s₃ => wpAny M A (handleBy e env (h₀ :: hs)) Q E s₃) E s₂) E s₁) s) :
    wpC M A (tryStmt false body (h₀ :: hs) orelse [] env) Q E s := by
  unfold tryStmt
  simp only [List.isEmpty_nil, if_true, List.isEmpty_cons, Bool.false_and, Bool.false_eq_true, if_false]
  refine bind (attempt (mono h (fun f s₁ h₁ => ?_) fun e s₁ h₁ => ?_))
  · cases f <;> first | exact of h₁ | exact pure h₁
  · exact bindA (wpAny_mono h₁ (fun _ _ h₂ => bindA (wpAny_mono h₂ (fun _ _ h₃ => of h₃) fun _ _ x => x)) fun _ _ x => x)
end
section
variable {prog : Program} {w : World} {A : Around} {E : Value → Shared → Prop} {s : Shared} {env : Env}
theorem Try_except {body orelse : List Stmt} {h₀ : ExceptHandler} {hs : List ExceptHandler} {pos : Pos} {Q : Flow → Shared → Prop}
    (h : wpC (model prog w) A (execs body env) (fun f s₁ => match f with | .next => wpAny (model prog w) A (execs orelse env) Q E s₁ | f => Q f s₁)
      (fun e s₁ => wpAny (model prog w) A (noteFrame e env) (fun _ s₂ => wpAny (model prog w) A (setFlight e none) (fun _ s₃ => wpAny (model prog w) A (handleBy e env (h₀ :: hs)) Q E s₃) E s₂) E s₁) s) :
    wpC (model prog w) A (exec (.Try body (h₀ :: hs) orelse [] pos) env) Q E s := by
  rw [arm_exec_Try]
  exact bindA (wpAny_standAt (tryStmt_except h))
theorem int_bad {x : PySem.Str} {t : Tok} {Q : Value → Shared → Prop} (hh : A.handled = none)
    (hn : PySem.intText? x = none) (hz : ((numSeenOf x).length == (numTextOf x).length) = true) (hl : x.length ≤ 640) (hx : (reprText x).length ≤ sizeLine)
    (h : ∀ h' e m tk, Heap.MadeExc s.heap h' e "ValueError" [m] → E (.ref e) { s with heap := h', toks := tk }) :
    wpC (model prog w) A (PySem.call (.type "int") [.str x t]) Q E s := by
  have ft := F.called_int
  have hct := F.typeCall_int_1 (.str x t)
  obtain ⟨c, tl, hmro⟩ := ft.mro
  have hmade := ft.made
  have hsub := ft.sub
  refine call (codeOfTree ?_)
  show wpC _ _ (callAny (.type "int") _) _ _ _
  refine pure ⟨Code.quiet_builtin _ (by decide +kernel), codeBuiltin F.entry_type_call ?_⟩
  rw [Around.under_plain (weight_type_call_type "int" [.str x t] []) (units_type_call_type "int" [.str x t] [])]
  have h1 := ft.notType
  have h2 := ft.canCreate
  unfold Builtin.«type.__call__»
  dsimp only
  rw [if_neg (by rw [h1]; decide)]
  rw [if_neg (by rw [h2]; decide)]
  refine bindA (wpAny_of_eq hct ?_)
  refine bindA (wpAny_of_eq hmro ?_)
  rw [if_neg (by simp)]
  refine bindA (wpAny_of_eq hmade ?_)
  dsimp only
  refine bindA (wpAny_pure ?_)
  refine bind (mono (Q := fun _ _ => False) (holding (call (codeCallBuiltin ft.plain F.entry_int_new (F.newCall_int_1 _) ?_))) (fun _ _ q => q.elim) fun _ _ q => q)
  exact intNew_bad (A := A.in1.in1) hh hn hz hl hx h
end
end C
end Mine
end
theorem Mine.fresh_P2 : True ∧ True := by
  w_on
  w_top off
  walk1
  all_goals trivial
/-! text P2 -/
section
open PySem PySem.W PyProof.Rows PySem.Spec PySem.Calls
open PySem.Builtin PySem.Builtin.Str PySem.StrLaws
namespace Mine
/-- what parse229 makes of a reply -/
inductive Res where
  | reply | proto
  | text (x : PySem.Str)
noncomputable def leftP (r : PySem.Str) : Int := findIn r (Str.ofString "(") 0 r.length
noncomputable def rightP (r : PySem.Str) : Int := findIn r (Str.ofString ")") (leftP r + 1).toNat r.length
noncomputable def partsP (r : PySem.Str) : List PySem.Str := Txt.split (Txt.slice r (some (leftP r + 1)) (some (rightP r))) (Txt.item r (leftP r + 1))
noncomputable def parseP (r : PySem.Str) : Res :=
  if (Txt.slice r none (some 3) != Str.ofString "229") = true then .reply
  else if leftP r < 0 then .proto
  else if rightP r < 0 then .proto
  else if (Txt.item r (leftP r + 1) != Txt.item r (rightP r - 1)) = true then .proto
  else if (partsP r).length = 5 then .text ((partsP r).getD 3 Str.empty)
  else .proto
section
variable {r : PySem.Str}
theorem parse_reply (h : (Txt.slice r none (some 3) != Str.ofString "229") = true) : parseP r = .reply := by unfold parseP; rw [if_pos h]
theorem parse_left (h : (Txt.slice r none (some 3) != Str.ofString "229") = false) (h1 : leftP r < 0) : parseP r = .proto := by
  unfold parseP; rw [if_neg (by rw [h]; decide), if_pos h1]
theorem parse_right (h : (Txt.slice r none (some 3) != Str.ofString "229") = false) (h2 : rightP r < 0) : parseP r = .proto := by
  unfold parseP; rw [if_neg (by rw [h]; decide), if_pos h2]; split <;> rfl
theorem parse_ends (h : (Txt.slice r none (some 3) != Str.ofString "229") = false) (h3 : (Txt.item r (leftP r + 1) != Txt.item r (rightP r - 1)) = true) : parseP r = .proto := by
  unfold parseP; rw [if_neg (by rw [h]; decide), if_pos h3]; split <;> (try rfl); split <;> rfl
theorem parse_parts (h : (Txt.slice r none (some 3) != Str.ofString "229") = false) (h5 : (partsP r).length ≠ 5) : parseP r = .proto := by
  unfold parseP; rw [if_neg (by rw [h]; decide), if_neg h5]; split <;> (try rfl); split <;> (try rfl); split <;> rfl
theorem parse_text {a b c x d : PySem.Str} (h : (Txt.slice r none (some 3) != Str.ofString "229") = false) (h1 : ¬ leftP r < 0) (h2 : ¬ rightP r < 0)
    (h3 : (Txt.item r (leftP r + 1) != Txt.item r (rightP r - 1)) = false) (h5 : partsP r = [a, b, c, x, d]) : parseP r = .text x := by
  unfold parseP; rw [if_neg (by rw [h]; decide), if_neg h1, if_neg h2, if_neg (by rw [h3]; decide), h5]; rfl
end
end Mine
end
theorem Mine.fresh_B2 : True ∧ True := by
  w_on
  w_top off
  walk1
  all_goals trivial
/-! text B2 -/
section
open PySem PySem.W PyProof.Rows PySem.Spec PySem.Calls
open PySem.Builtin PySem.Builtin.Str PySem.StrLaws
namespace Mine
section
variable {prog : Program} {w : World} {A : Around} {E : Value → Shared → Prop} {s : Shared} {H₀ : Heap} {K : Frag} {p : Program} {loose : List PySem.Str} {mean : ExcName → Option Value} {mg mb : PySem.Str → Option Value}
  {name qual : PySem.Str} {params : Arguments} {body : List Stmt} {scope : Scope} {dV kV doc pm cdv ct oc : Value} {an od : Option Addr} {osl : Array (Option Value)} {f : Addr} {pos : List Value} {binds : List (PySem.Str × Value)}
theorem stays_hide {H h : Heap} (st : H.StaysIn h) (l : List Addr) (hn : ∀ a ∈ l, H.get? a = none) : H.StaysIn (hideAll h l) := fun b o e =>
  hideAll_get l (st b o e) fun hm => by rw [hn b hm] at e; cases e
/-- entering a def, under the caller's code, whatever comes -/
theorem enterC {Q : Value → Shared → Prop} (news : List (Addr × Obj))
    (X : K.In H₀) (T : Top p loose mean mg mb H₀) (st : H₀.StaysIn s.heap)
    (ho : K.lookup f = some ⟨oc, od, .func (fnOf name qual params body scope dV kV doc pm an cdv ct), osl⟩) (hcd : codeIn K cdv qual = true) (hroom : A.depth < recursionLimit)
    (hbind : BindsTo s (fnOf name qual params body scope dV kV doc pm an cdv ct) ⟨pos, []⟩ binds) (hloc : ∀ y ∈ binds, scope.names.lookup y.1 = some .local)
    (hnews : ∀ p ∈ news, H₀.get? p.1 = none ∧ s.heap.get? p.1 = some p.2)
    (h : ∀ B L' h₁ tk₁, B = hideAll s.heap (news.map (·.1)) → L' = s.heap.objs.size → K.In B → Top p loose mean mg mb B → Fr B L' h₁ (fun y => binds.reverse.lookup y) → News B L' h₁ news → (∀ p ∈ news, p.1 < L') →
      wpC (model prog w) (A.deeper (envOf qual scope L' f cdv)) (execs body (envOf qual scope L' f cdv))
        (fun fl s' => Q (match fl with | .ret v => v | _ => .none) s')
        (fun e s' => wpAny (model prog w) (A.deeper (envOf qual scope L' f cdv)) (leaving (envOf qual scope L' f cdv) e) (fun _ s'' => E e s'') (fun e' s'' => E e' s'') s') { s with heap := h₁, toks := tk₁ })
    (hco : scope.isCoroutine = false) (hgen : scope.isGenerator = false) (hk : scope.kind = .function)
    (hcell : ∀ x ∈ scope.names, x.2 ≠ .cell) : wpC (model prog w) A (call (.ref f) pos) Q E s := by
  have Xs := X.keeps st
  have Ts := T.keeps st
  refine C.call (C.call_def (fd := fnOf name qual params body scope dV kV doc pm an cdv ct) (body := body) (binds := binds) hroom (Xs _ _ ho) rfl Ts.nolimit (codeRec_of Xs hcd) rfl hbind hcell hloc (fun h₁ hns hk₁ => ?_) hco hgen hk)
  have hst : H₀.StaysIn (hideAll s.heap (news.map (·.1))) := stays_hide st _ fun a ha => by
    obtain ⟨q, hq, rfl⟩ := List.mem_map.mp ha
    exact (hnews q hq).1
  exact h _ _ h₁ _ rfl rfl (X.keeps hst) (T.keeps hst) ⟨hns, fun b o e => hk₁ b o (of_hideAll _ e), Nat.le_of_eq (hideAll_size _ _)⟩
    (fun p hp => ⟨hk₁ _ _ (hnews p hp).2, Nat.ne_of_lt (Heap.lt_size (hnews p hp).2), hideAll_none _ (List.mem_map_of_mem hp)⟩) (fun p hp => Heap.lt_size (hnews p hp).2)
/-- what stays when a frame of the base is done: all of the heap before -/
theorem stays_of {h h' : Heap} {L : Addr} {m : PySem.Str → Option Value} {news more : List (Addr × Obj)} (hw : ∀ p ∈ news, h.get? p.1 = some p.2) (F : Fr (hideAll h (news.map (·.1))) L h' m) (N : News (hideAll h (news.map (·.1))) L h' more)
    (hs : ∀ p ∈ news, p ∈ more) : h.StaysIn h' := fun b o e => by
  by_cases hb : b ∈ news.map (·.1)
  · obtain ⟨q, hq, rfl⟩ := List.mem_map.mp hb
    have e1 := hw q hq
    rw [e] at e1
    injection e1 with e1
    rw [e1]
    exact N.get (hs q hq)
  · exact F.keep b o (hideAll_get _ e hb)
end
theorem execs_append (env : Env) (post : List Stmt) : ∀ pre : List Stmt, execs (pre ++ post) env = (execs pre env >>= fun f => match f with | .next => execs post env | f => Pure.pure f) := by
  intro pre
  induction pre with
  | nil =>
    show _ = ((Pure.pure Flow.next : Sem Flow) >>= _)
    rw [pure_bind]
    rfl
  | cons st rest ih =>
    show (exec st env >>= fun f => match f with | .next => execs (rest ++ post) env | f => Pure.pure f) = ((exec st env >>= fun f => match f with | .next => execs rest env | f => Pure.pure f) >>= _)
    rw [bind_assoc]
    refine congrArg _ (funext fun f => ?_)
    cases f <;> first | exact ih | simp
theorem C.split {prog : Program} {w : World} {A : Around} {E : Value → Shared → Prop} {env : Env} {s : Shared} (pre post : List Stmt) {Q : Flow → Shared → Prop}
    (h : wpAny (model prog w) A (execs pre env) (fun f s' => match f with | .next => wpC (model prog w) A (execs post env) Q E s' | f => Q f s') E s) : wpC (model prog w) A (execs (pre ++ post) env) Q E s := by
  rw [execs_append]
  refine C.bindA (wpAny_mono h (fun f s' h' => ?_) fun _ _ x => x)
  cases f <;> first | exact h' | exact C.pure h'
/-! str.find of two and of three -/
theorem gives_find2 (x y : PySem.Str) (t u : Tok) : Gives («str.find» ⟨[.str x t, .str y u], []⟩) (.int (findIn x y 0 x.length)) := by
  show Gives (match occurrences x y 0 (min x.length x.length) 1 with | k :: _ => retInt k | [] => (do rule "str.find.not-found"; retInt (-1))) _
  rw [Nat.min_self]
  unfold findIn
  cases occurrences x y 0 x.length 1 with
  | nil => exact .rule (.of_eq rfl)
  | cons k _ => exact .of_eq rfl
theorem gives_find3 (x y : PySem.Str) (i : Int) (t u v : Tok) : Gives («str.find» ⟨[.str x t, .str y u, .int i v], []⟩) (.int (findIn x y (fromIndex x.length i) x.length)) := by
  show Gives (match occurrences x y (fromIndex x.length i) (min x.length x.length) 1 with | k :: _ => retInt k | [] => (do rule "str.find.not-found"; retInt (-1))) _
  rw [Nat.min_self]
  unfold findIn
  cases occurrences x y (fromIndex x.length i) x.length 1 with
  | nil => exact .rule (.of_eq rfl)
  | cons k _ => exact .of_eq rfl
theorem findIn_range (x y : PySem.Str) (lo hi : Nat) : findIn x y lo hi = -1 ∨ ((lo : Int) ≤ findIn x y lo hi ∧ findIn x y lo hi + y.length ≤ hi) := by
  unfold findIn
  rcases occ_head_span x y lo hi 1 (Nat.le_refl 1) with ⟨e, _⟩ | ⟨i, r, e, h1, h2, _⟩
  · rw [e]; exact .inl rfl
  · rw [e]
    refine .inr ⟨by dsimp only; omega, ?_⟩
    have := h2.1
    dsimp only; omega
section
variable {prog : Program} {w : World} {A : Around} {E : Value → Shared → Prop} {s : Shared} {Q : Value → Shared → Prop} {x y : PySem.Str} {t u v z : Tok}
theorem find_two (hy : y.length = 1) (h : (findIn x y 0 x.length = -1 ∨ ((0 : Int) ≤ findIn x y 0 x.length ∧ findIn x y 0 x.length + 1 ≤ x.length)) → Q (.int (findIn x y 0 x.length) s.toks) { s with toks := s.toks + 1 }) :
    wpAny (model prog w) A (call (.builtin "str.find") [.str x t, .str y u]) Q E s :=
  call_gives F.slot_str_find (typeIs_str _ _ _) F.entry_str_find (F.args_str_find_2 _ _) (gives_find2 x y t u) (h (by have h9 := findIn_range x y 0 x.length; rw [hy] at h9; exact h9))
theorem find_three {i : Int} (hy : y.length = 1) (hi : 0 ≤ i) (h : (findIn x y i.toNat x.length = -1 ∨ (i ≤ findIn x y i.toNat x.length ∧ findIn x y i.toNat x.length + 1 ≤ x.length)) → Q (.int (findIn x y i.toNat x.length) s.toks) { s with toks := s.toks + 1 }) :
    wpAny (model prog w) A (call (.builtin "str.find") [.str x t, .str y u, .int i v]) Q E s :=
  call_gives F.slot_str_find (typeIs_str _ _ _) F.entry_str_find (F.args_str_find_3 _ _ _) (gives_find3 x y i t u v) (by
    have e : fromIndex x.length i = i.toNat := fromIndex_nonneg hi
    rw [e]
    exact h (by have h9 := findIn_range x y i.toNat x.length; rw [hy, Int.toNat_of_nonneg hi] at h9; exact h9))
end
end Mine
end
theorem Mine.fresh_L1 : True ∧ True := by
  w_on
  w_top off
  walk1
  all_goals trivial
/-! text L1 -/
section
open PySem PySem.W PyProof.Rows PySem.Spec PySem.Calls
namespace Mine
theorem splitA {prog : Program} {w : World} {A : Around} {E : Value → Shared → Prop} {env : Env} {s : Shared} (pre post : List Stmt) {Q : Flow → Shared → Prop}
    (h : wpAny (model prog w) A (execs pre env) (fun f s' => match f with | .next => wpAny (model prog w) A (execs post env) Q E s' | f => Q f s') E s) : wpAny (model prog w) A (execs (pre ++ post) env) Q E s := by
  rw [execs_append]
  refine wpAny_bind (wpAny_mono h (fun f s' h' => ?_) fun _ _ x => x)
  cases f <;> first | exact h' | exact wpAny_pure h'
/-- behind a statement: the flow goes on, the frame reads l -/
noncomputable def Nx (B : Heap) (L : Addr) (s : Shared) (P : List (Str × Value) → Prop) (f : Flow) (s' : Shared) : Prop :=
  f = .next ∧ ∃ h' tk' l, s' = { s with heap := h', toks := tk' } ∧ Fr B L h' (fun y => List.lookup y l) ∧ P l
theorem Nx.cont {B : Heap} {L : Addr} {s : Shared} {P : List (Str × Value) → Prop} {G : Flow → Shared → Prop} (k : ∀ h' tk' l, Fr B L h' (fun y => List.lookup y l) → P l → G .next { s with heap := h', toks := tk' }) : ∀ f s', Nx B L s P f s' → G f s' := by
  rintro f s' ⟨rfl, h', tk', l, rfl, F, p⟩
  exact k h' tk' l F p
theorem lookup_if (n : Str) (v : Value) (l : List (Str × Value)) : (fun y => if y = n then some v else List.lookup y l) = fun y => List.lookup y ((n, v) :: l) := funext fun y => by
  rw [List.lookup_cons]
  by_cases h : y = n
  · rw [if_pos h, h]; simp
  · rw [if_neg h, beq_false_of_ne h]
theorem Nx.one {B : Heap} {L : Addr} {s : Shared} {P : List (Str × Value) → Prop} {n : Str} {v : Value} {l : List (Str × Value)} {h' : Heap} {tk' : Nat} (F : Fr B L h' (fun y => if y = n then some v else List.lookup y l)) (p : P ((n, v) :: l)) : Nx B L s P .next { s with heap := h', toks := tk' } :=
  ⟨rfl, h', tk', _, rfl, lookup_if n v l ▸ F, p⟩
theorem Nx.three {B : Heap} {L : Addr} {s : Shared} {P : List (Str × Value) → Prop} {n n2 n3 : Str} {v v2 v3 : Value} {l : List (Str × Value)} {h' : Heap} {tk' : Nat} (F : Fr B L h' (fun y => if y = n then some v else if y = n2 then some v2 else if y = n3 then some v3 else List.lookup y l)) (p : P ((n, v) :: (n2, v2) :: (n3, v3) :: l)) : Nx B L s P .next { s with heap := h', toks := tk' } := by
  refine ⟨rfl, h', tk', _, rfl, ?_, p⟩
  have e : (fun y => if y = n then some v else if y = n2 then some v2 else if y = n3 then some v3 else List.lookup y l) = fun y => List.lookup y ((n, v) :: (n2, v2) :: (n3, v3) :: l) := by
    funext y
    rw [← congrFun (lookup_if n v _) y, ← congrFun (lookup_if n2 v2 _) y, ← congrFun (lookup_if n3 v3 l) y]
  rw [← e]
  exact F
theorem lookup_same {n : Str} {v : Value} {l : List (Str × Value)} (e : List.lookup n l = some v) : (fun y => List.lookup y l) = fun y => List.lookup y ((n, v) :: l) := funext fun y => by
  rw [List.lookup_cons]
  by_cases h : y = n
  · rw [h, e]; simp
  · rw [beq_false_of_ne h]
theorem Nx.none {B : Heap} {L : Addr} {s : Shared} {P : List (Str × Value) → Prop} {n : Str} {v : Value} {l : List (Str × Value)} {h' : Heap} {tk' : Nat} (F : Fr B L h' (fun y => List.lookup y l)) (e : List.lookup n l = some v) (p : P ((n, v) :: l)) : Nx B L s P .next { s with heap := h', toks := tk' } :=
  ⟨rfl, h', tk', _, rfl, lookup_same e ▸ F, p⟩
noncomputable def pick (l : List Str) (k : Int) : Str := l.getD k.toNat Str.empty
noncomputable abbrev kindP (x : Int) : Int := (x.fdiv 7).fmod 32
noncomputable abbrev markP (x : Int) : Str := Txt.item (Str.ofString "|!(x~ ") ((x.fdiv 224).fmod 6)
noncomputable abbrev fieldP (x : Int) : Int := (x.fdiv 5376).fmod 3
noncomputable abbrev dressP (x : Int) : Int := (x.fdiv 1344).fmod 4
noncomputable def figP (x port : Int) : Str := pick [Str.ofString "", Str.ofString "00", Str.ofString "+", Str.ofString "\t"] (dressP x) ++ Str.ofString (toString port)
noncomputable def fig2P (k : Int) (y : Str) : Str := if k = 30 then y ++ Str.ofString "q" else y
noncomputable def insP (m : Str) (f : Int) (y : Str) : Str := m ++ pick [Str.ofString "", Str.ofString "1", Str.ofString "h"] f ++ m ++ pick [Str.ofString "", Str.ofString "", Str.ofString "7"] f ++ m ++ y
noncomputable def ins1P (k : Int) (m y : Str) : Str := if k ≠ 24 then y ++ m else y
noncomputable def ins2P (k : Int) (y : Str) : Str := if k = 25 then y ++ Str.ofString "q" else y
noncomputable def ins3P (k : Int) (m y : Str) : Str := if k = 26 then m ++ y else y
noncomputable def ins4P (k : Int) (y : Str) : Str := if k = 29 then Str.ofString "" else y
noncomputable def codeP (k d : Int) : Str := if k = 31 then pick [Str.ofString "227", Str.ofString "228", Str.ofString "239", Str.ofString "329"] d else Str.ofString "229"
noncomputable def endP (k f d : Int) (y : Str) : Str :=
  if k = 27 then (if f = 1 then Str.ofString "229 2 9 2)" else Str.ofString "229 ok) " ++ y ++ Str.ofString ")")
  else if k = 28 then Str.ofString "229 ok) (" ++ y ++ Str.ofString "]"
  else codeP k d ++ Str.ofString " ok) (" ++ y ++ Str.ofString ") (|||9|)"
theorem end_27a {k f d : Int} {y : Str} (h : k = 27) (hf : f = 1) : endP k f d y = Str.ofString "229 2 9 2)" := by unfold endP; rw [if_pos h, if_pos hf]
theorem end_27b {k f d : Int} {y : Str} (h : k = 27) (hf : ¬ f = 1) : endP k f d y = Str.ofString "229 ok) " ++ y ++ Str.ofString ")" := by unfold endP; rw [if_pos h, if_neg hf]
theorem end_28 {k f d : Int} {y : Str} (h : ¬ k = 27) (h8 : k = 28) : endP k f d y = Str.ofString "229 ok) (" ++ y ++ Str.ofString "]" := by unfold endP; rw [if_neg h, if_pos h8]
theorem end_x {k f d : Int} {c y : Str} (h : ¬ k = 27) (h8 : ¬ k = 28) (hc : codeP k d = c) : endP k f d y = c ++ Str.ofString " ok) (" ++ y ++ Str.ofString ") (|||9|)" := by unfold endP; rw [if_neg h, if_neg h8, hc]
theorem code_31 {k e d : Int} {c : Str} (h : k = 31) (hd : e = d) (hc : pick [Str.ofString "227", Str.ofString "228", Str.ofString "239", Str.ofString "329"] d = c) : codeP k e = c := by unfold codeP; rw [if_pos h, hd, hc]
theorem code_n {k d : Int} (h : ¬ k = 31) : codeP k d = Str.ofString "229" := by unfold codeP; rw [if_neg h]
/-- the reply that _law_reply makes -/
noncomputable def replyS (x port : Int) : Str :=
  endP (kindP x) (fieldP x) (dressP x) (ins4P (kindP x) (ins3P (kindP x) (markP x) (ins2P (kindP x) (ins1P (kindP x) (markP x) (insP (markP x) (fieldP x) (fig2P (kindP x) (figP x port)))))))
theorem pick_len {l : List Str} {k : Int} {N : Nat} (h : (l.all fun s => decide (s.length ≤ N)) = true) : (pick l k).length ≤ N := by
  unfold pick
  by_cases hk : k.toNat < l.length
  · have e : l.getD k.toNat Str.empty = l[k.toNat] := by simp [List.getD, hk]
    rw [e]
    exact of_decide_eq_true (List.all_eq_true.mp h _ (List.getElem_mem hk))
  · have e : l.getD k.toNat Str.empty = Str.empty := by simp [List.getD, Nat.not_lt.mp hk]
    rw [e]; exact Nat.zero_le _
theorem mark_len {x : Int} : (markP x).length = 1 := by
  have h1 : 0 ≤ (x.fdiv 224).fmod 6 := Int.fmod_nonneg_of_pos _ (by decide)
  have h2 : (x.fdiv 224).fmod 6 < 6 := Int.fmod_lt_of_pos _ (by decide)
  unfold markP
  generalize (x.fdiv 224).fmod 6 = k at h1 h2
  have : k = 0 ∨ k = 1 ∨ k = 2 ∨ k = 3 ∨ k = 4 ∨ k = 5 := by omega
  rcases this with rfl | rfl | rfl | rfl | rfl | rfl <;> decide +kernel
theorem fig_len {x port : Int} (h0 : 0 ≤ port) (h1 : port < 1000000) : (figP x port).length ≤ 22 := by
  unfold figP
  rw [PySem.Str.length_append]
  have e1 : (pick [Str.ofString "", Str.ofString "00", Str.ofString "+", Str.ofString "\t"] (dressP x)).length ≤ 2 := pick_len (by decide +kernel)
  have e2 := KT.len_num h0 (by omega : port < 10 ^ 10)
  omega
set_option maxRecDepth 100000 in
set_option maxHeartbeats 8000000 in
theorem reply_c {w : World} {loose : List Str} {mean : ExcName → Option Value} {mg mb : Str → Option Value} {dp un : Nat} {gd : Option (List Code)} {fr : Option (List Env)} {H₀ : Heap} {s : Shared} {Q E : Value → Shared → Prop}
   (x port : Int) (t1 t2 : Tok) (X : (hd.heap_39 w.params).In H₀) (T : Top hd.view_39 loose mean mg mb H₀) (st : H₀.StaysIn s.heap) (hdp : dp < recursionLimit) (hun : un + 50 < cLine)
   (hx0 : 0 ≤ x) (hx1 : x < 1000000) (hp0 : 0 ≤ port) (hp1 : port < 1000000)
   (hQ : ∀ v h' tk', s.heap.StaysIn h' → (∃ t, v = Value.str (replyS x port) t) → Q v { s with heap := h', toks := tk' }) :
   wpAny (model PySem.Challenge.rw_tl0019_01.row.prog w) (Ar dp un gd fr) (call (.ref 145) [.int x t1, .int port t2]) Q E s := by
  have hmark : (Txt.item (Str.ofString "|!(x~ ") ((x.fdiv 224).fmod 6)).length = 1 := mark_len
  revert X
  k_fill
  intro X
  refine' simple (binds := [(Str.ofString "x", .int x t1), (Str.ofString "port", .int port t2)]) (P := fun v _ => ∃ t, v = Value.str (replyS x port) t) X T st ?ho ?hcd ?hr ?hb ?hl ?_ hQ ?c2 ?c3 ?c4 ?c5
  (case ho => k_dflt k_is); (case hcd => k_dflt k_is); (case hr => assumption); (case hb => exact BindsTo.of_eq rfl); (case hl => exact locs rfl); (case c2 => exact rfl); (case c3 => exact rfl); (case c4 => exact rfl); (case c5 => decide)
  intro L' h₁ tk₁ X' T' F' N'
  clear X T
  refine splitA [_] _ ?_
  refine wpAny_mono (Q := Nx s.heap L' s fun l => ∃ u1 u2 u3, l = [(Str.ofString "kind", .int ((x.fdiv 7).fmod 32) u1), (Str.ofString "mark", .str (Txt.item (Str.ofString "|!(x~ ") ((x.fdiv 224).fmod 6)) u2), (Str.ofString "field", .int ((x.fdiv 5376).fmod 3) u3), (Str.ofString "port", .int port t2), (Str.ofString "x", .int x t1)]) ?_ ?_ (fun _ _ (e : False) => e.elim)
  · refine hideA ?_
    intro Q8 hQ8
    k_steps
    all_goals (refine hQ8 _ _ ?_)
    exact Nx.three (by assumption) ⟨_, _, _, rfl⟩
  refine Nx.cont (fun h' tk' l F => ex3k (fun u1 u2 u3 => (fun e9 => ?_)))
  subst e9
  clear F' N'
  have N0 : News s.heap L' h' [] := News.nil
  dsimp only

  refine splitA [_] _ ?_
  refine wpAny_mono (Q := Nx s.heap L' s fun l => ∃ y u, y = figP x port ∧ l = [(Str.ofString "figures", .str y u), (Str.ofString "kind", .int ((x.fdiv 7).fmod 32) u1), (Str.ofString "mark", .str (Txt.item (Str.ofString "|!(x~ ") ((x.fdiv 224).fmod 6)) u2), (Str.ofString "field", .int ((x.fdiv 5376).fmod 3) u3), (Str.ofString "port", .int port t2), (Str.ofString "x", .int x t1)]) ?_ ?_ (fun _ _ (e : False) => e.elim)
  · refine hideA ?_
    intro Q8 hQ8
    k_steps
    all_goals (refine hQ8 _ _ ?_)
    all_goals (refine Nx.one (by assumption) ⟨_, _, ?_, rfl⟩)
    all_goals (rename ((x.fdiv 1344).fmod 4) = _ => hk; unfold figP dressP pick; rw [hk]; rfl)
  refine Nx.cont (fun h' tk' l F1 => ex2k (fun y1 v1 => and2k (fun e1 e9 => ?_)))
  subst e9
  clear N0
  clear F
  have F := F1
  clear F1
  have N0 : News s.heap L' h' [] := News.nil
  have hy1 : y1.length ≤ 22 := e1 ▸ fig_len hp0 hp1
  dsimp only

  refine splitA [_] _ ?_
  refine wpAny_mono (Q := Nx s.heap L' s fun l => ∃ y u, y = fig2P ((x.fdiv 7).fmod 32) y1 ∧ l = [(Str.ofString "figures", .str y u), (Str.ofString "figures", .str y1 v1), (Str.ofString "kind", .int ((x.fdiv 7).fmod 32) u1), (Str.ofString "mark", .str (Txt.item (Str.ofString "|!(x~ ") ((x.fdiv 224).fmod 6)) u2), (Str.ofString "field", .int ((x.fdiv 5376).fmod 3) u3), (Str.ofString "port", .int port t2), (Str.ofString "x", .int x t1)]) ?_ ?_ (fun _ _ (e : False) => e.elim)
  · refine hideA ?_
    intro Q8 hQ8
    k_steps
    all_goals (refine hQ8 _ _ ?_)
    all_goals first
      | (refine Nx.one (by assumption) ⟨_, _, ?_, rfl⟩; exact (if_pos (by assumption)).symm)
      | (refine Nx.one (by assumption) ⟨_, _, ?_, rfl⟩; exact (if_neg (by assumption)).symm)
      | (refine Nx.none (n := Str.ofString "figures") (by assumption) rfl ⟨_, _, ?_, rfl⟩; exact (if_neg (by assumption)).symm)
      | (refine Nx.none (n := Str.ofString "figures") (by assumption) rfl ⟨_, _, ?_, rfl⟩; exact (if_pos (by assumption)).symm)
      | (refine Nx.none (n := Str.ofString "figures") (by assumption) rfl ⟨_, _, ?_, rfl⟩; exact (if_neg (Classical.not_not.mpr (by assumption))).symm)
  refine Nx.cont (fun h' tk' l F2 => ex2k (fun y2 v2 => and2k (fun e2 e9 => ?_)))
  subst e9
  clear N0
  clear F
  have F := F2
  clear F2
  have N0 : News s.heap L' h' [] := News.nil
  have hy2 : y2.length ≤ 23 := by rw [e2]; unfold fig2P; split <;> (try rw [PySem.Str.length_append, show (Str.ofString "q").length = 1 from by decide]) <;> omega
  dsimp only

  refine splitA [_] _ ?_
  refine wpAny_mono (Q := Nx s.heap L' s fun l => ∃ y u, y = insP (Txt.item (Str.ofString "|!(x~ ") ((x.fdiv 224).fmod 6)) ((x.fdiv 5376).fmod 3) y2 ∧ l = [(Str.ofString "inside", .str y u), (Str.ofString "figures", .str y2 v2), (Str.ofString "figures", .str y1 v1), (Str.ofString "kind", .int ((x.fdiv 7).fmod 32) u1), (Str.ofString "mark", .str (Txt.item (Str.ofString "|!(x~ ") ((x.fdiv 224).fmod 6)) u2), (Str.ofString "field", .int ((x.fdiv 5376).fmod 3) u3), (Str.ofString "port", .int port t2), (Str.ofString "x", .int x t1)]) ?_ ?_ (fun _ _ (e : False) => e.elim)
  · refine hideA ?_
    intro Q8 hQ8
    k_steps
    all_goals (refine hQ8 _ _ ?_)
    all_goals (refine Nx.one (by assumption) ⟨_, _, ?_, rfl⟩)
    all_goals (rename ((x.fdiv 5376).fmod 3) = _ => hk; unfold insP pick; rw [hk]; rfl)
  refine Nx.cont (fun h' tk' l F3 => ex2k (fun y3 v3 => and2k (fun e3 e9 => ?_)))
  subst e9
  clear N0
  clear F
  have F := F3
  clear F3
  have N0 : News s.heap L' h' [] := News.nil
  have hy3 : y3.length ≤ 29 := by
    have q1 : (pick [Str.ofString "", Str.ofString "1", Str.ofString "h"] ((x.fdiv 5376).fmod 3)).length ≤ 1 := pick_len (by decide +kernel)
    have q2 : (pick [Str.ofString "", Str.ofString "", Str.ofString "7"] ((x.fdiv 5376).fmod 3)).length ≤ 1 := pick_len (by decide +kernel)
    rw [e3]; unfold insP; simp only [PySem.Str.length_append]; omega
  dsimp only

  refine splitA [_] _ ?_
  refine wpAny_mono (Q := Nx s.heap L' s fun l => ∃ y u, y = ins1P ((x.fdiv 7).fmod 32) (Txt.item (Str.ofString "|!(x~ ") ((x.fdiv 224).fmod 6)) y3 ∧ l = [(Str.ofString "inside", .str y u), (Str.ofString "inside", .str y3 v3), (Str.ofString "figures", .str y2 v2), (Str.ofString "figures", .str y1 v1), (Str.ofString "kind", .int ((x.fdiv 7).fmod 32) u1), (Str.ofString "mark", .str (Txt.item (Str.ofString "|!(x~ ") ((x.fdiv 224).fmod 6)) u2), (Str.ofString "field", .int ((x.fdiv 5376).fmod 3) u3), (Str.ofString "port", .int port t2), (Str.ofString "x", .int x t1)]) ?_ ?_ (fun _ _ (e : False) => e.elim)
  · refine hideA ?_
    intro Q8 hQ8
    k_steps
    all_goals (refine hQ8 _ _ ?_)
    all_goals first
      | (refine Nx.one (by assumption) ⟨_, _, ?_, rfl⟩; exact (if_pos (by assumption)).symm)
      | (refine Nx.one (by assumption) ⟨_, _, ?_, rfl⟩; exact (if_neg (by assumption)).symm)
      | (refine Nx.none (n := Str.ofString "inside") (by assumption) rfl ⟨_, _, ?_, rfl⟩; exact (if_neg (by assumption)).symm)
      | (refine Nx.none (n := Str.ofString "inside") (by assumption) rfl ⟨_, _, ?_, rfl⟩; exact (if_pos (by assumption)).symm)
      | (refine Nx.none (n := Str.ofString "inside") (by assumption) rfl ⟨_, _, ?_, rfl⟩; exact (if_neg (Classical.not_not.mpr (by assumption))).symm)
  refine Nx.cont (fun h' tk' l F4 => ex2k (fun y4 v4 => and2k (fun e4 e9 => ?_)))
  subst e9
  clear N0
  clear F
  have F := F4
  clear F4
  have N0 : News s.heap L' h' [] := News.nil
  have hy4 : y4.length ≤ 30 := by rw [e4]; unfold ins1P; split <;> (try rw [PySem.Str.length_append]) <;> omega
  dsimp only

  refine splitA [_] _ ?_
  refine wpAny_mono (Q := Nx s.heap L' s fun l => ∃ y u, y = ins2P ((x.fdiv 7).fmod 32) y4 ∧ l = [(Str.ofString "inside", .str y u), (Str.ofString "inside", .str y4 v4), (Str.ofString "inside", .str y3 v3), (Str.ofString "figures", .str y2 v2), (Str.ofString "figures", .str y1 v1), (Str.ofString "kind", .int ((x.fdiv 7).fmod 32) u1), (Str.ofString "mark", .str (Txt.item (Str.ofString "|!(x~ ") ((x.fdiv 224).fmod 6)) u2), (Str.ofString "field", .int ((x.fdiv 5376).fmod 3) u3), (Str.ofString "port", .int port t2), (Str.ofString "x", .int x t1)]) ?_ ?_ (fun _ _ (e : False) => e.elim)
  · refine hideA ?_
    intro Q8 hQ8
    k_steps
    all_goals (refine hQ8 _ _ ?_)
    all_goals first
      | (refine Nx.one (by assumption) ⟨_, _, ?_, rfl⟩; exact (if_pos (by assumption)).symm)
      | (refine Nx.one (by assumption) ⟨_, _, ?_, rfl⟩; exact (if_neg (by assumption)).symm)
      | (refine Nx.none (n := Str.ofString "inside") (by assumption) rfl ⟨_, _, ?_, rfl⟩; exact (if_neg (by assumption)).symm)
      | (refine Nx.none (n := Str.ofString "inside") (by assumption) rfl ⟨_, _, ?_, rfl⟩; exact (if_pos (by assumption)).symm)
      | (refine Nx.none (n := Str.ofString "inside") (by assumption) rfl ⟨_, _, ?_, rfl⟩; exact (if_neg (Classical.not_not.mpr (by assumption))).symm)
  refine Nx.cont (fun h' tk' l F5 => ex2k (fun y5 v5 => and2k (fun e5 e9 => ?_)))
  subst e9
  clear N0
  clear F
  have F := F5
  clear F5
  have N0 : News s.heap L' h' [] := News.nil
  have hy5 : y5.length ≤ 31 := by rw [e5]; unfold ins2P; split <;> (try rw [PySem.Str.length_append, show (Str.ofString "q").length = 1 from by decide]) <;> omega
  dsimp only

  refine splitA [_] _ ?_
  refine wpAny_mono (Q := Nx s.heap L' s fun l => ∃ y u, y = ins3P ((x.fdiv 7).fmod 32) (Txt.item (Str.ofString "|!(x~ ") ((x.fdiv 224).fmod 6)) y5 ∧ l = [(Str.ofString "inside", .str y u), (Str.ofString "inside", .str y5 v5), (Str.ofString "inside", .str y4 v4), (Str.ofString "inside", .str y3 v3), (Str.ofString "figures", .str y2 v2), (Str.ofString "figures", .str y1 v1), (Str.ofString "kind", .int ((x.fdiv 7).fmod 32) u1), (Str.ofString "mark", .str (Txt.item (Str.ofString "|!(x~ ") ((x.fdiv 224).fmod 6)) u2), (Str.ofString "field", .int ((x.fdiv 5376).fmod 3) u3), (Str.ofString "port", .int port t2), (Str.ofString "x", .int x t1)]) ?_ ?_ (fun _ _ (e : False) => e.elim)
  · refine hideA ?_
    intro Q8 hQ8
    k_steps
    all_goals (refine hQ8 _ _ ?_)
    all_goals first
      | (refine Nx.one (by assumption) ⟨_, _, ?_, rfl⟩; exact (if_pos (by assumption)).symm)
      | (refine Nx.one (by assumption) ⟨_, _, ?_, rfl⟩; exact (if_neg (by assumption)).symm)
      | (refine Nx.none (n := Str.ofString "inside") (by assumption) rfl ⟨_, _, ?_, rfl⟩; exact (if_neg (by assumption)).symm)
      | (refine Nx.none (n := Str.ofString "inside") (by assumption) rfl ⟨_, _, ?_, rfl⟩; exact (if_pos (by assumption)).symm)
      | (refine Nx.none (n := Str.ofString "inside") (by assumption) rfl ⟨_, _, ?_, rfl⟩; exact (if_neg (Classical.not_not.mpr (by assumption))).symm)
  refine Nx.cont (fun h' tk' l F6 => ex2k (fun y6 v6 => and2k (fun e6 e9 => ?_)))
  subst e9
  clear N0
  clear F
  have F := F6
  clear F6
  have N0 : News s.heap L' h' [] := News.nil
  have hy6 : y6.length ≤ 32 := by rw [e6]; unfold ins3P; split <;> (try rw [PySem.Str.length_append]) <;> omega
  dsimp only

  refine splitA [_] _ ?_
  refine wpAny_mono (Q := Nx s.heap L' s fun l => ∃ y u, y = ins4P ((x.fdiv 7).fmod 32) y6 ∧ l = [(Str.ofString "inside", .str y u), (Str.ofString "inside", .str y6 v6), (Str.ofString "inside", .str y5 v5), (Str.ofString "inside", .str y4 v4), (Str.ofString "inside", .str y3 v3), (Str.ofString "figures", .str y2 v2), (Str.ofString "figures", .str y1 v1), (Str.ofString "kind", .int ((x.fdiv 7).fmod 32) u1), (Str.ofString "mark", .str (Txt.item (Str.ofString "|!(x~ ") ((x.fdiv 224).fmod 6)) u2), (Str.ofString "field", .int ((x.fdiv 5376).fmod 3) u3), (Str.ofString "port", .int port t2), (Str.ofString "x", .int x t1)]) ?_ ?_ (fun _ _ (e : False) => e.elim)
  · refine hideA ?_
    intro Q8 hQ8
    k_steps
    all_goals (refine hQ8 _ _ ?_)
    all_goals first
      | (refine Nx.one (by assumption) ⟨_, _, ?_, rfl⟩; exact (if_pos (by assumption)).symm)
      | (refine Nx.one (by assumption) ⟨_, _, ?_, rfl⟩; exact (if_neg (by assumption)).symm)
      | (refine Nx.none (n := Str.ofString "inside") (by assumption) rfl ⟨_, _, ?_, rfl⟩; exact (if_neg (by assumption)).symm)
      | (refine Nx.none (n := Str.ofString "inside") (by assumption) rfl ⟨_, _, ?_, rfl⟩; exact (if_pos (by assumption)).symm)
      | (refine Nx.none (n := Str.ofString "inside") (by assumption) rfl ⟨_, _, ?_, rfl⟩; exact (if_neg (Classical.not_not.mpr (by assumption))).symm)
  refine Nx.cont (fun h' tk' l F7 => ex2k (fun y7 v7 => and2k (fun e7 e9 => ?_)))
  subst e9
  clear N0
  clear F
  have F := F7
  clear F7
  have N0 : News s.heap L' h' [] := News.nil
  have hy7 : y7.length ≤ 32 := by rw [e7]; unfold ins4P; split <;> (try rw [show (Str.ofString "").length = 0 from by decide]) <;> omega
  dsimp only

  have hend : replyS x port = endP (kindP x) (fieldP x) (dressP x) y7 := by unfold replyS; rw [e7, e6, e5, e4, e3, e2, e1]
  k_steps
  all_goals (try dsimp only)
  all_goals (refine Back.intro rfl (by assumption) ?_)
  all_goals (rw [hend])
  all_goals (refine ⟨_, congrArg (fun z => Value.str z _) ?_⟩)
  all_goals first
    | (with_reducible refine (end_27a ?_ ?_).symm <;> assumption)
    | (with_reducible refine (end_27b ?_ ?_).symm <;> assumption)
    | (with_reducible refine (end_28 ?_ ?_).symm <;> assumption)
    | (with_reducible refine (end_x ?_ ?_ ?_).symm <;> first | assumption | (refine code_n ?_; assumption) | (refine code_31 (d := 0) ?_ ?_ rfl <;> assumption) | (refine code_31 (d := 1) ?_ ?_ rfl <;> assumption) | (refine code_31 (d := 2) ?_ ?_ rfl <;> assumption) | (refine code_31 (d := 3) ?_ ?_ rfl <;> assumption))
end Mine
end
theorem Mine.fresh_E2 : True ∧ True := by
  w_on
  w_top off
  walk1
  all_goals trivial
/-! text E2 -/
section
open PySem PySem.W PyProof.Rows PySem.Spec PySem.Calls
namespace Mine

section
variable {prog : Program} {w : World} {A : Around} {E : Value → Shared → Prop} {s : Shared} {h₀ : Heap} {L : Addr} {m : PySem.Str → Option Value} {news : List (Addr × Obj)} {x y u v : PySem.Str} {t t' : Tok} {Q : Value → Shared → Prop}
theorem split_two (hF : Fr h₀ L s.heap m) (hN : News h₀ L s.heap news) (e : Txt.split x y = [u, v]) (hy : (y.length == 0) = false) (hsz : x.length ≤ 100000)
    (h : ∀ D t1 t2 h' k, Fr h₀ L h' m → News h₀ L h' ((D, listOf [Value.str u t1, Value.str v t2].toArray 0) :: news) → (∀ p ∈ news, p.1 < D) → Q (.ref D) { s with heap := h', toks := k }) :
    wpAny (model prog w) A (call (.builtin "str.split") [.str x t, .str y t']) Q E s := by
  refine KSpl.split1 hF hN hy (fun D l h' k e' _ F N lt => ?_) (by rw [sizeLine_eq]; omega)
  rw [e] at e'
  obtain ⟨a, l', rfl, e2⟩ := KSpl.cons_of e'
  obtain ⟨b, l'', rfl, e3⟩ := KSpl.cons_of e2
  have e4 := KSpl.nil_of e3
  subst e4
  exact h D a b h' k F N lt
end
noncomputable def em2 (u v got : PySem.Str) : Bool := Txt.startswith got u && Txt.endswith got v && decide (u.length + v.length ≤ got.length)
theorem starts_empty {x y : PySem.Str} (h : (y.length : Int) = 0) : Txt.startswith x y = true := by
  have e : y.cps = #[] := by simpa [PySem.Str.length] using h
  unfold Txt.startswith
  rw [StrLaws.subAt_eq, e]
  simp [PySem.Str.length, e]
theorem ends_empty {x y : PySem.Str} (h : (y.length : Int) = 0) : Txt.endswith x y = true := by
  have e : y.cps = #[] := by simpa [PySem.Str.length] using h
  unfold Txt.endswith
  rw [StrLaws.subAt_eq, e]
  simp [PySem.Str.length, e]
theorem em2_s {u v got : PySem.Str} (h : Txt.startswith got u = false) : em2 u v got = false := by unfold em2; rw [h]; rfl
theorem em2_e {u v got : PySem.Str} (h : Txt.endswith got v = false) : em2 u v got = false := by unfold em2; rw [h]; simp
theorem em2_l {u v got : PySem.Str} (h : ¬ (u.length + v.length ≤ got.length)) : em2 u v got = false := by unfold em2; rw [decide_eq_false h]; simp
theorem em2_t {u v got : PySem.Str} (h1 : Txt.startswith got u = true) (h2 : Txt.endswith got v = true) (h : u.length + v.length ≤ got.length) : em2 u v got = true := by unfold em2; rw [h1, h2, decide_eq_true h]; rfl
set_option maxRecDepth 100000 in
set_option maxHeartbeats 8000000 in
theorem em_two {w : World} {loose : List Str} {mean : ExcName → Option Value} {mg mb : Str → Option Value} {dp un : Nat} {gd : Option (List Code)} {fr : Option (List Env)} {H₀ : Heap} {s : Shared} {Q E : Value → Shared → Prop}
   (want got u' v' : Str) (t1 t2 : Tok) (X : (hd.heap_39 w.params).In H₀) (T : Top hd.view_39 loose mean mg mb H₀) (st : H₀.StaysIn s.heap) (hdp : dp < recursionLimit) (hun : un + 50 < cLine)
   (hsp : Txt.split want (Str.ofString "...") = [u', v']) (hin : (Builtin.Str.occurrences want (Str.ofString "...") 0 want.length 1).isEmpty = false) (hw : want.length ≤ 100000) (hg : got.length ≤ 100000)
   (hu : u'.length ≤ 100000) (hv : v'.length ≤ 100000)
   (hQ : ∀ v h' tk', s.heap.StaysIn h' → v = Value.bool (em2 u' v' got) → Q v { s with heap := h', toks := tk' }) :
   wpAny (model PySem.Challenge.rw_tl0019_01.row.prog w) (Ar dp un gd fr) (call (.ref 72) [.str want t1, .str got t2]) Q E s := by
  revert X
  k_fill
  intro X
  refine' simple (P := fun v _ => v = Value.bool (em2 u' v' got)) X T st ?ho ?hcd ?hr ?hb ?hl ?_ hQ ?c2 ?c3 ?c4 ?c5
  (   (case ho => k_dflt k_is); (case hcd => k_dflt k_is); (case hr => assumption); (case hb => exact BindsTo.of_eq rfl); (case hl => exact locs rfl); (case c2 => exact rfl); (case c3 => exact rfl); (case c4 => exact rfl); (case c5 => decide); intro L' h₁ tk₁ X' T' F' N'; try dsimp only)
  repeat' (first | (k_unfold; (try dsimp only)) | (k_end; kc_close) | ((with_reducible show wpAny _ _ (pyIter (Value.ref _)) (fun it s₂ => LoopAtV _ _ _ _ _ _ _ _ _ it s₂) _ _); k_listUnr) | ((with_reducible show wpAny _ _ (call (Value.builtin "str.find") [_, _, _, _]) _ _ _); (refine find_span_empty ?ha ?hb ?hc ?hd ?_; (case ha => omega); (case hb => omega); (case hc => omega); (case hd => omega))) | (k_here; (with_reducible show wpAny _ _ (call (Value.builtin "str.split") _) _ _ _); (refine split_two (by k_asm) (by k_asm) (by assumption) (by decide) (by assumption) ?_); intro D' ta' tb' h' k' F' N' l1; (try k_lt l1)) | walk1 | (dsimp only; walk1) | (leave1; walk_say "STEP leave1"; (try dsimp only)) | fail "no step")
  all_goals (try dsimp only)
  all_goals (try (refine Back.intro rfl (by assumption) ?_))
  all_goals (refine congrArg Value.bool ?_)
  all_goals first
    | ((refine (em2_s ?_).symm); assumption)
    | ((refine (em2_e ?_).symm); assumption)
    | ((refine (em2_l ?_).symm); omega)
    | ((refine' (em2_t ?e1 ?e2 ?e3).symm); (case e3 => omega); (case e1 => first | assumption | (refine starts_empty ?_; omega)); (case e2 => first | assumption | (refine ends_empty ?_; omega)))
end Mine
end
theorem Mine.fresh_E4 : True ∧ True := by
  w_on
  w_top off
  walk1
  all_goals trivial
/-! text E4 -/
section
open PySem PySem.W PyProof.Rows PySem.Spec PySem.Calls
namespace Mine
section
variable {prog : Program} {w : World} {A : Around} {E : Value → Shared → Prop} {s : Shared} {h₀ : Heap} {L : Addr} {m : PySem.Str → Option Value} {news : List (Addr × Obj)} {x y u v : PySem.Str} {t t' z : Tok} {Q : Value → Shared → Prop}
theorem split_four {a b c d : PySem.Str} (hF : Fr h₀ L s.heap m) (hN : News h₀ L s.heap news) (e : Txt.split x y = [a, b, c, d]) (hy : (y.length == 0) = false) (hsz : x.length ≤ 100000)
    (h : ∀ D t1 t2 t3 t4 h' k, Fr h₀ L h' m → News h₀ L h' ((D, listOf [Value.str a t1, Value.str b t2, Value.str c t3, Value.str d t4].toArray 0) :: news) → (∀ p ∈ news, p.1 < D) → Q (.ref D) { s with heap := h', toks := k }) :
    wpAny (model prog w) A (call (.builtin "str.split") [.str x t, .str y t']) Q E s := by
  refine KSpl.split1 hF hN hy (fun D l h' k e' _ F N lt => ?_) (by rw [sizeLine_eq]; omega)
  rw [e] at e'
  obtain ⟨t1, l1, rfl, e2⟩ := KSpl.cons_of e'
  obtain ⟨t2, l2, rfl, e3⟩ := KSpl.cons_of e2
  obtain ⟨t3, l3, rfl, e4⟩ := KSpl.cons_of e3
  obtain ⟨t4, l4, rfl, e5⟩ := KSpl.cons_of e4
  have e6 := KSpl.nil_of e5
  subst e6
  exact h D t1 t2 t3 t4 h' k F N lt
theorem find_span_one {i j : Int} (hy : y.length = 1) (h0 : 0 ≤ i) (hi : i ≤ x.length) (hj : j = x.length) (h : (findIn x y i.toNat x.length = -1 ∨ (i ≤ findIn x y i.toNat x.length ∧ findIn x y i.toNat x.length + 1 ≤ x.length)) → Q (.int (findIn x y i.toNat x.length) s.toks) { s with toks := s.toks + 1 }) :
    wpAny (model prog w) A (call (.builtin "str.find") [.str x t, .str y u', .int i v', .int j z]) Q E s := by
  refine find_span ?_
  subst hj
  rw [fromIndex_nonneg h0, fromIndex_nonneg (by omega), show min ((x.length : Int)).toNat x.length = x.length from by omega]
  exact h (by have h9 := findIn_range x y i.toNat x.length; rw [hy, Int.toNat_of_nonneg h0] at h9; exact h9)
end
/-- whether c stands twice in got -/
noncomputable def em4 (c got : PySem.Str) : Bool := if findIn got c 0 got.length < 0 then false else if findIn got c (findIn got c 0 got.length + 1).toNat got.length < 0 then false else true
theorem em4_f1 {c got : PySem.Str} {a : Nat} (h : findIn got c a got.length < 0) (ha : a = 0) : false = em4 c got := by
  subst ha; unfold em4; rw [if_pos h]
theorem em4_f2 {c got : PySem.Str} {a b : Nat} (h1 : ¬ findIn got c a got.length < 0) (h2 : findIn got c b got.length < 0) (ha : a = 0) (hb : b = (findIn got c a got.length + 1).toNat) : false = em4 c got := by
  subst ha hb; unfold em4; rw [if_neg h1, if_pos h2]
theorem em4_t {c got : PySem.Str} {a b : Nat} (h1 : ¬ findIn got c a got.length < 0) (h2 : ¬ findIn got c b got.length < 0) (ha : a = 0) (hb : b = (findIn got c a got.length + 1).toNat) : true = em4 c got := by
  subst ha hb; unfold em4; rw [if_neg h1, if_neg h2]
set_option maxRecDepth 100000 in
set_option maxHeartbeats 8000000 in
theorem em_four {w : World} {loose : List Str} {mean : ExcName → Option Value} {mg mb : Str → Option Value} {dp un : Nat} {gd : Option (List Code)} {fr : Option (List Env)} {H₀ : Heap} {s : Shared} {Q E : Value → Shared → Prop}
   (want got e c : Str) (t1 t2 : Tok) (X : (hd.heap_39 w.params).In H₀) (T : Top hd.view_39 loose mean mg mb H₀) (st : H₀.StaysIn s.heap) (hdp : dp < recursionLimit) (hun : un + 50 < cLine)
   (hsp : Txt.split want (Str.ofString "...") = [e, c, c, e]) (he : e.length = 0) (hc : c.length = 1) (hin : (Builtin.Str.occurrences want (Str.ofString "...") 0 want.length 1).isEmpty = false) (hw : want.length ≤ 100000) (hg : got.length ≤ 100000)
   (hQ : ∀ v h' tk', s.heap.StaysIn h' → v = Value.bool (em4 c got) → Q v { s with heap := h', toks := tk' }) :
   wpAny (model PySem.Challenge.rw_tl0019_01.row.prog w) (Ar dp un gd fr) (call (.ref 72) [.str want t1, .str got t2]) Q E s := by
  revert X
  k_fill
  intro X
  refine' simple (P := fun v _ => v = Value.bool (em4 c got)) X T st ?ho ?hcd ?hr ?hb ?hl ?_ hQ ?c2 ?c3 ?c4 ?c5
  (   (case ho => k_dflt k_is); (case hcd => k_dflt k_is); (case hr => assumption); (case hb => exact BindsTo.of_eq rfl); (case hl => exact locs rfl); (case c2 => exact rfl); (case c3 => exact rfl); (case c4 => exact rfl); (case c5 => decide); intro L' h₁ tk₁ X' T' F' N'; try dsimp only)
  repeat' (first | (k_unfold; (try dsimp only)) | (k_end; kc_close) | ((with_reducible show wpAny _ _ (pyIter (Value.ref _)) (fun it s₂ => LoopAtV _ _ _ _ _ _ _ _ _ it s₂) _ _); k_listUnr) | ((with_reducible show wpAny _ _ (call (Value.builtin "str.find") [_, _, _, _]) _ _ _); first | ((refine find_span_empty ?ha ?hb ?hc ?hd ?_; (case ha => omega); (case hb => omega); (case hc => omega); (case hd => omega))) | (refine find_span_one ?ha ?hb ?hc ?hd ?_; (case ha => omega); (case hb => omega); (case hc => omega); (case hd => omega); intro hfr)) | (k_here; (with_reducible show wpAny _ _ (call (Value.builtin "str.split") _) _ _ _); (refine split_four (by k_asm) (by k_asm) (by assumption) (by decide) (by assumption) ?_); intro D' ta' tb' tc' td' h' k' F' N' l1; (try k_lt l1)) | walk1 | (dsimp only; walk1) | (leave1; walk_say "STEP leave1"; (try dsimp only)) | fail "no step")
  all_goals (try dsimp only)
  all_goals (try (exfalso; omega))
  all_goals (refine Back.intro rfl (by assumption) ?_)
  all_goals (refine congrArg Value.bool ?_)
  · exact em4_f1 (by assumption) (by rw [he]; rfl)
  · exact em4_f2 (a := (0 + (e.length : Int)).toNat) (b := (findIn got c (0 + (e.length : Int)).toNat got.length + (c.length : Int)).toNat) (by assumption) (by assumption) (by rw [he]; rfl) (by rw [hc]; rfl)
  · exact em4_t (a := (0 + (e.length : Int)).toNat) (b := (findIn got c (0 + (e.length : Int)).toNat got.length + (c.length : Int)).toNat) (by assumption) (by assumption) (by rw [he]; rfl) (by rw [hc]; rfl)
end Mine
end
theorem Mine.fresh_R1 : True ∧ True := by
  w_on
  w_top off
  walk1
  all_goals trivial
/-! text R1 -/
section
open PySem PySem.W PyProof.Rows PySem.Spec PySem.Calls
namespace Mine
theorem raise_leaf {M : Model} {A₀ : Around} {outer : List Env} {s₀ B Bw h : Heap} {L a e : Addr} {m : Str → Option Value} {name : Str} {scope : Scope} {cd cls : Value} {vs : List Value} {Q : Unit → Shared → Prop} {E : Value → Shared → Prop} {s' : Shared}
    (hfr : A₀.frames = some outer) (F : Fr Bw L h m) (hx : Heap.MadeExcOf h s'.heap e cls vs) (eL : L = s₀.objs.size) (hB : B.StaysIn s₀) (hfun : s₀.FunFrames B outer) (st : s₀.StaysIn h)
    (hk : scope.kind = .function)
    (hQ : ∀ h'' t, Heap.FlyingW B outer e cls (.ref t) h'' → h''.TupAt t vs → B.get? t = none → s₀.UpToSlots h'' → Q () { s' with heap := h'' }) :
    wpAny M (A₀.deeper (envOf name scope L a cd)) (leaving (envOf name scope L a cd) (.ref e)) Q E s' := by
  subst eL
  have hnew : B.get? s₀.objs.size = none := hB.fresh
  have K : h.FunFrames B (envOf name scope s₀.objs.size a cd :: outer) :=
    .cons (by show scope.kind ≠ .module; rw [hk]; decide) rfl F.ns hnew (hfun.of_keeps fun b o e _ => ⟨o, st b o e, rfl⟩)
  exact wpAny_leaves_madeW (Around.frames_deeper hfr) rfl (fun b o e => st b o (hB b o e)) K hx fun h'' t x1 x2 x3 x4 =>
    hQ h'' t x1 x2 x3 (((Heap.UpToSlots.of_keeps st).trans (Heap.UpToSlots.of_keeps hx.keeps)).trans x4)
/-- the refusals of parse229: class and words -/
noncomputable def Refused (r : Res) (resp : Str) (t1 : Tok) (cls : Value) (vs : List Value) : Prop :=
  (r = .reply ∧ cls = .ref 44 ∧ vs = [.str resp t1]) ∨ (r = .proto ∧ cls = .ref 56 ∧ vs = [.str resp t1]) ∨ (∃ x, r = .text x ∧ PySem.intText? x = none ∧ cls = .type "ValueError" ∧ ∃ m, vs = [m])
theorem fr_lt {h₀ h : Heap} {L : Addr} {m : Str → Option Value} (F : Fr h₀ L h m) : L < h.objs.size := by
  obtain ⟨_, _, _, hL, _⟩ := F.ns
  exact Heap.lt_size hL
theorem none_of {h : Heap} {news : List (Addr × Obj)} {a : Addr} (_hw : ∀ p ∈ news, h.get? p.1 = some p.2) (hn : (hideAll h (news.map (·.1))).get? a = none) (hne : ∀ p ∈ news, p.1 ≠ a) : h.get? a = none := by
  cases q : h.get? a with
  | none => rfl
  | some o =>
    have := hideAll_get (news.map (·.1)) q (fun hm => by obtain ⟨p, hp, e⟩ := List.mem_map.mp hm; exact hne p hp e)
    rw [hn] at this; cases this
theorem five_of {l : List (Str × Tok)} {ps : List Str} (h : ((l.length : Nat) : Int) = 5) (e : l.map (·.1) = ps) : ∃ a b c x d, l = [a, b, c, x, d] ∧ ps = [a.1, b.1, c.1, x.1, d.1] := by
  subst e
  match l, h with
  | [a, b, c, x, d], _ => exact ⟨a, b, c, x, d, rfl, rfl⟩
  | [], h => simp at h
  | [_], h => simp at h
  | [_, _], h => simp at h
  | [_, _, _], h => simp at h
  | [_, _, _, _], h => simp at h
  | _ :: _ :: _ :: _ :: _ :: _ :: _, h => simp at h; omega
set_option maxRecDepth 100000 in
set_option maxHeartbeats 8000000 in
theorem parse_c {w : World} {loose : List Str} {mean : ExcName → Option Value} {mg mb : Str → Option Value} {dp un : Nat} {gd : Option (List Code)} {outer : List Env} {H₀ B : Heap} {s : Shared} {Q E : Value → Shared → Prop}
   (resp host : Str) (port : Int) (t1 t2 t3 : Tok) (D : Addr) (n : Nat) (X : (hd.heap_39 w.params).In H₀) (T : Top hd.view_39 loose mean mg mb H₀) (st : H₀.StaysIn s.heap) (hdp : dp < recursionLimit) (hun : un + 50 < cLine)
   (hD : s.heap.get? D = some { cls := .type "tuple", data := .seq #[.str host t2, .int port t3] n }) (hD0 : H₀.get? D = none) (hlen : resp.length ≤ 500)
   (hB : B.StaysIn s.heap) (hfun : s.heap.FunFrames B outer)
   (hx : ∀ x, parseP resp = .text x → x.length ≤ 500 ∧ (PySem.intText? x = none → ((PySem.numSeenOf x).length == (PySem.numTextOf x).length) = true ∧ (reprText x).length ≤ sizeLine))
   (hQ : ∀ k x T' h' tk' tk'', parseP resp = .text x → PySem.intText? x = some k → s.heap.StaysIn h' → s.heap.get? T' = none → h'.get? T' = some { cls := .type "tuple", data := .seq #[.str host t2, .int k tk''] } → Q (.ref T') { s with heap := h', toks := tk' })
   (hE : ∀ cls vs e t h' tk', Refused (parseP resp) resp t1 cls vs → Heap.FlyingW B outer e cls (.ref t) h' → h'.TupAt t vs → B.get? t = none → s.heap.UpToSlots h' → E (.ref e) { s with heap := h', toks := tk' }) :
   wpC (model PySem.Challenge.rw_tl0019_01.row.prog w) (Ar dp un gd (some outer)) (call (.ref 65) [.str resp t1, .ref D]) Q E s := by
  revert X
  k_fill
  intro X
  refine' enterC (binds := [(Str.ofString "resp", .str resp t1), (Str.ofString "peer", .ref D)]) [(D, ({ cls := .type "tuple", data := .seq #[.str host t2, .int port t3] n } : Obj))] X T st ?ho ?hcd ?hr ?hb ?hl ?hn ?_ ?c2 ?c3 ?c4 ?c5
  (case ho => k_dflt k_is); (case hcd => k_dflt k_is); (case hr => assumption); (case hb => exact BindsTo.of_eq rfl); (case hl => exact locs rfl); (case c2 => exact rfl); (case c3 => exact rfl); (case c4 => exact rfl); (case c5 => decide)
  (case hn => intro p hp; cases List.mem_singleton.mp hp; exact ⟨hD0, hD⟩)
  clear X T
  intro B' L' h₁ tk₁ eB eL X' T' F' N' lt
  have hw : ∀ p ∈ [(D, ({ cls := .type "tuple", data := .seq #[.str host t2, .int port t3] n } : Obj))], s.heap.get? p.1 = some p.2 := by
    intro p hp; cases List.mem_singleton.mp hp; exact hD
  refine C.split [_, _, _, _, _, _, _, _, _] _ ?_
  repeat' (first | (k_unfold; (try dsimp only)) | (k_end; kc_close) | ((with_reducible show wpAny _ _ (call (Value.builtin "str.find") [_, _, _]) _ _ _); (refine' find_three (by decide) ?ha ?_; (case ha => omega)); intro hfd) | ((with_reducible show wpAny _ _ (call (Value.builtin "str.find") [_, _]) _ _ _); (refine find_two (by decide) ?_); intro hfd) | walk1 | (dsimp only; walk1) | (leave1; walk_say "STEP leave1"; (try dsimp only)) | fail "no step")
  all_goals (try dsimp only)
  all_goals (try (
    rename Fr _ _ _ _ => FF
    rename News _ _ _ _ => NN
    have hst := stays_of hw (eB ▸ FF) (eB ▸ NN) (by intro p hp; cases List.mem_singleton.mp hp; simp)
    rename Heap.MadeExcOf _ _ _ _ _ => hmade
    refine raise_leaf rfl FF hmade eL hB hfun hst rfl (fun h'' t x1 x2 x3 x4 => hE _ _ _ t _ _ ?_ x1 x2 x3 x4)))
  all_goals (try (
    with_reducible show Refused _ _ _ _ _
    first
    | exact .inl ⟨parse_reply (by assumption), rfl, rfl⟩
    | exact .inr (.inl ⟨parse_left (by assumption) (by assumption), rfl, rfl⟩)
    | exact .inr (.inl ⟨parse_right (by assumption) (by assumption), rfl, rfl⟩)
    | exact .inr (.inl ⟨parse_ends (by assumption) (by assumption), rfl, rfl⟩)
    | (rename List.map _ _ = Txt.split _ _ => hlook
       refine .inr (.inl ⟨parse_parts (by assumption) ?_, rfl, rfl⟩)
       have hlk : List.map _ _ = partsP resp := hlook
       rw [← hlk, List.length_map]
       omega)))
  rename Fr _ _ _ _ => FF
  rename News _ _ _ _ => NN
  rename List.map _ _ = Txt.split _ _ => hlook
  rename ((_ : Nat) : Int) = 5 => h5
  obtain ⟨pa, pb, pc, px, pd, rfl, hps⟩ := five_of h5 hlook
  have hpt : parseP resp = .text px.1 := parse_text (by assumption) (by assumption) (by assumption) (by assumption) hps
  obtain ⟨hxl, hxb⟩ := hx _ hpt
  refine C.execs_cons (C.Assign_Name (C.Call_Name ?_))
  repeat' (first | (k_unfold; (try dsimp only)) | (k_end; kc_close) | ((with_reducible show wpAny _ _ (call (Value.builtin "str.find") [_, _, _]) _ _ _); (refine' find_three (by decide) ?ha ?_; (case ha => omega)); intro hfd) | ((with_reducible show wpAny _ _ (call (Value.builtin "str.find") [_, _]) _ _ _); (refine find_two (by decide) ?_); intro hfd) | walk1 | (dsimp only; walk1) | (leave1; walk_say "STEP leave1"; (try dsimp only)) | fail "no step")
  refine C.callWith_type ?_
  repeat' (first | (k_unfold; (try dsimp only)) | (k_end; kc_close) | ((with_reducible show wpAny _ _ (call (Value.builtin "str.find") [_, _, _]) _ _ _); (refine' find_three (by decide) ?ha ?_; (case ha => omega)); intro hfd) | ((with_reducible show wpAny _ _ (call (Value.builtin "str.find") [_, _]) _ _ _); (refine find_two (by decide) ?_); intro hfd) | walk1 | (dsimp only; walk1) | (leave1; walk_say "STEP leave1"; (try dsimp only)) | fail "no step")
  rename _[Int.toNat 3]? = some _ => hy
  have hy' := Option.some.inj hy
  dsimp only at hy'
  subst hy'
  have hst := stays_of hw (eB ▸ FF) (eB ▸ NN) (by intro p hp; cases List.mem_singleton.mp hp; simp)
  cases hit : PySem.intText? px.1 with
  | none =>
    refine C.int_bad rfl hit (hxb hit).1 (by omega) (hxb hit).2 (fun h' e m tk hm => ?_)
    refine raise_leaf rfl FF (Heap.MadeExc.of hm) eL hB hfun hst rfl (fun h'' t x1 x2 x3 x4 => hE _ _ _ t _ _ ?_ x1 x2 x3 x4)
    exact .inr (.inr ⟨_, hpt, hit, rfl, _, rfl⟩)
  | some k =>
    refine C.of (KIN.call_text hit (by omega) ?_)
    repeat' (first | (k_unfold; (try dsimp only)) | (k_end; kc_close) | ((with_reducible show wpAny _ _ (call (Value.builtin "str.find") [_, _, _]) _ _ _); (refine' find_three (by decide) ?ha ?_; (case ha => omega)); intro hfd) | ((with_reducible show wpAny _ _ (call (Value.builtin "str.find") [_, _]) _ _ _); (refine find_two (by decide) ?_); intro hfd) | walk1 | (dsimp only; walk1) | (leave1; walk_say "STEP leave1"; (try dsimp only)) | fail "no step")
    refine C.of ?_
    repeat' (first | (k_unfold; (try dsimp only)) | (k_end; kc_close) | ((with_reducible show wpAny _ _ (call (Value.builtin "str.find") [_, _, _]) _ _ _); (refine' find_three (by decide) ?ha ?_; (case ha => omega)); intro hfd) | ((with_reducible show wpAny _ _ (call (Value.builtin "str.find") [_, _]) _ _ _); (refine find_two (by decide) ?_); intro hfd) | walk1 | (dsimp only; walk1) | (leave1; walk_say "STEP leave1"; (try dsimp only)) | fail "no step")
    all_goals (try dsimp only)
    rename Fr _ _ _ _ => FF
    rename News _ _ _ _ => NN
    have hst2 := stays_of hw (eB ▸ FF) (eB ▸ NN) (by intro p hp; cases List.mem_singleton.mp hp; simp)
    refine hQ k _ _ _ _ _ hpt hit hst2 ?_ (NN _ (List.Mem.head _)).1
    refine none_of hw (eB ▸ (NN _ (List.Mem.head _)).2.2) ?_
    intro p hp; cases List.mem_singleton.mp hp
    exact Nat.ne_of_lt (by dsimp only; omega)
end Mine
end
theorem Mine.fresh_X1 : True ∧ True := by
  w_on
  w_top off
  walk1
  all_goals trivial
/-! text X1 -/
section
open PySem PySem.W PyProof.Rows PySem.Spec PySem.Calls
open PySem.Builtin PySem.Builtin.Str PySem.Builtin.BaseException PySem.Builtin.Exceptions
set_option maxRecDepth 100000
namespace Mine
/-! str() of an exception of an own class, of one text -/
theorem kind_bexc_str : builtinKind "BaseException.__str__" = some .slot ∧ splitId "BaseException.__str__" = some ("BaseException", "__str__") := by constructor <;> decide +kernel
theorem bind_bexc_str (self : Value) : bindSpecial (.builtin "BaseException.__str__") self = pure (.builtin "BaseException.__str__", [self]) := PySem.F.excStr_ValueError.str.bind self
section
variable {prog : Program} {w : World} {A : Around} {E : Value → Shared → Prop} {s : Shared} {K : Frag} {C e t : Addr}
noncomputable def OwnAt (h : Heap) (e : Addr) (cls a0 : Value) : Prop := ∃ o vs, h.get? e = some o ∧ o.cls = cls ∧ o.data = .fields vs ∧ vs[0]? = some a0
theorem own_str_call {m : PySem.Str} {u : Tok} {Q : Value → Shared → Prop} (X : K.In s.heap) (hs : subIn K (.ref C) (.type "BaseException") = some true)
    (x : OwnAt s.heap e (.ref C) (.ref t)) (ht : s.heap.TupAt t [.str m u]) (h : Q (.str m u) s) :
    wpAny (model prog w) A (call (.builtin "BaseException.__str__") [.ref e]) Q E s := by
  obtain ⟨o, vs, ho, hc, hd, h0⟩ := x
  obtain ⟨ot, k, hto, _, htd⟩ := ht
  have LI : Looks (model prog w) s.heap (isInstance (.ref e) (.type "BaseException")) true := ((Looks.ld ho).andThen .now).andThen (hc ▸ looks_subIn X hs)
  refine wpAny_call (codeAny_call_builtin (by decide +kernel) PySem.F.entry_bexc_str ?_)
  simp only [checkBuiltinCall, kind_bexc_str.1, kind_bexc_str.2]
  refine wpAny_bind (LI.here ?_)
  simp only [Bool.not_true, Bool.false_eq_true, if_false]
  have fin : wpAny (model prog w) A.in1 (Builtin.«BaseException.__str__» ⟨[.ref e], []⟩) (fun fin s' => fin = .done (.ret (.str m u)) ∧ s' = s) (fun _ _ => False) s := by
    have B : ∀ {A : Around} {E : Value → Shared → Prop} {Q : Value × List Value → Shared → Prop}, Q (.ref t, [.str m u]) s → wpAny (model prog w) A (bexcArgs (.ref e)) Q E s := fun hq => by
      unfold bexcArgs
      refine wpAny_bind (wpAny_field ho hd h0 (wpAny_bind (wpAny_seqItems hto htd ?_)))
      exact wpAny_pure hq
    unfold Builtin.«BaseException.__str__»
    repeat (first | with_reducible refine B ?_ | wp_step)
    exact ⟨rfl, rfl⟩
  have done : wpAny (model prog w) A.in1 (Builtin.«BaseException.__str__» ⟨[.ref e], []⟩)
      (fun fin s' => match fin with | .done f => (match (Except.ok f : Result) with | .ok (.ret v) => Q v s' | .ok _ => False | .error e => E e s') | .again c' => c'.quiet = true ∧ codeAny (model prog w) A c' (fun r s' => match r with | .ok (.ret v) => Q v s' | .ok _ => False | .error e => E e s') s')
      (fun e s' => E e s') s := wpAny_mono fin (fun f s' hf => by obtain ⟨rfl, rfl⟩ := hf; exact h) (fun _ _ q => q.elim)
  cases hsig : Manifest.signature? "BaseException.__str__" with
  | none => exact wpAny_pure done
  | some sig =>
    have ha := PySem.F.args_bexc_str (.ref e)
    simp only [argsOk, hsig] at ha
    have h2 : Bind.checkArgs "BaseException.__str__" sig ⟨[.ref e], []⟩ = pure () := ha
    show wpAny _ _ (Bind.checkArgs "BaseException.__str__" sig ⟨[.ref e], []⟩) _ _ s
    rw [h2]; exact wpAny_pure done
theorem own_strOf {m : PySem.Str} {u : Tok} {Q : Value → Shared → Prop} (X : K.In s.heap) (hf : PySem.W.findIn K (.ref C) (Str.ofString "__str__") = some (some (.builtin "BaseException.__str__"))) (hs : subIn K (.ref C) (.type "BaseException") = some true)
    (x : OwnAt s.heap e (.ref C) (.ref t)) (ht : s.heap.TupAt t [.str m u]) (hu : A.units < cLine) (h : Q (.str m u) s) :
    wpAny (model prog w) A (Builtin.Str.strOf (.ref e)) Q E s := by
  have hc := own_str_call (prog := prog) (w := w) (A := A) (E := E) (Q := fun v s' => v = .str m u ∧ s' = s) X hs x ht ⟨rfl, rfl⟩
  obtain ⟨o, vs, ho, hcl, hd, h0⟩ := x
  have LS : Looks (model prog w) s.heap (specialOf (.ref e) (Str.ofString "__str__")) (some (.builtin "BaseException.__str__")) := ((Looks.ld ho).andThen .now).andThen (hcl ▸ looks_findIn X hf)
  have hcs : wpAny (model prog w) A (callSpecial? (.ref e) (Str.ofString "__str__")) (fun r s' => r = some (.str m u) ∧ s' = s) E s := by
    simp only [callSpecial?]
    refine wpAny_bind (LS.here ?_)
    simp only [bind_bexc_str]
    refine wpAny_holding (wpAny_bind (wpAny_pure (wpAny_bind (wpAny_mono hc (fun v s' h' => ?_) fun _ _ y => y))))
    obtain ⟨rfl, rfl⟩ := h'
    exact wpAny_pure ⟨rfl, rfl⟩
  have hcs' : ∀ {Q : Option Value → Shared → Prop}, Q (some (.str m u)) s → wpAny (model prog w) A (callSpecial? (.ref e) (Str.ofString "__str__")) Q E s := fun hq => wpAny_mono hcs (fun r s' h' => by obtain ⟨rfl, rfl⟩ := h'; exact hq) fun _ _ y => y
  unfold Builtin.Str.strOf
  repeat (first | with_reducible refine wpAny_cRoomFor hu ?_ | with_reducible refine hcs' ?_ | wp_step)
  exact h
theorem own_str {m : PySem.Str} {u : Tok} {Q : Value → Shared → Prop} (X : K.In s.heap) (hf : PySem.W.findIn K (.ref C) (Str.ofString "__str__") = some (some (.builtin "BaseException.__str__"))) (hs : subIn K (.ref C) (.type "BaseException") = some true)
    (x : OwnAt s.heap e (.ref C) (.ref t)) (ht : s.heap.TupAt t [.str m u]) (hu : A.units + 2 < cLine) (h : Q (.str m u) s) :
    wpAny (model prog w) A (call (.type "str") [.ref e]) Q E s :=
  callType_new PySem.F.called_str (by decide) (PySem.F.typeCall_str_1 _) (PySem.F.newCall_str_1 _) (fun obj => PySem.F.args_object_init_2 obj _) PySem.F.entry_str_new
    (meets_str_new (S := fun A' R s' => A'.units + 1 < cLine ∧ K.In s'.heap ∧ OwnAt s'.heap e (.ref C) (.ref t) ∧ s'.heap.TupAt t [.str m u] ∧ R (.ok (.ret (.str m u))) s')
      fun _ _ A' _ _ hq => own_strOf (A := A'.in1) hq.2.1 hf hs hq.2.2.1 hq.2.2.2.1 hq.1 hq.2.2.2.2)
    ⟨(show A.units + 1 + 1 < cLine from hu), X, x, ht, typeIs_str _ _ _, h⟩
end
/-! an except clause, hit or missed -/
section
variable {prog : Program} {w : World} {A : Around} {E : Value → Shared → Prop} {s : Shared} {K : Frag} {e : Addr} {C cls : Value} {env : Env} {t : Expr} {n : PySem.Str} {name : Option PySem.Str} {b₀ : Stmt} {suite : List Stmt} {pos : Pos} {rest : List ExceptHandler} {Q : Flow → Shared → Prop}
theorem type_at (he : ∃ oe, s.heap.get? e = some oe ∧ oe.cls = cls) : Looks (model prog w) s.heap (typeOf (.ref e)) cls := by
  obtain ⟨oe, h, rfl⟩ := he
  exact (Looks.ld h).andThen .now
theorem handler_miss (X : K.In s.heap) (he : ∃ oe, s.heap.get? e = some oe ∧ oe.cls = cls) (hx : exmOne K cls C = some false)
    (ht : wpAny (model prog w) (A.mark (some (.ref e))) (eval t env) (fun c s₁ => c = C ∧ s₁ = s) (fun _ _ => False) s)
    (h : wpAny (model prog w) A (handleBy (.ref e) env rest) Q E s) :
    wpAny (model prog w) A (handleBy (.ref e) env (.ExceptHandler (some t) name (b₀ :: suite) pos :: rest)) Q E s := by
  refine wpAny_handleBy_cons (codeAny_handlers_test (wpAny_mono ht (fun c s₁ h₁ => ?_) fun _ _ y => y.elim)) (by intro q; cases q)
  obtain ⟨rfl, rfl⟩ := h₁
  exact (exm_one X (type_at he) hx).here h
theorem handler_as (X : K.In s.heap) (he : ∃ oe, s.heap.get? e = some oe ∧ oe.cls = cls) (hx : exmOne K cls C = some true)
    (ht : wpAny (model prog w) (A.mark (some (.ref e))) (eval t env) (fun c s₁ => c = C ∧ s₁ = s) (fun _ _ => False) s)
    (h : wpAny (model prog w) (A.mark (some (.ref e))) (setFlight (.ref e) none) (fun _ s₂ => wpAny (model prog w) (A.mark (some (.ref e))) (storeName env n (.ref e)) (fun _ s₃ =>
        wpAny (model prog w) (A.mark (some (.ref e))) (execs (b₀ :: suite) env)
          (fun f s₄ => wpAny (model prog w) A (do bindName env n .none; unbindBehindTheSuite env n pos) (fun _ s₅ => Q f s₅) E s₄) (fun _ _ => False) s₃) (fun _ _ => False) s₂) (fun _ _ => False) s) :
    wpAny (model prog w) A (handleBy (.ref e) env (.ExceptHandler (some t) (some n) (b₀ :: suite) pos :: rest)) Q E s := by
  refine wpAny_handleBy_cons (codeAny_handlers_test (wpAny_mono ht (fun c s₁ h₁ => ?_) fun _ _ y => y.elim)) (by intro q; cases q)
  obtain ⟨rfl, rfl⟩ := h₁
  refine (exm_one X (type_at he) hx).here (codeAny_handlers_suite_as (wpAny_mono h (fun _ s₂ h₂ => wpAny_mono h₂ (fun _ s₃ h₃ => wpAny_mono h₃ (fun f s₄ h₄ => h₄) fun _ _ y => y.elim) fun _ _ y => y.elim) fun _ _ y => y.elim))
theorem handler_plain (X : K.In s.heap) (he : ∃ oe, s.heap.get? e = some oe ∧ oe.cls = cls) (hx : exmOne K cls C = some true)
    (ht : wpAny (model prog w) (A.mark (some (.ref e))) (eval t env) (fun c s₁ => c = C ∧ s₁ = s) (fun _ _ => False) s)
    (h : wpAny (model prog w) (A.mark (some (.ref e))) (setFlight (.ref e) none) (fun _ s₂ => wpAny (model prog w) (A.mark (some (.ref e))) (execs (b₀ :: suite) env) Q (fun _ _ => False) s₂) (fun _ _ => False) s) :
    wpAny (model prog w) A (handleBy (.ref e) env (.ExceptHandler (some t) none (b₀ :: suite) pos :: rest)) Q E s := by
  refine wpAny_handleBy_cons (codeAny_handlers_test (wpAny_mono ht (fun c s₁ h₁ => ?_) fun _ _ y => y.elim)) (by intro q; cases q)
  obtain ⟨rfl, rfl⟩ := h₁
  refine (exm_one X (type_at he) hx).here (codeAny_handlers_suite (wpAny_mono h (fun _ s₂ h₂ => wpAny_mono h₂ (fun f s₄ h₄ => h₄) fun _ _ y => y.elim) fun _ _ y => y.elim))
end
end Mine
end
theorem Mine.fresh_R3 : True ∧ True := by
  w_on
  w_top off
  walk1
  all_goals trivial
/-! text R3 -/
section
open PySem PySem.W PyProof.Rows PySem.Spec PySem.Calls
namespace Mine
/-- all as before, but for the slots of the frames fs -/
noncomputable def Grow (fs : List Addr) (h h' : Heap) : Prop := ∃ g, KtsTurn fs h g ∧ g.StaysIn h'
theorem Grow.of_stays {fs : List Addr} {h h' : Heap} (st : h.StaysIn h') : Grow fs h h' := ⟨h, .refl, st⟩
noncomputable def frs (outer : List Env) : List Addr := outer.filterMap (·.frame)
/-- what _law_hear tells of a refusal -/
noncomputable def Told (r : Res) (resp : Str) (t1 : Tok) (vs : List Value) : Prop :=
  (r = .reply ∧ ∃ t', vs = [.str (Str.ofString "reply") t', .str resp t1]) ∨ (r = .proto ∧ ∃ t', vs = [.str (Str.ofString "proto") t', .str resp t1]) ∨
  (∃ x, r = .text x ∧ PySem.intText? x = none ∧ ∃ t', vs = [.str (Str.ofString "value") t'])
theorem landX {s₀ h₁ h₆ : Heap} {outer : List Env} {env : Env} {L e t : Addr} {m : Str → Option Value} {cls : Value} {vs : List Value} (hdict : KtsDicts (frs outer) s₀) (F : Fr s₀ L h₁ m)
    (hfl : Heap.FlyingW (hideAll s₀ (frs outer)) (env :: outer) e cls (.ref t) h₆) (htup : h₆.TupAt t vs) (hnt : (hideAll s₀ (frs outer)).get? t = none) (hsm : h₁.UpToSlots h₆) :
    ∃ g news, KtsTurn (frs outer) s₀ g ∧ Fr g L h₆ m ∧ News g L h₆ news ∧ Got news e t cls vs := by
  have hs0 : s₀.UpToSlots h₆ := (Heap.UpToSlots.of_keeps F.keep).trans hsm
  have hfrD : ∀ b o, s₀.get? b = some o → b ∈ frs outer → ∃ es n sl, o.data = .dict es n ∧ h₆.get? b = some { o with slots := sl } := fun b o e hb => by
    obtain ⟨o', es, n, ho', hd⟩ := hdict b hb
    rw [e] at ho'; cases ho'
    obtain ⟨sl, hs⟩ := hs0 b o e fun vs q => by rw [hd] at q; cases q
    exact ⟨es, n, sl, hd, hs⟩
  obtain ⟨TT, S⟩ := kts_turn_at (h := h₆) (fs := frs outer) (g := s₀) (fun b hb => by obtain ⟨o, _, _, ho, _⟩ := hdict b hb; exact ⟨o, ho⟩)
    (fun b o e hb => hfl.1 b o (hideAll_get _ e hb)) (fun b o e hb => by obtain ⟨_, _, sl, _, hs⟩ := hfrD b o e hb; exact ⟨sl, hs⟩)
  have fresh : ∀ b, (hideAll s₀ (frs outer)).get? b = none → (∀ o, h₆.get? b = some o → ∀ es n, o.data ≠ .dict es n) → (ktsHeap h₆ (frs outer) s₀).get? b = none := fun b hb hnd => by
    refine TT.none_ b ?_
    cases q : s₀.get? b with
    | none => rfl
    | some o =>
      by_cases hm : b ∈ frs outer
      · obtain ⟨es, n, sl, hd, hs⟩ := hfrD b o q hm
        exact absurd hd (hnd _ hs es n)
      · rw [hideAll_get _ q hm] at hb; cases hb
  have F₆ : Fr (ktsHeap h₆ (frs outer) s₀) L h₆ m := ⟨hsm.ns F.ns, S, by rw [TT.size]; exact F.above⟩
  obtain ⟨oe, ws, hoe, hoec, hoed, hoe0⟩ := hfl.first
  obtain ⟨ot, nt, hot, hotc, hotd⟩ := htup
  have N₆ := News.more F₆ (News.more F₆ News.nil hot (fun es n q => by rw [hotd] at q; cases q) (fresh t hnt fun o ho es n q => by rw [hot] at ho; cases ho; rw [hotd] at q; cases q)) hoe (fun es n q => by rw [hoed] at q; cases q)
    (fresh e hfl.2.1 fun o ho es n q => by rw [hoe] at ho; cases ho; rw [hoed] at q; cases q)
  exact ⟨_, _, TT, F₆, N₆, oe, ot, ws, nt, .head _, .tail _ (.head _), hoec, hoed, hoe0, hotc, hotd⟩
theorem own_got {prog : Program} {w : World} {A : Around} {E : Value → Shared → Prop} {s : Shared} {K : Frag} {C e t L : Addr} {g : Heap} {m : Str → Option Value} {news : List (Addr × Obj)} {x : PySem.Str} {u : Tok} {Q : Value → Shared → Prop}
    (X : K.In g) (F : Fr g L s.heap m) (N : News g L s.heap news) (G : Got news e t (.ref C) [.str x u]) (hf : PySem.W.findIn K (.ref C) (Str.ofString "__str__") = some (some (.builtin "BaseException.__str__"))) (hs : subIn K (.ref C) (.type "BaseException") = some true)
    (hu : A.units + 2 < cLine) (h : Q (.str x u) s) : wpAny (model prog w) A (call (.type "str") [.ref e]) Q E s := by
  obtain ⟨oe, ot, ws, nt, h1, h2, hc, hd, h0, htc, htd⟩ := G
  exact own_str (X.keeps F.keep) hf hs ⟨oe, ws, N.get h1, hc, hd, h0⟩ ⟨ot, nt, N.get h2, htc, htd⟩ hu h
theorem fresh_of_turn {fs : List Addr} {h g : Heap} {a : Addr} (T : KtsTurn fs h g) (hn : g.get? a = none) : h.get? a = none := by
  cases q : h.get? a with
  | none => rfl
  | some o => obtain ⟨sl, hs⟩ := T.up q; rw [hn] at hs; cases hs
theorem fresh_of_keeps {h g : Heap} {a : Addr} (k : h.StaysIn g) (hn : g.get? a = none) : h.get? a = none := by
  cases q : h.get? a with
  | none => rfl
  | some o => rw [k _ _ q] at hn; cases hn
theorem stays_turn {H₀ h g : Heap} {fs : List Addr} (st : H₀.StaysIn h) (hfs : ∀ a ∈ fs, H₀.get? a = none) (T : KtsTurn fs h g) : H₀.StaysIn g := fun b o e =>
  T.other b o (st b o e) fun hm => by rw [hfs b hm] at e; cases e
local macro_rules | `(tactic| walk_at "call type:str") => `(tactic| ((with_reducible show wpAny _ _ (call (Value.type "str") [Value.ref _]) _ _ _); k_dflt (refine' own_got ?kX ?kF ?kN (by assumption) ?kf ?ks ?ku ?_; (case kX => assumption); (case kF => assumption); (case kN => assumption); (case kf => k_is); (case ks => k_is); (case ku => (show un + 3 + 2 < cLine; omega)))))
set_option maxRecDepth 100000 in
set_option maxHeartbeats 8000000 in
theorem hear_c {w : World} {loose : List Str} {mean : ExcName → Option Value} {mg mb : Str → Option Value} {dp un : Nat} {gd : Option (List Code)} {outer : List Env} {H₀ : Heap} {s : Shared} {Q E : Value → Shared → Prop}
   (resp host : Str) (port : Int) (t1 t2 t3 : Tok) (D : Addr) (n : Nat) (X : (hd.heap_39 w.params).In H₀) (T : Top hd.view_39 loose mean mg mb H₀) (st : H₀.StaysIn s.heap) (hdp : dp + 1 < recursionLimit) (hun : un + 60 < cLine)
   (hD : s.heap.get? D = some { cls := .type "tuple", data := .seq #[.str host t2, .int port t3] n }) (hD0 : H₀.get? D = none) (hlen : resp.length ≤ 500)
   (hfs : ∀ a ∈ frs outer, H₀.get? a = none) (hdict : KtsDicts (frs outer) s.heap) (hfun : s.heap.FunFrames (hideAll s.heap (frs outer)) outer)
   (hx : ∀ x, parseP resp = .text x → x.length ≤ 500 ∧ (PySem.intText? x = none → ((PySem.numSeenOf x).length == (PySem.numTextOf x).length) = true ∧ (reprText x).length ≤ sizeLine))
   (hQ : ∀ k x T' h' tk' tk'', parseP resp = .text x → PySem.intText? x = some k → s.heap.StaysIn h' → s.heap.get? T' = none → h'.get? T' = some { cls := .type "tuple", data := .seq #[.str host t2, .int k tk''] } → Q (.ref T') { s with heap := h', toks := tk' })
   (hL : ∀ vs T' h' tk', Told (parseP resp) resp t1 vs → Grow (frs outer) s.heap h' → s.heap.get? T' = none → h'.get? T' = some (listOf vs.toArray 0) → Q (.ref T') { s with heap := h', toks := tk' }) :
   wpC (model PySem.Challenge.rw_tl0019_01.row.prog w) (Ar dp un gd (some outer)) (call (.ref 152) [.str resp t1, .ref D]) Q E s := by
  have hG : H₀.StaysIn (hideAll s.heap (frs outer)) := stays_hide st _ hfs
  have hGs : (hideAll s.heap (frs outer)).StaysIn s.heap := fun b o e => of_hideAll _ e
  revert X
  k_fill
  intro X
  refine' enterC (binds := [(Str.ofString "reply", .str resp t1), (Str.ofString "at", .ref D)]) [] X T st ?ho ?hcd ?hr ?hb ?hl ?hn ?_ ?c2 ?c3 ?c4 ?c5
  (case ho => k_dflt k_is); (case hcd => k_dflt k_is); (case hr => exact Nat.lt_of_succ_lt hdp); (case hb => exact BindsTo.of_eq rfl); (case hl => exact locs rfl); (case c2 => exact rfl); (case c3 => exact rfl); (case c4 => exact rfl); (case c5 => decide)
  (case hn => intro p hp; cases hp)
  intro B' L' h₁ tk₁ eB eL X' T' F' N' lt
  refine C.execs_cons (C.Try_except ?_)
  refine C.execs_cons (C.Return_some (C.Call_Name ?_))
  k_steps
  refine C.callWith_K (K := hd.heap_39 w.params) ?_ ?_
  (k_dflt k_is)
  k_steps
  have eB' : B' = s.heap := eB
  subst eB'
  have hst1 : s.heap.StaysIn h₁ := F'.keep
  have hnewL : (hideAll s.heap (frs outer)).get? L' = none := by
    rw [eL]
    exact fresh_of_keeps hGs (Heap.get?_none_of_le (Nat.le_refl _))
  refine' parse_c (dp := dp + 1) (un := un + 3) (B := hideAll s.heap (frs outer)) resp host port t1 t2 t3 D n X T ?p1 (by omega) (by omega) ?p2 hD0 hlen ?p3 ?hfn hx ?_ ?_
  case p1 => exact fun b o e => hst1 b o (st b o e)
  case p2 => exact hst1 _ _ hD
  case p3 => exact fun b o e => hst1 b o (hGs b o e)
  case hfn =>
    refine .cons ?_ rfl F'.ns hnewL (hfun.of_keeps fun b o e _ => ⟨o, hst1 b o e, rfl⟩)
    show ScopeKind.function ≠ ScopeKind.module; decide
  · intro k x T' h' tk' tk'' e1 e2 st' n1 n2
    exact hQ k x T' h' tk' tk'' e1 e2 (fun b o e => st' b o (hst1 b o e)) (fresh_of_keeps hst1 n1) n2
  · intro cls vs e t h' tk' hr hfl htup hnt hsm
    refine wpAny_looks_onW rfl rfl hfl fun h₄ hheld hsm4 => wpAny_landsW hheld fun h₅ hfl5 hsm5 => ?_
    have htup5 := (htup.of_slots hsm4).of_slots hsm5
    have hsm15 := (hsm.trans hsm4).trans hsm5
    have X5 : (hd.heap_39 w.params).In h₅ := X.keeps (fun b o e => hfl5.1 b o (hG b o e))
    have FG : Fr (hideAll s.heap (frs outer)) L' h₅ _ := ⟨hsm15.ns F'.ns, hfl5.1, by rw [hideAll_size]; exact F'.above⟩
    have XG : (hd.heap_39 w.params).In (hideAll s.heap (frs outer)) := X.keeps hG
    have TG := T.keeps hG
    clear N' X' T'
    have Fb := F'
    clear F'
    rcases hr with ⟨er, rfl, rfl⟩ | ⟨er, rfl, rfl⟩ | ⟨x, er, en, rfl, mm, rfl⟩
    · refine handler_as (C := .ref 44) X5 hfl5.there (by kts_exm) ?_ ?_
      · k_steps
      · refine lands_againW hfl5 fun h₆ hfl6 hsm6 => ?_
        obtain ⟨g, news, TT, F6, N6, G6⟩ := landX hdict Fb hfl6 (htup5.of_slots hsm6) hnt (hsm15.trans hsm6)
        have X6 := X.keeps (stays_turn st hfs TT)
        have T6 := T.keeps (stays_turn st hfs TT)
        clear FG XG TG X T
        k_steps
        refine' own_got (u := t1) ?kX ?kF ?kN (by assumption) ?kf ?ks ?ku ?_
        (case kX => assumption)
        (case kF => assumption)
        (case kN => assumption)
        (case kf => k_is)
        (case ks => k_is)
        (case ku => (show un + 3 + 2 < cLine; omega))
        k_steps
        rename Fr g _ _ _ => F7
        rename News _ _ _ _ => N7
        refine name_goes F7 N7 fun h' m' F8 N8 => ?_
        try dsimp only
        exact hL _ _ _ _ (.inl ⟨er, _, rfl⟩) ⟨g, TT, F8.keep⟩ (fresh_of_turn TT (N8 _ (.head _)).2.2) (N8 _ (.head _)).1
    · refine handler_miss (C := .ref 44) X5 hfl5.there (by kts_exm) ?_ ?_
      · k_steps
      refine handler_as (C := .ref 56) X5 hfl5.there (by kts_exm) ?_ ?_
      · k_steps
      · refine lands_againW hfl5 fun h₆ hfl6 hsm6 => ?_
        obtain ⟨g, news, TT, F6, N6, G6⟩ := landX hdict Fb hfl6 (htup5.of_slots hsm6) hnt (hsm15.trans hsm6)
        have X6 := X.keeps (stays_turn st hfs TT)
        have T6 := T.keeps (stays_turn st hfs TT)
        clear FG XG TG X T
        k_steps
        refine' own_got (u := t1) ?kX ?kF ?kN (by assumption) ?kf ?ks ?ku ?_
        (case kX => assumption)
        (case kF => assumption)
        (case kN => assumption)
        (case kf => k_is)
        (case ks => k_is)
        (case ku => (show un + 3 + 2 < cLine; omega))
        k_steps
        rename Fr g _ _ _ => F7
        rename News _ _ _ _ => N7
        refine name_goes F7 N7 fun h' m' F8 N8 => ?_
        try dsimp only
        exact hL _ _ _ _ (.inr (.inl ⟨er, _, rfl⟩)) ⟨g, TT, F8.keep⟩ (fresh_of_turn TT (N8 _ (.head _)).2.2) (N8 _ (.head _)).1
    · refine handler_miss (C := .ref 44) X5 hfl5.there (by kts_exm) ?_ ?_
      · k_steps
      refine handler_miss (C := .ref 56) X5 hfl5.there (by kts_exm) ?_ ?_
      · k_steps
      refine handler_plain (C := .type "ValueError") X5 hfl5.there (by kts_exm) ?_ ?_
      · k_steps
      · refine lands_againW hfl5 fun h₆ hfl6 hsm6 => ?_
        obtain ⟨g, news, TT, F6, N6, G6⟩ := landX hdict Fb hfl6 (htup5.of_slots hsm6) hnt (hsm15.trans hsm6)
        have X6 := X.keeps (stays_turn st hfs TT)
        have T6 := T.keeps (stays_turn st hfs TT)
        clear FG XG TG X T
        k_steps
        rename Fr g _ _ _ => F7
        rename News _ _ _ _ => N7
        try dsimp only
        exact hL _ _ _ _ (.inr (.inr ⟨_, er, en, _, rfl⟩)) ⟨g, TT, F7.keep⟩ (fresh_of_turn TT (N7 _ (.head _)).2.2) (N7 _ (.head _)).1
end Mine
end
theorem Mine.fresh_R4 : True ∧ True := by
  w_on
  w_top off
  walk1
  all_goals trivial
/-! text R4 -/
section
open PySem PySem.W PyProof.Rows PySem.Spec PySem.Calls
namespace Mine
/-- the frames on the stack lie in the heap -/
noncomputable def Frames (h : Heap) (outer : List Env) : Prop := ∀ env ∈ outer, env.scope.kind ≠ .module ∧ ∃ L o es n, env.frame = some L ∧ h.get? L = some o ∧ o.data = .dict es n
theorem Frames.dicts {h : Heap} {outer : List Env} (F : Frames h outer) : KtsDicts (frs outer) h := fun b hb => by
  obtain ⟨env, he, hf⟩ := List.mem_filterMap.mp hb
  obtain ⟨_, L, o, es, n, h1, h2, h3⟩ := F env he
  rw [hf] at h1; cases h1
  exact ⟨o, es, n, h2, h3⟩
theorem Frames.fun' {h G : Heap} : ∀ {outer : List Env}, Frames h outer → (∀ b ∈ frs outer, G.get? b = none) → h.FunFrames G outer
  | [], _, _ => trivial
  | env :: rest, F, hn => by
    obtain ⟨hk, L, o, es, n, h1, h2, h3⟩ := F env (.head _)
    refine ⟨hk, ⟨L, o, h1, hn L (List.mem_filterMap.mpr ⟨env, .head _, h1⟩), h2, fun vs q => by rw [h3] at q; cases q⟩, Frames.fun' (fun e he => F e (.tail _ he)) fun b hb => hn b ?_⟩
    obtain ⟨e, he, hf⟩ := List.mem_filterMap.mp hb
    exact List.mem_filterMap.mpr ⟨e, .tail _ he, hf⟩
theorem Frames.funs {h : Heap} {outer : List Env} (F : Frames h outer) : h.FunFrames (hideAll h (frs outer)) outer := F.fun' fun _ hb => hideAll_none _ hb
theorem Frames.keeps {h h' : Heap} {outer : List Env} (F : Frames h outer) (st : h.StaysIn h') : Frames h' outer := fun env he => by
  obtain ⟨hk, L, o, es, n, h1, h2, h3⟩ := F env he
  exact ⟨hk, L, o, es, n, h1, st _ _ h2, h3⟩
theorem Frames.push {B h : Heap} {outer : List Env} {L a : Addr} {m : Str → Option Value} {name : Str} {scope : Scope} {cd : Value} (F : Frames h outer) (f : Fr B L h m) (hk : scope.kind = .function) : Frames h (envOf name scope L a cd :: outer) := fun env he => by
  rcases List.mem_cons.mp he with rfl | he
  · obtain ⟨oL, es, n, hL, hd, _⟩ := f.ns
    exact ⟨by show scope.kind ≠ .module; rw [hk]; decide, L, oL, es, n, rfl, hL, hd⟩
  · exact F env he
theorem ns_slots {h h' : Heap} {a : Addr} {m : Str → Option Value} (hn : h.Ns a m) (x : ∀ o, h.get? a = some o → ∃ sl, h'.get? a = some { o with slots := sl }) : h'.Ns a m := by
  obtain ⟨o, es, ep, ho, hd, r⟩ := hn
  obtain ⟨sl, hs⟩ := x o ho
  exact ⟨_, es, ep, hs, hd, r⟩
/-- a frame over a base that holds the outer frames, when the frames' slots have changed -/
theorem growF {fs : List Addr} {B h h' : Heap} {L : Addr} {m : Str → Option Value} (F : Fr B L h m) (Gr : Grow (L :: fs) h h') (hfs : ∀ b ∈ fs, ∃ o, B.get? b = some o) :
    ∃ g, KtsTurn fs B g ∧ Fr g L h' m := by
  obtain ⟨g₁, T1, S1⟩ := Gr
  have hL : ∀ b o, B.get? b = some o → b ≠ L := fun b o e q => by rw [q, kts_self F] at e; cases e
  obtain ⟨T2, S2⟩ := kts_turn_at (h := h') (fs := fs) (g := B) hfs
    (fun b o e hb => S1 _ _ (T1.other b o (F.keep b o e) fun hm => (List.mem_cons.mp hm).elim (hL b o e) hb))
    (fun b o e hb => by obtain ⟨sl, hs⟩ := T1.frame b o (F.keep b o e) (.tail _ hb); exact ⟨sl, S1 _ _ hs⟩)
  refine ⟨_, T2, ns_slots F.ns fun o ho => ?_, S2, by rw [T2.size]; exact F.above⟩
  obtain ⟨sl, hs⟩ := T1.frame L o ho (.head _)
  exact ⟨sl, S1 _ _ hs⟩
/-- the law's own frame -/
theorem growL {B h h' : Heap} {L : Addr} {m : Str → Option Value} {news : List (Addr × Obj)} (F : Fr B L h m) (N : News B L h news) (Gr : Grow [L] h h') : Fr B L h' m ∧ News B L h' news := by
  obtain ⟨g₁, T1, S1⟩ := Gr
  have hL : ∀ b o, B.get? b = some o → b ≠ L := fun b o e q => by rw [q, kts_self F] at e; cases e
  refine ⟨⟨ns_slots F.ns fun o ho => ?_, fun b o e => S1 _ _ (T1.other b o (F.keep b o e) fun hm => hL b o e (List.mem_singleton.mp hm)), F.above⟩, fun p hp => ⟨S1 _ _ (T1.other _ _ (N p hp).1 fun hm => (N p hp).2.1 (List.mem_singleton.mp hm)), (N p hp).2⟩⟩
  obtain ⟨sl, hs⟩ := T1.frame L o ho (.head _)
  exact ⟨sl, S1 _ _ hs⟩
theorem news_one {B h₁ h' : Heap} {L T : Addr} {o : Obj} {m : Str → Option Value} (F : Fr B L h₁ m) (n1 : h₁.get? T = none) (n2 : h'.get? T = some o) : News B L h' [(T, o)] := fun p hp => by
  cases List.mem_singleton.mp hp
  refine ⟨n2, fun q => ?_, fresh_of_keeps F.keep n1⟩
  obtain ⟨_, _, _, hL, _⟩ := F.ns
  rw [← q] at hL
  rw [n1] at hL; cases hL
theorem frames_fresh {H₀ B h : Heap} {L : Addr} {m : Str → Option Value} (F : Fr B L h m) (st : H₀.StaysIn B) : H₀.get? L = none := fresh_of_keeps st (kts_self F)
set_option maxRecDepth 100000 in
set_option maxHeartbeats 8000000 in
theorem step_c {w : World} {loose : List Str} {mean : ExcName → Option Value} {mg mb : Str → Option Value} {dp un : Nat} {gd : Option (List Code)} {outer : List Env} {H₀ : Heap} {s : Shared} {Q E : Value → Shared → Prop}
   (l : List (Str × Tok)) (nR : Nat) (host : Str) (first port : Int) (t0 t2 t3 : Tok) (R D : Addr) (n : Nat) (X : (hd.heap_39 w.params).In H₀) (T : Top hd.view_39 loose mean mg mb H₀) (st : H₀.StaysIn s.heap) (hdp : dp + 2 < recursionLimit) (hun : un + 70 < cLine)
   (hR : s.heap.get? R = some (listOf (strValues l).toArray nR)) (hR0 : H₀.get? R = none) (hD : s.heap.get? D = some { cls := .type "tuple", data := .seq #[.str host t2, .int port t3] n }) (hD0 : H₀.get? D = none)
   (h7 : l.length = 7) (hp0 : 0 ≤ port - first) (hp1 : port - first < 7) (hpf : 0 ≤ first) (hpb : first ≤ 1000000)
   (r : Str) (hr : (l.map (·.1)).getD (port - first).toNat Str.empty = r) (hlen : r.length ≤ 500) (hfs : ∀ a ∈ frs outer, H₀.get? a = none) (hfr : Frames s.heap outer)
   (hx : ∀ x, parseP r = .text x → x.length ≤ 500 ∧ (PySem.intText? x = none → ((PySem.numSeenOf x).length == (PySem.numTextOf x).length) = true ∧ (reprText x).length ≤ sizeLine))
   (hQ : ∀ k x T' h' tk' tk'', parseP r = .text x → PySem.intText? x = some k → Grow (frs outer) s.heap h' → s.heap.get? T' = none → h'.get? T' = some { cls := .type "tuple", data := .seq #[.str host t2, .int k tk''] } → Q (.ref T') { s with heap := h', toks := tk' })
   (hL : ∀ t1 vs h' tk', Told (parseP r) r t1 vs → Grow (frs outer) s.heap h' → Q (.ref D) { s with heap := h', toks := tk' }) :
   wpC (model PySem.Challenge.rw_tl0019_01.row.prog w) (Ar dp un gd (some outer)) (call (.ref 159) [.ref R, .int first t0, .ref D]) Q E s := by
  revert X
  k_fill
  intro X
  refine' enterC (binds := [(Str.ofString "replies", .ref R), (Str.ofString "first", .int first t0), (Str.ofString "at", .ref D)]) [(R, listOf (strValues l).toArray nR), (D, ({ cls := .type "tuple", data := .seq #[.str host t2, .int port t3] n } : Obj))] X T st ?ho ?hcd ?hr ?hb ?hl ?hn ?_ ?c2 ?c3 ?c4 ?c5
  (case ho => k_dflt k_is); (case hcd => k_dflt k_is); (case hr => exact Nat.lt_of_succ_lt (Nat.lt_of_succ_lt hdp)); (case hb => exact BindsTo.of_eq rfl); (case hl => exact locs rfl); (case c2 => exact rfl); (case c3 => exact rfl); (case c4 => exact rfl); (case c5 => decide)
  (case hn => intro p hp; rcases List.mem_cons.mp hp with rfl | hp; exact ⟨hR0, hR⟩; cases List.mem_singleton.mp hp; exact ⟨hD0, hD⟩)
  intro B' L' h₁ tk₁ eB eL X' T' F' N' lt
  have hsa : StrsAre (strValues l) (l.map (·.1)) := strsAre_of_values l
  refine C.execs_cons (C.Assign_Name (C.Call_Name ?_))
  k_steps
  refine C.callWith_K (K := hd.heap_39 w.params) ?_ ?_
  (k_dflt k_is)
  k_steps
  rw [hr]
  have hw : ∀ p ∈ [(R, listOf (strValues l).toArray nR), (D, ({ cls := .type "tuple", data := .seq #[.str host t2, .int port t3] n } : Obj))], s.heap.get? p.1 = some p.2 := by
    intro p hp; rcases List.mem_cons.mp hp with rfl | hp; exact hR; cases List.mem_singleton.mp hp; exact hD
  have hst1 := stays_of hw (eB ▸ F') (eB ▸ N') (fun _ hp => hp)
  have Fs : Fr s.heap L' h₁ _ := ⟨F'.ns, hst1, by rw [eL]; exact Nat.le_refl _⟩
  have hfin : ∀ p ∈ frs outer, ∃ o, s.heap.get? p = some o := fun b hb => by obtain ⟨o, _, _, ho, _⟩ := hfr.dicts b hb; exact ⟨o, ho⟩
  have hL0 : H₀.get? L' = none := frames_fresh Fs st
  refine' hear_c (dp := dp + 1) (un := un + 3) (H₀ := H₀) r host port _ t2 t3 D n X T ?p1 (by omega) (by omega) ?p2 hD0 hlen ?p3 ?p4 ?p5 hx ?_ ?_
  case p1 => exact fun b o e => hst1 b o (st b o e)
  case p2 => exact hst1 _ _ hD
  case p3 =>
    intro a ha
    rcases List.mem_cons.mp (show a ∈ L' :: frs outer from ha) with rfl | ha
    · exact hL0
    · exact hfs a ha
  case p4 =>
    refine Frames.dicts ?_
    exact Frames.push (hfr.keeps hst1) Fs rfl
  case p5 =>
    refine Frames.funs ?_
    exact Frames.push (hfr.keeps hst1) Fs rfl
  · intro k x Tp h' tk' tk'' e1 e2 st' n1 n2
    have F2 : Fr s.heap L' h' _ := Fs.of_stays (fun b o e => st' b o (hst1 b o e)) (Heap.UpToSlots.of_keeps st')
    have N2 := news_one Fs n1 n2
    have X2 := X.keeps st
    have T2 := T.keeps st
    clear F' N' X' T' X T Fs
    k_steps
    refine C.of ?_
    k_steps
    try dsimp only
    rename Fr s.heap _ _ _ => F3
    rename News s.heap _ _ _ => N3
    exact hQ _ _ _ _ _ _ e1 e2 (.of_stays F3.keep) (N3 _ (.head _)).2.2 (N3 _ (.head _)).1
  · intro vs Tp h' tk' ht Gr n1 n2
    obtain ⟨g, TT, F2⟩ := growF Fs Gr hfin
    have N2' := news_one Fs n1 n2
    have N2 : News g L' h' [(Tp, listOf vs.toArray 0)] := fun p hp => ⟨(N2' p hp).1, (N2' p hp).2.1, TT.none_ _ (N2' p hp).2.2⟩
    have X2 := X.keeps (stays_turn st hfs TT)
    have T2 := T.keeps (stays_turn st hfs TT)
    clear F' N' X' T' X T Fs N2'
    k_steps
    refine C.of ?_
    k_steps
    try dsimp only
    rename Fr g _ _ _ => F3
    exact hL _ _ _ _ ht ⟨g, TT, F3.keep⟩
end Mine
end
theorem Mine.fresh_B3 : True ∧ True := by
  w_on
  w_top off
  walk1
  all_goals trivial
/-! text B3 -/
section
open PySem PySem.W PyProof.Rows PySem.Spec PySem.Calls
namespace Mine
section
variable {prog : Program} {w : World} {A : Around} {E : Value → Shared → Prop} {s : Shared} {K : Frag} {p : Program} {loose : List PySem.Str} {mean : ExcName → Option Value} {mg mb : PySem.Str → Option Value}
  {name qual : PySem.Str} {params : Arguments} {body : List Stmt} {scope : Scope} {dV kV doc pm cdv ct oc : Value} {an od : Option Addr} {osl : Array (Option Value)} {f : Addr} {pos : List Value} {binds : List (PySem.Str × Value)}
/-- entering a def that has cells, under the caller's code -/
theorem enterL {Q : Value → Shared → Prop} (X : K.In s.heap) (T : Top p loose mean mg mb s.heap)
    (ho : K.lookup f = some ⟨oc, od, .func (fnOf name qual params body scope dV kV doc pm an cdv ct), osl⟩) (hcd : codeIn K cdv qual = true) (hroom : A.depth < recursionLimit)
    (hbind : BindsTo s (fnOf name qual params body scope dV kV doc pm an cdv ct) ⟨pos, []⟩ binds)
    (hkind : ∀ n, ∀ x ∈ binds, scope.names.lookup x.1 = some .local ∨ (scope.names.lookup x.1 = some .cell ∧ ((cellsFrom n scope.names []).lookup x.1).isSome = true))
    (hnd : ((cellsFrom 0 scope.names []).map (·.1)).Nodup)
    (h : ∀ L h₁ tk cells, L = s.heap.objs.size → Fr s.heap L h₁ (bindL (envOfC qual scope L f cdv).kindOf binds fun _ => none) → News s.heap L h₁ cells →
      CellsAre (bindC (envOfC qual scope L f cdv).kindOf binds fun _ => none) (cellsFrom (L + 1) scope.names []) cells →
      wpC (model prog w) (A.deeper (envOfC qual scope L f cdv)) (execs body (envOfC qual scope L f cdv))
        (fun fl s' => Q (match fl with | .ret v => v | _ => .none) s')
        (fun e s' => wpAny (model prog w) (A.deeper (envOfC qual scope L f cdv)) (leaving (envOfC qual scope L f cdv) e) (fun _ s'' => E e s'') (fun e' s'' => E e' s'') s') { s with heap := h₁, toks := tk })
    (hco : scope.isCoroutine = false) (hgen : scope.isGenerator = false) (hk : scope.kind = .function) : wpC (model prog w) A (call (.ref f) pos) Q E s := by
  refine C.call (C.call_function (fd := fnOf name qual params body scope dV kV doc pm an cdv ct) (body := body) hroom (X _ _ ho) rfl hco hgen rfl (codeRec_of X hcd) (hbind _ _ _ _ ?_))
  refine wpAny_newFunctionEnv_cells hk (hkind _) fun env' he s' x => ?_
  subst he
  refine ⟨T.nolimit.keeps x.toInCall.keep, C.func ?_⟩
  obtain ⟨h₁, tk, rfl, _⟩ := x.done
  have hk₁ := x.toInCall.keep
  obtain ⟨cells, NC, Y⟩ := Cl.news (h₀ := s.heap) (Nat.le_refl _) fun n c hm => ⟨x.cell n c (lookup_of_mem_nodup (cellsFrom_names scope.names 0 (s.heap.objs.size + 1) [] [] rfl ▸ hnd) hm), x.above n c hm⟩
  exact h s.heap.objs.size h₁ tk cells rfl ⟨x.toInCall.ns, hk₁, Nat.le_refl _⟩ NC Y
end
end Mine
end
theorem Mine.fresh_LH : True ∧ True := by
  w_on
  w_top off
  walk1
  all_goals trivial
/-! text LH -/
section
open PySem PySem.W PyProof.Rows PySem.Spec PySem.Calls
namespace Mine
/-- behind a statement of the law: the frame reads l, the ledger is news -/
noncomputable def NxN (B : Heap) (L : Addr) (s : Shared) (P : List (Str × Value) → List (Addr × Obj) → Prop) (f : Flow) (s' : Shared) : Prop :=
  f = .next ∧ ∃ h' tk' l news, s' = { s with heap := h', toks := tk' } ∧ Fr B L h' (fun y => List.lookup y l) ∧ News B L h' news ∧ P l news
section
variable {B : Heap} {L : Addr} {s : Shared} {P : List (Str × Value) → List (Addr × Obj) → Prop} {n : Str} {v : Value} {l : List (Str × Value)} {news news' : List (Addr × Obj)} {h' : Heap} {tk' : Nat}
theorem NxN.of (F : Fr B L h' (fun y => List.lookup y l)) (N : News B L h' news') (p : P l news) (hs : ∀ p ∈ news, p ∈ news') : NxN B L s P .next { s with heap := h', toks := tk' } :=
  ⟨rfl, h', tk', l, news, rfl, F, fun p hp => N p (hs p hp), p⟩
theorem NxN.one (F : Fr B L h' (fun y => if y = n then some v else List.lookup y l)) (N : News B L h' news') (p : P ((n, v) :: l) news) (hs : ∀ p ∈ news, p ∈ news') : NxN B L s P .next { s with heap := h', toks := tk' } :=
  ⟨rfl, h', tk', _, news, rfl, lookup_if n v l ▸ F, fun p hp => N p (hs p hp), p⟩
end
theorem NxN.cont {B : Heap} {L : Addr} {s : Shared} {P : List (Str × Value) → List (Addr × Obj) → Prop} {G : Flow → Shared → Prop} (k : ∀ h' tk' l news, Fr B L h' (fun y => List.lookup y l) → News B L h' news → P l news → G .next { s with heap := h', toks := tk' }) : ∀ f s', NxN B L s P f s' → G f s' := by
  rintro f s' ⟨rfl, h', tk', l, news, rfl, F, N, p⟩
  exact k h' tk' l news F N p
noncomputable abbrev cellOf (o : Obj) (v : Value) : Prop := o.data = .cell (some v)
/-- the law's def, as the written part holds it -/
noncomputable def LawDef (K : Frag) (qual : Str) (body : List Stmt) (scope : Scope) (cdv : Value) : Prop :=
  ∃ oc od name params dV kV doc pm an ct osl, K.lookup 164 = some ⟨oc, od, .func (fnOf name qual params body scope dV kV doc pm an cdv ct), osl⟩
theorem LawDef.eq {K : Frag} {qual qual' : Str} {body body' : List Stmt} {scope scope' : Scope} {cdv cdv' oc dV kV doc pm ct : Value} {od an : Option Addr} {name : Str} {params : Arguments} {osl : Array (Option Value)}
    (h : LawDef K qual body scope cdv) (e : K.lookup 164 = some ⟨oc, od, .func (fnOf name qual' params body' scope' dV kV doc pm an cdv' ct), osl⟩) : qual = qual' ∧ body = body' ∧ scope = scope' ∧ cdv = cdv' := by
  obtain ⟨_, _, _, _, _, _, _, _, _, _, _, h⟩ := h
  rw [h] at e
  injection e with e
  injection e with _ _ e _
  injection e with e
  injection e with e1 e2 e3 e4 e5 e6 e7 e8 e9 e10 e11 e12
  exact ⟨e2, by injection e4, e5, by assumption⟩
end Mine
end
section
open PySem PySem.W PyProof.Rows PySem.Spec PySem.Calls Mine
local macro_rules | `(tactic| k_steps) => `(tactic| repeat' (first | (k_unfold; (try dsimp only)) | walk1 | (dsimp only; walk1) | fail "no step"))
theorem Mine.fresh_LA0 : True ∧ True := by
  w_on
  w_top off
  walk1
  all_goals trivial
/-! text LA0 -/
section
open PySem PySem.W PyProof.Rows PySem.Spec PySem.Calls
namespace Mine
set_option maxRecDepth 100000 in
set_option maxHeartbeats 8000000 in
theorem ch0 {w : World} {loose : List Str} {mean : ExcName → Option Value} {mg mb : Str → Option Value} {dp un : Nat} {gd : Option (List Code)} {fr : Option (List Env)} {B : Heap} {L : Addr} {s : Shared} {qual : Str} {body : List Stmt} {scope : Scope} {cdv : Value} {lref : Addr} {vs : List Value} {sc : List Int} {o1 o2 o3 o4 o5 o6 : Obj}
    (LD : LawDef (hd.heap_39 w.params) qual body scope cdv) (X : (hd.heap_39 w.params).In B) (T : Top hd.view_39 loose mean mg mb B) (hdp : dp + 10 < recursionLimit) (hun : un + 100 < cLine)
    (hcond : ¬((63 : Nat) : Int) < ((sc.length : Nat) : Int)) (hlay : (PyData.list (List.map PyData.int sc)).layable0 = true) (hIL : B.IsList lref vs.toArray) (hIA : IntsAre vs sc) (d1 : o1.data = .cell none) (d2 : o2.data = .cell none) (d3 : o3.data = .cell none) (d4 : o4.data = .cell none) (d5 : o5.data = .cell none) (d6 : o6.data = .cell none)
    (F : Fr B L s.heap (fun y => List.lookup y [(Str.ofString "script", .ref lref)])) (N : News B L s.heap [(L + 1 + 1 + 1 + 1 + 1 + 1, o1), (L + 1 + 1 + 1 + 1 + 1, o2), (L + 1 + 1 + 1 + 1, o3), (L + 1 + 1 + 1, o4), (L + 1 + 1, o5), (L + 1, o6)]) :
    wpAny (model PySem.Challenge.rw_tl0019_01.row.prog w) (Ar dp un gd fr) (execs ((body.drop 0).take 1) (envOfC qual scope L 164 cdv)) (NxN B L s (fun l news => ∃ D ys n o6', l = [(Str.ofString "script", .ref lref)] ∧ IntsAre ys ((sc.take 7).map fun k => k.fmod (10 ^ Int.toNat 6)) ∧ cellOf o6' (.ref D) ∧
      news = [(D, listOf ys.toArray n), (L + 1 + 1 + 1 + 1 + 1 + 1, o1), (L + 1 + 1 + 1 + 1 + 1, o2), (L + 1 + 1 + 1 + 1, o3), (L + 1 + 1 + 1, o4), (L + 1 + 1, o5), (L + 1, o6')])) (fun _ _ => False) s := by
  revert X
  k_fill
  intro X
  refine hideA ?_
  intro Q9 hQ9
  have hE := LawDef.eq LD (by k_dflt k_is)
  obtain ⟨rfl, rfl, rfl, rfl⟩ := hE
  clear LD
  dsimp only [List.drop, List.take]
  k_steps
  refine hQ9 _ _ ?_
  refine NxN.of (by assumption) (by assumption) ⟨_, ys, ys.length, _, rfl, by assumption, by assumption, rfl⟩ ?_
  (repeat' (first | (refine List.forall_mem_cons.mpr ⟨?_, ?_⟩) | exact List.forall_mem_nil _ | k_mem | exact List.Mem.head _ | exact List.Mem.tail _ (List.Mem.head _)))
theorem ch0k {w : World} {loose : List Str} {mean : ExcName → Option Value} {mg mb : Str → Option Value} {dp un : Nat} {gd : Option (List Code)} {fr : Option (List Env)} {B : Heap} {L : Addr} {s : Shared} {qual : Str} {body : List Stmt} {scope : Scope} {cdv : Value} {lref : Addr} {vs : List Value} {sc : List Int} {o1 o2 o3 o4 o5 o6 : Obj} {Q9 : Flow → Shared → Prop} {E9 : Value → Shared → Prop}
    (LD : LawDef (hd.heap_39 w.params) qual body scope cdv) (X : (hd.heap_39 w.params).In B) (T : Top hd.view_39 loose mean mg mb B) (hdp : dp + 10 < recursionLimit) (hun : un + 100 < cLine) (hcond : ¬((63 : Nat) : Int) < ((sc.length : Nat) : Int)) (hlay : (PyData.list (List.map PyData.int sc)).layable0 = true) (hIL : B.IsList lref vs.toArray) (hIA : IntsAre vs sc) (d1 : o1.data = .cell none) (d2 : o2.data = .cell none) (d3 : o3.data = .cell none) (d4 : o4.data = .cell none) (d5 : o5.data = .cell none) (d6 : o6.data = .cell none) (F : Fr B L s.heap (fun y => List.lookup y [(Str.ofString "script", .ref lref)])) (N : News B L s.heap [(L + 1 + 1 + 1 + 1 + 1 + 1, o1), (L + 1 + 1 + 1 + 1 + 1, o2), (L + 1 + 1 + 1 + 1, o3), (L + 1 + 1 + 1, o4), (L + 1 + 1, o5), (L + 1, o6)])
    (k9 : ∀ (h9 : Heap) (tk9 : Nat) D ys n o6', Fr B L h9 (fun y => List.lookup y ([(Str.ofString "script", .ref lref)])) → News B L h9 ([(D, listOf ys.toArray n), (L + 1 + 1 + 1 + 1 + 1 + 1, o1), (L + 1 + 1 + 1 + 1 + 1, o2), (L + 1 + 1 + 1 + 1, o3), (L + 1 + 1 + 1, o4), (L + 1 + 1, o5), (L + 1, o6')]) → (IntsAre ys ((sc.take 7).map fun k => k.fmod (10 ^ Int.toNat 6))) → (cellOf o6' (.ref D)) → Q9 .next { s with heap := h9, toks := tk9 }) :
    wpAny (model PySem.Challenge.rw_tl0019_01.row.prog w) (Ar dp un gd fr) (execs ((body.drop 0).take 1) (envOfC qual scope L 164 cdv)) Q9 E9 s :=
  wpAny_mono (ch0 LD X T hdp hun hcond hlay hIL hIA d1 d2 d3 d4 d5 d6 F N) (NxN.cont (fun h9 tk9 l9 news9 f9 n9 => ex4k (fun D ys n o6' => and4k (fun e90 q91 q92 e93 => by subst e90 e93; exact k9 h9 tk9 D ys n o6' f9 n9 q91 q92)))) (fun _ _ (e : False) => e.elim)
end Mine
end
theorem Mine.fresh_LA1 : True ∧ True := by
  w_on
  w_top off
  walk1
  all_goals trivial
/-! text LA1 -/
section
open PySem PySem.W PyProof.Rows PySem.Spec PySem.Calls
namespace Mine
theorem ints7 {a b c d e f g : Int} {t1 t2 t3 t4 t5 t6 t7 : Tok} : IntsAre [.int a t1, .int b t2, .int c t3, .int d t4, .int e t5, .int f t6, .int g t7] [a, b, c, d, e, f, g] := .cons _ _ (.cons _ _ (.cons _ _ (.cons _ _ (.cons _ _ (.cons _ _ (.cons _ _ .nil))))))
set_option maxRecDepth 100000 in
set_option maxHeartbeats 8000000 in
theorem ch1 {w : World} {loose : List Str} {mean : ExcName → Option Value} {mg mb : Str → Option Value} {dp un : Nat} {gd : Option (List Code)} {fr : Option (List Env)} {B : Heap} {L : Addr} {s : Shared} {qual : Str} {body : List Stmt} {scope : Scope} {cdv : Value} {D : Addr} {ys : List Value} {ks : List Int} {o1 o2 o3 o4 o5 o6 : Obj} {n : Nat} {l : List (Str × Value)}
    (LD : LawDef (hd.heap_39 w.params) qual body scope cdv) (X : (hd.heap_39 w.params).In B) (T : Top hd.view_39 loose mean mg mb B) (hdp : dp + 10 < recursionLimit) (hun : un + 100 < cLine)
    (hI : IntsAre ys ks) (hk : ks.length ≤ 7) (hA : (@Ne Nat (L + 1) D ∧ @Ne Nat (L + 1 + 1) D ∧ @Ne Nat (L + 1 + 1 + 1) D ∧ @Ne Nat (L + 1 + 1 + 1 + 1) D ∧ @Ne Nat (L + 1 + 1 + 1 + 1 + 1) D ∧ @Ne Nat (L + 1 + 1 + 1 + 1 + 1 + 1) D)) (d6 : o6.data = .cell (some (.ref D)))
    (F : Fr B L s.heap (fun y => List.lookup y l)) (N : News B L s.heap [(D, listOf ys.toArray n), (L + 1 + 1 + 1 + 1 + 1 + 1, o1), (L + 1 + 1 + 1 + 1 + 1, o2), (L + 1 + 1 + 1 + 1, o3), (L + 1 + 1 + 1, o4), (L + 1 + 1, o5), (L + 1, o6)]) :
    wpAny (model PySem.Challenge.rw_tl0019_01.row.prog w) (Ar dp un gd fr) (execs ((body.drop 1).take 1) (envOfC qual scope L 164 cdv)) (NxN B L s (fun l' news => ∃ D' ys' n' o6', (@Ne Nat (L + 1) D' ∧ @Ne Nat (L + 1 + 1) D' ∧ @Ne Nat (L + 1 + 1 + 1) D' ∧ @Ne Nat (L + 1 + 1 + 1 + 1) D' ∧ @Ne Nat (L + 1 + 1 + 1 + 1 + 1) D' ∧ @Ne Nat (L + 1 + 1 + 1 + 1 + 1 + 1) D') ∧ l' = l ∧ IntsAre ys' (ks ++ [3, 6970, 15924, 2913, 6071, 2244, 13900].drop ks.length) ∧ o6'.data = .cell (some (.ref D')) ∧
      news = [(D', listOf ys'.toArray n'), (L + 1 + 1 + 1 + 1 + 1 + 1, o1), (L + 1 + 1 + 1 + 1 + 1, o2), (L + 1 + 1 + 1 + 1, o3), (L + 1 + 1 + 1, o4), (L + 1 + 1, o5), (L + 1, o6')])) (fun _ _ => False) s := by
  revert X
  k_fill
  intro X
  refine hideA ?_
  intro Q9 hQ9
  have hE := LawDef.eq LD (by k_dflt k_is)
  obtain ⟨rfl, rfl, rfl, rfl⟩ := hE
  clear LD
  dsimp only [List.drop, List.take]
  iterate 33 (first | (k_unfold; (try dsimp only)) | walk1 | (dsimp only; walk1))
  try dsimp only
  k_here
  refine kba_turn (value' := PySem.Expr.Name (PySem.Str.ofString "_") ⟨0, 0, 0, 0⟩) (fun _ => rfl) ?_
  with_reducible show wpAny _ _ (subscriptTail _ (PySem.Expr.Slice (some _) none none _) (Value.ref _) (Value.ref _)) _ _ _
  refine' kmk_slice_ints (s := ⟨_, _, _, _, _⟩) (vs := [_, _, _, _, _, _, _]) ?z9F ?z9N ?z9l ?z9p ?z9q ints7 (slice_ints_fromW ints7 ?z9h0) rfl ?_ ?z9s ?z9t ?z9z
  (case z9F => k_asm)
  (case z9N => k_asm)
  (case z9l => kmk_list)
  (case z9p => kmk_part)
  (case z9q => kmk_part)
  (case z9h0 => omega)
  (case z9s => with_unfolding_all rfl)
  (case z9t => kmk_pure)
  (case z9z => kmk_size)
  intro D' ws' h' F' N' l1 hI' hC' hL'
  (try k_lt l1)
  repeat' (first | (k_unfold; (try dsimp only)) | (k_here; (with_reducible show wpAny _ _ (subscriptTail _ (PySem.Expr.Slice (some _) none none _) (Value.ref _) (Value.ref _)) _ _ _); (refine' kmk_slice_ints (s := ⟨_, _, _, _, _⟩) (vs := [_, _, _, _, _, _, _]) ?z9F ?z9N ?z9l ?z9p ?z9q ints7 (slice_ints_fromW ints7 ?z9h0) rfl ?_ ?z9s ?z9t ?z9z; (case z9F => k_asm); (case z9N => k_asm); (case z9l => kmk_list); (case z9p => kmk_part); (case z9q => kmk_part); (case z9h0 => omega); (case z9s => with_unfolding_all rfl); (case z9t => kmk_pure); (case z9z => kmk_size)); intro D' ws' h' F' N' l1 hI' hC' hL'; (try k_lt l1)) | walk1 | (dsimp only; walk1) | fail "no step")
  rename IntsAre _ (ks ++ _) => hW
  refine hQ9 _ _ ?_
  refine NxN.of (by assumption) (by assumption) ⟨_, _, 0, _, ?y9, rfl, hW, by assumption, rfl⟩ ?_
  (case y9 => omega)
  (repeat' (first | (refine List.forall_mem_cons.mpr ⟨?_, ?_⟩) | exact List.forall_mem_nil _ | k_mem | exact List.Mem.head _ | exact List.Mem.tail _ (List.Mem.head _)))
theorem ch1k {w : World} {loose : List Str} {mean : ExcName → Option Value} {mg mb : Str → Option Value} {dp un : Nat} {gd : Option (List Code)} {fr : Option (List Env)} {B : Heap} {L : Addr} {s : Shared} {qual : Str} {body : List Stmt} {scope : Scope} {cdv : Value} {D : Addr} {ys : List Value} {ks : List Int} {o1 o2 o3 o4 o5 o6 : Obj} {n : Nat} {l : List (Str × Value)} {Q9 : Flow → Shared → Prop} {E9 : Value → Shared → Prop}
    (LD : LawDef (hd.heap_39 w.params) qual body scope cdv) (X : (hd.heap_39 w.params).In B) (T : Top hd.view_39 loose mean mg mb B) (hdp : dp + 10 < recursionLimit) (hun : un + 100 < cLine) (hI : IntsAre ys ks) (hk : ks.length ≤ 7) (hA : (@Ne Nat (L + 1) D ∧ @Ne Nat (L + 1 + 1) D ∧ @Ne Nat (L + 1 + 1 + 1) D ∧ @Ne Nat (L + 1 + 1 + 1 + 1) D ∧ @Ne Nat (L + 1 + 1 + 1 + 1 + 1) D ∧ @Ne Nat (L + 1 + 1 + 1 + 1 + 1 + 1) D)) (d6 : o6.data = .cell (some (.ref D))) (F : Fr B L s.heap (fun y => List.lookup y l)) (N : News B L s.heap [(D, listOf ys.toArray n), (L + 1 + 1 + 1 + 1 + 1 + 1, o1), (L + 1 + 1 + 1 + 1 + 1, o2), (L + 1 + 1 + 1 + 1, o3), (L + 1 + 1 + 1, o4), (L + 1 + 1, o5), (L + 1, o6)])
    (k9 : ∀ (h9 : Heap) (tk9 : Nat) D' ys' n' o6', Fr B L h9 (fun y => List.lookup y (l)) → News B L h9 ([(D', listOf ys'.toArray n'), (L + 1 + 1 + 1 + 1 + 1 + 1, o1), (L + 1 + 1 + 1 + 1 + 1, o2), (L + 1 + 1 + 1 + 1, o3), (L + 1 + 1 + 1, o4), (L + 1 + 1, o5), (L + 1, o6')]) → ((@Ne Nat (L + 1) D' ∧ @Ne Nat (L + 1 + 1) D' ∧ @Ne Nat (L + 1 + 1 + 1) D' ∧ @Ne Nat (L + 1 + 1 + 1 + 1) D' ∧ @Ne Nat (L + 1 + 1 + 1 + 1 + 1) D' ∧ @Ne Nat (L + 1 + 1 + 1 + 1 + 1 + 1) D')) → (IntsAre ys' (ks ++ [3, 6970, 15924, 2913, 6071, 2244, 13900].drop ks.length)) → (o6'.data = .cell (some (.ref D'))) → Q9 .next { s with heap := h9, toks := tk9 }) :
    wpAny (model PySem.Challenge.rw_tl0019_01.row.prog w) (Ar dp un gd fr) (execs ((body.drop 1).take 1) (envOfC qual scope L 164 cdv)) Q9 E9 s :=
  wpAny_mono (ch1 LD X T hdp hun hI hk hA d6 F N) (NxN.cont (fun h9 tk9 l'9 news9 f9 n9 => ex4k (fun D' ys' n' o6' => and5k (fun q91 e91 q92 q93 e94 => by subst e91 e94; exact k9 h9 tk9 D' ys' n' o6' f9 n9 q91 q92 q93)))) (fun _ _ (e : False) => e.elim)
end Mine
end
theorem Mine.fresh_LA2 : True ∧ True := by
  w_on
  w_top off
  walk1
  all_goals trivial
/-! text LA2 -/
section
open PySem PySem.W PyProof.Rows PySem.Spec PySem.Calls
namespace Mine
set_option maxRecDepth 100000 in
set_option maxHeartbeats 8000000 in
theorem ch2 {w : World} {loose : List Str} {mean : ExcName → Option Value} {mg mb : Str → Option Value} {dp un : Nat} {gd : Option (List Code)} {fr : Option (List Env)} {B : Heap} {L : Addr} {s : Shared} {qual : Str} {body : List Stmt} {scope : Scope} {cdv : Value} {D : Addr} {ys : List Value} {ds : List Int} {o1 o2 o3 o4 o5 o6 : Obj} {n : Nat} {l : List (Str × Value)}
    (LD : LawDef (hd.heap_39 w.params) qual body scope cdv) (X : (hd.heap_39 w.params).In B) (T : Top hd.view_39 loose mean mg mb B) (hdp : dp + 10 < recursionLimit) (hun : un + 100 < cLine)
    (hI : IntsAre ys ds) (h7 : ds.length = 7) (hb : ∀ d ∈ ds, 0 ≤ d ∧ d < 1000000) (hA : (@Ne Nat (L + 1) D ∧ @Ne Nat (L + 1 + 1) D ∧ @Ne Nat (L + 1 + 1 + 1) D ∧ @Ne Nat (L + 1 + 1 + 1 + 1) D ∧ @Ne Nat (L + 1 + 1 + 1 + 1 + 1) D ∧ @Ne Nat (L + 1 + 1 + 1 + 1 + 1 + 1) D)) (d5 : o5.data = .cell none) (d6 : o6.data = .cell (some (.ref D)))
    (F : Fr B L s.heap (fun y => List.lookup y l)) (N : News B L s.heap [(D, listOf ys.toArray n), (L + 1 + 1 + 1 + 1 + 1 + 1, o1), (L + 1 + 1 + 1 + 1 + 1, o2), (L + 1 + 1 + 1 + 1, o3), (L + 1 + 1 + 1, o4), (L + 1 + 1, o5), (L + 1, o6)]) :
    wpAny (model PySem.Challenge.rw_tl0019_01.row.prog w) (Ar dp un gd fr) (execs ((body.drop 2).take 1) (envOfC qual scope L 164 cdv)) (NxN B L s (fun l' news => ∃ o5' u, l' = l ∧ o5'.data = .cell (some (.int ds.sum u)) ∧
      news = [(D, listOf ys.toArray n), (L + 1 + 1 + 1 + 1 + 1 + 1, o1), (L + 1 + 1 + 1 + 1 + 1, o2), (L + 1 + 1 + 1 + 1, o3), (L + 1 + 1 + 1, o4), (L + 1 + 1, o5'), (L + 1, o6)])) (fun _ _ => False) s := by
  revert X
  k_fill
  intro X
  refine hideA ?_
  intro Q9 hQ9
  have hE := LawDef.eq LD (by k_dflt k_is)
  obtain ⟨rfl, rfl, rfl, rfl⟩ := hE
  clear LD
  dsimp only [List.drop, List.take]
  k_steps
  refine hQ9 _ _ ?_
  refine NxN.of (by assumption) (by assumption) ⟨_, _, rfl, by assumption, rfl⟩ ?_
  (repeat' (first | (refine List.forall_mem_cons.mpr ⟨?_, ?_⟩) | exact List.forall_mem_nil _ | k_mem | exact List.Mem.head _ | exact List.Mem.tail _ (List.Mem.head _)))
theorem ch2k {w : World} {loose : List Str} {mean : ExcName → Option Value} {mg mb : Str → Option Value} {dp un : Nat} {gd : Option (List Code)} {fr : Option (List Env)} {B : Heap} {L : Addr} {s : Shared} {qual : Str} {body : List Stmt} {scope : Scope} {cdv : Value} {D : Addr} {ys : List Value} {ds : List Int} {o1 o2 o3 o4 o5 o6 : Obj} {n : Nat} {l : List (Str × Value)} {Q9 : Flow → Shared → Prop} {E9 : Value → Shared → Prop}
    (LD : LawDef (hd.heap_39 w.params) qual body scope cdv) (X : (hd.heap_39 w.params).In B) (T : Top hd.view_39 loose mean mg mb B) (hdp : dp + 10 < recursionLimit) (hun : un + 100 < cLine) (hI : IntsAre ys ds) (h7 : ds.length = 7) (hb : ∀ d ∈ ds, 0 ≤ d ∧ d < 1000000) (hA : (@Ne Nat (L + 1) D ∧ @Ne Nat (L + 1 + 1) D ∧ @Ne Nat (L + 1 + 1 + 1) D ∧ @Ne Nat (L + 1 + 1 + 1 + 1) D ∧ @Ne Nat (L + 1 + 1 + 1 + 1 + 1) D ∧ @Ne Nat (L + 1 + 1 + 1 + 1 + 1 + 1) D)) (d5 : o5.data = .cell none) (d6 : o6.data = .cell (some (.ref D))) (F : Fr B L s.heap (fun y => List.lookup y l)) (N : News B L s.heap [(D, listOf ys.toArray n), (L + 1 + 1 + 1 + 1 + 1 + 1, o1), (L + 1 + 1 + 1 + 1 + 1, o2), (L + 1 + 1 + 1 + 1, o3), (L + 1 + 1 + 1, o4), (L + 1 + 1, o5), (L + 1, o6)])
    (k9 : ∀ (h9 : Heap) (tk9 : Nat) o5' u, Fr B L h9 (fun y => List.lookup y (l)) → News B L h9 ([(D, listOf ys.toArray n), (L + 1 + 1 + 1 + 1 + 1 + 1, o1), (L + 1 + 1 + 1 + 1 + 1, o2), (L + 1 + 1 + 1 + 1, o3), (L + 1 + 1 + 1, o4), (L + 1 + 1, o5'), (L + 1, o6)]) → (o5'.data = .cell (some (.int ds.sum u))) → Q9 .next { s with heap := h9, toks := tk9 }) :
    wpAny (model PySem.Challenge.rw_tl0019_01.row.prog w) (Ar dp un gd fr) (execs ((body.drop 2).take 1) (envOfC qual scope L 164 cdv)) Q9 E9 s :=
  wpAny_mono (ch2 LD X T hdp hun hI h7 hb hA d5 d6 F N) (NxN.cont (fun h9 tk9 l'9 news9 f9 n9 => ex2k (fun o5' u => and3k (fun e90 q91 e92 => by subst e90 e92; exact k9 h9 tk9 o5' u f9 n9 q91)))) (fun _ _ (e : False) => e.elim)
end Mine
end
theorem Mine.fresh_LA3 : True ∧ True := by
  w_on
  w_top off
  walk1
  all_goals trivial
/-! text LA3 -/
section
open PySem PySem.W PyProof.Rows PySem.Spec PySem.Calls
namespace Mine
set_option maxRecDepth 100000 in
set_option maxHeartbeats 8000000 in
theorem ch3 {w : World} {loose : List Str} {mean : ExcName → Option Value} {mg mb : Str → Option Value} {dp un : Nat} {gd : Option (List Code)} {fr : Option (List Env)} {B : Heap} {L : Addr} {s : Shared} {qual : Str} {body : List Stmt} {scope : Scope} {cdv : Value} {D : Addr} {ys : List Value} {tot : Int} {tu : Tok} {o1 o2 o3 o4 o5 o6 : Obj} {n : Nat} {l : List (Str × Value)}
    (LD : LawDef (hd.heap_39 w.params) qual body scope cdv) (X : (hd.heap_39 w.params).In B) (T : Top hd.view_39 loose mean mg mb B) (hdp : dp + 10 < recursionLimit) (hun : un + 100 < cLine)
    (h0 : 0 ≤ tot) (h1 : tot < 7000000) (hA : (@Ne Nat (L + 1) D ∧ @Ne Nat (L + 1 + 1) D ∧ @Ne Nat (L + 1 + 1 + 1) D ∧ @Ne Nat (L + 1 + 1 + 1 + 1) D ∧ @Ne Nat (L + 1 + 1 + 1 + 1 + 1) D ∧ @Ne Nat (L + 1 + 1 + 1 + 1 + 1 + 1) D)) (d4 : o4.data = .cell none) (d5 : o5.data = .cell (some (.int tot tu)))
    (F : Fr B L s.heap (fun y => List.lookup y l)) (N : News B L s.heap [(D, listOf ys.toArray n), (L + 1 + 1 + 1 + 1 + 1 + 1, o1), (L + 1 + 1 + 1 + 1 + 1, o2), (L + 1 + 1 + 1 + 1, o3), (L + 1 + 1 + 1, o4), (L + 1 + 1, o5), (L + 1, o6)]) :
    wpAny (model PySem.Challenge.rw_tl0019_01.row.prog w) (Ar dp un gd fr) (execs ((body.drop 3).take 1) (envOfC qual scope L 164 cdv)) (NxN B L s (fun l' news => ∃ o4' u u', l' = (Str.ofString "start", .int ((tot.fdiv 7).fmod 7) u) :: l ∧ o4'.data = .cell (some (.int (tot.fmod 200000) u')) ∧
      news = [(D, listOf ys.toArray n), (L + 1 + 1 + 1 + 1 + 1 + 1, o1), (L + 1 + 1 + 1 + 1 + 1, o2), (L + 1 + 1 + 1 + 1, o3), (L + 1 + 1 + 1, o4'), (L + 1 + 1, o5), (L + 1, o6)])) (fun _ _ => False) s := by
  revert X
  k_fill
  intro X
  refine hideA ?_
  intro Q9 hQ9
  have hE := LawDef.eq LD (by k_dflt k_is)
  obtain ⟨rfl, rfl, rfl, rfl⟩ := hE
  clear LD
  dsimp only [List.drop, List.take]
  k_steps
  refine hQ9 _ _ ?_
  refine NxN.one (by assumption) (by assumption) ⟨_, _, _, rfl, by assumption, rfl⟩ ?_
  (repeat' (first | (refine List.forall_mem_cons.mpr ⟨?_, ?_⟩) | exact List.forall_mem_nil _ | k_mem | exact List.Mem.head _ | exact List.Mem.tail _ (List.Mem.head _)))
theorem ch3k {w : World} {loose : List Str} {mean : ExcName → Option Value} {mg mb : Str → Option Value} {dp un : Nat} {gd : Option (List Code)} {fr : Option (List Env)} {B : Heap} {L : Addr} {s : Shared} {qual : Str} {body : List Stmt} {scope : Scope} {cdv : Value} {D : Addr} {ys : List Value} {tot : Int} {tu : Tok} {o1 o2 o3 o4 o5 o6 : Obj} {n : Nat} {l : List (Str × Value)} {Q9 : Flow → Shared → Prop} {E9 : Value → Shared → Prop}
    (LD : LawDef (hd.heap_39 w.params) qual body scope cdv) (X : (hd.heap_39 w.params).In B) (T : Top hd.view_39 loose mean mg mb B) (hdp : dp + 10 < recursionLimit) (hun : un + 100 < cLine) (h0 : 0 ≤ tot) (h1 : tot < 7000000) (hA : (@Ne Nat (L + 1) D ∧ @Ne Nat (L + 1 + 1) D ∧ @Ne Nat (L + 1 + 1 + 1) D ∧ @Ne Nat (L + 1 + 1 + 1 + 1) D ∧ @Ne Nat (L + 1 + 1 + 1 + 1 + 1) D ∧ @Ne Nat (L + 1 + 1 + 1 + 1 + 1 + 1) D)) (d4 : o4.data = .cell none) (d5 : o5.data = .cell (some (.int tot tu))) (F : Fr B L s.heap (fun y => List.lookup y l)) (N : News B L s.heap [(D, listOf ys.toArray n), (L + 1 + 1 + 1 + 1 + 1 + 1, o1), (L + 1 + 1 + 1 + 1 + 1, o2), (L + 1 + 1 + 1 + 1, o3), (L + 1 + 1 + 1, o4), (L + 1 + 1, o5), (L + 1, o6)])
    (k9 : ∀ (h9 : Heap) (tk9 : Nat) o4' u u', Fr B L h9 (fun y => List.lookup y ((Str.ofString "start", .int ((tot.fdiv 7).fmod 7) u) :: l)) → News B L h9 ([(D, listOf ys.toArray n), (L + 1 + 1 + 1 + 1 + 1 + 1, o1), (L + 1 + 1 + 1 + 1 + 1, o2), (L + 1 + 1 + 1 + 1, o3), (L + 1 + 1 + 1, o4'), (L + 1 + 1, o5), (L + 1, o6)]) → (o4'.data = .cell (some (.int (tot.fmod 200000) u'))) → Q9 .next { s with heap := h9, toks := tk9 }) :
    wpAny (model PySem.Challenge.rw_tl0019_01.row.prog w) (Ar dp un gd fr) (execs ((body.drop 3).take 1) (envOfC qual scope L 164 cdv)) Q9 E9 s :=
  wpAny_mono (ch3 LD X T hdp hun h0 h1 hA d4 d5 F N) (NxN.cont (fun h9 tk9 l'9 news9 f9 n9 => ex3k (fun o4' u u' => and3k (fun e90 q91 e92 => by subst e90 e92; exact k9 h9 tk9 o4' u u' f9 n9 q91)))) (fun _ _ (e : False) => e.elim)
end Mine
end
section
open PySem PySem.W PyProof.Rows PySem.Spec PySem.Calls Mine
local macro_rules | `(tactic| walk_at "CompSrc") => `(tactic| (k_here; (try k_fmods); k_dflt (refine LCg.CompSrc.range (n := 7) (by rfl) (by k_asm) (by k_asm) (by assumption) (by decide) (by rfl) (by exact Nat.le_of_ble_eq_true rfl) ?_); intro g9; (refine' kct_range _ (fun k9 t9 I9 oI9 C9 oC9 D9 m9 ys9 h9 tk9 E9 hlo9 hhi9 hC9 hx9 F9 N9 off9 ne9 => ?_) ?_); (all_goals (try (simp only [LCg.Off3, and_true] at off9))); (all_goals (try ((show KPfMark → _); intro hMark9))); kcf_last))
theorem Mine.fresh_LA4 : True ∧ True := by
  w_on
  w_top off
  walk1
  all_goals trivial
/-! text LA4 -/
section
open PySem PySem.W PyProof.Rows PySem.Spec PySem.Calls
namespace Mine
noncomputable def signP (c k : Int) : Str := ⟨#[(97 + c + k).toNat]⟩
noncomputable def signsP (tot : Int) : List Str := (rangeKs 0 7).map (signP (tot.fmod 50000))
theorem carried_strs {g : Int → Str} : ∀ {ks : List Int} {vs : List Value}, CarriedAll vs (ks.map fun k => PyData.str (g k)) → StrsAre vs (ks.map g)
  | [], _, .nil => .nil
  | _ :: _, _, .cons (.str _ t) r => .cons _ t (carried_strs r)
set_option maxRecDepth 100000 in
set_option maxHeartbeats 8000000 in
theorem ch4 {w : World} {loose : List Str} {mean : ExcName → Option Value} {mg mb : Str → Option Value} {dp un : Nat} {gd : Option (List Code)} {fr : Option (List Env)} {B : Heap} {L : Addr} {s : Shared} {qual : Str} {body : List Stmt} {scope : Scope} {cdv : Value} {D : Addr} {ys : List Value} {tot : Int} {tu : Tok} {o1 o2 o3 o4 o5 o6 : Obj} {n : Nat} {l : List (Str × Value)}
    (LD : LawDef (hd.heap_39 w.params) qual body scope cdv) (X : (hd.heap_39 w.params).In B) (T : Top hd.view_39 loose mean mg mb B) (hdp : dp + 10 < recursionLimit) (hun : un + 100 < cLine)
    (h0 : 0 ≤ tot) (h1 : tot < 7000000) (hf0 : 0 ≤ tot.fmod 50000) (hf1 : tot.fmod 50000 < 50000) (hA : (@Ne Nat (L + 1) D ∧ @Ne Nat (L + 1 + 1) D ∧ @Ne Nat (L + 1 + 1 + 1) D ∧ @Ne Nat (L + 1 + 1 + 1 + 1) D ∧ @Ne Nat (L + 1 + 1 + 1 + 1 + 1) D ∧ @Ne Nat (L + 1 + 1 + 1 + 1 + 1 + 1) D)) (d3 : o3.data = .cell none) (d5 : o5.data = .cell (some (.int tot tu)))
    (F : Fr B L s.heap (fun y => List.lookup y l)) (N : News B L s.heap [(D, listOf ys.toArray n), (L + 1 + 1 + 1 + 1 + 1 + 1, o1), (L + 1 + 1 + 1 + 1 + 1, o2), (L + 1 + 1 + 1 + 1, o3), (L + 1 + 1 + 1, o4), (L + 1 + 1, o5), (L + 1, o6)]) :
    wpAny (model PySem.Challenge.rw_tl0019_01.row.prog w) (Ar dp un gd fr) (execs ((body.drop 4).take 1) (envOfC qual scope L 164 cdv)) (NxN B L s (fun l' news => ∃ S ys' o3', l' = l ∧ (@Ne Nat (L + 1) S ∧ @Ne Nat (L + 1 + 1) S ∧ @Ne Nat (L + 1 + 1 + 1) S ∧ @Ne Nat (L + 1 + 1 + 1 + 1) S ∧ @Ne Nat (L + 1 + 1 + 1 + 1 + 1) S ∧ @Ne Nat (L + 1 + 1 + 1 + 1 + 1 + 1) S) ∧ @Ne Nat S D ∧ StrsAre ys' (signsP tot) ∧ o3'.data = .cell (some (.ref S)) ∧
      news = [(S, LCg.lst ys'), (D, listOf ys.toArray n), (L + 1 + 1 + 1 + 1 + 1 + 1, o1), (L + 1 + 1 + 1 + 1 + 1, o2), (L + 1 + 1 + 1 + 1, o3'), (L + 1 + 1 + 1, o4), (L + 1 + 1, o5), (L + 1, o6)])) (fun _ _ => False) s := by
  revert X
  k_fill
  intro X
  refine hideA ?_
  intro Q9 hQ9
  have hE := LawDef.eq LD (by k_dflt k_is)
  obtain ⟨rfl, rfl, rfl, rfl⟩ := hE
  clear LD
  dsimp only [List.drop, List.take]
  k_steps
  rename CarriedAll _ _ => hW
  refine hQ9 _ _ ?_
  refine NxN.of (by assumption) (by assumption) ⟨_, _, _, rfl, ?y9, ?y8, carried_strs hW, by assumption, rfl⟩ ?_
  (case y9 => (rename _ ≠ _ ∧ _ ≠ _ ∧ _ => zz; exact ⟨zz.2.2.2.2.2.2, zz.2.2.2.2.2.1, zz.2.2.2.2.1, zz.2.2.2.1, zz.2.2.1, zz.2.1⟩))
  (case y8 => (rename _ ≠ _ ∧ _ ≠ _ ∧ _ => zz; exact zz.1.symm))
  (repeat' (first | (refine List.forall_mem_cons.mpr ⟨?_, ?_⟩) | exact List.forall_mem_nil _ | k_mem | exact List.Mem.head _ | exact List.Mem.tail _ (List.Mem.head _)))
theorem ch4k {w : World} {loose : List Str} {mean : ExcName → Option Value} {mg mb : Str → Option Value} {dp un : Nat} {gd : Option (List Code)} {fr : Option (List Env)} {B : Heap} {L : Addr} {s : Shared} {qual : Str} {body : List Stmt} {scope : Scope} {cdv : Value} {D : Addr} {ys : List Value} {tot : Int} {tu : Tok} {o1 o2 o3 o4 o5 o6 : Obj} {n : Nat} {l : List (Str × Value)} {Q9 : Flow → Shared → Prop} {E9 : Value → Shared → Prop}
    (LD : LawDef (hd.heap_39 w.params) qual body scope cdv) (X : (hd.heap_39 w.params).In B) (T : Top hd.view_39 loose mean mg mb B) (hdp : dp + 10 < recursionLimit) (hun : un + 100 < cLine) (h0 : 0 ≤ tot) (h1 : tot < 7000000) (hf0 : 0 ≤ tot.fmod 50000) (hf1 : tot.fmod 50000 < 50000) (hA : (@Ne Nat (L + 1) D ∧ @Ne Nat (L + 1 + 1) D ∧ @Ne Nat (L + 1 + 1 + 1) D ∧ @Ne Nat (L + 1 + 1 + 1 + 1) D ∧ @Ne Nat (L + 1 + 1 + 1 + 1 + 1) D ∧ @Ne Nat (L + 1 + 1 + 1 + 1 + 1 + 1) D)) (d3 : o3.data = .cell none) (d5 : o5.data = .cell (some (.int tot tu))) (F : Fr B L s.heap (fun y => List.lookup y l)) (N : News B L s.heap [(D, listOf ys.toArray n), (L + 1 + 1 + 1 + 1 + 1 + 1, o1), (L + 1 + 1 + 1 + 1 + 1, o2), (L + 1 + 1 + 1 + 1, o3), (L + 1 + 1 + 1, o4), (L + 1 + 1, o5), (L + 1, o6)])
    (k9 : ∀ (h9 : Heap) (tk9 : Nat) S ys' o3', Fr B L h9 (fun y => List.lookup y (l)) → News B L h9 ([(S, LCg.lst ys'), (D, listOf ys.toArray n), (L + 1 + 1 + 1 + 1 + 1 + 1, o1), (L + 1 + 1 + 1 + 1 + 1, o2), (L + 1 + 1 + 1 + 1, o3'), (L + 1 + 1 + 1, o4), (L + 1 + 1, o5), (L + 1, o6)]) → ((@Ne Nat (L + 1) S ∧ @Ne Nat (L + 1 + 1) S ∧ @Ne Nat (L + 1 + 1 + 1) S ∧ @Ne Nat (L + 1 + 1 + 1 + 1) S ∧ @Ne Nat (L + 1 + 1 + 1 + 1 + 1) S ∧ @Ne Nat (L + 1 + 1 + 1 + 1 + 1 + 1) S)) → (@Ne Nat S D) → (StrsAre ys' (signsP tot)) → (o3'.data = .cell (some (.ref S))) → Q9 .next { s with heap := h9, toks := tk9 }) :
    wpAny (model PySem.Challenge.rw_tl0019_01.row.prog w) (Ar dp un gd fr) (execs ((body.drop 4).take 1) (envOfC qual scope L 164 cdv)) Q9 E9 s :=
  wpAny_mono (ch4 LD X T hdp hun h0 h1 hf0 hf1 hA d3 d5 F N) (NxN.cont (fun h9 tk9 l'9 news9 f9 n9 => ex3k (fun S ys' o3' => and6k (fun e90 q91 q92 q93 q94 e95 => by subst e90 e95; exact k9 h9 tk9 S ys' o3' f9 n9 q91 q92 q93 q94)))) (fun _ _ (e : False) => e.elim)
end Mine
end
theorem Mine.fresh_LF : True ∧ True := by
  w_on
  w_top off
  walk1
  all_goals trivial
/-! text LF -/
section
open PySem PySem.W PyProof.Rows PySem.Spec PySem.Calls
namespace Mine
/-! for k in range(..): under the caller's code, its iterator in the ledger -/
noncomputable def NotIt (o : Obj) : Prop := ∀ fs, o.data ≠ .fields fs
noncomputable def isSeq (o : Obj) : Bool := match o.data with | .seq _ _ => true | _ => false
theorem notIt_seq {o : Obj} (h : isSeq o = true) : NotIt o := fun fs e => by unfold isSeq at h; rw [e] at h; cases h
theorem notIt_cell {o : Obj} {v : Option Value} (h : o.data = .cell v) : NotIt o := fun fs e => by rw [h] at e; cases e
noncomputable def ItObj (o : Obj) : Prop := o.cls = .type "range_iterator"
theorem news_ne {B h : Heap} {L a b : Addr} {o o' : Obj} {news : List (Addr × Obj)} (N : News B L h news) (ha : (a, o) ∈ news) (hb : (b, o') ∈ news) (hne : o.cls ≠ o'.cls) : @Ne Nat a b := fun e => by
  have e1 := (N _ ha).1
  have e2 := (N _ hb).1
  dsimp only at e1 e2
  have e' : a = b := e
  rw [e', e2] at e1
  injection e1 with e1
  exact hne (by rw [e1])
theorem fr_stays {B h h' : Heap} {L : Addr} {m : Str → Option Value} {news : List (Addr × Obj)} (F : Fr B L h m) (N : News B L h news) (st : h.StaysIn h') : Fr B L h' m ∧ News B L h' news :=
  ⟨⟨F.ns.at' fun o e => st L o e, fun b o e => st b o (F.keep b o e), F.above⟩, fun p hp => ⟨st _ _ (N p hp).1, (N p hp).2⟩⟩
/-- behind a turn -/
noncomputable def Turned (B : Heap) (L I : Addr) (oI : Obj) (s : Shared) (J : (Str → Option Value) → List (Addr × Obj) → Prop) (Qr : Value → Shared → Prop) (f : Flow) (s' : Shared) : Prop :=
  match f with
  | .ret v => Qr v s'
  | .brk => False
  | _ => ∃ h' tk' m' news', s' = { s with heap := h', toks := tk' } ∧ Fr B L h' m' ∧ News B L h' ((I, oI) :: news') ∧ (∀ p ∈ news', NotIt p.2) ∧ J m' news'
/-- the range that a loop walks stands -/
noncomputable def Ready (B : Heap) (L : Addr) (a b : Int) (s : Shared) (J : (Str → Option Value) → List (Addr × Obj) → Prop) (xv : Value) (s₁ : Shared) : Prop :=
  ∃ r t u z m news h₁ tk₁, xv = .ref r ∧ s₁ = { s with heap := h₁, toks := tk₁ } ∧ IsRange h₁ r a b 1 t u z ∧ Fr B L h₁ m ∧ News B L h₁ news ∧ (∀ p ∈ news, NotIt p.2) ∧ J m news
theorem Ready.intro {B : Heap} {L : Addr} {a b : Int} {s : Shared} {J : (Str → Option Value) → List (Addr × Obj) → Prop} {r : Addr} {t u z : Tok} {m : Str → Option Value} {news : List (Addr × Obj)} {h₁ : Heap} {tk₁ : Nat}
    (hr : IsRange h₁ r a b 1 t u z) (F : Fr B L h₁ m) (N : News B L h₁ news) (hc : ∀ p ∈ news, NotIt p.2) (hj : J m news) : Ready B L a b s J (.ref r) { s with heap := h₁, toks := tk₁ } :=
  ⟨r, t, u, z, m, news, h₁, tk₁, rfl, rfl, hr, F, N, hc, hj⟩
theorem Turned.next {B : Heap} {L I : Addr} {oI : Obj} {s : Shared} {J : (Str → Option Value) → List (Addr × Obj) → Prop} {Qr : Value → Shared → Prop} {m : Str → Option Value} {news all : List (Addr × Obj)} {h₁ : Heap} {tk₁ : Nat}
    (F : Fr B L h₁ m) (N : News B L h₁ all) (hs : ∀ p ∈ (I, oI) :: news, p ∈ all) (hc : ∀ p ∈ news, NotIt p.2) (hj : J m news) : Turned B L I oI s J Qr .next { s with heap := h₁, toks := tk₁ } :=
  ⟨h₁, tk₁, m, news, rfl, F, fun p hp => N p (hs p hp), hc, hj⟩
section
variable {prog : Program} {w : World} {A : Around} {s : Shared} {env : Env} {B : Heap} {x : Str} {px pos : Pos} {iter : Expr} {body : List Stmt}
theorem C.forRange {Q : Flow → Shared → Prop} {a b : Int} (n : Nat) (J : Nat → (Str → Option Value) → List (Addr × Obj) → Prop)
    (hh : A.handled = none) (hx : env.kindOf x = some .local) (hp : (env.scope.kind == .class || (env.scope.kind == .module && env.locals != env.globals)) = false)
    (hsmall : Builtin.Range.small a b 1 = true) (hn : Builtin.Range.rangeSize a b 1 = (n : Int))
    (h : wpAny (model prog w) A (eval iter env) (fun xv s₁ => ∃ r t u z m news h₁ tk₁, xv = .ref r ∧ s₁ = { s with heap := h₁, toks := tk₁ } ∧ IsRange h₁ r a b 1 t u z ∧ Fr B env.locals h₁ m ∧ News B env.locals h₁ news ∧ (∀ p ∈ news, NotIt p.2) ∧ J 0 m news) (fun _ _ => False) s)
    (turn : ∀ i t m news h tk I oI, i < n → J i m news → ItObj oI → Fr B env.locals h (fun y => if y = x then some (.int (a + (i : Int)) t) else m y) → News B env.locals h ((I, oI) :: news) →
      wpC (model prog w) A (execs body env) (Turned B env.locals I oI s (J (i + 1)) fun v s' => Q (.ret v) s') (fun _ _ => False) { s with heap := h, toks := tk })
    (done : ∀ m news h tk, J n m news → Fr B env.locals h m → News B env.locals h news → Q .next { s with heap := h, toks := tk })
    (hs : ∀ x, foldedSetIterable iter env x = Pure.pure x := by intro _; rfl) :
    wpC (model prog w) A (exec (.For (.Name x px) iter body [] pos) env) Q (fun _ _ => False) s := by
  refine C.For (wpAny_mono h (fun xv s₁ h₁ => ?_) fun _ _ e => e.elim) hs
  revert h₁
  refine ex8k (fun r t u z m news h₁ tk₁ => and7k (fun e93 e94 hr F N hcl hj => ?_))
  subst e93 e94
  refine wpAny_pyIter_range hr hsmall ?_
  rw [hn]
  have hI0 : B.get? h₁.objs.size = none := next_is_new F
  have F0 : Fr B env.locals (h₁.push { cls := .type "range_iterator", data := .fields #[rawInt a, rawInt (n : Int), rawInt 1] }) m := F.push _
  have hI1 : IsRangeIter (h₁.push { cls := .type "range_iterator", data := .fields #[rawInt a, rawInt (n : Int), rawInt 1] }) h₁.objs.size a (n : Int) 1 := Heap.get?_push_size _ rfl
  have N0 : News B env.locals (h₁.push { cls := .type "range_iterator", data := .fields #[rawInt a, rawInt (n : Int), rawInt 1] }) news := fun p hp => ⟨Heap.get?_push_of_some _ (N p hp).1, (N p hp).2⟩
  have hLI : env.locals ≠ h₁.objs.size := fun e => absurd F.ns.lt (e ▸ Nat.lt_irrefl _)
  revert F0 hI1 N0
  generalize (h₁.push { cls := .type "range_iterator", data := .fields #[rawInt a, rawInt (n : Int), rawInt 1] }) = g₀
  intro F0 hI1 N0
  revert hI0 hI1 hLI
  dsimp only
  generalize h₁.objs.size = I
  intro hI0 hLI hI1
  refine C.forLoop (fun k s' => ∃ h' tk m' news' i, s' = { s with heap := h', toks := tk } ∧ IsRangeIter h' I (a + (i : Nat)) ((n : Int) - (i : Nat)) 1 ∧ Fr B env.locals h' m' ∧ News B env.locals h' news' ∧ (∀ p ∈ news', NotIt p.2) ∧ J i m' news' ∧ i ≤ n ∧ k = n + 1 - i) ?_ (n + 1)
    ⟨g₀, tk₁, m, news, 0, rfl, by simpa using hI1, F0, N0, hcl, hj, Nat.zero_le _, rfl⟩
  intro k s'
  refine ex5k (fun h' tk m' news' i => and8k (fun e91 hst F' N' hcl' hJ hi e92 => ?_))
  subst e91 e92
  have hnI : ∀ p ∈ news', p.1 ≠ I := fun p hp e => by
    have e1 := (N' p hp).1
    rw [e] at e1
    have e2 := hst
    unfold IsRangeIter at e2
    rw [e1] at e2
    injection e2 with e2
    exact hcl' p hp _ (by rw [e2])
  have keepB : ∀ h₂ : Heap, (∀ b o, b ≠ I → h'.get? b = some o → h₂.get? b = some o) → Fr B env.locals h₂ m' ∧ News B env.locals h₂ news' := fun h₂ hk =>
    ⟨⟨F'.ns.at' fun o e => hk _ o hLI e, fun b o e => hk b o (fun q => by rw [q, hI0] at e; cases e) (F'.keep b o e), F'.above⟩, fun p hp => ⟨hk _ _ (hnI p hp) (N' p hp).1, (N' p hp).2⟩⟩
  by_cases hlt : i < n
  · refine wpAny_pyNext_range_item hst (by omega) fun h₂ hit hsb => ?_
    obtain ⟨F₁, N₁⟩ := keepB h₂ fun b o hb e => (hsb.2 b hb).trans e
    refine wpAny_assign_Name (wpAny_storeName_local hx F₁.ns (fun h₃ hn₃ hs₃ => ?_) hp)
    have F₂ := F₁.set hn₃ hs₃
    have hit₃ : IsRangeIter h₃ I (a + (i : Nat) + 1) ((n : Int) - (i : Nat) - 1) 1 := (hs₃.2 I fun q => hLI q.symm).trans hit
    have N₂ : News B env.locals h₃ news' := N₁.set hs₃
    have N₃ : News B env.locals h₃ ((I, { cls := .type "range_iterator", dict := none, data := .fields #[rawInt (a + (i : Nat) + 1), rawInt ((n : Int) - (i : Nat) - 1), rawInt 1], slots := #[] }) :: news') := fun p hp => by
      rcases List.mem_cons.mp hp with rfl | hp
      · exact ⟨hit₃, fun q => hLI q.symm, hI0⟩
      · exact N₂ p hp
    refine C.mono (turn i _ m' news' h₃ _ I _ hlt hJ (rfl : ItObj { cls := .type "range_iterator", dict := none, data := .fields #[rawInt (a + (i : Nat) + 1), rawInt ((n : Int) - (i : Nat) - 1), rawInt 1], slots := #[] }) F₂ N₃) (fun f s₃ hf => ?_) fun _ _ e => e.elim
    have fin : (∃ h' tk' m'' news'', s₃ = { s with heap := h', toks := tk' } ∧ Fr B env.locals h' m'' ∧ News B env.locals h' ((I, { cls := .type "range_iterator", dict := none, data := .fields #[rawInt (a + (i : Nat) + 1), rawInt ((n : Int) - (i : Nat) - 1), rawInt 1], slots := #[] }) :: news'') ∧ (∀ p ∈ news'', NotIt p.2) ∧ J (i + 1) m'' news'') →
        ∃ k, k < n + 1 - i ∧ ∃ h' tk m' news' i, s₃ = { s with heap := h', toks := tk } ∧ IsRangeIter h' I (a + (i : Nat)) ((n : Int) - (i : Nat)) 1 ∧ Fr B env.locals h' m' ∧ News B env.locals h' news' ∧ (∀ p ∈ news', NotIt p.2) ∧ J i m' news' ∧ i ≤ n ∧ k = n + 1 - i := by
      rintro ⟨h₄, tk₄, m₄, news₄, e, F₄, N₄, hc₄, hJ₄⟩
      have hI4 := (N₄ _ (.head _)).1
      dsimp only at hI4
      refine ⟨n + 1 - (i + 1), by omega, h₄, tk₄, m₄, news₄, i + 1, e, ?_, F₄, fun p hp => N₄ p (.tail _ hp), hc₄, hJ₄, by omega, rfl⟩
      unfold IsRangeIter
      rw [hI4]
      have e1 : a + ((i + 1 : Nat) : Int) = a + (i : Nat) + 1 := by omega
      have e2 : (n : Int) - ((i + 1 : Nat) : Int) = (n : Int) - (i : Nat) - 1 := by omega
      rw [e1, e2]
    cases f with
    | ret v => exact hf
    | brk => exact hf.elim
    | next => exact fin hf
    | cont => exact fin hf
  · have hin : i = n := by omega
    subst hin
    refine wpAny_pyNext_range_end hh hst (by omega) fun h₂ hk => wpAny_execs_nil ?_
    obtain ⟨F₁, N₁⟩ := keepB h₂ fun b o hb e => hk b o hb e
    exact done m' news' h₂ tk hJ F₁ N₁
theorem C.forRangeL {Q : Flow → Shared → Prop} {L : Addr} {a b : Int} (n : Nat) (J : Nat → (Str → Option Value) → List (Addr × Obj) → Prop)
    (hL : env.locals = L) (hh : A.handled = none) (hx : env.kindOf x = some .local) (hp : (env.scope.kind == .class || (env.scope.kind == .module && env.locals != env.globals)) = false)
    (hsmall : Builtin.Range.small a b 1 = true) (hn : Builtin.Range.rangeSize a b 1 = (n : Int))
    (h : wpAny (model prog w) A (eval iter env) (Ready B L a b s (J 0)) (fun _ _ => False) s)
    (turn : ∀ i t m news h tk I oI, i < n → J i m news → ItObj oI → Fr B L h (fun y => if y = x then some (.int (a + (i : Int)) t) else m y) → News B L h ((I, oI) :: news) →
      wpC (model prog w) A (execs body env) (Turned B L I oI s (J (i + 1)) fun v s' => Q (.ret v) s') (fun _ _ => False) { s with heap := h, toks := tk })
    (done : ∀ m news h tk, J n m news → Fr B L h m → News B L h news → Q .next { s with heap := h, toks := tk })
    (hs : ∀ x, foldedSetIterable iter env x = Pure.pure x := by intro _; rfl) :
    wpC (model prog w) A (exec (.For (.Name x px) iter body [] pos) env) Q (fun _ _ => False) s := by
  subst hL
  exact C.forRange n J hh hx hp hsmall hn h turn done hs
end
end Mine
end
theorem Mine.fresh_LA5 : True ∧ True := by
  w_on
  w_top off
  walk1
  all_goals trivial
/-! text LA5 -/
section
open PySem PySem.W PyProof.Rows PySem.Spec PySem.Calls
namespace Mine
theorem getD_in {ks : List Int} {k : Int} (hks : ks.length = 7) (hall : ∀ k ∈ ks, 0 ≤ k ∧ k < 1000000) (h0 : 0 ≤ k) (h1 : k < 0 + ((7 : Nat) : Int)) : 0 ≤ ks.getD k.toNat 0 ∧ ks.getD k.toNat 0 < 1000000 := by
  have hk : k.toNat < ks.length := by omega
  have e : ks.getD k.toNat 0 = ks[k.toNat] := by simp [List.getD, hk]
  rw [e]
  exact hall _ (List.getElem_mem hk)
theorem port_in {fi x : Int} (h0 : 0 ≤ fi) (h1 : fi < 200000) : 0 ≤ fi + x.fmod 7 ∧ fi + x.fmod 7 < 1000000 := by
  have a := Int.fmod_nonneg_of_pos x (by decide : (0 : Int) < 7)
  have b := Int.fmod_lt_of_pos x (by decide : (0 : Int) < 7)
  omega
theorem reply_w {w : World} {loose : List Str} {mean : ExcName → Option Value} {mg mb : Str → Option Value} {dp un : Nat} {gd : Option (List Code)} {fr : Option (List Env)} {B : Heap} {L : Addr} {m : Str → Option Value} {news : List (Addr × Obj)} {s : Shared} {Q E : Value → Shared → Prop} {x port : Int} {t1 t2 : Tok}
   (F : Fr B L s.heap m) (N : News B L s.heap news) (X : (hd.heap_39 w.params).In B) (T : Top hd.view_39 loose mean mg mb B) (hdp : dp < recursionLimit) (hun : un + 50 < cLine)
   (hx : 0 ≤ x ∧ x < 1000000) (hp : 0 ≤ port ∧ port < 1000000)
   (h : ∀ h' tk' t, Fr B L h' m → News B L h' news → Q (.str (replyS x port) t) { s with heap := h', toks := tk' }) :
   wpAny (model PySem.Challenge.rw_tl0019_01.row.prog w) (Ar dp un gd fr) (call (.ref 145) [.int x t1, .int port t2]) Q E s :=
  reply_c x port t1 t2 X T F.keep hdp hun hx.1 hx.2 hp.1 hp.2 fun v h' tk' st ⟨t, e⟩ => e ▸ h h' tk' t (fr_stays F N st).1 (fr_stays F N st).2
noncomputable def repliesP (ks : List Int) (fi : Int) : List Str := (rangeKs 0 7).map fun k => replyS (ks.getD k.toNat 0) (fi + (ks.getD k.toNat 0).fmod 7)
local macro_rules | `(tactic| walk_at "call ref") => `(tactic| (k_here; (with_reducible show wpAny _ _ (call (Value.ref 145) [Value.int _ _, Value.int _ _]) _ _ _); refine' reply_w ?z9F ?z9N ?z9X ?z9T ?z9d ?z9u ?z9x ?z9p ?_; (case z9F => k_asm); (case z9N => k_asm); (case z9X => assumption); (case z9T => assumption); (case z9d => omega); (case z9u => omega); (case z9x => exact getD_in (by assumption) (by assumption) (by assumption) (by assumption)); (case z9p => exact port_in (by assumption) (by assumption)); intro h8 tk8 t8 F8 N8))
set_option maxRecDepth 100000 in
set_option maxHeartbeats 8000000 in
theorem ch5 {w : World} {loose : List Str} {mean : ExcName → Option Value} {mg mb : Str → Option Value} {dp un : Nat} {gd : Option (List Code)} {fr : Option (List Env)} {B : Heap} {L : Addr} {s : Shared} {qual : Str} {body : List Stmt} {scope : Scope} {cdv : Value} {D S : Addr} {ys zs : List Value} {ks : List Int} {fi : Int} {tu : Tok} {o1 o2 o3 o4 o5 o6 : Obj} {n : Nat} {l : List (Str × Value)}
    (LD : LawDef (hd.heap_39 w.params) qual body scope cdv) (X : (hd.heap_39 w.params).In B) (T : Top hd.view_39 loose mean mg mb B) (hdp : dp + 10 < recursionLimit) (hun : un + 100 < cLine)
    (hI : IntsAre ys ks) (hks : ks.length = 7) (hall : ∀ k ∈ ks, 0 ≤ k ∧ k < 1000000) (hf0 : 0 ≤ fi) (hf1 : fi < 200000) (hA : (@Ne Nat (L + 1) S ∧ @Ne Nat (L + 1 + 1) S ∧ @Ne Nat (L + 1 + 1 + 1) S ∧ @Ne Nat (L + 1 + 1 + 1 + 1) S ∧ @Ne Nat (L + 1 + 1 + 1 + 1 + 1) S ∧ @Ne Nat (L + 1 + 1 + 1 + 1 + 1 + 1) S ∧ @Ne Nat (L + 1) D ∧ @Ne Nat (L + 1 + 1) D ∧ @Ne Nat (L + 1 + 1 + 1) D ∧ @Ne Nat (L + 1 + 1 + 1 + 1) D ∧ @Ne Nat (L + 1 + 1 + 1 + 1 + 1) D ∧ @Ne Nat (L + 1 + 1 + 1 + 1 + 1 + 1) D ∧ @Ne Nat S D)) (d4 : o4.data = .cell (some (.int fi tu))) (d6 : o6.data = .cell (some (.ref D)))
    (F : Fr B L s.heap (fun y => List.lookup y l)) (N : News B L s.heap [(S, LCg.lst zs), (D, listOf ys.toArray n), (L + 1 + 1 + 1 + 1 + 1 + 1, o1), (L + 1 + 1 + 1 + 1 + 1, o2), (L + 1 + 1 + 1 + 1, o3), (L + 1 + 1 + 1, o4), (L + 1 + 1, o5), (L + 1, o6)]) :
    wpAny (model PySem.Challenge.rw_tl0019_01.row.prog w) (Ar dp un gd fr) (execs ((body.drop 5).take 1) (envOfC qual scope L 164 cdv)) (NxN B L s (fun l' news => ∃ R ys', (@Ne Nat (L + 1) R ∧ @Ne Nat (L + 1 + 1) R ∧ @Ne Nat (L + 1 + 1 + 1) R ∧ @Ne Nat (L + 1 + 1 + 1 + 1) R ∧ @Ne Nat (L + 1 + 1 + 1 + 1 + 1) R ∧ @Ne Nat (L + 1 + 1 + 1 + 1 + 1 + 1) R) ∧ @Ne Nat R S ∧ @Ne Nat R D ∧ StrsAre ys' (repliesP ks fi) ∧ l' = (Str.ofString "replies", .ref R) :: l ∧
      news = [(R, LCg.lst ys'), (S, LCg.lst zs), (D, listOf ys.toArray n), (L + 1 + 1 + 1 + 1 + 1 + 1, o1), (L + 1 + 1 + 1 + 1 + 1, o2), (L + 1 + 1 + 1 + 1, o3), (L + 1 + 1 + 1, o4), (L + 1 + 1, o5), (L + 1, o6)])) (fun _ _ => False) s := by
  revert X
  k_fill
  intro X
  refine hideA ?_
  intro Q9 hQ9
  have hE := LawDef.eq LD (by k_dflt k_is)
  obtain ⟨rfl, rfl, rfl, rfl⟩ := hE
  clear LD
  dsimp only [List.drop, List.take]
  k_steps
  rename CarriedAll _ _ => hW
  refine hQ9 _ _ ?_
  refine NxN.one (by assumption) (by assumption) ⟨_, _, ?y9, ?y8, ?y7, carried_strs hW, rfl, rfl⟩ ?_
  (case y9 => (rename _ ≠ _ ∧ _ ≠ _ ∧ _ => zz; exact ⟨zz.2.2.2.2.2.2.2, zz.2.2.2.2.2.2.1, zz.2.2.2.2.2.1, zz.2.2.2.2.1, zz.2.2.2.1, zz.2.2.1⟩))
  (case y8 => (rename _ ≠ _ ∧ _ ≠ _ ∧ _ => zz; exact zz.1.symm))
  (case y7 => (rename _ ≠ _ ∧ _ ≠ _ ∧ _ => zz; exact zz.2.1.symm))
  (repeat' (first | (refine List.forall_mem_cons.mpr ⟨?_, ?_⟩) | exact List.forall_mem_nil _ | k_mem | exact List.Mem.head _ | exact List.Mem.tail _ (List.Mem.head _)))
theorem ch5k {w : World} {loose : List Str} {mean : ExcName → Option Value} {mg mb : Str → Option Value} {dp un : Nat} {gd : Option (List Code)} {fr : Option (List Env)} {B : Heap} {L : Addr} {s : Shared} {qual : Str} {body : List Stmt} {scope : Scope} {cdv : Value} {D S : Addr} {ys zs : List Value} {ks : List Int} {fi : Int} {tu : Tok} {o1 o2 o3 o4 o5 o6 : Obj} {n : Nat} {l : List (Str × Value)} {Q9 : Flow → Shared → Prop} {E9 : Value → Shared → Prop}
    (LD : LawDef (hd.heap_39 w.params) qual body scope cdv) (X : (hd.heap_39 w.params).In B) (T : Top hd.view_39 loose mean mg mb B) (hdp : dp + 10 < recursionLimit) (hun : un + 100 < cLine) (hI : IntsAre ys ks) (hks : ks.length = 7) (hall : ∀ k ∈ ks, 0 ≤ k ∧ k < 1000000) (hf0 : 0 ≤ fi) (hf1 : fi < 200000) (hA : (@Ne Nat (L + 1) S ∧ @Ne Nat (L + 1 + 1) S ∧ @Ne Nat (L + 1 + 1 + 1) S ∧ @Ne Nat (L + 1 + 1 + 1 + 1) S ∧ @Ne Nat (L + 1 + 1 + 1 + 1 + 1) S ∧ @Ne Nat (L + 1 + 1 + 1 + 1 + 1 + 1) S ∧ @Ne Nat (L + 1) D ∧ @Ne Nat (L + 1 + 1) D ∧ @Ne Nat (L + 1 + 1 + 1) D ∧ @Ne Nat (L + 1 + 1 + 1 + 1) D ∧ @Ne Nat (L + 1 + 1 + 1 + 1 + 1) D ∧ @Ne Nat (L + 1 + 1 + 1 + 1 + 1 + 1) D ∧ @Ne Nat S D)) (d4 : o4.data = .cell (some (.int fi tu))) (d6 : o6.data = .cell (some (.ref D))) (F : Fr B L s.heap (fun y => List.lookup y l)) (N : News B L s.heap [(S, LCg.lst zs), (D, listOf ys.toArray n), (L + 1 + 1 + 1 + 1 + 1 + 1, o1), (L + 1 + 1 + 1 + 1 + 1, o2), (L + 1 + 1 + 1 + 1, o3), (L + 1 + 1 + 1, o4), (L + 1 + 1, o5), (L + 1, o6)])
    (k9 : ∀ (h9 : Heap) (tk9 : Nat) R ys', Fr B L h9 (fun y => List.lookup y ((Str.ofString "replies", .ref R) :: l)) → News B L h9 ([(R, LCg.lst ys'), (S, LCg.lst zs), (D, listOf ys.toArray n), (L + 1 + 1 + 1 + 1 + 1 + 1, o1), (L + 1 + 1 + 1 + 1 + 1, o2), (L + 1 + 1 + 1 + 1, o3), (L + 1 + 1 + 1, o4), (L + 1 + 1, o5), (L + 1, o6)]) → ((@Ne Nat (L + 1) R ∧ @Ne Nat (L + 1 + 1) R ∧ @Ne Nat (L + 1 + 1 + 1) R ∧ @Ne Nat (L + 1 + 1 + 1 + 1) R ∧ @Ne Nat (L + 1 + 1 + 1 + 1 + 1) R ∧ @Ne Nat (L + 1 + 1 + 1 + 1 + 1 + 1) R)) → (@Ne Nat R S) → (@Ne Nat R D) → (StrsAre ys' (repliesP ks fi)) → Q9 .next { s with heap := h9, toks := tk9 }) :
    wpAny (model PySem.Challenge.rw_tl0019_01.row.prog w) (Ar dp un gd fr) (execs ((body.drop 5).take 1) (envOfC qual scope L 164 cdv)) Q9 E9 s :=
  wpAny_mono (ch5 LD X T hdp hun hI hks hall hf0 hf1 hA d4 d6 F N) (NxN.cont (fun h9 tk9 l'9 news9 f9 n9 => ex2k (fun R ys' => and6k (fun q91 q92 q93 q94 e94 e95 => by subst e94 e95; exact k9 h9 tk9 R ys' f9 n9 q91 q92 q93 q94)))) (fun _ _ (e : False) => e.elim)
end Mine
end
end
theorem Mine.fresh_LG : True ∧ True := by
  w_on
  w_top off
  walk1
  all_goals trivial
/-! text LG -/
section
open PySem PySem.W PyProof.Rows PySem.Spec PySem.Calls
namespace Mine
theorem strOk_append {x y : Str} (hx : PyData.strOk x = true) (hy : PyData.strOk y = true) : PyData.strOk (x ++ y) = true := by
  show (x.cps ++ y.cps).all _ = true
  rw [Array.all_append]
  unfold PyData.strOk at hx hy
  rw [hx, hy]; rfl
theorem strOk_p : PyData.strOk (Str.ofString "p") = true := by decide +kernel
theorem strOk_h : PyData.strOk (Str.ofString "h") = true := by decide +kernel
theorem strOk_proto : PyData.strOk (Str.ofString "proto") = true := by decide +kernel
theorem strOk_reply : PyData.strOk (Str.ofString "reply") = true := by decide +kernel
theorem strOk_value : PyData.strOk (Str.ofString "value") = true := by decide +kernel
theorem shaped_tup {x : Str} {a : Int} (hx : PyData.strOk x = true) : SeqAt.shaped (.tuple [.str x, .int a]) = true := by simp [SeqAt.shaped, PyData.canLay0, PyData.depth, PyData.canLayAll0, PyData.depthAll, hx]
theorem shaped_two {x y : Str} (hx : PyData.strOk x = true) (hy : PyData.strOk y = true) : SeqAt.shaped (.list [.str x, .str y]) = true := by simp [SeqAt.shaped, PyData.canLay0, PyData.depth, PyData.canLayAll0, PyData.depthAll, hx, hy]
theorem shaped_one {x : Str} (hx : PyData.strOk x = true) : SeqAt.shaped (.list [.str x]) = true := by simp [SeqAt.shaped, PyData.canLay0, PyData.depth, PyData.canLayAll0, PyData.depthAll, hx]
theorem drop1 {B h : Heap} {L : Addr} {p : Addr × Obj} {l : List (Addr × Obj)} (N : News B L h (p :: l)) : News B L h l := fun q hq => N q (.tail _ hq)
theorem cutTo {B h : Heap} {L : Addr} {l' : List (Addr × Obj)} (l : List (Addr × Obj)) (N : News B L h l') (hs : ∀ p ∈ l, p ∈ l') : News B L h l := fun q hq => N q (hs q hq)
noncomputable def dead : List Str := [Str.ofString "k", Str.ofString "kind", Str.ofString "due", Str.ofString "told", Str.ofString "turn", Str.ofString "j", Str.ofString "i", Str.ofString "a", Str.ofString "b", Str.ofString "joined", Str.ofString "left"]
theorem stored_eq {m m₀ : Str → Option Value} (h : ∀ y, dead.contains y = false → m y = m₀ y) : m = fun y => if dead.contains y = true then m y else m₀ y := by
  funext y
  cases q : dead.contains y with
  | true => simp
  | false => simp [h y q]
theorem not_dead {y n : Str} (hy : dead.contains y = false) (hn : dead.contains n = true) : ¬ y = n := fun e => by rw [e, hn] at hy; cases hy
theorem not_dead' {y : Str} (hy : dead.contains y = false) : ¬ dead.contains y = true := fun e => by rw [e] at hy; cases hy
theorem dead_two {n : Str} {v : Value} {m m₀ : Str → Option Value} {u : Str → Option Value} {l : List (Str × Value)} (hn : dead.contains n = false)
    (hm : ∀ y, y ≠ n → m y = if dead.contains y = true then u y else List.lookup y l) (h : m n = some v) : m = fun y => if dead.contains y = true then u y else List.lookup y ((n, v) :: l) := by
  funext y
  rw [List.lookup_cons]
  by_cases q : y = n
  · rw [q, h, if_neg (by rw [hn]; decide)]; simp
  · rw [beq_false_of_ne q, hm y q]
theorem dead_cons {n : Str} {v : Value} {u : Str → Option Value} {l : List (Str × Value)} (hn : dead.contains n = false) :
    (fun y => if y = n then some v else if dead.contains y = true then u y else List.lookup y l) = fun y => if dead.contains y = true then u y else List.lookup y ((n, v) :: l) :=
  dead_two (m₀ := fun _ => none) hn (fun y q => if_neg q) (if_pos rfl)
/-- behind a statement of the law, from its first loop on: the names of dead read anything -/
noncomputable def NxD (B : Heap) (L : Addr) (s : Shared) (P : List (Str × Value) → List (Addr × Obj) → Prop) (f : Flow) (s' : Shared) : Prop :=
  f = .next ∧ ∃ h' tk', ∃ u : Str → Option Value, ∃ l news, s' = { s with heap := h', toks := tk' } ∧ Fr B L h' (fun y => if dead.contains y = true then u y else List.lookup y l) ∧ News B L h' news ∧ P l news
section
variable {B : Heap} {L : Addr} {s : Shared} {P : List (Str × Value) → List (Addr × Obj) → Prop} {n n2 n3 : Str} {v v2 v3 : Value} {u : Str → Option Value} {l : List (Str × Value)} {news news' : List (Addr × Obj)} {h' : Heap} {tk' : Nat}
theorem NxD.of (F : Fr B L h' (fun y => if dead.contains y = true then u y else List.lookup y l)) (N : News B L h' news') (p : P l news) (hs : ∀ p ∈ news, p ∈ news') : NxD B L s P .next { s with heap := h', toks := tk' } :=
  ⟨rfl, h', tk', u, l, news, rfl, F, fun p hp => N p (hs p hp), p⟩
theorem NxD.one (hn : dead.contains n = false) (F : Fr B L h' (fun y => if y = n then some v else if dead.contains y = true then u y else List.lookup y l)) (N : News B L h' news') (p : P ((n, v) :: l) news) (hs : ∀ p ∈ news, p ∈ news') : NxD B L s P .next { s with heap := h', toks := tk' } :=
  ⟨rfl, h', tk', u, _, news, rfl, dead_cons hn ▸ F, fun p hp => N p (hs p hp), p⟩
theorem NxD.two (hn : dead.contains n = false) (hn2 : dead.contains n2 = false) (F : Fr B L h' (fun y => if y = n then some v else if y = n2 then some v2 else if dead.contains y = true then u y else List.lookup y l)) (N : News B L h' news') (p : P ((n, v) :: (n2, v2) :: l) news) (hs : ∀ p ∈ news, p ∈ news') : NxD B L s P .next { s with heap := h', toks := tk' } := by
  refine NxD.one hn (v := v) (u := u) (l := (n2, v2) :: l) ?_ N p hs
  have e := dead_cons (v := v2) (u := u) (l := l) hn2
  have e2 : (fun y => if y = n then some v else if dead.contains y = true then u y else List.lookup y ((n2, v2) :: l)) = fun y => if y = n then some v else if y = n2 then some v2 else if dead.contains y = true then u y else List.lookup y l := funext fun y => by rw [← congrFun e y]
  exact e2 ▸ F
end
/-- the body of the loop that stands first -/
noncomputable def forBody : List Stmt → List Stmt
  | .For _ _ b _ _ :: _ => b
  | _ => []
/-- behind statements: any frame -/
noncomputable def NxF (B : Heap) (L : Addr) (s : Shared) (P : (Str → Option Value) → List (Addr × Obj) → Prop) (f : Flow) (s' : Shared) : Prop :=
  f = .next ∧ ∃ h' tk' m news, s' = { s with heap := h', toks := tk' } ∧ Fr B L h' m ∧ News B L h' news ∧ P m news
theorem NxD.cont {B : Heap} {L : Addr} {s : Shared} {P : List (Str × Value) → List (Addr × Obj) → Prop} {G : Flow → Shared → Prop} (k : ∀ h' tk' (u : Str → Option Value) l news, Fr B L h' (fun y => if dead.contains y = true then u y else List.lookup y l) → News B L h' news → P l news → G .next { s with heap := h', toks := tk' }) : ∀ f s', NxD B L s P f s' → G f s' := by
  rintro f s' ⟨rfl, h', tk', u, l, news, rfl, F, N, p⟩
  exact k h' tk' u l news F N p
theorem NxF.cont {B : Heap} {L : Addr} {s : Shared} {P : (Str → Option Value) → List (Addr × Obj) → Prop} {G : Flow → Shared → Prop} (k : ∀ h' tk' m news, Fr B L h' m → News B L h' news → P m news → G .next { s with heap := h', toks := tk' }) : ∀ f s', NxF B L s P f s' → G f s' := by
  rintro f s' ⟨rfl, h', tk', m, news, rfl, F, N, p⟩
  exact k h' tk' m news F N p
theorem NxF.of {B : Heap} {L : Addr} {s : Shared} {P : (Str → Option Value) → List (Addr × Obj) → Prop} {m : Str → Option Value} {news news' : List (Addr × Obj)} {h' : Heap} {tk' : Nat}
    (F : Fr B L h' m) (N : News B L h' news') (p : P m news) (hs : ∀ p ∈ news, p ∈ news') : NxF B L s P .next { s with heap := h', toks := tk' } := ⟨rfl, h', tk', m, news, rfl, F, fun p hp => N p (hs p hp), p⟩
theorem C.splitC {prog : Program} {w : World} {A : Around} {E : Value → Shared → Prop} {env : Env} {s : Shared} (pre post : List Stmt) {Q : Flow → Shared → Prop}
    (h : wpC (model prog w) A (execs pre env) (fun f s' => match f with | .next => wpC (model prog w) A (execs post env) Q E s' | f => Q f s') E s) : wpC (model prog w) A (execs (pre ++ post) env) Q E s := by
  rw [execs_append]
  refine C.bind (C.mono h (fun f s' h' => ?_) fun _ _ x => x)
  cases f <;> first | exact h' | exact C.pure h'
theorem frames_one {B h : Heap} {L a : Addr} {m : Str → Option Value} {name : Str} {scope : Scope} {cd : Value} (f : Fr B L h m) (hk : scope.kind = .function) : Frames h [envOfC name scope L a cd] := fun env he => by
  cases List.mem_singleton.mp he
  obtain ⟨oL, es, n, hL, hd, _⟩ := f.ns
  exact ⟨by show scope.kind ≠ .module; rw [hk]; decide, L, oL, es, n, rfl, hL, hd⟩
/-- what a reply says: of which kind, and whereto -/
structure Says (r : Str) (kd port : Int) : Prop where
  len : r.length ≤ 500
  ok : PyData.strOk r = true
  good : kd < 24 → ∃ x, parseP r = .text x ∧ x.length ≤ 500 ∧ PySem.intText? x = some port
  bad : kd = 30 → ∃ x, parseP r = .text x ∧ x.length ≤ 500 ∧ PySem.intText? x = none ∧ ((PySem.numSeenOf x).length == (PySem.numTextOf x).length) = true ∧ (reprText x).length ≤ sizeLine
  code : kd = 31 → parseP r = .reply
  proto : 24 ≤ kd → kd ≠ 30 → kd ≠ 31 → parseP r = .proto
theorem Says.hx {r : Str} {kd port : Int} (h : Says r kd port) : ∀ x, parseP r = .text x → x.length ≤ 500 ∧ (PySem.intText? x = none → ((PySem.numSeenOf x).length == (PySem.numTextOf x).length) = true ∧ (reprText x).length ≤ sizeLine) := fun x e => by
  by_cases h1 : kd < 24
  · obtain ⟨y, e1, e2, e3⟩ := h.good h1
    rw [e] at e1; cases e1
    exact ⟨e2, fun q => by rw [q] at e3; cases e3⟩
  by_cases h2 : kd = 30
  · obtain ⟨y, e1, e2, e3, e4, e5⟩ := h.bad h2
    rw [e] at e1; cases e1
    exact ⟨e2, fun _ => ⟨e4, e5⟩⟩
  by_cases h3 : kd = 31
  · have := h.code h3; rw [e] at this; cases this
  · have := h.proto (by omega) h2 h3; rw [e] at this; cases this
theorem Says.some_iff {r x : Str} {kd port k : Int} (h : Says r kd port) (e : parseP r = .text x) (e2 : PySem.intText? x = some k) : kd < 24 ∧ k = port := by
  by_cases h1 : kd < 24
  · obtain ⟨y, e3, _, e4⟩ := h.good h1
    rw [e] at e3; cases e3
    rw [e2] at e4; cases e4
    exact ⟨h1, rfl⟩
  by_cases h2 : kd = 30
  · obtain ⟨y, e3, _, e4, _⟩ := h.bad h2
    rw [e] at e3; cases e3
    rw [e2] at e4; cases e4
  by_cases h3 : kd = 31
  · have := h.code h3; rw [e] at this; cases this
  · have := h.proto (by omega) h2 h3; rw [e] at this; cases this
/-- what is told of a refusal, by kind -/
theorem Says.told {r : Str} {kd port : Int} {t1 : Tok} {vs : List Value} (h : Says r kd port) (e : Told (parseP r) r t1 vs) :
    (kd = 31 ∧ ∃ t', vs = [.str (Str.ofString "reply") t', .str r t1]) ∨ (24 ≤ kd ∧ kd ≠ 30 ∧ kd ≠ 31 ∧ ∃ t', vs = [.str (Str.ofString "proto") t', .str r t1]) ∨ (kd = 30 ∧ ∃ t', vs = [.str (Str.ofString "value") t']) := by
  by_cases h1 : kd < 24
  · obtain ⟨y, e3, _, e4⟩ := h.good h1
    rcases e with ⟨q, _⟩ | ⟨q, _⟩ | ⟨x, q, q2, _⟩
    · rw [e3] at q; cases q
    · rw [e3] at q; cases q
    · rw [e3] at q; cases q; rw [e4] at q2; cases q2
  by_cases h2 : kd = 30
  · obtain ⟨y, e3, _⟩ := h.bad h2
    rcases e with ⟨q, _⟩ | ⟨q, _⟩ | ⟨x, q, q2, e4⟩
    · rw [e3] at q; cases q
    · rw [e3] at q; cases q
    · exact .inr (.inr ⟨h2, e4⟩)
  by_cases h3 : kd = 31
  · have e3 := h.code h3
    rcases e with ⟨_, e4⟩ | ⟨q, _⟩ | ⟨x, q, _⟩
    · exact .inl ⟨h3, e4⟩
    · rw [e3] at q; cases q
    · rw [e3] at q; cases q
  · have e3 := h.proto (by omega) h2 h3
    rcases e with ⟨q, _⟩ | ⟨_, e4⟩ | ⟨x, q, _⟩
    · rw [e3] at q; cases q
    · exact .inr (.inl ⟨by omega, h2, h3, e4⟩)
    · rw [e3] at q; cases q
theorem news_add {B h h' : Heap} {L T : Addr} {o : Obj} {m : Str → Option Value} {news : List (Addr × Obj)} (F : Fr B L h m) (N : News B L h news) (N' : News B L h' news) (n1 : h.get? T = none) (n2 : h'.get? T = some o) :
    News B L h' ((T, o) :: news) ∧ ∀ p ∈ news, @Ne Nat p.1 T := by
  have hne : ∀ p ∈ news, p.1 ≠ T := fun p hp q => by have := (N p hp).1; rw [q, n1] at this; cases this
  refine ⟨fun p hp => ?_, hne⟩
  rcases List.mem_cons.mp hp with rfl | hp
  · exact news_one F n1 n2 _ (.head _)
  · exact N' p hp
noncomputable abbrev tupO (host : Str) (t2 : Tok) (port : Int) (t3 : Tok) (n : Nat) : Obj := { cls := .type "tuple", data := .seq #[.str host t2, .int port t3] n }
theorem hear_w {w : World} {loose : List Str} {mean : ExcName → Option Value} {mg mb : Str → Option Value} {dp un : Nat} {gd : Option (List Code)} {B : Heap} {L a : Addr} {m : Str → Option Value} {news : List (Addr × Obj)} {s : Shared} {Q E : Value → Shared → Prop} {name : Str} {scope : Scope} {cd : Value}
   {resp host : Str} {port kd due : Int} {t1 t2 t3 : Tok} {D : Addr} {n : Nat} (hk : scope.kind = .function) (F : Fr B L s.heap m) (N : News B L s.heap news) (X : (hd.heap_39 w.params).In B) (T : Top hd.view_39 loose mean mg mb B) (hdp : dp + 1 < recursionLimit) (hun : un + 60 < cLine)
   (hD : (D, tupO host t2 port t3 n) ∈ news) (hs : Says resp kd due)
   (hQ : ∀ T' h' tk' tk'', kd < 24 → Fr B L h' m → News B L h' ((T', tupO host t2 due tk'' 0) :: news) → (∀ p ∈ news, @Ne Nat p.1 T') → Q (.ref T') { s with heap := h', toks := tk' })
   (hL : ∀ vs T' h' tk', ((kd = 31 ∧ ∃ t', vs = [.str (Str.ofString "reply") t', .str resp t1]) ∨ (24 ≤ kd ∧ kd ≠ 30 ∧ kd ≠ 31 ∧ ∃ t', vs = [.str (Str.ofString "proto") t', .str resp t1]) ∨ (kd = 30 ∧ ∃ t', vs = [.str (Str.ofString "value") t'])) →
     Fr B L h' m → News B L h' ((T', listOf vs.toArray 0) :: news) → (∀ p ∈ news, @Ne Nat p.1 T') → Q (.ref T') { s with heap := h', toks := tk' }) :
   wpC (model PySem.Challenge.rw_tl0019_01.row.prog w) (Ar dp un gd (some [envOfC name scope L a cd])) (call (.ref 152) [.str resp t1, .ref D]) Q E s := by
  have Fm := frames_one (name := name) (a := a) (cd := cd) F hk
  refine hear_c (outer := [envOfC name scope L a cd]) resp host port t1 t2 t3 D n X T F.keep hdp hun (N _ hD).1 (N _ hD).2.2 hs.len ?_ Fm.dicts Fm.funs hs.hx ?_ ?_
  · intro b hb
    have e : b = L := by
      have : b ∈ [L] := hb
      exact List.mem_singleton.mp this
    rw [e]; exact kts_self F
  · intro k x T' h' tk' tk'' e1 e2 st n1 n2
    obtain ⟨hk24, rfl⟩ := hs.some_iff e1 e2
    obtain ⟨F2, N2⟩ := fr_stays F N st
    obtain ⟨N3, hne⟩ := news_add F N N2 n1 n2
    exact hQ T' h' tk' tk'' hk24 F2 N3 hne
  · intro vs T' h' tk' ht Gr n1 n2
    obtain ⟨F2, N2⟩ := growL F N Gr
    obtain ⟨N3, hne⟩ := news_add F N N2 n1 n2
    exact hL vs T' h' tk' (hs.told ht) F2 N3 hne
end Mine
end
theorem Mine.fresh_LA6 : True ∧ True := by
  w_on
  w_top off
  walk1
  all_goals trivial
/-! text LA6 -/
section
open PySem PySem.W PyProof.Rows PySem.Spec PySem.Calls
namespace Mine
set_option maxRecDepth 100000 in
set_option maxHeartbeats 8000000 in
theorem ch6 {w : World} {loose : List Str} {mean : ExcName → Option Value} {mg mb : Str → Option Value} {dp un : Nat} {gd : Option (List Code)} {fr : Option (List Env)} {B : Heap} {L : Addr} {s : Shared} {qual : Str} {body : List Stmt} {scope : Scope} {cdv : Value} {D S R : Addr} {ys zs rs : List Value} {o1 o2 o3 o4 o5 o6 : Obj} {n : Nat} {l : List (Str × Value)}
    (LD : LawDef (hd.heap_39 w.params) qual body scope cdv) (X : (hd.heap_39 w.params).In B) (T : Top hd.view_39 loose mean mg mb B) (hdp : dp + 10 < recursionLimit) (hun : un + 100 < cLine)
    (hA : (@Ne Nat (L + 1) R ∧ @Ne Nat (L + 1 + 1) R ∧ @Ne Nat (L + 1 + 1 + 1) R ∧ @Ne Nat (L + 1 + 1 + 1 + 1) R ∧ @Ne Nat (L + 1 + 1 + 1 + 1 + 1) R ∧ @Ne Nat (L + 1 + 1 + 1 + 1 + 1 + 1) R ∧ @Ne Nat (L + 1) S ∧ @Ne Nat (L + 1 + 1) S ∧ @Ne Nat (L + 1 + 1 + 1) S ∧ @Ne Nat (L + 1 + 1 + 1 + 1) S ∧ @Ne Nat (L + 1 + 1 + 1 + 1 + 1) S ∧ @Ne Nat (L + 1 + 1 + 1 + 1 + 1 + 1) S ∧ @Ne Nat (L + 1) D ∧ @Ne Nat (L + 1 + 1) D ∧ @Ne Nat (L + 1 + 1 + 1) D ∧ @Ne Nat (L + 1 + 1 + 1 + 1) D ∧ @Ne Nat (L + 1 + 1 + 1 + 1 + 1) D ∧ @Ne Nat (L + 1 + 1 + 1 + 1 + 1 + 1) D ∧ @Ne Nat R S ∧ @Ne Nat R D ∧ @Ne Nat S D))
    (F : Fr B L s.heap (fun y => List.lookup y l)) (N : News B L s.heap [(R, LCg.lst rs), (S, LCg.lst zs), (D, listOf ys.toArray n), (L + 1 + 1 + 1 + 1 + 1 + 1, o1), (L + 1 + 1 + 1 + 1 + 1, o2), (L + 1 + 1 + 1 + 1, o3), (L + 1 + 1 + 1, o4), (L + 1 + 1, o5), (L + 1, o6)]) :
    wpAny (model PySem.Challenge.rw_tl0019_01.row.prog w) (Ar dp un gd fr) (execs ((body.drop 6).take 1) (envOfC qual scope L 164 cdv)) (NxN B L s (fun l' news => ∃ G, (@Ne Nat (L + 1) G ∧ @Ne Nat (L + 1 + 1) G ∧ @Ne Nat (L + 1 + 1 + 1) G ∧ @Ne Nat (L + 1 + 1 + 1 + 1) G ∧ @Ne Nat (L + 1 + 1 + 1 + 1 + 1) G ∧ @Ne Nat (L + 1 + 1 + 1 + 1 + 1 + 1) G) ∧ (@Ne Nat G R ∧ @Ne Nat G S ∧ @Ne Nat G D) ∧ l' = (Str.ofString "goals", .ref G) :: l ∧
      news = [(G, listOf #[] 0), (R, LCg.lst rs), (S, LCg.lst zs), (D, listOf ys.toArray n), (L + 1 + 1 + 1 + 1 + 1 + 1, o1), (L + 1 + 1 + 1 + 1 + 1, o2), (L + 1 + 1 + 1 + 1, o3), (L + 1 + 1 + 1, o4), (L + 1 + 1, o5), (L + 1, o6)])) (fun _ _ => False) s := by
  revert X
  k_fill
  intro X
  refine hideA ?_
  intro Q9 hQ9
  have hE := LawDef.eq LD (by k_dflt k_is)
  obtain ⟨rfl, rfl, rfl, rfl⟩ := hE
  clear LD
  dsimp only [List.drop, List.take]
  k_steps
  refine hQ9 _ _ ?_
  refine NxN.one (by assumption) (by assumption) ⟨_, ?y9, ?y8, rfl, rfl⟩ ?_
  (case y9 => omega)
  (case y8 => omega)
  (repeat' (first | (refine List.forall_mem_cons.mpr ⟨?_, ?_⟩) | exact List.forall_mem_nil _ | k_mem | exact List.Mem.head _ | exact List.Mem.tail _ (List.Mem.head _)))
theorem ch6k {w : World} {loose : List Str} {mean : ExcName → Option Value} {mg mb : Str → Option Value} {dp un : Nat} {gd : Option (List Code)} {fr : Option (List Env)} {B : Heap} {L : Addr} {s : Shared} {qual : Str} {body : List Stmt} {scope : Scope} {cdv : Value} {D S R : Addr} {ys zs rs : List Value} {o1 o2 o3 o4 o5 o6 : Obj} {n : Nat} {l : List (Str × Value)} {Q9 : Flow → Shared → Prop} {E9 : Value → Shared → Prop}
    (LD : LawDef (hd.heap_39 w.params) qual body scope cdv) (X : (hd.heap_39 w.params).In B) (T : Top hd.view_39 loose mean mg mb B) (hdp : dp + 10 < recursionLimit) (hun : un + 100 < cLine) (hA : (@Ne Nat (L + 1) R ∧ @Ne Nat (L + 1 + 1) R ∧ @Ne Nat (L + 1 + 1 + 1) R ∧ @Ne Nat (L + 1 + 1 + 1 + 1) R ∧ @Ne Nat (L + 1 + 1 + 1 + 1 + 1) R ∧ @Ne Nat (L + 1 + 1 + 1 + 1 + 1 + 1) R ∧ @Ne Nat (L + 1) S ∧ @Ne Nat (L + 1 + 1) S ∧ @Ne Nat (L + 1 + 1 + 1) S ∧ @Ne Nat (L + 1 + 1 + 1 + 1) S ∧ @Ne Nat (L + 1 + 1 + 1 + 1 + 1) S ∧ @Ne Nat (L + 1 + 1 + 1 + 1 + 1 + 1) S ∧ @Ne Nat (L + 1) D ∧ @Ne Nat (L + 1 + 1) D ∧ @Ne Nat (L + 1 + 1 + 1) D ∧ @Ne Nat (L + 1 + 1 + 1 + 1) D ∧ @Ne Nat (L + 1 + 1 + 1 + 1 + 1) D ∧ @Ne Nat (L + 1 + 1 + 1 + 1 + 1 + 1) D ∧ @Ne Nat R S ∧ @Ne Nat R D ∧ @Ne Nat S D)) (F : Fr B L s.heap (fun y => List.lookup y l)) (N : News B L s.heap [(R, LCg.lst rs), (S, LCg.lst zs), (D, listOf ys.toArray n), (L + 1 + 1 + 1 + 1 + 1 + 1, o1), (L + 1 + 1 + 1 + 1 + 1, o2), (L + 1 + 1 + 1 + 1, o3), (L + 1 + 1 + 1, o4), (L + 1 + 1, o5), (L + 1, o6)])
    (k9 : ∀ (h9 : Heap) (tk9 : Nat) G, Fr B L h9 (fun y => List.lookup y ((Str.ofString "goals", .ref G) :: l)) → News B L h9 ([(G, listOf #[] 0), (R, LCg.lst rs), (S, LCg.lst zs), (D, listOf ys.toArray n), (L + 1 + 1 + 1 + 1 + 1 + 1, o1), (L + 1 + 1 + 1 + 1 + 1, o2), (L + 1 + 1 + 1 + 1, o3), (L + 1 + 1 + 1, o4), (L + 1 + 1, o5), (L + 1, o6)]) → ((@Ne Nat (L + 1) G ∧ @Ne Nat (L + 1 + 1) G ∧ @Ne Nat (L + 1 + 1 + 1) G ∧ @Ne Nat (L + 1 + 1 + 1 + 1) G ∧ @Ne Nat (L + 1 + 1 + 1 + 1 + 1) G ∧ @Ne Nat (L + 1 + 1 + 1 + 1 + 1 + 1) G)) → ((@Ne Nat G R ∧ @Ne Nat G S ∧ @Ne Nat G D)) → Q9 .next { s with heap := h9, toks := tk9 }) :
    wpAny (model PySem.Challenge.rw_tl0019_01.row.prog w) (Ar dp un gd fr) (execs ((body.drop 6).take 1) (envOfC qual scope L 164 cdv)) Q9 E9 s :=
  wpAny_mono (ch6 LD X T hdp hun hA F N) (NxN.cont (fun h9 tk9 l'9 news9 f9 n9 => ex1k (fun G => and4k (fun q91 q92 e92 e93 => by subst e92 e93; exact k9 h9 tk9 G f9 n9 q91 q92)))) (fun _ _ (e : False) => e.elim)
end Mine
end
theorem Mine.fresh_LP : True ∧ True := by
  w_on
  w_top off
  walk1
  all_goals trivial
/-! text LP -/
section
open PySem PySem.W PyProof.Rows PySem.Spec PySem.Calls
namespace Mine
/-- the way of the places, from port to port -/
inductive Path (gl : List Int) (st : Int) : List Int → Int → Prop
  | nil : Path gl st [] st
  | snoc {vis p} : Path gl st vis p → ¬ p ∈ vis → Path gl st (vis ++ [p]) (gl.getD p.toNat 0)
theorem nodup_len : ∀ (n : Nat) (l : List Int), l.Nodup → (∀ x ∈ l, 0 ≤ x ∧ x < (n : Int)) → l.length ≤ n
  | 0, [], _, _ => Nat.le_refl _
  | 0, x :: _, _, h => by have := h x (.head _); omega
  | n + 1, l, hn, h => by
    have h1 := nodup_len n (l.erase (n : Int)) (hn.erase _) (fun x hx => by
      have h2 := (hn.mem_erase_iff).mp hx
      have := h x h2.2
      have := h2.1
      omega)
    have h3 : l.length ≤ (l.erase (n : Int)).length + 1 := by
      rw [List.length_erase]; split <;> omega
    omega
theorem Path.in7 {gl : List Int} {st : Int} (hgl : gl.length = 7) (hg : ∀ g ∈ gl, 0 ≤ g ∧ g < 7) (hs : 0 ≤ st ∧ st < 7) {vis : List Int} {p : Int} (h : Path gl st vis p) :
    (0 ≤ p ∧ p < 7) ∧ (∀ x ∈ vis, 0 ≤ x ∧ x < 7) ∧ vis.Nodup := by
  induction h with
  | nil => exact ⟨hs, fun x hx => (by cases hx), List.nodup_nil⟩
  | @snoc vis p _ hp ih =>
    obtain ⟨h1, h2, h3⟩ := ih
    refine ⟨?_, ?_, ?_⟩
    · have hk : p.toNat < gl.length := by omega
      have e : gl.getD p.toNat 0 = gl[p.toNat] := by simp [List.getD, hk]
      rw [e]; exact hg _ (List.getElem_mem hk)
    · intro x hx
      rcases List.mem_append.mp hx with hx | hx
      · exact h2 x hx
      · rw [List.mem_singleton.mp hx]; exact h1
    · rw [List.nodup_append]
      refine ⟨h3, by simp, fun a ha b hb e => ?_⟩
      rw [List.mem_singleton.mp hb] at e
      exact hp (e ▸ ha)
theorem Path.len {gl : List Int} {st : Int} (hgl : gl.length = 7) (hg : ∀ g ∈ gl, 0 ≤ g ∧ g < 7) (hs : 0 ≤ st ∧ st < 7) {vis : List Int} {p : Int} (h : Path gl st vis p) : vis.length ≤ 7 :=
  nodup_len 7 vis (h.in7 hgl hg hs).2.2 (h.in7 hgl hg hs).2.1
theorem shadow {n : Str} {v v' : Value} {l : List (Str × Value)} (y : Str) : List.lookup y ((n, v) :: (n, v') :: l) = List.lookup y ((n, v) :: l) := by
  rw [List.lookup_cons, List.lookup_cons, List.lookup_cons]
  cases y == n <;> rfl
theorem dead_set {n : Str} {v v' : Value} {u : Str → Option Value} {l : List (Str × Value)} (hn : dead.contains n = false) :
    (fun y => if y = n then some v else if dead.contains y = true then u y else List.lookup y ((n, v') :: l)) = fun y => if dead.contains y = true then u y else List.lookup y ((n, v) :: l) := by
  rw [dead_cons hn]
  funext y
  rw [shadow]
theorem cons_step {n : Str} {v : Value} {m : Str → Option Value} {u : Str → Option Value} {l : List (Str × Value)} (e : m = fun y => if dead.contains y = true then u y else List.lookup y l) (hn : dead.contains n = false) :
    (fun y => if y = n then some v else m y) = fun y => if dead.contains y = true then u y else List.lookup y ((n, v) :: l) := by
  subst e
  exact dead_cons hn
theorem NxD.eq {B : Heap} {L : Addr} {s : Shared} {P : List (Str × Value) → List (Addr × Obj) → Prop} {m u : Str → Option Value} {l : List (Str × Value)} {news news' : List (Addr × Obj)} {h' : Heap} {tk' : Nat}
    (F : Fr B L h' m) (e : m = fun y => if dead.contains y = true then u y else List.lookup y l) (N : News B L h' news') (p : P l news) (hs : ∀ p ∈ news, p ∈ news') : NxD B L s P .next { s with heap := h', toks := tk' } :=
  NxD.of (e ▸ F) N p hs
end Mine
end
theorem Mine.fresh_LA7a : True ∧ True := by
  w_on
  w_top off
  walk1
  all_goals trivial
/-! text LA7a -/
section
open PySem PySem.W PyProof.Rows PySem.Spec PySem.Calls
namespace Mine
set_option maxRecDepth 100000 in
set_option maxHeartbeats 8000000 in
theorem ch7a {w : World} {loose : List Str} {mean : ExcName → Option Value} {mg mb : Str → Option Value} {dp un : Nat} {gd : Option (List Code)} {fr : Option (List Env)} {B : Heap} {L : Addr} {s : Shared} {qual : Str} {body : List Stmt} {scope : Scope} {cdv : Value} {D S R G I : Addr} {ys zs rs gs : List Value} {ks : List Int} {sg rp : List Str} {fi st k : Int} {tu tst tk : Tok} {o1 o2 o3 o4 o5 o6 oI : Obj} {n n' : Nat} {l : List (Str × Value)} {u : Str → Option Value}
    (LD : LawDef (hd.heap_39 w.params) qual body scope cdv) (X : (hd.heap_39 w.params).In B) (T : Top hd.view_39 loose mean mg mb B) (hdp : dp + 10 < recursionLimit) (hun : un + 100 < cLine)
    (hI : IntsAre ys ks) (hks : ks.length = 7) (hall : ∀ k ∈ ks, 0 ≤ k ∧ k < 1000000) (hf0 : 0 ≤ fi) (hf1 : fi < 200000) (hZ : StrsAre zs sg) (hsg : sg.length = 7) (hR : StrsAre rs rp) (hrp : rp.length = 7) (hk0 : 0 ≤ k) (hk1 : k < 7) (hs1 : (sg.getD k.toNat Str.empty).length = 1) (hs2 : PyData.strOk (sg.getD k.toNat Str.empty) = true) (hs3 : PyData.strOk (rp.getD k.toNat Str.empty) = true)
    (d3 : o3.data = .cell (some (.ref S))) (d4 : o4.data = .cell (some (.int fi tu))) (d6 : o6.data = .cell (some (.ref D)))
    (F : Fr B L s.heap (fun y => (if y = Str.ofString "k" then some (.int k tk) else if dead.contains y = true then u y else List.lookup y ((Str.ofString "goals", .ref G) :: (Str.ofString "replies", .ref R) :: (Str.ofString "start", .int st tst) :: l)))) (N : News B L s.heap ((I, oI) :: (G, listOf gs.toArray n') :: [(R, LCg.lst rs), (S, LCg.lst zs), (D, listOf ys.toArray n), (L + 1 + 1 + 1 + 1 + 1 + 1, o1), (L + 1 + 1 + 1 + 1 + 1, o2), (L + 1 + 1 + 1 + 1, o3), (L + 1 + 1 + 1, o4), (L + 1 + 1, o5), (L + 1, o6)])) :
    wpAny (model PySem.Challenge.rw_tl0019_01.row.prog w) (Ar dp un gd fr) (execs ((forBody (body.drop 7)).take 4) (envOfC qual scope L 164 cdv)) (NxF B L s (fun m news => ∃ TD oD, ∃ u : Str → Option Value, ∃ t1, m = (fun y => if y = Str.ofString "due" then some (.ref TD) else if y = Str.ofString "kind" then some (.int (((ks.getD k.toNat 0).fdiv 7).fmod 32) t1) else if y = Str.ofString "k" then some (.int k tk) else if dead.contains y = true then u y else List.lookup y ((Str.ofString "goals", .ref G) :: (Str.ofString "replies", .ref R) :: (Str.ofString "start", .int st tst) :: l)) ∧ news = (TD, oD) :: (I, oI) :: (G, listOf gs.toArray n') :: [(R, LCg.lst rs), (S, LCg.lst zs), (D, listOf ys.toArray n), (L + 1 + 1 + 1 + 1 + 1 + 1, o1), (L + 1 + 1 + 1 + 1 + 1, o2), (L + 1 + 1 + 1 + 1, o3), (L + 1 + 1 + 1, o4), (L + 1 + 1, o5), (L + 1, o6)] ∧ ((((ks.getD k.toNat 0).fdiv 7).fmod 32 < 24 ∧ ∃ ta tb, oD = tupO (Str.ofString "p" ++ sg.getD k.toNat Str.empty) ta (fi + (ks.getD k.toNat 0).fmod 7) tb 0) ∨ (((ks.getD k.toNat 0).fdiv 7).fmod 32 = 30 ∧ ∃ ta, oD = listOf [.str (Str.ofString "value") ta].toArray 0) ∨ (((ks.getD k.toNat 0).fdiv 7).fmod 32 = 31 ∧ ∃ ta tb, oD = listOf [.str (Str.ofString "reply") ta, .str (rp.getD k.toNat Str.empty) tb].toArray 0) ∨ ((24 ≤ ((ks.getD k.toNat 0).fdiv 7).fmod 32 ∧ ((ks.getD k.toNat 0).fdiv 7).fmod 32 ≠ 30 ∧ ((ks.getD k.toNat 0).fdiv 7).fmod 32 ≠ 31) ∧ ∃ ta tb, oD = listOf [.str (Str.ofString "proto") ta, .str (rp.getD k.toNat Str.empty) tb].toArray 0)))) (fun _ _ => False) s := by
  revert X
  k_fill
  intro X
  refine hideA ?_
  intro Q9 hQ9
  have hE := LawDef.eq LD (by k_dflt k_is)
  obtain ⟨rfl, rfl, rfl, rfl⟩ := hE
  clear LD
  dsimp only [List.drop, List.take]
  have hx1 := getD_in hks hall hk0 (by omega)
  have hkd0 : 0 ≤ ((ks.getD k.toNat 0).fdiv 7).fmod 32 := Int.fmod_nonneg_of_pos _ (by decide)
  have hkd1 : ((ks.getD k.toNat 0).fdiv 7).fmod 32 < 32 := Int.fmod_lt_of_pos _ (by decide)
  dsimp only [forBody, List.drop, List.take]
  refine splitA [_] _ ?_
  refine wpAny_mono (Q := NxF B L s fun m news => ∃ TD u1 T2 o2' ta tb, m = (fun y => if y = Str.ofString "kind" then some (.int (((ks.getD k.toNat 0).fdiv 7).fmod 32) u1) else if y = Str.ofString "due" then some (.ref TD) else if y = Str.ofString "k" then some (.int k tk) else if dead.contains y = true then u y else List.lookup y ((Str.ofString "goals", .ref G) :: (Str.ofString "replies", .ref R) :: (Str.ofString "start", .int st tst) :: l)) ∧ news = (T2, o2') :: (TD, listOf [.str (Str.ofString "proto") ta, .str (rp.getD k.toNat Str.empty) tb].toArray 0) :: (I, oI) :: (G, listOf gs.toArray n') :: [(R, LCg.lst rs), (S, LCg.lst zs), (D, listOf ys.toArray n), (L + 1 + 1 + 1 + 1 + 1 + 1, o1), (L + 1 + 1 + 1 + 1 + 1, o2), (L + 1 + 1 + 1 + 1, o3), (L + 1 + 1 + 1, o4), (L + 1 + 1, o5), (L + 1, o6)]) ?_ ?_ (fun _ _ (e : False) => e.elim)
  · refine hideA ?_
    intro Q8 hQ8
    k_steps
    refine hQ8 _ _ ?_
    exact NxF.of (by assumption) (by assumption) ⟨_, _, _, _, _, _, rfl, rfl⟩ (fun _ hp => hp)
  · refine NxF.cont (fun h' tk' m news F1 N1 => ex6k (fun TD u1 T2 o2' ta tb => and2k (fun e90 e91 => ?_)))
    subst e90 e91
    clear F N
    dsimp only
    rcases (kind_split hkd1 : ((ks.getD k.toNat 0).fdiv 7).fmod 32 < 24 ∨ ((ks.getD k.toNat 0).fdiv 7).fmod 32 = 30 ∨ ((ks.getD k.toNat 0).fdiv 7).fmod 32 = 31 ∨ (24 ≤ ((ks.getD k.toNat 0).fdiv 7).fmod 32 ∧ ((ks.getD k.toNat 0).fdiv 7).fmod 32 ≠ 30 ∧ ((ks.getD k.toNat 0).fdiv 7).fmod 32 ≠ 31)) with hc | hc | hc | hc
    · k_steps
      all_goals (try (exfalso; omega))
      refine hQ9 _ _ ?_
      refine NxF.of (by assumption) (by assumption) ⟨_, _, u, u1, ?_, rfl, .inl ⟨hc, _, _, rfl⟩⟩ (by intro p hp; rcases List.mem_cons.mp hp with rfl | hp; (k_mem); (repeat (first | exact hp | apply List.Mem.tail)))
      (funext y; by_cases q1 : y = Str.ofString "due"; (simp only [q1, if_true]; try (first | rfl | simp)); (simp only [if_neg q1]); try (first | rfl | (by_cases q2 : y = Str.ofString "kind"; (simp only [if_pos q2]); (simp only [if_neg q2]))))
    · k_steps
      all_goals (try (exfalso; omega))
      refine hQ9 _ _ ?_
      refine NxF.of (by assumption) (by assumption) ⟨_, _, u, u1, ?_, rfl, .inr (.inl ⟨hc, _, rfl⟩)⟩ (by intro p hp; rcases List.mem_cons.mp hp with rfl | hp; (k_mem); (repeat (first | exact hp | apply List.Mem.tail)))
      (funext y; by_cases q1 : y = Str.ofString "due"; (simp only [q1, if_true]; try (first | rfl | simp)); (simp only [if_neg q1]); try (first | rfl | (by_cases q2 : y = Str.ofString "kind"; (simp only [if_pos q2]); (simp only [if_neg q2]))))
    · k_steps
      all_goals (try (exfalso; omega))
      refine hQ9 _ _ ?_
      refine NxF.of (by assumption) (by assumption) ⟨_, _, u, u1, ?_, rfl, .inr (.inr (.inl ⟨hc, _, _, rfl⟩))⟩ (by intro p hp; rcases List.mem_cons.mp hp with rfl | hp; (k_mem); (repeat (first | exact hp | apply List.Mem.tail)))
      (funext y; by_cases q1 : y = Str.ofString "due"; (simp only [q1, if_true]; try (first | rfl | simp)); (simp only [if_neg q1]); try (first | rfl | (by_cases q2 : y = Str.ofString "kind"; (simp only [if_pos q2]); (simp only [if_neg q2]))))
    · k_steps
      all_goals (try (exfalso; omega))
      refine hQ9 _ _ ?_
      refine NxF.of (by assumption) (by assumption) ⟨_, _, u, u1, ?_, rfl, .inr (.inr (.inr ⟨hc, _, _, rfl⟩))⟩ (by intro p hp; rcases List.mem_cons.mp hp with rfl | hp; (k_mem); (repeat (first | exact hp | apply List.Mem.tail)))
      (funext y; by_cases q1 : y = Str.ofString "due"; (simp only [q1, if_true]; try (first | rfl | simp)); (simp only [if_neg q1]); try (first | rfl | (by_cases q2 : y = Str.ofString "kind"; (simp only [if_pos q2]); (simp only [if_neg q2]))))

end Mine
end
theorem Mine.fresh_LA7b : True ∧ True := by
  w_on
  w_top off
  walk1
  all_goals trivial
/-! text LA7b -/
section
open PySem PySem.W PyProof.Rows PySem.Spec PySem.Calls
namespace Mine
set_option maxRecDepth 100000 in
set_option maxHeartbeats 8000000 in
theorem ch7b {w : World} {loose : List Str} {mean : ExcName → Option Value} {mg mb : Str → Option Value} {dp un : Nat} {gd : Option (List Code)} {B : Heap} {L : Addr} {s : Shared} {qual : Str} {body : List Stmt} {scope : Scope} {cdv : Value} {D S R G I : Addr} {ys zs rs gs : List Value} {ks : List Int} {sg rp : List Str} {fi st k : Int} {tu tst tk : Tok} {o1 o2 o3 o4 o5 o6 oI : Obj} {n n' : Nat} {l : List (Str × Value)} {u : Str → Option Value} {TD : Addr} {oD : Obj} {t1 : Tok}
    (LD : LawDef (hd.heap_39 w.params) qual body scope cdv) (X : (hd.heap_39 w.params).In B) (T : Top hd.view_39 loose mean mg mb B) (hdp : dp + 10 < recursionLimit) (hun : un + 100 < cLine)
    (hI : IntsAre ys ks) (hks : ks.length = 7) (hall : ∀ k ∈ ks, 0 ≤ k ∧ k < 1000000) (hf0 : 0 ≤ fi) (hf1 : fi < 200000) (hZ : StrsAre zs sg) (hsg : sg.length = 7) (hR : StrsAre rs rp) (hrp : rp.length = 7) (hk0 : 0 ≤ k) (hk1 : k < 7) (hs1 : (sg.getD k.toNat Str.empty).length = 1) (hs2 : PyData.strOk (sg.getD k.toNat Str.empty) = true) (hs3 : PyData.strOk (rp.getD k.toNat Str.empty) = true)
    (d3 : o3.data = .cell (some (.ref S))) (d4 : o4.data = .cell (some (.int fi tu))) (d6 : o6.data = .cell (some (.ref D)))
   (hsay1 : Says (rp.getD k.toNat Str.empty) (((ks.getD k.toNat 0).fdiv 7).fmod 32) (fi + (ks.getD k.toNat 0).fmod 7))
    (F : Fr B L s.heap (fun y => (if y = Str.ofString "due" then some (.ref TD) else if y = Str.ofString "kind" then some (.int (((ks.getD k.toNat 0).fdiv 7).fmod 32) t1) else if y = Str.ofString "k" then some (.int k tk) else if dead.contains y = true then u y else List.lookup y ((Str.ofString "goals", .ref G) :: (Str.ofString "replies", .ref R) :: (Str.ofString "start", .int st tst) :: l)))) (N : News B L s.heap ((TD, oD) :: (I, oI) :: (G, listOf gs.toArray n') :: [(R, LCg.lst rs), (S, LCg.lst zs), (D, listOf ys.toArray n), (L + 1 + 1 + 1 + 1 + 1 + 1, o1), (L + 1 + 1 + 1 + 1 + 1, o2), (L + 1 + 1 + 1 + 1, o3), (L + 1 + 1 + 1, o4), (L + 1 + 1, o5), (L + 1, o6)])) :
    wpC (model PySem.Challenge.rw_tl0019_01.row.prog w) (Ar dp un gd (some [envOfC qual scope L 164 cdv])) (execs (((forBody (body.drop 7)).drop 4).take 1) (envOfC qual scope L 164 cdv)) (NxF B L s (fun m news => ∃ T1 oT, m = (fun y => if y = Str.ofString "told" then some (.ref T1) else if y = Str.ofString "due" then some (.ref TD) else if y = Str.ofString "kind" then some (.int (((ks.getD k.toNat 0).fdiv 7).fmod 32) t1) else if y = Str.ofString "k" then some (.int k tk) else if dead.contains y = true then u y else List.lookup y ((Str.ofString "goals", .ref G) :: (Str.ofString "replies", .ref R) :: (Str.ofString "start", .int st tst) :: l)) ∧ news = (T1, oT) :: (TD, oD) :: (I, oI) :: (G, listOf gs.toArray n') :: [(R, LCg.lst rs), (S, LCg.lst zs), (D, listOf ys.toArray n), (L + 1 + 1 + 1 + 1 + 1 + 1, o1), (L + 1 + 1 + 1 + 1 + 1, o2), (L + 1 + 1 + 1 + 1, o3), (L + 1 + 1 + 1, o4), (L + 1 + 1, o5), (L + 1, o6)] ∧ ((((ks.getD k.toNat 0).fdiv 7).fmod 32 < 24 ∧ ∃ ta tb, oT = tupO (Str.ofString "p" ++ sg.getD k.toNat Str.empty) ta (fi + (ks.getD k.toNat 0).fmod 7) tb 0) ∨ (((ks.getD k.toNat 0).fdiv 7).fmod 32 = 30 ∧ ∃ ta, oT = listOf [.str (Str.ofString "value") ta].toArray 0) ∨ (((ks.getD k.toNat 0).fdiv 7).fmod 32 = 31 ∧ ∃ ta tb, oT = listOf [.str (Str.ofString "reply") ta, .str (rp.getD k.toNat Str.empty) tb].toArray 0) ∨ ((24 ≤ ((ks.getD k.toNat 0).fdiv 7).fmod 32 ∧ ((ks.getD k.toNat 0).fdiv 7).fmod 32 ≠ 30 ∧ ((ks.getD k.toNat 0).fdiv 7).fmod 32 ≠ 31) ∧ ∃ ta tb, oT = listOf [.str (Str.ofString "proto") ta, .str (rp.getD k.toNat Str.empty) tb].toArray 0)))) (fun _ _ => False) s := by
  revert X
  k_fill
  intro X
  refine hideC ?_
  intro Q9 hQ9
  have hE := LawDef.eq LD (by k_dflt k_is)
  obtain ⟨rfl, rfl, rfl, rfl⟩ := hE
  clear LD
  dsimp only [List.drop, List.take]
  dsimp only [forBody, List.drop, List.take]
  refine C.execs_cons (C.Assign_Name (C.Call_Name ?_))
  k_steps
  refine C.callWith_K (K := hd.heap_39 w.params) ?_ ?_
  (k_dflt k_is)
  k_steps
  refine' hear_w rfl (by assumption) (by assumption) X T (by omega) (by omega) (.head _) hsay1 ?_ ?_
  · intro T' h' tk' tk'' hk F2 N2 hne
    k_steps
    refine C.of (wpAny_execs_nil ?_)
    refine hQ9 _ _ ?_
    exact NxF.of (by assumption) (by assumption) ⟨_, _, rfl, rfl, .inl ⟨hk, _, _, rfl⟩⟩ (by intro p hp; rcases List.mem_cons.mp hp with rfl | hp; (k_mem); (repeat (first | exact hp | apply List.Mem.tail)))
  · rintro vs T' h' tk' (⟨hk, t', rfl⟩ | ⟨hk, hk2, hk3, t', rfl⟩ | ⟨hk, t', rfl⟩) F2 N2 hne
    · k_steps
      refine C.of (wpAny_execs_nil ?_)
      refine hQ9 _ _ ?_
      exact NxF.of (by assumption) (by assumption) ⟨_, _, rfl, rfl, .inr (.inr (.inl ⟨hk, _, _, rfl⟩))⟩ (by intro p hp; rcases List.mem_cons.mp hp with rfl | hp; (k_mem); (repeat (first | exact hp | apply List.Mem.tail)))
    · k_steps
      refine C.of (wpAny_execs_nil ?_)
      refine hQ9 _ _ ?_
      exact NxF.of (by assumption) (by assumption) ⟨_, _, rfl, rfl, .inr (.inr (.inr ⟨⟨hk, hk2, hk3⟩, _, _, rfl⟩))⟩ (by intro p hp; rcases List.mem_cons.mp hp with rfl | hp; (k_mem); (repeat (first | exact hp | apply List.Mem.tail)))
    · k_steps
      refine C.of (wpAny_execs_nil ?_)
      refine hQ9 _ _ ?_
      exact NxF.of (by assumption) (by assumption) ⟨_, _, rfl, rfl, .inr (.inl ⟨hk, _, rfl⟩)⟩ (by intro p hp; rcases List.mem_cons.mp hp with rfl | hp; (k_mem); (repeat (first | exact hp | apply List.Mem.tail)))
end Mine
end
section
open PySem PySem.W PyProof.Rows PySem.Spec PySem.Calls Mine
local macro_rules | `(tactic| ke_shaped) => `(tactic| first | exact shaped_tup (strOk_append strOk_p (by assumption)) | exact shaped_two strOk_proto (by assumption) | exact shaped_two strOk_reply (by assumption) | exact shaped_one strOk_value)
theorem Mine.fresh_LA7cg : True ∧ True := by
  w_on
  w_top off
  walk1
  all_goals trivial
/-! text LA7cg -/
section
open PySem PySem.W PyProof.Rows PySem.Spec PySem.Calls
namespace Mine
theorem cls_all {a : Addr} {o : Obj} {l : List (Addr × Obj)} (h : isSeq o = true ∨ isSeq o = true) (hl : ∀ p ∈ l, NotIt p.2) : ∀ p ∈ (a, o) :: l, NotIt p.2 := fun p hp => by
  rcases List.mem_cons.mp hp with rfl | hp
  · rcases h with h | h
    · exact notIt_seq h
    · exact notIt_seq h
  · exact hl p hp
noncomputable def goalP (ks : List Int) (k : Nat) : Int := if kindP (ks.getD k 0) < 24 then (ks.getD k 0).fmod 7 else (k : Int)
theorem goal_lt {ks : List Int} {k : Nat} (h : ((ks.getD k 0).fdiv 7).fmod 32 < 24) : goalP ks k = (ks.getD k 0).fmod 7 := if_pos h
theorem goal_ge {ks : List Int} {k : Nat} (h : ¬ ((ks.getD k 0).fdiv 7).fmod 32 < 24) : goalP ks k = (k : Int) := if_neg h
set_option maxRecDepth 100000 in
set_option maxHeartbeats 8000000 in
theorem ch7cg {w : World} {loose : List Str} {mean : ExcName → Option Value} {mg mb : Str → Option Value} {dp un : Nat} {gd : Option (List Code)} {fr : Option (List Env)} {B : Heap} {L : Addr} {s : Shared} {qual : Str} {body : List Stmt} {scope : Scope} {cdv : Value} {D S R G I : Addr} {ys zs rs gs : List Value} {ks : List Int} {sg rp : List Str} {fi st k : Int} {tu tst tk : Tok} {o1 o2 o3 o4 o5 o6 oI : Obj} {n n' : Nat} {l : List (Str × Value)} {u : Str → Option Value} {TD T1 : Addr} {ta tb tc td : Tok} {t1 : Tok}
    (LD : LawDef (hd.heap_39 w.params) qual body scope cdv) (X : (hd.heap_39 w.params).In B) (T : Top hd.view_39 loose mean mg mb B) (hdp : dp + 10 < recursionLimit) (hun : un + 100 < cLine)
    (hI : IntsAre ys ks) (hks : ks.length = 7) (hall : ∀ k ∈ ks, 0 ≤ k ∧ k < 1000000) (hf0 : 0 ≤ fi) (hf1 : fi < 200000) (hZ : StrsAre zs sg) (hsg : sg.length = 7) (hR : StrsAre rs rp) (hrp : rp.length = 7) (hk0 : 0 ≤ k) (hk1 : k < 7) (hs1 : (sg.getD k.toNat Str.empty).length = 1) (hs2 : PyData.strOk (sg.getD k.toNat Str.empty) = true) (hs3 : PyData.strOk (rp.getD k.toNat Str.empty) = true)
    (d3 : o3.data = .cell (some (.ref S))) (d4 : o4.data = .cell (some (.int fi tu))) (d6 : o6.data = .cell (some (.ref D)))
   (hc : ((ks.getD k.toNat 0).fdiv 7).fmod 32 < 24) (hgl : gs.length ≤ 7) (hIG : (I, oI).1 ≠ G) (hGr : ∀ p ∈ [(R, LCg.lst rs), (S, LCg.lst zs), (D, listOf ys.toArray n), (L + 1 + 1 + 1 + 1 + 1 + 1, o1), (L + 1 + 1 + 1 + 1 + 1, o2), (L + 1 + 1 + 1 + 1, o3), (L + 1 + 1 + 1, o4), (L + 1 + 1, o5), (L + 1, o6)], p.1 ≠ G)
    (F : Fr B L s.heap (fun y => (if y = Str.ofString "told" then some (.ref T1) else if y = Str.ofString "due" then some (.ref TD) else if y = Str.ofString "kind" then some (.int (((ks.getD k.toNat 0).fdiv 7).fmod 32) t1) else if y = Str.ofString "k" then some (.int k tk) else if dead.contains y = true then u y else List.lookup y ((Str.ofString "goals", .ref G) :: (Str.ofString "replies", .ref R) :: (Str.ofString "start", .int st tst) :: l)))) (N : News B L s.heap ((T1, tupO (Str.ofString "p" ++ sg.getD k.toNat Str.empty) ta (fi + (ks.getD k.toNat 0).fmod 7) tb 0) :: (TD, tupO (Str.ofString "p" ++ sg.getD k.toNat Str.empty) tc (fi + (ks.getD k.toNat 0).fmod 7) td 0) :: (I, oI) :: (G, listOf gs.toArray n') :: [(R, LCg.lst rs), (S, LCg.lst zs), (D, listOf ys.toArray n), (L + 1 + 1 + 1 + 1 + 1 + 1, o1), (L + 1 + 1 + 1 + 1 + 1, o2), (L + 1 + 1 + 1 + 1, o3), (L + 1 + 1 + 1, o4), (L + 1 + 1, o5), (L + 1, o6)])) :
    wpAny (model PySem.Challenge.rw_tl0019_01.row.prog w) (Ar dp un gd fr) (execs (((forBody (body.drop 7)).drop 5).take 2) (envOfC qual scope L 164 cdv)) (NxF B L s (fun m news => ∃ u' : Str → Option Value, ∃ v, m = (fun y => if dead.contains y = true then u' y else List.lookup y ((Str.ofString "goals", .ref G) :: (Str.ofString "replies", .ref R) :: (Str.ofString "start", .int st tst) :: l)) ∧ IntsAre [v] [goalP ks k.toNat] ∧ news = (I, oI) :: (G, listOf (gs ++ [v]).toArray (n' + 1)) :: [(R, LCg.lst rs), (S, LCg.lst zs), (D, listOf ys.toArray n), (L + 1 + 1 + 1 + 1 + 1 + 1, o1), (L + 1 + 1 + 1 + 1 + 1, o2), (L + 1 + 1 + 1 + 1, o3), (L + 1 + 1 + 1, o4), (L + 1 + 1, o5), (L + 1, o6)])) (fun _ _ => False) s := by
  revert X
  k_fill
  intro X
  refine hideA ?_
  intro Q9 hQ9
  have hE := LawDef.eq LD (by k_dflt k_is)
  obtain ⟨rfl, rfl, rfl, rfl⟩ := hE
  clear LD
  dsimp only [List.drop, List.take]
  have hx1 := getD_in hks hall hk0 (by omega)
  have hkd0 : 0 ≤ ((ks.getD k.toNat 0).fdiv 7).fmod 32 := Int.fmod_nonneg_of_pos _ (by decide)
  have hkd1 : ((ks.getD k.toNat 0).fdiv 7).fmod 32 < 32 := Int.fmod_lt_of_pos _ (by decide)
  dsimp only [forBody, List.drop, List.take]
  refine splitA [_] _ ?_
  refine wpAny_mono (Q := NxF B L s fun m news => m = (fun y => if y = Str.ofString "told" then some (.ref T1) else if y = Str.ofString "due" then some (.ref TD) else if y = Str.ofString "kind" then some (.int (((ks.getD k.toNat 0).fdiv 7).fmod 32) t1) else if y = Str.ofString "k" then some (.int k tk) else if dead.contains y = true then u y else List.lookup y ((Str.ofString "goals", .ref G) :: (Str.ofString "replies", .ref R) :: (Str.ofString "start", .int st tst) :: l)) ∧ news = (I, oI) :: (G, listOf gs.toArray n') :: [(R, LCg.lst rs), (S, LCg.lst zs), (D, listOf ys.toArray n), (L + 1 + 1 + 1 + 1 + 1 + 1, o1), (L + 1 + 1 + 1 + 1 + 1, o2), (L + 1 + 1 + 1 + 1, o3), (L + 1 + 1 + 1, o4), (L + 1 + 1, o5), (L + 1, o6)]) ?_ ?_ (fun _ _ (e : False) => e.elim)
  · refine hideA ?_
    intro Q8 hQ8
    repeat' (first | (k_unfold; (try dsimp only)) | (k_here; (with_reducible show wpAny _ _ (call (Value.builtin _) [Value.ref _, _]) _ _ _); (refine' append_K ?z9a ?z9b ?z9c ?_ ?z9z; (case z9a => assumption); (case z9b => assumption); (case z9c => exact Upd.tail (by assumption) (Upd.head (by assumption))); (case z9z => (rw [List.size_toArray, sizeLine_eq]; omega))); intro h9 F9 N9) | walk1 | (dsimp only; walk1) | fail "no step")
    refine hQ8 _ _ ?_
    exact NxF.of (by assumption) (by assumption) ⟨rfl, rfl⟩ (by intro p hp; (repeat (first | exact hp | apply List.Mem.tail)))
  refine NxF.cont (fun h' tk' m news F1 N1 => and2k (fun e90 e91 => ?_))
  subst e90 e91
  clear F N
  dsimp only
  repeat' (first | (k_unfold; (try dsimp only)) | (k_here; (with_reducible show wpAny _ _ (call (Value.builtin _) [Value.ref _, _]) _ _ _); (refine' append_K ?z9a ?z9b ?z9c ?_ ?z9z; (case z9a => assumption); (case z9b => assumption); (case z9c => exact Upd.tail (by assumption) (Upd.head (by assumption))); (case z9z => (rw [List.size_toArray, sizeLine_eq]; omega))); intro h9 F9 N9) | walk1 | (dsimp only; walk1) | fail "no step")
  rename Fr _ _ _ _ => F9
  rename News _ _ _ _ => N9
  rw [List.push_toArray] at N9
  refine hQ9 _ _ ?_
  refine NxF.of F9 N9 ⟨_, _, stored_eq fun y hy => ?_, ?_, rfl⟩ (fun _ hp => hp)
  · (repeat rw [if_neg (not_dead hy (by decide +kernel))]); rw [if_neg (not_dead' hy)]
  · first
      | (rw [goal_lt (by omega)]; exact .cons _ _ .nil)
      | (rw [goal_ge (by omega), Int.toNat_of_nonneg hk0]; exact .cons _ _ .nil)

end Mine
end
theorem Mine.fresh_LA7cv : True ∧ True := by
  w_on
  w_top off
  walk1
  all_goals trivial
/-! text LA7cv -/
section
open PySem PySem.W PyProof.Rows PySem.Spec PySem.Calls
namespace Mine
set_option maxRecDepth 100000 in
set_option maxHeartbeats 8000000 in
theorem ch7cv {w : World} {loose : List Str} {mean : ExcName → Option Value} {mg mb : Str → Option Value} {dp un : Nat} {gd : Option (List Code)} {fr : Option (List Env)} {B : Heap} {L : Addr} {s : Shared} {qual : Str} {body : List Stmt} {scope : Scope} {cdv : Value} {D S R G I : Addr} {ys zs rs gs : List Value} {ks : List Int} {sg rp : List Str} {fi st k : Int} {tu tst tk : Tok} {o1 o2 o3 o4 o5 o6 oI : Obj} {n n' : Nat} {l : List (Str × Value)} {u : Str → Option Value} {TD T1 : Addr} {ta tc : Tok} {t1 : Tok}
    (LD : LawDef (hd.heap_39 w.params) qual body scope cdv) (X : (hd.heap_39 w.params).In B) (T : Top hd.view_39 loose mean mg mb B) (hdp : dp + 10 < recursionLimit) (hun : un + 100 < cLine)
    (hI : IntsAre ys ks) (hks : ks.length = 7) (hall : ∀ k ∈ ks, 0 ≤ k ∧ k < 1000000) (hf0 : 0 ≤ fi) (hf1 : fi < 200000) (hZ : StrsAre zs sg) (hsg : sg.length = 7) (hR : StrsAre rs rp) (hrp : rp.length = 7) (hk0 : 0 ≤ k) (hk1 : k < 7) (hs1 : (sg.getD k.toNat Str.empty).length = 1) (hs2 : PyData.strOk (sg.getD k.toNat Str.empty) = true) (hs3 : PyData.strOk (rp.getD k.toNat Str.empty) = true)
    (d3 : o3.data = .cell (some (.ref S))) (d4 : o4.data = .cell (some (.int fi tu))) (d6 : o6.data = .cell (some (.ref D)))
   (hc : ((ks.getD k.toNat 0).fdiv 7).fmod 32 = 30) (hgl : gs.length ≤ 7) (hIG : (I, oI).1 ≠ G) (hGr : ∀ p ∈ [(R, LCg.lst rs), (S, LCg.lst zs), (D, listOf ys.toArray n), (L + 1 + 1 + 1 + 1 + 1 + 1, o1), (L + 1 + 1 + 1 + 1 + 1, o2), (L + 1 + 1 + 1 + 1, o3), (L + 1 + 1 + 1, o4), (L + 1 + 1, o5), (L + 1, o6)], p.1 ≠ G)
    (F : Fr B L s.heap (fun y => (if y = Str.ofString "told" then some (.ref T1) else if y = Str.ofString "due" then some (.ref TD) else if y = Str.ofString "kind" then some (.int (((ks.getD k.toNat 0).fdiv 7).fmod 32) t1) else if y = Str.ofString "k" then some (.int k tk) else if dead.contains y = true then u y else List.lookup y ((Str.ofString "goals", .ref G) :: (Str.ofString "replies", .ref R) :: (Str.ofString "start", .int st tst) :: l)))) (N : News B L s.heap ((T1, listOf [.str (Str.ofString "value") ta].toArray 0) :: (TD, listOf [.str (Str.ofString "value") tc].toArray 0) :: (I, oI) :: (G, listOf gs.toArray n') :: [(R, LCg.lst rs), (S, LCg.lst zs), (D, listOf ys.toArray n), (L + 1 + 1 + 1 + 1 + 1 + 1, o1), (L + 1 + 1 + 1 + 1 + 1, o2), (L + 1 + 1 + 1 + 1, o3), (L + 1 + 1 + 1, o4), (L + 1 + 1, o5), (L + 1, o6)])) :
    wpAny (model PySem.Challenge.rw_tl0019_01.row.prog w) (Ar dp un gd fr) (execs (((forBody (body.drop 7)).drop 5).take 2) (envOfC qual scope L 164 cdv)) (NxF B L s (fun m news => ∃ u' : Str → Option Value, ∃ v, m = (fun y => if dead.contains y = true then u' y else List.lookup y ((Str.ofString "goals", .ref G) :: (Str.ofString "replies", .ref R) :: (Str.ofString "start", .int st tst) :: l)) ∧ IntsAre [v] [goalP ks k.toNat] ∧ news = (I, oI) :: (G, listOf (gs ++ [v]).toArray (n' + 1)) :: [(R, LCg.lst rs), (S, LCg.lst zs), (D, listOf ys.toArray n), (L + 1 + 1 + 1 + 1 + 1 + 1, o1), (L + 1 + 1 + 1 + 1 + 1, o2), (L + 1 + 1 + 1 + 1, o3), (L + 1 + 1 + 1, o4), (L + 1 + 1, o5), (L + 1, o6)])) (fun _ _ => False) s := by
  revert X
  k_fill
  intro X
  refine hideA ?_
  intro Q9 hQ9
  have hE := LawDef.eq LD (by k_dflt k_is)
  obtain ⟨rfl, rfl, rfl, rfl⟩ := hE
  clear LD
  dsimp only [List.drop, List.take]
  have hx1 := getD_in hks hall hk0 (by omega)
  have hkd0 : 0 ≤ ((ks.getD k.toNat 0).fdiv 7).fmod 32 := Int.fmod_nonneg_of_pos _ (by decide)
  have hkd1 : ((ks.getD k.toNat 0).fdiv 7).fmod 32 < 32 := Int.fmod_lt_of_pos _ (by decide)
  dsimp only [forBody, List.drop, List.take]
  refine splitA [_] _ ?_
  refine wpAny_mono (Q := NxF B L s fun m news => m = (fun y => if y = Str.ofString "told" then some (.ref T1) else if y = Str.ofString "due" then some (.ref TD) else if y = Str.ofString "kind" then some (.int (((ks.getD k.toNat 0).fdiv 7).fmod 32) t1) else if y = Str.ofString "k" then some (.int k tk) else if dead.contains y = true then u y else List.lookup y ((Str.ofString "goals", .ref G) :: (Str.ofString "replies", .ref R) :: (Str.ofString "start", .int st tst) :: l)) ∧ news = (I, oI) :: (G, listOf gs.toArray n') :: [(R, LCg.lst rs), (S, LCg.lst zs), (D, listOf ys.toArray n), (L + 1 + 1 + 1 + 1 + 1 + 1, o1), (L + 1 + 1 + 1 + 1 + 1, o2), (L + 1 + 1 + 1 + 1, o3), (L + 1 + 1 + 1, o4), (L + 1 + 1, o5), (L + 1, o6)]) ?_ ?_ (fun _ _ (e : False) => e.elim)
  · refine hideA ?_
    intro Q8 hQ8
    repeat' (first | (k_unfold; (try dsimp only)) | (k_here; (with_reducible show wpAny _ _ (call (Value.builtin _) [Value.ref _, _]) _ _ _); (refine' append_K ?z9a ?z9b ?z9c ?_ ?z9z; (case z9a => assumption); (case z9b => assumption); (case z9c => exact Upd.tail (by assumption) (Upd.head (by assumption))); (case z9z => (rw [List.size_toArray, sizeLine_eq]; omega))); intro h9 F9 N9) | walk1 | (dsimp only; walk1) | fail "no step")
    refine hQ8 _ _ ?_
    exact NxF.of (by assumption) (by assumption) ⟨rfl, rfl⟩ (by intro p hp; (repeat (first | exact hp | apply List.Mem.tail)))
  refine NxF.cont (fun h' tk' m news F1 N1 => and2k (fun e90 e91 => ?_))
  subst e90 e91
  clear F N
  dsimp only
  repeat' (first | (k_unfold; (try dsimp only)) | (k_here; (with_reducible show wpAny _ _ (call (Value.builtin _) [Value.ref _, _]) _ _ _); (refine' append_K ?z9a ?z9b ?z9c ?_ ?z9z; (case z9a => assumption); (case z9b => assumption); (case z9c => exact Upd.tail (by assumption) (Upd.head (by assumption))); (case z9z => (rw [List.size_toArray, sizeLine_eq]; omega))); intro h9 F9 N9) | walk1 | (dsimp only; walk1) | fail "no step")
  rename Fr _ _ _ _ => F9
  rename News _ _ _ _ => N9
  rw [List.push_toArray] at N9
  refine hQ9 _ _ ?_
  refine NxF.of F9 N9 ⟨_, _, stored_eq fun y hy => ?_, ?_, rfl⟩ (fun _ hp => hp)
  · (repeat rw [if_neg (not_dead hy (by decide +kernel))]); rw [if_neg (not_dead' hy)]
  · first
      | (rw [goal_lt (by omega)]; exact .cons _ _ .nil)
      | (rw [goal_ge (by omega), Int.toNat_of_nonneg hk0]; exact .cons _ _ .nil)

end Mine
end
theorem Mine.fresh_LA7cr : True ∧ True := by
  w_on
  w_top off
  walk1
  all_goals trivial
/-! text LA7cr -/
section
open PySem PySem.W PyProof.Rows PySem.Spec PySem.Calls
namespace Mine
set_option maxRecDepth 100000 in
set_option maxHeartbeats 8000000 in
theorem ch7cr {w : World} {loose : List Str} {mean : ExcName → Option Value} {mg mb : Str → Option Value} {dp un : Nat} {gd : Option (List Code)} {fr : Option (List Env)} {B : Heap} {L : Addr} {s : Shared} {qual : Str} {body : List Stmt} {scope : Scope} {cdv : Value} {D S R G I : Addr} {ys zs rs gs : List Value} {ks : List Int} {sg rp : List Str} {fi st k : Int} {tu tst tk : Tok} {o1 o2 o3 o4 o5 o6 oI : Obj} {n n' : Nat} {l : List (Str × Value)} {u : Str → Option Value} {TD T1 : Addr} {ta tb tc td : Tok} {t1 : Tok}
    (LD : LawDef (hd.heap_39 w.params) qual body scope cdv) (X : (hd.heap_39 w.params).In B) (T : Top hd.view_39 loose mean mg mb B) (hdp : dp + 10 < recursionLimit) (hun : un + 100 < cLine)
    (hI : IntsAre ys ks) (hks : ks.length = 7) (hall : ∀ k ∈ ks, 0 ≤ k ∧ k < 1000000) (hf0 : 0 ≤ fi) (hf1 : fi < 200000) (hZ : StrsAre zs sg) (hsg : sg.length = 7) (hR : StrsAre rs rp) (hrp : rp.length = 7) (hk0 : 0 ≤ k) (hk1 : k < 7) (hs1 : (sg.getD k.toNat Str.empty).length = 1) (hs2 : PyData.strOk (sg.getD k.toNat Str.empty) = true) (hs3 : PyData.strOk (rp.getD k.toNat Str.empty) = true)
    (d3 : o3.data = .cell (some (.ref S))) (d4 : o4.data = .cell (some (.int fi tu))) (d6 : o6.data = .cell (some (.ref D)))
   (hc : ((ks.getD k.toNat 0).fdiv 7).fmod 32 = 31) (hgl : gs.length ≤ 7) (hIG : (I, oI).1 ≠ G) (hGr : ∀ p ∈ [(R, LCg.lst rs), (S, LCg.lst zs), (D, listOf ys.toArray n), (L + 1 + 1 + 1 + 1 + 1 + 1, o1), (L + 1 + 1 + 1 + 1 + 1, o2), (L + 1 + 1 + 1 + 1, o3), (L + 1 + 1 + 1, o4), (L + 1 + 1, o5), (L + 1, o6)], p.1 ≠ G)
    (F : Fr B L s.heap (fun y => (if y = Str.ofString "told" then some (.ref T1) else if y = Str.ofString "due" then some (.ref TD) else if y = Str.ofString "kind" then some (.int (((ks.getD k.toNat 0).fdiv 7).fmod 32) t1) else if y = Str.ofString "k" then some (.int k tk) else if dead.contains y = true then u y else List.lookup y ((Str.ofString "goals", .ref G) :: (Str.ofString "replies", .ref R) :: (Str.ofString "start", .int st tst) :: l)))) (N : News B L s.heap ((T1, listOf [.str (Str.ofString "reply") ta, .str (rp.getD k.toNat Str.empty) tb].toArray 0) :: (TD, listOf [.str (Str.ofString "reply") tc, .str (rp.getD k.toNat Str.empty) td].toArray 0) :: (I, oI) :: (G, listOf gs.toArray n') :: [(R, LCg.lst rs), (S, LCg.lst zs), (D, listOf ys.toArray n), (L + 1 + 1 + 1 + 1 + 1 + 1, o1), (L + 1 + 1 + 1 + 1 + 1, o2), (L + 1 + 1 + 1 + 1, o3), (L + 1 + 1 + 1, o4), (L + 1 + 1, o5), (L + 1, o6)])) :
    wpAny (model PySem.Challenge.rw_tl0019_01.row.prog w) (Ar dp un gd fr) (execs (((forBody (body.drop 7)).drop 5).take 2) (envOfC qual scope L 164 cdv)) (NxF B L s (fun m news => ∃ u' : Str → Option Value, ∃ v, m = (fun y => if dead.contains y = true then u' y else List.lookup y ((Str.ofString "goals", .ref G) :: (Str.ofString "replies", .ref R) :: (Str.ofString "start", .int st tst) :: l)) ∧ IntsAre [v] [goalP ks k.toNat] ∧ news = (I, oI) :: (G, listOf (gs ++ [v]).toArray (n' + 1)) :: [(R, LCg.lst rs), (S, LCg.lst zs), (D, listOf ys.toArray n), (L + 1 + 1 + 1 + 1 + 1 + 1, o1), (L + 1 + 1 + 1 + 1 + 1, o2), (L + 1 + 1 + 1 + 1, o3), (L + 1 + 1 + 1, o4), (L + 1 + 1, o5), (L + 1, o6)])) (fun _ _ => False) s := by
  revert X
  k_fill
  intro X
  refine hideA ?_
  intro Q9 hQ9
  have hE := LawDef.eq LD (by k_dflt k_is)
  obtain ⟨rfl, rfl, rfl, rfl⟩ := hE
  clear LD
  dsimp only [List.drop, List.take]
  have hx1 := getD_in hks hall hk0 (by omega)
  have hkd0 : 0 ≤ ((ks.getD k.toNat 0).fdiv 7).fmod 32 := Int.fmod_nonneg_of_pos _ (by decide)
  have hkd1 : ((ks.getD k.toNat 0).fdiv 7).fmod 32 < 32 := Int.fmod_lt_of_pos _ (by decide)
  dsimp only [forBody, List.drop, List.take]
  refine splitA [_] _ ?_
  refine wpAny_mono (Q := NxF B L s fun m news => m = (fun y => if y = Str.ofString "told" then some (.ref T1) else if y = Str.ofString "due" then some (.ref TD) else if y = Str.ofString "kind" then some (.int (((ks.getD k.toNat 0).fdiv 7).fmod 32) t1) else if y = Str.ofString "k" then some (.int k tk) else if dead.contains y = true then u y else List.lookup y ((Str.ofString "goals", .ref G) :: (Str.ofString "replies", .ref R) :: (Str.ofString "start", .int st tst) :: l)) ∧ news = (I, oI) :: (G, listOf gs.toArray n') :: [(R, LCg.lst rs), (S, LCg.lst zs), (D, listOf ys.toArray n), (L + 1 + 1 + 1 + 1 + 1 + 1, o1), (L + 1 + 1 + 1 + 1 + 1, o2), (L + 1 + 1 + 1 + 1, o3), (L + 1 + 1 + 1, o4), (L + 1 + 1, o5), (L + 1, o6)]) ?_ ?_ (fun _ _ (e : False) => e.elim)
  · refine hideA ?_
    intro Q8 hQ8
    repeat' (first | (k_unfold; (try dsimp only)) | (k_here; (with_reducible show wpAny _ _ (call (Value.builtin _) [Value.ref _, _]) _ _ _); (refine' append_K ?z9a ?z9b ?z9c ?_ ?z9z; (case z9a => assumption); (case z9b => assumption); (case z9c => exact Upd.tail (by assumption) (Upd.head (by assumption))); (case z9z => (rw [List.size_toArray, sizeLine_eq]; omega))); intro h9 F9 N9) | walk1 | (dsimp only; walk1) | fail "no step")
    refine hQ8 _ _ ?_
    exact NxF.of (by assumption) (by assumption) ⟨rfl, rfl⟩ (by intro p hp; (repeat (first | exact hp | apply List.Mem.tail)))
  refine NxF.cont (fun h' tk' m news F1 N1 => and2k (fun e90 e91 => ?_))
  subst e90 e91
  clear F N
  dsimp only
  repeat' (first | (k_unfold; (try dsimp only)) | (k_here; (with_reducible show wpAny _ _ (call (Value.builtin _) [Value.ref _, _]) _ _ _); (refine' append_K ?z9a ?z9b ?z9c ?_ ?z9z; (case z9a => assumption); (case z9b => assumption); (case z9c => exact Upd.tail (by assumption) (Upd.head (by assumption))); (case z9z => (rw [List.size_toArray, sizeLine_eq]; omega))); intro h9 F9 N9) | walk1 | (dsimp only; walk1) | fail "no step")
  rename Fr _ _ _ _ => F9
  rename News _ _ _ _ => N9
  rw [List.push_toArray] at N9
  refine hQ9 _ _ ?_
  refine NxF.of F9 N9 ⟨_, _, stored_eq fun y hy => ?_, ?_, rfl⟩ (fun _ hp => hp)
  · (repeat rw [if_neg (not_dead hy (by decide +kernel))]); rw [if_neg (not_dead' hy)]
  · first
      | (rw [goal_lt (by omega)]; exact .cons _ _ .nil)
      | (rw [goal_ge (by omega), Int.toNat_of_nonneg hk0]; exact .cons _ _ .nil)

end Mine
end
theorem Mine.fresh_LA7cp : True ∧ True := by
  w_on
  w_top off
  walk1
  all_goals trivial
/-! text LA7cp -/
section
open PySem PySem.W PyProof.Rows PySem.Spec PySem.Calls
namespace Mine
set_option maxRecDepth 100000 in
set_option maxHeartbeats 8000000 in
theorem ch7cp {w : World} {loose : List Str} {mean : ExcName → Option Value} {mg mb : Str → Option Value} {dp un : Nat} {gd : Option (List Code)} {fr : Option (List Env)} {B : Heap} {L : Addr} {s : Shared} {qual : Str} {body : List Stmt} {scope : Scope} {cdv : Value} {D S R G I : Addr} {ys zs rs gs : List Value} {ks : List Int} {sg rp : List Str} {fi st k : Int} {tu tst tk : Tok} {o1 o2 o3 o4 o5 o6 oI : Obj} {n n' : Nat} {l : List (Str × Value)} {u : Str → Option Value} {TD T1 : Addr} {ta tb tc td : Tok} {t1 : Tok}
    (LD : LawDef (hd.heap_39 w.params) qual body scope cdv) (X : (hd.heap_39 w.params).In B) (T : Top hd.view_39 loose mean mg mb B) (hdp : dp + 10 < recursionLimit) (hun : un + 100 < cLine)
    (hI : IntsAre ys ks) (hks : ks.length = 7) (hall : ∀ k ∈ ks, 0 ≤ k ∧ k < 1000000) (hf0 : 0 ≤ fi) (hf1 : fi < 200000) (hZ : StrsAre zs sg) (hsg : sg.length = 7) (hR : StrsAre rs rp) (hrp : rp.length = 7) (hk0 : 0 ≤ k) (hk1 : k < 7) (hs1 : (sg.getD k.toNat Str.empty).length = 1) (hs2 : PyData.strOk (sg.getD k.toNat Str.empty) = true) (hs3 : PyData.strOk (rp.getD k.toNat Str.empty) = true)
    (d3 : o3.data = .cell (some (.ref S))) (d4 : o4.data = .cell (some (.int fi tu))) (d6 : o6.data = .cell (some (.ref D)))
   (hc : (24 ≤ ((ks.getD k.toNat 0).fdiv 7).fmod 32 ∧ ((ks.getD k.toNat 0).fdiv 7).fmod 32 ≠ 30 ∧ ((ks.getD k.toNat 0).fdiv 7).fmod 32 ≠ 31)) (hgl : gs.length ≤ 7) (hIG : (I, oI).1 ≠ G) (hGr : ∀ p ∈ [(R, LCg.lst rs), (S, LCg.lst zs), (D, listOf ys.toArray n), (L + 1 + 1 + 1 + 1 + 1 + 1, o1), (L + 1 + 1 + 1 + 1 + 1, o2), (L + 1 + 1 + 1 + 1, o3), (L + 1 + 1 + 1, o4), (L + 1 + 1, o5), (L + 1, o6)], p.1 ≠ G)
    (F : Fr B L s.heap (fun y => (if y = Str.ofString "told" then some (.ref T1) else if y = Str.ofString "due" then some (.ref TD) else if y = Str.ofString "kind" then some (.int (((ks.getD k.toNat 0).fdiv 7).fmod 32) t1) else if y = Str.ofString "k" then some (.int k tk) else if dead.contains y = true then u y else List.lookup y ((Str.ofString "goals", .ref G) :: (Str.ofString "replies", .ref R) :: (Str.ofString "start", .int st tst) :: l)))) (N : News B L s.heap ((T1, listOf [.str (Str.ofString "proto") ta, .str (rp.getD k.toNat Str.empty) tb].toArray 0) :: (TD, listOf [.str (Str.ofString "proto") tc, .str (rp.getD k.toNat Str.empty) td].toArray 0) :: (I, oI) :: (G, listOf gs.toArray n') :: [(R, LCg.lst rs), (S, LCg.lst zs), (D, listOf ys.toArray n), (L + 1 + 1 + 1 + 1 + 1 + 1, o1), (L + 1 + 1 + 1 + 1 + 1, o2), (L + 1 + 1 + 1 + 1, o3), (L + 1 + 1 + 1, o4), (L + 1 + 1, o5), (L + 1, o6)])) :
    wpAny (model PySem.Challenge.rw_tl0019_01.row.prog w) (Ar dp un gd fr) (execs (((forBody (body.drop 7)).drop 5).take 2) (envOfC qual scope L 164 cdv)) (NxF B L s (fun m news => ∃ u' : Str → Option Value, ∃ v, m = (fun y => if dead.contains y = true then u' y else List.lookup y ((Str.ofString "goals", .ref G) :: (Str.ofString "replies", .ref R) :: (Str.ofString "start", .int st tst) :: l)) ∧ IntsAre [v] [goalP ks k.toNat] ∧ news = (I, oI) :: (G, listOf (gs ++ [v]).toArray (n' + 1)) :: [(R, LCg.lst rs), (S, LCg.lst zs), (D, listOf ys.toArray n), (L + 1 + 1 + 1 + 1 + 1 + 1, o1), (L + 1 + 1 + 1 + 1 + 1, o2), (L + 1 + 1 + 1 + 1, o3), (L + 1 + 1 + 1, o4), (L + 1 + 1, o5), (L + 1, o6)])) (fun _ _ => False) s := by
  revert X
  k_fill
  intro X
  refine hideA ?_
  intro Q9 hQ9
  have hE := LawDef.eq LD (by k_dflt k_is)
  obtain ⟨rfl, rfl, rfl, rfl⟩ := hE
  clear LD
  dsimp only [List.drop, List.take]
  have hx1 := getD_in hks hall hk0 (by omega)
  have hkd0 : 0 ≤ ((ks.getD k.toNat 0).fdiv 7).fmod 32 := Int.fmod_nonneg_of_pos _ (by decide)
  have hkd1 : ((ks.getD k.toNat 0).fdiv 7).fmod 32 < 32 := Int.fmod_lt_of_pos _ (by decide)
  dsimp only [forBody, List.drop, List.take]
  refine splitA [_] _ ?_
  refine wpAny_mono (Q := NxF B L s fun m news => m = (fun y => if y = Str.ofString "told" then some (.ref T1) else if y = Str.ofString "due" then some (.ref TD) else if y = Str.ofString "kind" then some (.int (((ks.getD k.toNat 0).fdiv 7).fmod 32) t1) else if y = Str.ofString "k" then some (.int k tk) else if dead.contains y = true then u y else List.lookup y ((Str.ofString "goals", .ref G) :: (Str.ofString "replies", .ref R) :: (Str.ofString "start", .int st tst) :: l)) ∧ news = (I, oI) :: (G, listOf gs.toArray n') :: [(R, LCg.lst rs), (S, LCg.lst zs), (D, listOf ys.toArray n), (L + 1 + 1 + 1 + 1 + 1 + 1, o1), (L + 1 + 1 + 1 + 1 + 1, o2), (L + 1 + 1 + 1 + 1, o3), (L + 1 + 1 + 1, o4), (L + 1 + 1, o5), (L + 1, o6)]) ?_ ?_ (fun _ _ (e : False) => e.elim)
  · refine hideA ?_
    intro Q8 hQ8
    repeat' (first | (k_unfold; (try dsimp only)) | (k_here; (with_reducible show wpAny _ _ (call (Value.builtin _) [Value.ref _, _]) _ _ _); (refine' append_K ?z9a ?z9b ?z9c ?_ ?z9z; (case z9a => assumption); (case z9b => assumption); (case z9c => exact Upd.tail (by assumption) (Upd.head (by assumption))); (case z9z => (rw [List.size_toArray, sizeLine_eq]; omega))); intro h9 F9 N9) | walk1 | (dsimp only; walk1) | fail "no step")
    refine hQ8 _ _ ?_
    exact NxF.of (by assumption) (by assumption) ⟨rfl, rfl⟩ (by intro p hp; (repeat (first | exact hp | apply List.Mem.tail)))
  refine NxF.cont (fun h' tk' m news F1 N1 => and2k (fun e90 e91 => ?_))
  subst e90 e91
  clear F N
  dsimp only
  repeat' (first | (k_unfold; (try dsimp only)) | (k_here; (with_reducible show wpAny _ _ (call (Value.builtin _) [Value.ref _, _]) _ _ _); (refine' append_K ?z9a ?z9b ?z9c ?_ ?z9z; (case z9a => assumption); (case z9b => assumption); (case z9c => exact Upd.tail (by assumption) (Upd.head (by assumption))); (case z9z => (rw [List.size_toArray, sizeLine_eq]; omega))); intro h9 F9 N9) | walk1 | (dsimp only; walk1) | fail "no step")
  rename Fr _ _ _ _ => F9
  rename News _ _ _ _ => N9
  rw [List.push_toArray] at N9
  refine hQ9 _ _ ?_
  refine NxF.of F9 N9 ⟨_, _, stored_eq fun y hy => ?_, ?_, rfl⟩ (fun _ hp => hp)
  · (repeat rw [if_neg (not_dead hy (by decide +kernel))]); rw [if_neg (not_dead' hy)]
  · first
      | (rw [goal_lt (by omega)]; exact .cons _ _ .nil)
      | (rw [goal_ge (by omega), Int.toNat_of_nonneg hk0]; exact .cons _ _ .nil)

end Mine
end
end
theorem Mine.fresh_LA7 : True ∧ True := by
  w_on
  w_top off
  walk1
  all_goals trivial
/-! text LA7 -/
section
open PySem PySem.W PyProof.Rows PySem.Spec PySem.Calls
namespace Mine
set_option maxRecDepth 100000 in
set_option maxHeartbeats 8000000 in
theorem ch7 {w : World} {loose : List Str} {mean : ExcName → Option Value} {mg mb : Str → Option Value} {dp un : Nat} {gd : Option (List Code)} {B : Heap} {L : Addr} {s : Shared} {qual : Str} {body : List Stmt} {scope : Scope} {cdv : Value} {D S R G : Addr} {ys zs rs : List Value} {ks : List Int} {sg rp : List Str} {fi st : Int} {tu tst : Tok} {o1 o2 o3 o4 o5 o6 : Obj} {n : Nat} {l : List (Str × Value)}
    (LD : LawDef (hd.heap_39 w.params) qual body scope cdv) (X : (hd.heap_39 w.params).In B) (T : Top hd.view_39 loose mean mg mb B) (hdp : dp + 10 < recursionLimit) (hun : un + 100 < cLine)
    (hI : IntsAre ys ks) (hks : ks.length = 7) (hall : ∀ k ∈ ks, 0 ≤ k ∧ k < 1000000) (hf0 : 0 ≤ fi) (hf1 : fi < 200000) (hZ : StrsAre zs sg) (hsg : sg.length = 7) (hsl : ∀ k : Nat, k < 7 → (sg.getD k Str.empty).length = 1 ∧ PyData.strOk (sg.getD k Str.empty) = true) (hR : StrsAre rs rp) (hrp : rp.length = 7) (hsay : ∀ k : Nat, k < 7 → Says (rp.getD k Str.empty) (kindP (ks.getD k 0)) (fi + (ks.getD k 0).fmod 7))
    (hcc : ∀ p ∈ [o1, o2, o3, o4, o5, o6], NotIt p) (hA : (@Ne Nat (L + 1) G ∧ @Ne Nat (L + 1 + 1) G ∧ @Ne Nat (L + 1 + 1 + 1) G ∧ @Ne Nat (L + 1 + 1 + 1 + 1) G ∧ @Ne Nat (L + 1 + 1 + 1 + 1 + 1) G ∧ @Ne Nat (L + 1 + 1 + 1 + 1 + 1 + 1) G) ∧ @Ne Nat G R ∧ @Ne Nat G S ∧ @Ne Nat G D) (d3 : o3.data = .cell (some (.ref S))) (d4 : o4.data = .cell (some (.int fi tu))) (d6 : o6.data = .cell (some (.ref D)))
    (F : Fr B L s.heap (fun y => List.lookup y ((Str.ofString "goals", .ref G) :: (Str.ofString "replies", .ref R) :: (Str.ofString "start", .int st tst) :: l))) (N : News B L s.heap ((G, listOf #[] 0) :: [(R, LCg.lst rs), (S, LCg.lst zs), (D, listOf ys.toArray n), (L + 1 + 1 + 1 + 1 + 1 + 1, o1), (L + 1 + 1 + 1 + 1 + 1, o2), (L + 1 + 1 + 1 + 1, o3), (L + 1 + 1 + 1, o4), (L + 1 + 1, o5), (L + 1, o6)])) :
    wpC (model PySem.Challenge.rw_tl0019_01.row.prog w) (Ar dp un gd (some [envOfC qual scope L 164 cdv])) (execs ((body.drop 7).take 1) (envOfC qual scope L 164 cdv)) (NxD B L s (fun l' news => ∃ gs n', IntsAre gs ((List.range 7).map (goalP ks)) ∧ l' = ((Str.ofString "goals", .ref G) :: (Str.ofString "replies", .ref R) :: (Str.ofString "start", .int st tst) :: l) ∧ news = (G, listOf gs.toArray n') :: [(R, LCg.lst rs), (S, LCg.lst zs), (D, listOf ys.toArray n), (L + 1 + 1 + 1 + 1 + 1 + 1, o1), (L + 1 + 1 + 1 + 1 + 1, o2), (L + 1 + 1 + 1 + 1, o3), (L + 1 + 1 + 1, o4), (L + 1 + 1, o5), (L + 1, o6)])) (fun _ _ => False) s := by
  revert X
  k_fill
  intro X
  refine hideC ?_
  intro Q9 hQ9
  have hE := LawDef.eq LD (by k_dflt k_is)
  obtain ⟨rfl, rfl, rfl, rfl⟩ := hE
  dsimp only [List.drop, List.take]
  have hGr : ∀ p ∈ [(R, LCg.lst rs), (S, LCg.lst zs), (D, listOf ys.toArray n), (L + 1 + 1 + 1 + 1 + 1 + 1, o1), (L + 1 + 1 + 1 + 1 + 1, o2), (L + 1 + 1 + 1 + 1, o3), (L + 1 + 1 + 1, o4), (L + 1 + 1, o5), (L + 1, o6)], p.1 ≠ G := by
    intro p hp
    simp only [List.mem_cons, List.not_mem_nil, or_false] at hp
    rcases hp with rfl | rfl | rfl | rfl | rfl | rfl | rfl | rfl | rfl <;> (intro e; dsimp only at e; subst e; revert hA; simp)
  clear hA
  have hcl : ∀ p ∈ [(R, LCg.lst rs), (S, LCg.lst zs), (D, listOf ys.toArray n), (L + 1 + 1 + 1 + 1 + 1 + 1, o1), (L + 1 + 1 + 1 + 1 + 1, o2), (L + 1 + 1 + 1 + 1, o3), (L + 1 + 1 + 1, o4), (L + 1 + 1, o5), (L + 1, o6)], NotIt p.2 := by
    refine cls_all (.inl rfl) (cls_all (.inl rfl) (cls_all (.inl rfl) ?_))
    intro p hp
    simp only [List.mem_cons, List.not_mem_nil, or_false] at hp
    rcases hp with rfl | rfl | rfl | rfl | rfl | rfl <;> exact hcc _ (by simp)
  refine C.execs_cons (C.forRangeL (B := B) (L := L) (a := 0) (b := 7) 7 (fun i m news => ∃ (u : Str → Option Value) (gs : List Value) (n' : Nat), m = (fun y => if dead.contains y = true then u y else List.lookup y ((Str.ofString "goals", .ref G) :: (Str.ofString "replies", .ref R) :: (Str.ofString "start", .int st tst) :: l)) ∧ news = (G, listOf gs.toArray n') :: [(R, LCg.lst rs), (S, LCg.lst zs), (D, listOf ys.toArray n), (L + 1 + 1 + 1 + 1 + 1 + 1, o1), (L + 1 + 1 + 1 + 1 + 1, o2), (L + 1 + 1 + 1 + 1, o3), (L + 1 + 1 + 1, o4), (L + 1 + 1, o5), (L + 1, o6)] ∧ IntsAre gs ((List.range i).map (goalP ks))) rfl rfl (by rfl) (by rfl) (by decide) (by rfl) ?_ ?_ ?_)
  · k_steps
    refine Ready.intro (by assumption) (by assumption) (by assumption) ?_ ⟨_, [], 0, stored_eq fun _ _ => rfl, rfl, .nil⟩
    exact cls_all (.inl rfl) hcl
  · intro i t m news h tk I oI hi hJ hIt F1 N1
    refine hideC ?_
    intro Q8 hQ8
    revert hJ
    refine ex3k (fun u gs n' => and3k (fun e90 e91 hG => ?_))
    subst e90 e91
    clear F N
    have hIG : (I, oI).1 ≠ G := Ne.symm <| news_ne N1 (.tail _ (.head _)) (.head _) (by rw [show oI.cls = _ from hIt]; exact (by decide : (Value.type "list") ≠ .type "range_iterator"))
    obtain ⟨k, hk0, hk1, rfl⟩ : ∃ k : Int, 0 ≤ k ∧ k < 7 ∧ i = k.toNat := ⟨i, by omega, by omega, by omega⟩
    rw [show (0 : Int) + ((k.toNat : Nat) : Int) = k from by omega] at F1
    have hgl : gs.length ≤ 7 := by have := hG.length; simp at this; omega
    obtain ⟨hs1, hs2⟩ := hsl _ hi
    have hs3 := (hsay _ hi).ok
    refine C.split [_, _, _, _] _ ?_
    refine wpAny_mono (ch7a LD X T hdp hun hI hks hall hf0 hf1 hZ hsg hR hrp hk0 hk1 hs1 hs2 hs3 d3 d4 d6 F1 N1) ?_ (fun _ _ (e : False) => e.elim)
    refine NxF.cont (fun h' tk' m news F2 N2 => ex4k (fun TD oD u2 t1 => and3k (fun e90 e91 hs => ?_)))
    subst e90 e91
    dsimp only
    clear F1 N1
    refine C.splitC [_] _ ?_
    refine C.mono (ch7b LD X T hdp hun hI hks hall hf0 hf1 hZ hsg hR hrp hk0 hk1 hs1 hs2 hs3 d3 d4 d6 (hsay _ hi) F2 N2) ?_ (fun _ _ (e : False) => e.elim)
    refine NxF.cont (fun h' tk' m news F1 N1 => ex2k (fun T1 oT => and3k (fun e90 e91 hs' => ?_)))
    subst e90 e91
    dsimp only
    clear F2 N2
    have fin : ∀ (f : Flow) (s' : Shared), NxF B L { s with heap := h', toks := tk' } (fun m news => ∃ u' : Str → Option Value, ∃ v, m = (fun y => if dead.contains y = true then u' y else List.lookup y ((Str.ofString "goals", .ref G) :: (Str.ofString "replies", .ref R) :: (Str.ofString "start", .int st tst) :: l)) ∧ IntsAre [v] [goalP ks k.toNat] ∧ news = (I, oI) :: (G, listOf (gs ++ [v]).toArray (n' + 1)) :: [(R, LCg.lst rs), (S, LCg.lst zs), (D, listOf ys.toArray n), (L + 1 + 1 + 1 + 1 + 1 + 1, o1), (L + 1 + 1 + 1 + 1 + 1, o2), (L + 1 + 1 + 1 + 1, o3), (L + 1 + 1 + 1, o4), (L + 1 + 1, o5), (L + 1, o6)]) f s' →
        Turned B L I oI s (fun m news => ∃ (u : Str → Option Value) (gs : List Value) (n' : Nat), m = (fun y => if dead.contains y = true then u y else List.lookup y ((Str.ofString "goals", .ref G) :: (Str.ofString "replies", .ref R) :: (Str.ofString "start", .int st tst) :: l)) ∧ news = (G, listOf gs.toArray n') :: [(R, LCg.lst rs), (S, LCg.lst zs), (D, listOf ys.toArray n), (L + 1 + 1 + 1 + 1 + 1 + 1, o1), (L + 1 + 1 + 1 + 1 + 1, o2), (L + 1 + 1 + 1 + 1, o3), (L + 1 + 1 + 1, o4), (L + 1 + 1, o5), (L + 1, o6)] ∧ IntsAre gs ((List.range (k.toNat + 1)).map (goalP ks))) (fun v s' => False) f s' := by
      refine NxF.cont (fun h' tk' m news F2 N2 => ex2k (fun u' v => and3k (fun e90 hv e92 => ?_)))
      subst e90 e92
      refine Turned.next F2 N2 (fun _ hp => hp) (cls_all (.inl rfl) hcl) ⟨u', _, _, rfl, rfl, ?_⟩
      rw [List.range_succ, List.map_append]
      exact hG.append hv
    have fin2 : ∀ (f : Flow) (s' : Shared), NxF B L { s with heap := h', toks := tk' } (fun m news => ∃ u' : Str → Option Value, ∃ v, m = (fun y => if dead.contains y = true then u' y else List.lookup y ((Str.ofString "goals", .ref G) :: (Str.ofString "replies", .ref R) :: (Str.ofString "start", .int st tst) :: l)) ∧ IntsAre [v] [goalP ks k.toNat] ∧ news = (I, oI) :: (G, listOf (gs ++ [v]).toArray (n' + 1)) :: [(R, LCg.lst rs), (S, LCg.lst zs), (D, listOf ys.toArray n), (L + 1 + 1 + 1 + 1 + 1 + 1, o1), (L + 1 + 1 + 1 + 1 + 1, o2), (L + 1 + 1 + 1 + 1, o3), (L + 1 + 1 + 1, o4), (L + 1 + 1, o5), (L + 1, o6)]) f s' →
        ∀ {Qr}, Turned B L I oI s (fun m news => ∃ (u : Str → Option Value) (gs : List Value) (n' : Nat), m = (fun y => if dead.contains y = true then u y else List.lookup y ((Str.ofString "goals", .ref G) :: (Str.ofString "replies", .ref R) :: (Str.ofString "start", .int st tst) :: l)) ∧ news = (G, listOf gs.toArray n') :: [(R, LCg.lst rs), (S, LCg.lst zs), (D, listOf ys.toArray n), (L + 1 + 1 + 1 + 1 + 1 + 1, o1), (L + 1 + 1 + 1 + 1 + 1, o2), (L + 1 + 1 + 1 + 1, o3), (L + 1 + 1 + 1, o4), (L + 1 + 1, o5), (L + 1, o6)] ∧ IntsAre gs ((List.range (k.toNat + 1)).map (goalP ks))) Qr f s' := by
      intro f s' hn Qr
      have e := hn.1
      have q := fin f s' hn
      subst e
      exact q
    clear fin
    rcases hs with ⟨hc, ta, tb, rfl⟩ | ⟨hc, ta, rfl⟩ | ⟨hc, ta, tb, rfl⟩ | ⟨hc, ta, tb, rfl⟩ <;> rcases hs' with ⟨hc', tc, td, rfl⟩ | ⟨hc', tc, rfl⟩ | ⟨hc', tc, td, rfl⟩ | ⟨hc', tc, td, rfl⟩
    all_goals first
      | (exfalso; omega)
      | exact C.of (wpAny_mono (ch7cg LD X T hdp hun hI hks hall hf0 hf1 hZ hsg hR hrp hk0 hk1 hs1 hs2 hs3 d3 d4 d6 hc hgl hIG hGr F1 N1) (fun f s' q => hQ8 _ _ (fin2 f s' q)) fun _ _ (e : False) => e.elim)
      | exact C.of (wpAny_mono (ch7cv LD X T hdp hun hI hks hall hf0 hf1 hZ hsg hR hrp hk0 hk1 hs1 hs2 hs3 d3 d4 d6 hc hgl hIG hGr F1 N1) (fun f s' q => hQ8 _ _ (fin2 f s' q)) fun _ _ (e : False) => e.elim)
      | exact C.of (wpAny_mono (ch7cr LD X T hdp hun hI hks hall hf0 hf1 hZ hsg hR hrp hk0 hk1 hs1 hs2 hs3 d3 d4 d6 hc hgl hIG hGr F1 N1) (fun f s' q => hQ8 _ _ (fin2 f s' q)) fun _ _ (e : False) => e.elim)
      | exact C.of (wpAny_mono (ch7cp LD X T hdp hun hI hks hall hf0 hf1 hZ hsg hR hrp hk0 hk1 hs1 hs2 hs3 d3 d4 d6 hc hgl hIG hGr F1 N1) (fun f s' q => hQ8 _ _ (fin2 f s' q)) fun _ _ (e : False) => e.elim)
  · intro m news h tk hJ F1 N1
    revert hJ
    refine ex3k (fun u gs n' => and3k (fun e90 e91 hG => ?_))
    subst e90 e91
    exact C.of (wpAny_execs_nil (hQ9 _ _ (NxD.of F1 N1 ⟨_, _, hG, rfl, rfl⟩ fun _ hp => hp)))

theorem ch7k {w : World} {loose : List Str} {mean : ExcName → Option Value} {mg mb : Str → Option Value} {dp un : Nat} {gd : Option (List Code)} {B : Heap} {L : Addr} {s : Shared} {qual : Str} {body : List Stmt} {scope : Scope} {cdv : Value} {D S R G : Addr} {ys zs rs : List Value} {ks : List Int} {sg rp : List Str} {fi st : Int} {tu tst : Tok} {o1 o2 o3 o4 o5 o6 : Obj} {n : Nat} {l : List (Str × Value)} {Q9 : Flow → Shared → Prop} {E9 : Value → Shared → Prop}
    (LD : LawDef (hd.heap_39 w.params) qual body scope cdv) (X : (hd.heap_39 w.params).In B) (T : Top hd.view_39 loose mean mg mb B) (hdp : dp + 10 < recursionLimit) (hun : un + 100 < cLine) (hI : IntsAre ys ks) (hks : ks.length = 7) (hall : ∀ k ∈ ks, 0 ≤ k ∧ k < 1000000) (hf0 : 0 ≤ fi) (hf1 : fi < 200000) (hZ : StrsAre zs sg) (hsg : sg.length = 7) (hsl : ∀ k : Nat, k < 7 → (sg.getD k Str.empty).length = 1 ∧ PyData.strOk (sg.getD k Str.empty) = true) (hR : StrsAre rs rp) (hrp : rp.length = 7) (hsay : ∀ k : Nat, k < 7 → Says (rp.getD k Str.empty) (kindP (ks.getD k 0)) (fi + (ks.getD k 0).fmod 7)) (hcc : ∀ p ∈ [o1, o2, o3, o4, o5, o6], NotIt p) (hA : (@Ne Nat (L + 1) G ∧ @Ne Nat (L + 1 + 1) G ∧ @Ne Nat (L + 1 + 1 + 1) G ∧ @Ne Nat (L + 1 + 1 + 1 + 1) G ∧ @Ne Nat (L + 1 + 1 + 1 + 1 + 1) G ∧ @Ne Nat (L + 1 + 1 + 1 + 1 + 1 + 1) G) ∧ @Ne Nat G R ∧ @Ne Nat G S ∧ @Ne Nat G D) (d3 : o3.data = .cell (some (.ref S))) (d4 : o4.data = .cell (some (.int fi tu))) (d6 : o6.data = .cell (some (.ref D))) (F : Fr B L s.heap (fun y => List.lookup y ((Str.ofString "goals", .ref G) :: (Str.ofString "replies", .ref R) :: (Str.ofString "start", .int st tst) :: l))) (N : News B L s.heap ((G, listOf #[] 0) :: [(R, LCg.lst rs), (S, LCg.lst zs), (D, listOf ys.toArray n), (L + 1 + 1 + 1 + 1 + 1 + 1, o1), (L + 1 + 1 + 1 + 1 + 1, o2), (L + 1 + 1 + 1 + 1, o3), (L + 1 + 1 + 1, o4), (L + 1 + 1, o5), (L + 1, o6)]))
    (k9 : ∀ (h9 : Heap) (tk9 : Nat) (u9 : Str → Option Value) gs n', Fr B L h9 (fun y => if dead.contains y = true then u9 y else List.lookup y (((Str.ofString "goals", .ref G) :: (Str.ofString "replies", .ref R) :: (Str.ofString "start", .int st tst) :: l))) → News B L h9 ((G, listOf gs.toArray n') :: [(R, LCg.lst rs), (S, LCg.lst zs), (D, listOf ys.toArray n), (L + 1 + 1 + 1 + 1 + 1 + 1, o1), (L + 1 + 1 + 1 + 1 + 1, o2), (L + 1 + 1 + 1 + 1, o3), (L + 1 + 1 + 1, o4), (L + 1 + 1, o5), (L + 1, o6)]) → (IntsAre gs ((List.range 7).map (goalP ks))) → Q9 .next { s with heap := h9, toks := tk9 }) :
    wpC (model PySem.Challenge.rw_tl0019_01.row.prog w) (Ar dp un gd (some [envOfC qual scope L 164 cdv])) (execs ((body.drop 7).take 1) (envOfC qual scope L 164 cdv)) Q9 E9 s :=
  C.mono (ch7 LD X T hdp hun hI hks hall hf0 hf1 hZ hsg hsl hR hrp hsay hcc hA d3 d4 d6 F N) (NxD.cont (fun h9 tk9 u9 l'9 news9 f9 n9 => ex2k (fun gs n' => and3k (fun q91 e91 e92 => by subst e91 e92; exact k9 h9 tk9 u9 gs n' f9 n9 q91)))) (fun _ _ (e : False) => e.elim)
end Mine
end
theorem Mine.fresh_LA8 : True ∧ True := by
  w_on
  w_top off
  walk1
  all_goals trivial
/-! text LA8 -/
section
open PySem PySem.W PyProof.Rows PySem.Spec PySem.Calls
namespace Mine
set_option maxRecDepth 100000 in
set_option maxHeartbeats 8000000 in
theorem ch8 {w : World} {loose : List Str} {mean : ExcName → Option Value} {mg mb : Str → Option Value} {dp un : Nat} {gd : Option (List Code)} {fr : Option (List Env)} {B : Heap} {L : Addr} {s : Shared} {qual : Str} {body : List Stmt} {scope : Scope} {cdv : Value} {S R G : Addr} {zs rs gs : List Value} {st : Int} {tst : Tok} {o1 o2 o3 o4 o5 o6 : Obj} {n' : Nat} {l : List (Str × Value)} {u : Str → Option Value}
    (LD : LawDef (hd.heap_39 w.params) qual body scope cdv) (X : (hd.heap_39 w.params).In B) (T : Top hd.view_39 loose mean mg mb B) (hdp : dp + 10 < recursionLimit) (hun : un + 100 < cLine)
    
    (F : Fr B L s.heap (fun y => (if dead.contains y = true then u y else List.lookup y ((Str.ofString "goals", .ref G) :: (Str.ofString "replies", .ref R) :: (Str.ofString "start", .int st tst) :: l)))) (N : News B L s.heap ((G, listOf gs.toArray n') :: [(R, LCg.lst rs), (S, LCg.lst zs), (L + 1 + 1 + 1 + 1 + 1 + 1, o1), (L + 1 + 1 + 1 + 1 + 1, o2), (L + 1 + 1 + 1 + 1, o3), (L + 1 + 1 + 1, o4), (L + 1 + 1, o5), (L + 1, o6)])) :
    wpAny (model PySem.Challenge.rw_tl0019_01.row.prog w) (Ar dp un gd fr) (execs ((body.drop 8).take 1) (envOfC qual scope L 164 cdv)) (NxD B L s (fun l' news => ∃ V t, l' = (Str.ofString "seen", .ref V) :: (Str.ofString "place", .int st t) :: (Str.ofString "goals", .ref G) :: (Str.ofString "replies", .ref R) :: (Str.ofString "start", .int st tst) :: l ∧ (∀ p ∈ (G, listOf gs.toArray n') :: [(R, LCg.lst rs), (S, LCg.lst zs), (L + 1 + 1 + 1 + 1 + 1 + 1, o1), (L + 1 + 1 + 1 + 1 + 1, o2), (L + 1 + 1 + 1 + 1, o3), (L + 1 + 1 + 1, o4), (L + 1 + 1, o5), (L + 1, o6)], p.1 ≠ V) ∧ news = (V, listOf #[] 0) :: (G, listOf gs.toArray n') :: [(R, LCg.lst rs), (S, LCg.lst zs), (L + 1 + 1 + 1 + 1 + 1 + 1, o1), (L + 1 + 1 + 1 + 1 + 1, o2), (L + 1 + 1 + 1 + 1, o3), (L + 1 + 1 + 1, o4), (L + 1 + 1, o5), (L + 1, o6)])) (fun _ _ => False) s := by
  revert X
  k_fill
  intro X
  refine hideA ?_
  intro Q9 hQ9
  have hE := LawDef.eq LD (by k_dflt k_is)
  obtain ⟨rfl, rfl, rfl, rfl⟩ := hE
  clear LD
  dsimp only [List.drop, List.take]
  k_steps
  refine hQ9 _ _ ?_
  refine NxD.two (by decide +kernel) (by decide +kernel) (by assumption) (by assumption) ⟨_, _, rfl, ?_, rfl⟩ ?_
  · intro p hp
    simp only [List.mem_cons, List.not_mem_nil, or_false] at hp
    rcases hp with rfl | rfl | rfl | rfl | rfl | rfl | rfl | rfl | rfl | rfl <;> (show @Ne Nat _ _; omega)
  · intro p hp; rcases List.mem_cons.mp hp with rfl | hp; (k_mem); (repeat (first | exact hp | apply List.Mem.tail))
theorem ch8k {w : World} {loose : List Str} {mean : ExcName → Option Value} {mg mb : Str → Option Value} {dp un : Nat} {gd : Option (List Code)} {fr : Option (List Env)} {B : Heap} {L : Addr} {s : Shared} {qual : Str} {body : List Stmt} {scope : Scope} {cdv : Value} {S R G : Addr} {zs rs gs : List Value} {st : Int} {tst : Tok} {o1 o2 o3 o4 o5 o6 : Obj} {n' : Nat} {l : List (Str × Value)} {u : Str → Option Value} {Q9 : Flow → Shared → Prop} {E9 : Value → Shared → Prop}
    (LD : LawDef (hd.heap_39 w.params) qual body scope cdv) (X : (hd.heap_39 w.params).In B) (T : Top hd.view_39 loose mean mg mb B) (hdp : dp + 10 < recursionLimit) (hun : un + 100 < cLine) (F : Fr B L s.heap (fun y => (if dead.contains y = true then u y else List.lookup y ((Str.ofString "goals", .ref G) :: (Str.ofString "replies", .ref R) :: (Str.ofString "start", .int st tst) :: l)))) (N : News B L s.heap ((G, listOf gs.toArray n') :: [(R, LCg.lst rs), (S, LCg.lst zs), (L + 1 + 1 + 1 + 1 + 1 + 1, o1), (L + 1 + 1 + 1 + 1 + 1, o2), (L + 1 + 1 + 1 + 1, o3), (L + 1 + 1 + 1, o4), (L + 1 + 1, o5), (L + 1, o6)]))
    (k9 : ∀ (h9 : Heap) (tk9 : Nat) (u9 : Str → Option Value) V t, Fr B L h9 (fun y => if dead.contains y = true then u9 y else List.lookup y ((Str.ofString "seen", .ref V) :: (Str.ofString "place", .int st t) :: (Str.ofString "goals", .ref G) :: (Str.ofString "replies", .ref R) :: (Str.ofString "start", .int st tst) :: l)) → News B L h9 ((V, listOf #[] 0) :: (G, listOf gs.toArray n') :: [(R, LCg.lst rs), (S, LCg.lst zs), (L + 1 + 1 + 1 + 1 + 1 + 1, o1), (L + 1 + 1 + 1 + 1 + 1, o2), (L + 1 + 1 + 1 + 1, o3), (L + 1 + 1 + 1, o4), (L + 1 + 1, o5), (L + 1, o6)]) → ((∀ p ∈ (G, listOf gs.toArray n') :: [(R, LCg.lst rs), (S, LCg.lst zs), (L + 1 + 1 + 1 + 1 + 1 + 1, o1), (L + 1 + 1 + 1 + 1 + 1, o2), (L + 1 + 1 + 1 + 1, o3), (L + 1 + 1 + 1, o4), (L + 1 + 1, o5), (L + 1, o6)], p.1 ≠ V)) → Q9 .next { s with heap := h9, toks := tk9 }) :
    wpAny (model PySem.Challenge.rw_tl0019_01.row.prog w) (Ar dp un gd fr) (execs ((body.drop 8).take 1) (envOfC qual scope L 164 cdv)) Q9 E9 s :=
  wpAny_mono (ch8 LD X T hdp hun F N) (NxD.cont (fun h9 tk9 u9 l'9 news9 f9 n9 => ex2k (fun V t => and3k (fun e90 q91 e92 => by subst e90 e92; exact k9 h9 tk9 u9 V t f9 n9 q91)))) (fun _ _ (e : False) => e.elim)
end Mine
end
theorem Mine.fresh_LA9 : True ∧ True := by
  w_on
  w_top off
  walk1
  all_goals trivial
/-! text LA9 -/
section
open PySem PySem.W PyProof.Rows PySem.Spec PySem.Calls
namespace Mine
theorem lookup_ite {y n : Str} {v : Value} {l : List (Str × Value)} : List.lookup y ((n, v) :: l) = if y = n then some v else List.lookup y l := congrFun (lookup_if n v l).symm y
theorem dead_set2 {n n2 : Str} {v v' v2 : Value} {u : Str → Option Value} {l : List (Str × Value)} (hn : dead.contains n = false) (hne : ¬ n = n2) :
    (fun y => if y = n then some v else if dead.contains y = true then u y else List.lookup y ((n2, v2) :: (n, v') :: l)) = fun y => if dead.contains y = true then u y else List.lookup y ((n2, v2) :: (n, v) :: l) := by
  funext y
  by_cases h : y = n
  · subst h
    rw [if_pos rfl, if_neg (by rw [hn]; decide), lookup_ite, if_neg hne, lookup_ite, if_pos rfl]
  · rw [if_neg h, lookup_ite, lookup_ite, lookup_ite, lookup_ite, if_neg h, if_neg h]
theorem any_mem {vis : List Int} {p : Int} (h : (vis.any fun x => x == p) = true) : p ∈ vis := by
  obtain ⟨x, hx, e⟩ := List.any_eq_true.mp h
  rw [← eq_of_beq e]; exact hx
theorem any_not {vis : List Int} {p : Int} (h : (vis.any fun x => x == p) = false) : ¬ p ∈ vis := fun hm => by
  have : (vis.any fun x => x == p) = true := List.any_eq_true.mpr ⟨p, hm, beq_self_eq_true p⟩
  rw [h] at this; cases this
set_option maxRecDepth 100000 in
set_option maxHeartbeats 8000000 in
theorem ch9 {w : World} {loose : List Str} {mean : ExcName → Option Value} {mg mb : Str → Option Value} {dp un : Nat} {gd : Option (List Code)} {fr : Option (List Env)} {B : Heap} {L : Addr} {s : Shared} {qual : Str} {body : List Stmt} {scope : Scope} {cdv : Value} {S R G : Addr} {zs rs gs : List Value} {st : Int} {tst : Tok} {o1 o2 o3 o4 o5 o6 : Obj} {n' : Nat} {l : List (Str × Value)} {u : Str → Option Value} {V : Addr} {gl : List Int} {tp : Tok}
    (LD : LawDef (hd.heap_39 w.params) qual body scope cdv) (X : (hd.heap_39 w.params).In B) (T : Top hd.view_39 loose mean mg mb B) (hdp : dp + 10 < recursionLimit) (hun : un + 100 < cLine)
    (hG : IntsAre gs gl) (hgl : gl.length = 7) (hg : ∀ g ∈ gl, 0 ≤ g ∧ g < 7) (hs : 0 ≤ st ∧ st < 7) (hV : ∀ p ∈ (G, listOf gs.toArray n') :: [(R, LCg.lst rs), (S, LCg.lst zs), (L + 1 + 1 + 1 + 1 + 1 + 1, o1), (L + 1 + 1 + 1 + 1 + 1, o2), (L + 1 + 1 + 1 + 1, o3), (L + 1 + 1 + 1, o4), (L + 1 + 1, o5), (L + 1, o6)], p.1 ≠ V)
    (F : Fr B L s.heap (fun y => (if dead.contains y = true then u y else List.lookup y ((Str.ofString "seen", .ref V) :: (Str.ofString "place", .int st tp) :: (Str.ofString "goals", .ref G) :: (Str.ofString "replies", .ref R) :: (Str.ofString "start", .int st tst) :: l)))) (N : News B L s.heap ((V, listOf #[] 0) :: (G, listOf gs.toArray n') :: [(R, LCg.lst rs), (S, LCg.lst zs), (L + 1 + 1 + 1 + 1 + 1 + 1, o1), (L + 1 + 1 + 1 + 1 + 1, o2), (L + 1 + 1 + 1 + 1, o3), (L + 1 + 1 + 1, o4), (L + 1 + 1, o5), (L + 1, o6)])) :
    wpAny (model PySem.Challenge.rw_tl0019_01.row.prog w) (Ar dp un gd fr) (execs ((body.drop 9).take 1) (envOfC qual scope L 164 cdv)) (NxD B L s (fun l' news => ∃ vis p t vs nv, l' = (Str.ofString "seen", .ref V) :: (Str.ofString "place", .int p t) :: (Str.ofString "goals", .ref G) :: (Str.ofString "replies", .ref R) :: (Str.ofString "start", .int st tst) :: l ∧ IntsAre vs vis ∧ Path gl st vis p ∧ p ∈ vis ∧ news = (V, listOf vs.toArray nv) :: (G, listOf gs.toArray n') :: [(R, LCg.lst rs), (S, LCg.lst zs), (L + 1 + 1 + 1 + 1 + 1 + 1, o1), (L + 1 + 1 + 1 + 1 + 1, o2), (L + 1 + 1 + 1 + 1, o3), (L + 1 + 1 + 1, o4), (L + 1 + 1, o5), (L + 1, o6)])) (fun _ _ => False) s := by
  revert X
  k_fill
  intro X
  refine hideA ?_
  intro Q9 hQ9
  have hE := LawDef.eq LD (by k_dflt k_is)
  obtain ⟨rfl, rfl, rfl, rfl⟩ := hE
  clear LD
  dsimp only [List.drop, List.take]
  skip
  refine wpAny_execs_cons (While_inv2 (fun c m news => ∃ (u : Str → Option Value) (vis : List Int) (p : Int) (t : Tok) (vs : List Value) (nv : Nat), m = (fun y => if dead.contains y = true then u y else List.lookup y ((Str.ofString "seen", .ref V) :: (Str.ofString "place", .int p t) :: (Str.ofString "goals", .ref G) :: (Str.ofString "replies", .ref R) :: (Str.ofString "start", .int st tst) :: l)) ∧ news = (V, listOf vs.toArray nv) :: (G, listOf gs.toArray n') :: [(R, LCg.lst rs), (S, LCg.lst zs), (L + 1 + 1 + 1 + 1 + 1 + 1, o1), (L + 1 + 1 + 1 + 1 + 1, o2), (L + 1 + 1 + 1 + 1, o3), (L + 1 + 1 + 1, o4), (L + 1 + 1, o5), (L + 1, o6)] ∧ IntsAre vs vis ∧ Path gl st vis p ∧ c = 8 - vis.length) (n₀ := 8) F N ⟨u, [], st, tp, [], 0, rfl, rfl, .nil, .nil, rfl⟩ ?_ ?_)
  · clear F N
    rintro c m₁ news₁ h₁ tk₁ F1 N1 ⟨u1, vis, p, t, vs, nv, rfl, rfl, hI, hP, hc⟩
    have hin := hP.in7 hgl hg hs
    have hlen := hP.len hgl hg hs
    have hvl : vs.length ≤ 7 := by have := hI.length; omega
    have hp0 := hin.1.1
    have hp1 := hin.1.2
    repeat' (first | (k_unfold; (try dsimp only)) | (k_here; (with_reducible show wpAny _ _ (call (Value.builtin _) [Value.ref _, _]) _ _ _); (refine' append_K ?z9a ?z9b ?z9c ?_ ?z9z; (case z9a => assumption); (case z9b => assumption); (case z9c => exact Upd.head (by assumption)); (case z9z => (rw [List.size_toArray, sizeLine_eq]; omega))); intro h9 F9 N9) | walk1 | (dsimp only; walk1) | fail "no step")
    · refine hQ9 _ _ ?_
      exact NxD.of F1 N1 ⟨_, _, _, _, _, rfl, hI, hP, any_mem (by assumption), rfl⟩ (fun _ hp => hp)
    · rename (vis.any _) = false => hnot
      rename Fr _ _ _ _ => F9
      rename News _ _ _ _ => N9
      rw [dead_set2 (by decide +kernel) (by decide +kernel)] at F9
      rw [List.push_toArray] at N9
      exact ⟨_, _, _, _, 8 - (vis ++ [p]).length, rfl, F9, N9, (by rw [List.length_append, List.length_singleton]; omega), u1, vis ++ [p], _, _, vs ++ [.int p t], _, rfl, rfl, hI.append (.cons _ _ .nil), hP.snoc (any_not hnot), rfl⟩
  · exact fun _ _ (e : False) => e.elim
theorem ch9k {w : World} {loose : List Str} {mean : ExcName → Option Value} {mg mb : Str → Option Value} {dp un : Nat} {gd : Option (List Code)} {fr : Option (List Env)} {B : Heap} {L : Addr} {s : Shared} {qual : Str} {body : List Stmt} {scope : Scope} {cdv : Value} {S R G : Addr} {zs rs gs : List Value} {st : Int} {tst : Tok} {o1 o2 o3 o4 o5 o6 : Obj} {n' : Nat} {l : List (Str × Value)} {u : Str → Option Value} {V : Addr} {gl : List Int} {tp : Tok} {Q9 : Flow → Shared → Prop} {E9 : Value → Shared → Prop}
    (LD : LawDef (hd.heap_39 w.params) qual body scope cdv) (X : (hd.heap_39 w.params).In B) (T : Top hd.view_39 loose mean mg mb B) (hdp : dp + 10 < recursionLimit) (hun : un + 100 < cLine) (hG : IntsAre gs gl) (hgl : gl.length = 7) (hg : ∀ g ∈ gl, 0 ≤ g ∧ g < 7) (hs : 0 ≤ st ∧ st < 7) (hV : ∀ p ∈ (G, listOf gs.toArray n') :: [(R, LCg.lst rs), (S, LCg.lst zs), (L + 1 + 1 + 1 + 1 + 1 + 1, o1), (L + 1 + 1 + 1 + 1 + 1, o2), (L + 1 + 1 + 1 + 1, o3), (L + 1 + 1 + 1, o4), (L + 1 + 1, o5), (L + 1, o6)], p.1 ≠ V) (F : Fr B L s.heap (fun y => (if dead.contains y = true then u y else List.lookup y ((Str.ofString "seen", .ref V) :: (Str.ofString "place", .int st tp) :: (Str.ofString "goals", .ref G) :: (Str.ofString "replies", .ref R) :: (Str.ofString "start", .int st tst) :: l)))) (N : News B L s.heap ((V, listOf #[] 0) :: (G, listOf gs.toArray n') :: [(R, LCg.lst rs), (S, LCg.lst zs), (L + 1 + 1 + 1 + 1 + 1 + 1, o1), (L + 1 + 1 + 1 + 1 + 1, o2), (L + 1 + 1 + 1 + 1, o3), (L + 1 + 1 + 1, o4), (L + 1 + 1, o5), (L + 1, o6)]))
    (k9 : ∀ (h9 : Heap) (tk9 : Nat) (u9 : Str → Option Value) vis p t vs nv, Fr B L h9 (fun y => if dead.contains y = true then u9 y else List.lookup y ((Str.ofString "seen", .ref V) :: (Str.ofString "place", .int p t) :: (Str.ofString "goals", .ref G) :: (Str.ofString "replies", .ref R) :: (Str.ofString "start", .int st tst) :: l)) → News B L h9 ((V, listOf vs.toArray nv) :: (G, listOf gs.toArray n') :: [(R, LCg.lst rs), (S, LCg.lst zs), (L + 1 + 1 + 1 + 1 + 1 + 1, o1), (L + 1 + 1 + 1 + 1 + 1, o2), (L + 1 + 1 + 1 + 1, o3), (L + 1 + 1 + 1, o4), (L + 1 + 1, o5), (L + 1, o6)]) → (IntsAre vs vis) → (Path gl st vis p) → (p ∈ vis) → Q9 .next { s with heap := h9, toks := tk9 }) :
    wpAny (model PySem.Challenge.rw_tl0019_01.row.prog w) (Ar dp un gd fr) (execs ((body.drop 9).take 1) (envOfC qual scope L 164 cdv)) Q9 E9 s :=
  wpAny_mono (ch9 LD X T hdp hun hG hgl hg hs hV F N) (NxD.cont (fun h9 tk9 u9 l'9 news9 f9 n9 => ex5k (fun vis p t vs nv => and5k (fun e90 q91 q92 q93 e94 => by subst e90 e94; exact k9 h9 tk9 u9 vis p t vs nv f9 n9 q91 q92 q93)))) (fun _ _ (e : False) => e.elim)
end Mine
end
theorem Mine.fresh_LA10 : True ∧ True := by
  w_on
  w_top off
  walk1
  all_goals trivial
/-! text LA10 -/
section
open PySem PySem.W PyProof.Rows PySem.Spec PySem.Calls
namespace Mine
set_option maxRecDepth 100000 in
set_option maxHeartbeats 8000000 in
theorem ch10 {w : World} {loose : List Str} {mean : ExcName → Option Value} {mg mb : Str → Option Value} {dp un : Nat} {gd : Option (List Code)} {fr : Option (List Env)} {B : Heap} {L : Addr} {s : Shared} {qual : Str} {body : List Stmt} {scope : Scope} {cdv : Value} {S R G : Addr} {zs rs gs : List Value} {st : Int} {tst : Tok} {o1 o2 o3 o4 o5 o6 : Obj} {n' : Nat} {l : List (Str × Value)} {u : Str → Option Value} {V : Addr} {vs : List Value} {nv : Nat} {p tot fi : Int} {tp tt tf : Tok} {sg : List Str}
    (LD : LawDef (hd.heap_39 w.params) qual body scope cdv) (X : (hd.heap_39 w.params).In B) (T : Top hd.view_39 loose mean mg mb B) (hdp : dp + 10 < recursionLimit) (hun : un + 100 < cLine)
    (h0 : 0 ≤ tot) (h1 : tot < 7000000) (hf0 : 0 ≤ fi) (hf1 : fi < 200000) (hs0 : 0 ≤ st) (hs1 : st < 7) (hZ : StrsAre zs sg) (hsg : sg.length = 7) (d3 : o3.data = .cell (some (.ref S))) (d4 : o4.data = .cell (some (.int fi tf))) (d5 : o5.data = .cell (some (.int tot tt)))
    (F : Fr B L s.heap (fun y => (if dead.contains y = true then u y else List.lookup y ((Str.ofString "seen", .ref V) :: (Str.ofString "place", .int p tp) :: (Str.ofString "goals", .ref G) :: (Str.ofString "replies", .ref R) :: (Str.ofString "start", .int st tst) :: l)))) (N : News B L s.heap ((V, listOf vs.toArray nv) :: (G, listOf gs.toArray n') :: [(R, LCg.lst rs), (S, LCg.lst zs), (L + 1 + 1 + 1 + 1 + 1 + 1, o1), (L + 1 + 1 + 1 + 1 + 1, o2), (L + 1 + 1 + 1 + 1, o3), (L + 1 + 1 + 1, o4), (L + 1 + 1, o5), (L + 1, o6)])) :
    wpAny (model PySem.Challenge.rw_tl0019_01.row.prog w) (Ar dp un gd fr) (execs ((body.drop 10).take 5) (envOfC qual scope L 164 cdv)) (NxD B L s (fun l' news => ∃ M T1 T2 t1 t2 t3 t4 t5 t6 t7, l' = (Str.ofString "log", .str (sg.getD st.toNat Str.empty) t1) :: (Str.ofString "meets", .ref M) :: (Str.ofString "two", .ref T2) :: (Str.ofString "one", .ref T1) :: (Str.ofString "fast", .int (1 + (tot.fdiv 49).fmod 2 + 1 + (tot.fdiv 98).fmod 3) t2) :: (Str.ofString "slow", .int (1 + (tot.fdiv 49).fmod 2) t3) :: (Str.ofString "seen", .ref V) :: (Str.ofString "place", .int p tp) :: (Str.ofString "goals", .ref G) :: (Str.ofString "replies", .ref R) :: (Str.ofString "start", .int st tst) :: l ∧
   (∀ p ∈ (V, listOf vs.toArray nv) :: (G, listOf gs.toArray n') :: [(R, LCg.lst rs), (S, LCg.lst zs), (L + 1 + 1 + 1 + 1 + 1 + 1, o1), (L + 1 + 1 + 1 + 1 + 1, o2), (L + 1 + 1 + 1 + 1, o3), (L + 1 + 1 + 1, o4), (L + 1 + 1, o5), (L + 1, o6)], p.1 ≠ M) ∧ news = (M, listOf #[] 0) :: (T2, tupO (Str.ofString "h") t4 (fi + st) t5 0) :: (T1, tupO (Str.ofString "h") t6 (fi + st) t7 0) :: (V, listOf vs.toArray nv) :: (G, listOf gs.toArray n') :: [(R, LCg.lst rs), (S, LCg.lst zs), (L + 1 + 1 + 1 + 1 + 1 + 1, o1), (L + 1 + 1 + 1 + 1 + 1, o2), (L + 1 + 1 + 1 + 1, o3), (L + 1 + 1 + 1, o4), (L + 1 + 1, o5), (L + 1, o6)])) (fun _ _ => False) s := by
  revert X
  k_fill
  intro X
  refine hideA ?_
  intro Q9 hQ9
  have hE := LawDef.eq LD (by k_dflt k_is)
  obtain ⟨rfl, rfl, rfl, rfl⟩ := hE
  clear LD
  dsimp only [List.drop, List.take]
  k_steps
  rename Fr _ _ _ _ => F9
  rename News _ _ _ _ => N9
  refine hQ9 _ _ ?_
  refine NxD.eq F9 (cons_step (cons_step (cons_step (cons_step (cons_step (cons_step rfl (by decide +kernel)) (by decide +kernel)) (by decide +kernel)) (by decide +kernel)) (by decide +kernel)) (by decide +kernel)) (drop1 N9) ⟨_, _, _, _, _, _, _, _, _, _, rfl, ?_, rfl⟩ (fun _ hp => hp)
  · intro p hp
    simp only [List.mem_cons, List.not_mem_nil, or_false] at hp
    rcases hp with rfl | rfl | rfl | rfl | rfl | rfl | rfl | rfl | rfl | rfl | rfl <;> (show @Ne Nat _ _; omega)
theorem ch10k {w : World} {loose : List Str} {mean : ExcName → Option Value} {mg mb : Str → Option Value} {dp un : Nat} {gd : Option (List Code)} {fr : Option (List Env)} {B : Heap} {L : Addr} {s : Shared} {qual : Str} {body : List Stmt} {scope : Scope} {cdv : Value} {S R G : Addr} {zs rs gs : List Value} {st : Int} {tst : Tok} {o1 o2 o3 o4 o5 o6 : Obj} {n' : Nat} {l : List (Str × Value)} {u : Str → Option Value} {V : Addr} {vs : List Value} {nv : Nat} {p tot fi : Int} {tp tt tf : Tok} {sg : List Str} {Q9 : Flow → Shared → Prop} {E9 : Value → Shared → Prop}
    (LD : LawDef (hd.heap_39 w.params) qual body scope cdv) (X : (hd.heap_39 w.params).In B) (T : Top hd.view_39 loose mean mg mb B) (hdp : dp + 10 < recursionLimit) (hun : un + 100 < cLine) (h0 : 0 ≤ tot) (h1 : tot < 7000000) (hf0 : 0 ≤ fi) (hf1 : fi < 200000) (hs0 : 0 ≤ st) (hs1 : st < 7) (hZ : StrsAre zs sg) (hsg : sg.length = 7) (d3 : o3.data = .cell (some (.ref S))) (d4 : o4.data = .cell (some (.int fi tf))) (d5 : o5.data = .cell (some (.int tot tt))) (F : Fr B L s.heap (fun y => (if dead.contains y = true then u y else List.lookup y ((Str.ofString "seen", .ref V) :: (Str.ofString "place", .int p tp) :: (Str.ofString "goals", .ref G) :: (Str.ofString "replies", .ref R) :: (Str.ofString "start", .int st tst) :: l)))) (N : News B L s.heap ((V, listOf vs.toArray nv) :: (G, listOf gs.toArray n') :: [(R, LCg.lst rs), (S, LCg.lst zs), (L + 1 + 1 + 1 + 1 + 1 + 1, o1), (L + 1 + 1 + 1 + 1 + 1, o2), (L + 1 + 1 + 1 + 1, o3), (L + 1 + 1 + 1, o4), (L + 1 + 1, o5), (L + 1, o6)]))
    (k9 : ∀ (h9 : Heap) (tk9 : Nat) (u9 : Str → Option Value) M T1 T2 t1 t2 t3 t4 t5 t6 t7, Fr B L h9 (fun y => if dead.contains y = true then u9 y else List.lookup y ((Str.ofString "log", .str (sg.getD st.toNat Str.empty) t1) :: (Str.ofString "meets", .ref M) :: (Str.ofString "two", .ref T2) :: (Str.ofString "one", .ref T1) :: (Str.ofString "fast", .int (1 + (tot.fdiv 49).fmod 2 + 1 + (tot.fdiv 98).fmod 3) t2) :: (Str.ofString "slow", .int (1 + (tot.fdiv 49).fmod 2) t3) :: (Str.ofString "seen", .ref V) :: (Str.ofString "place", .int p tp) :: (Str.ofString "goals", .ref G) :: (Str.ofString "replies", .ref R) :: (Str.ofString "start", .int st tst) :: l)) → News B L h9 ((M, listOf #[] 0) :: (T2, tupO (Str.ofString "h") t4 (fi + st) t5 0) :: (T1, tupO (Str.ofString "h") t6 (fi + st) t7 0) :: (V, listOf vs.toArray nv) :: (G, listOf gs.toArray n') :: [(R, LCg.lst rs), (S, LCg.lst zs), (L + 1 + 1 + 1 + 1 + 1 + 1, o1), (L + 1 + 1 + 1 + 1 + 1, o2), (L + 1 + 1 + 1 + 1, o3), (L + 1 + 1 + 1, o4), (L + 1 + 1, o5), (L + 1, o6)]) → ((∀ p ∈ (V, listOf vs.toArray nv) :: (G, listOf gs.toArray n') :: [(R, LCg.lst rs), (S, LCg.lst zs), (L + 1 + 1 + 1 + 1 + 1 + 1, o1), (L + 1 + 1 + 1 + 1 + 1, o2), (L + 1 + 1 + 1 + 1, o3), (L + 1 + 1 + 1, o4), (L + 1 + 1, o5), (L + 1, o6)], p.1 ≠ M)) → Q9 .next { s with heap := h9, toks := tk9 }) :
    wpAny (model PySem.Challenge.rw_tl0019_01.row.prog w) (Ar dp un gd fr) (execs ((body.drop 10).take 5) (envOfC qual scope L 164 cdv)) Q9 E9 s :=
  wpAny_mono (ch10 LD X T hdp hun h0 h1 hf0 hf1 hs0 hs1 hZ hsg d3 d4 d5 F N) (NxD.cont (fun h9 tk9 u9 l'9 news9 f9 n9 => ex10k (fun M T1 T2 t1 t2 t3 t4 t5 t6 t7 => and3k (fun e90 q91 e92 => by subst e90 e92; exact k9 h9 tk9 u9 M T1 T2 t1 t2 t3 t4 t5 t6 t7 f9 n9 q91)))) (fun _ _ (e : False) => e.elim)
end Mine
end
theorem Mine.fresh_LQ : True ∧ True := by
  w_on
  w_top off
  walk1
  all_goals trivial
/-! text LQ -/
section
open PySem PySem.W PyProof.Rows PySem.Spec PySem.Calls
namespace Mine
/-! the loops again, with loops within: fix are the iterators of the outer loops -/
noncomputable def NoIt (fix : List (Addr × Obj)) (p : Addr × Obj) : Prop := NotIt p.2 ∨ p ∈ fix
theorem noIt_cons {fix : List (Addr × Obj)} {a : Addr} {o : Obj} {l : List (Addr × Obj)} (h : isSeq o = true ∨ isSeq o = true) (hl : ∀ p ∈ l, NoIt fix p) : ∀ p ∈ (a, o) :: l, NoIt fix p := fun p hp => by
  rcases List.mem_cons.mp hp with rfl | hp
  · left
    rcases h with h | h
    · exact notIt_seq h
    · exact notIt_seq h
  · exact hl p hp
theorem noIt_fix {fix : List (Addr × Obj)} {q : Addr × Obj} {l : List (Addr × Obj)} (h : q ∈ fix) (hl : ∀ p ∈ l, NoIt fix p) : ∀ p ∈ q :: l, NoIt fix p := fun p hp => by
  rcases List.mem_cons.mp hp with rfl | hp
  · exact .inr h
  · exact hl p hp
theorem noIt_more {fix fix' : List (Addr × Obj)} {l : List (Addr × Obj)} (h : ∀ p ∈ fix, p ∈ fix') (hl : ∀ p ∈ l, NoIt fix p) : ∀ p ∈ l, NoIt fix' p := fun p hp => (hl p hp).elim .inl fun q => .inr (h p q)
/-- behind a turn -/
noncomputable def TurnedF (fix : List (Addr × Obj)) (B : Heap) (L I : Addr) (oI : Obj) (s : Shared) (J : (Str → Option Value) → List (Addr × Obj) → Prop) (Qr : Value → Shared → Prop) (f : Flow) (s' : Shared) : Prop :=
  match f with
  | .ret v => Qr v s'
  | .brk => False
  | _ => ∃ h' tk' m' news', s' = { s with heap := h', toks := tk' } ∧ Fr B L h' m' ∧ News B L h' ((I, oI) :: news') ∧ (∀ p ∈ news', NoIt fix p) ∧ J m' news'
/-- the range that a loop walks stands -/
noncomputable def ReadyF (fix : List (Addr × Obj)) (B : Heap) (L : Addr) (a b : Int) (s : Shared) (J : (Str → Option Value) → List (Addr × Obj) → Prop) (xv : Value) (s₁ : Shared) : Prop :=
  ∃ r t u z m news h₁ tk₁, xv = .ref r ∧ s₁ = { s with heap := h₁, toks := tk₁ } ∧ IsRange h₁ r a b 1 t u z ∧ Fr B L h₁ m ∧ News B L h₁ news ∧ (∀ p ∈ news, NoIt fix p) ∧ (∀ p ∈ fix, p ∈ news) ∧ J m news
theorem ReadyF.intro {fix : List (Addr × Obj)} {B : Heap} {L : Addr} {a b : Int} {s : Shared} {J : (Str → Option Value) → List (Addr × Obj) → Prop} {r : Addr} {t u z : Tok} {m : Str → Option Value} {news : List (Addr × Obj)} {h₁ : Heap} {tk₁ : Nat}
    (hr : IsRange h₁ r a b 1 t u z) (F : Fr B L h₁ m) (N : News B L h₁ news) (hc : ∀ p ∈ news, NoIt fix p) (hx : ∀ p ∈ fix, p ∈ news) (hj : J m news) : ReadyF fix B L a b s J (.ref r) { s with heap := h₁, toks := tk₁ } :=
  ⟨r, t, u, z, m, news, h₁, tk₁, rfl, rfl, hr, F, N, hc, hx, hj⟩
theorem TurnedF.next {fix : List (Addr × Obj)} {B : Heap} {L I : Addr} {oI : Obj} {s : Shared} {J : (Str → Option Value) → List (Addr × Obj) → Prop} {Qr : Value → Shared → Prop} {m : Str → Option Value} {news all : List (Addr × Obj)} {h₁ : Heap} {tk₁ : Nat}
    (F : Fr B L h₁ m) (N : News B L h₁ all) (hs : ∀ p ∈ (I, oI) :: news, p ∈ all) (hc : ∀ p ∈ news, NoIt fix p) (hj : J m news) : TurnedF fix B L I oI s J Qr .next { s with heap := h₁, toks := tk₁ } :=
  ⟨h₁, tk₁, m, news, rfl, F, fun p hp => N p (hs p hp), hc, hj⟩
section
variable {prog : Program} {w : World} {A : Around} {s : Shared} {env : Env} {B : Heap} {x : Str} {px pos : Pos} {iter : Expr} {body : List Stmt}
theorem C.forRangeF (fix : List (Addr × Obj)) {Q : Flow → Shared → Prop} {a b : Int} (n : Nat) (J : Nat → (Str → Option Value) → List (Addr × Obj) → Prop)
    (hh : A.handled = none) (hx : env.kindOf x = some .local) (hp : (env.scope.kind == .class || (env.scope.kind == .module && env.locals != env.globals)) = false)
    (hsmall : Builtin.Range.small a b 1 = true) (hn : Builtin.Range.rangeSize a b 1 = (n : Int))
    (h : wpAny (model prog w) A (eval iter env) (fun xv s₁ => ∃ r t u z m news h₁ tk₁, xv = .ref r ∧ s₁ = { s with heap := h₁, toks := tk₁ } ∧ IsRange h₁ r a b 1 t u z ∧ Fr B env.locals h₁ m ∧ News B env.locals h₁ news ∧ (∀ p ∈ news, NoIt fix p) ∧ (∀ p ∈ fix, p ∈ news) ∧ J 0 m news) (fun _ _ => False) s)
    (turn : ∀ i t m news h tk I oI, i < n → J i m news → ItObj oI → Fr B env.locals h (fun y => if y = x then some (.int (a + (i : Int)) t) else m y) → News B env.locals h ((I, oI) :: news) →
      wpC (model prog w) A (execs body env) (TurnedF fix B env.locals I oI s (J (i + 1)) fun v s' => Q (.ret v) s') (fun _ _ => False) { s with heap := h, toks := tk })
    (done : ∀ m news h tk, J n m news → Fr B env.locals h m → News B env.locals h news → Q .next { s with heap := h, toks := tk })
    (hs : ∀ x, foldedSetIterable iter env x = Pure.pure x := by intro _; rfl) :
    wpC (model prog w) A (exec (.For (.Name x px) iter body [] pos) env) Q (fun _ _ => False) s := by
  refine C.For (wpAny_mono h (fun xv s₁ h₁ => ?_) fun _ _ e => e.elim) hs
  revert h₁
  refine ex8k (fun r t u z m news h₁ tk₁ => and8k (fun e93 e94 hr F N hcl hfx hj => ?_))
  subst e93 e94
  have hfI : ∀ p ∈ fix, p.1 ≠ h₁.objs.size := fun p hp => Nat.ne_of_lt (Heap.lt_size (N p (hfx p hp)).1)
  refine wpAny_pyIter_range hr hsmall ?_
  rw [hn]
  have hI0 : B.get? h₁.objs.size = none := next_is_new F
  have F0 : Fr B env.locals (h₁.push { cls := .type "range_iterator", data := .fields #[rawInt a, rawInt (n : Int), rawInt 1] }) m := F.push _
  have hI1 : IsRangeIter (h₁.push { cls := .type "range_iterator", data := .fields #[rawInt a, rawInt (n : Int), rawInt 1] }) h₁.objs.size a (n : Int) 1 := Heap.get?_push_size _ rfl
  have N0 : News B env.locals (h₁.push { cls := .type "range_iterator", data := .fields #[rawInt a, rawInt (n : Int), rawInt 1] }) news := fun p hp => ⟨Heap.get?_push_of_some _ (N p hp).1, (N p hp).2⟩
  have hLI : env.locals ≠ h₁.objs.size := fun e => absurd F.ns.lt (e ▸ Nat.lt_irrefl _)
  revert F0 hI1 N0
  generalize (h₁.push { cls := .type "range_iterator", data := .fields #[rawInt a, rawInt (n : Int), rawInt 1] }) = g₀
  intro F0 hI1 N0
  revert hI0 hI1 hLI hfI
  dsimp only
  generalize h₁.objs.size = I
  intro hfI hI0 hLI hI1
  refine C.forLoop (fun k s' => ∃ h' tk m' news' i, s' = { s with heap := h', toks := tk } ∧ IsRangeIter h' I (a + (i : Nat)) ((n : Int) - (i : Nat)) 1 ∧ Fr B env.locals h' m' ∧ News B env.locals h' news' ∧ (∀ p ∈ news', NoIt fix p) ∧ J i m' news' ∧ i ≤ n ∧ k = n + 1 - i) ?_ (n + 1)
    ⟨g₀, tk₁, m, news, 0, rfl, by simpa using hI1, F0, N0, hcl, hj, Nat.zero_le _, rfl⟩
  intro k s'
  refine ex5k (fun h' tk m' news' i => and8k (fun e91 hst F' N' hcl' hJ hi e92 => ?_))
  subst e91 e92
  have hnI : ∀ p ∈ news', p.1 ≠ I := fun p hp e => by
    have e1 := (N' p hp).1
    rw [e] at e1
    have e2 := hst
    unfold IsRangeIter at e2
    rw [e1] at e2
    injection e2 with e2
    rcases hcl' p hp with q | q
    · exact q _ (by rw [e2])
    · exact hfI p q e
  have keepB : ∀ h₂ : Heap, (∀ b o, b ≠ I → h'.get? b = some o → h₂.get? b = some o) → Fr B env.locals h₂ m' ∧ News B env.locals h₂ news' := fun h₂ hk =>
    ⟨⟨F'.ns.at' fun o e => hk _ o hLI e, fun b o e => hk b o (fun q => by rw [q, hI0] at e; cases e) (F'.keep b o e), F'.above⟩, fun p hp => ⟨hk _ _ (hnI p hp) (N' p hp).1, (N' p hp).2⟩⟩
  by_cases hlt : i < n
  · refine wpAny_pyNext_range_item hst (by omega) fun h₂ hit hsb => ?_
    obtain ⟨F₁, N₁⟩ := keepB h₂ fun b o hb e => (hsb.2 b hb).trans e
    refine wpAny_assign_Name (wpAny_storeName_local hx F₁.ns (fun h₃ hn₃ hs₃ => ?_) hp)
    have F₂ := F₁.set hn₃ hs₃
    have hit₃ : IsRangeIter h₃ I (a + (i : Nat) + 1) ((n : Int) - (i : Nat) - 1) 1 := (hs₃.2 I fun q => hLI q.symm).trans hit
    have N₂ : News B env.locals h₃ news' := N₁.set hs₃
    have N₃ : News B env.locals h₃ ((I, { cls := .type "range_iterator", dict := none, data := .fields #[rawInt (a + (i : Nat) + 1), rawInt ((n : Int) - (i : Nat) - 1), rawInt 1], slots := #[] }) :: news') := fun p hp => by
      rcases List.mem_cons.mp hp with rfl | hp
      · exact ⟨hit₃, fun q => hLI q.symm, hI0⟩
      · exact N₂ p hp
    refine C.mono (turn i _ m' news' h₃ _ I _ hlt hJ (rfl : ItObj { cls := .type "range_iterator", dict := none, data := .fields #[rawInt (a + (i : Nat) + 1), rawInt ((n : Int) - (i : Nat) - 1), rawInt 1], slots := #[] }) F₂ N₃) (fun f s₃ hf => ?_) fun _ _ e => e.elim
    have fin : (∃ h' tk' m'' news'', s₃ = { s with heap := h', toks := tk' } ∧ Fr B env.locals h' m'' ∧ News B env.locals h' ((I, { cls := .type "range_iterator", dict := none, data := .fields #[rawInt (a + (i : Nat) + 1), rawInt ((n : Int) - (i : Nat) - 1), rawInt 1], slots := #[] }) :: news'') ∧ (∀ p ∈ news'', NoIt fix p) ∧ J (i + 1) m'' news'') →
        ∃ k, k < n + 1 - i ∧ ∃ h' tk m' news' i, s₃ = { s with heap := h', toks := tk } ∧ IsRangeIter h' I (a + (i : Nat)) ((n : Int) - (i : Nat)) 1 ∧ Fr B env.locals h' m' ∧ News B env.locals h' news' ∧ (∀ p ∈ news', NoIt fix p) ∧ J i m' news' ∧ i ≤ n ∧ k = n + 1 - i := by
      rintro ⟨h₄, tk₄, m₄, news₄, e, F₄, N₄, hc₄, hJ₄⟩
      have hI4 := (N₄ _ (.head _)).1
      dsimp only at hI4
      refine ⟨n + 1 - (i + 1), by omega, h₄, tk₄, m₄, news₄, i + 1, e, ?_, F₄, fun p hp => N₄ p (.tail _ hp), hc₄, hJ₄, by omega, rfl⟩
      unfold IsRangeIter
      rw [hI4]
      have e1 : a + ((i + 1 : Nat) : Int) = a + (i : Nat) + 1 := by omega
      have e2 : (n : Int) - ((i + 1 : Nat) : Int) = (n : Int) - (i : Nat) - 1 := by omega
      rw [e1, e2]
    cases f with
    | ret v => exact hf
    | brk => exact hf.elim
    | next => exact fin hf
    | cont => exact fin hf
  · have hin : i = n := by omega
    subst hin
    refine wpAny_pyNext_range_end hh hst (by omega) fun h₂ hk => wpAny_execs_nil ?_
    obtain ⟨F₁, N₁⟩ := keepB h₂ fun b o hb e => hk b o hb e
    exact done m' news' h₂ tk hJ F₁ N₁
theorem C.forRangeFL (fix : List (Addr × Obj)) {Q : Flow → Shared → Prop} {L : Addr} {a b : Int} (n : Nat) (J : Nat → (Str → Option Value) → List (Addr × Obj) → Prop)
    (hL : env.locals = L) (hh : A.handled = none) (hx : env.kindOf x = some .local) (hp : (env.scope.kind == .class || (env.scope.kind == .module && env.locals != env.globals)) = false)
    (hsmall : Builtin.Range.small a b 1 = true) (hn : Builtin.Range.rangeSize a b 1 = (n : Int))
    (h : wpAny (model prog w) A (eval iter env) (ReadyF fix B L a b s (J 0)) (fun _ _ => False) s)
    (turn : ∀ i t m news h tk I oI, i < n → J i m news → ItObj oI → Fr B L h (fun y => if y = x then some (.int (a + (i : Int)) t) else m y) → News B L h ((I, oI) :: news) →
      wpC (model prog w) A (execs body env) (TurnedF fix B L I oI s (J (i + 1)) fun v s' => Q (.ret v) s') (fun _ _ => False) { s with heap := h, toks := tk })
    (done : ∀ m news h tk, J n m news → Fr B L h m → News B L h news → Q .next { s with heap := h, toks := tk })
    (hs : ∀ x, foldedSetIterable iter env x = Pure.pure x := by intro _; rfl) :
    wpC (model prog w) A (exec (.For (.Name x px) iter body [] pos) env) Q (fun _ _ => False) s := by
  subst hL
  exact C.forRangeF fix n J hh hx hp hsmall hn h turn done hs
end
theorem Fr.congr {B h : Heap} {L : Addr} {m m' : Str → Option Value} (F : Fr B L h m) (e : m = m') : Fr B L h m' := e ▸ F
theorem dead_in {n : Str} {v : Value} {u : Str → Option Value} {l : List (Str × Value)} (hn : dead.contains n = true) :
    (fun y => if y = n then some v else if dead.contains y = true then u y else List.lookup y l) = fun y => if dead.contains y = true then (if y = n then some v else u y) else List.lookup y l := by
  funext y
  by_cases h : y = n
  · rw [h, if_pos rfl, if_pos hn, if_pos rfl]
  · rw [if_neg h, if_neg h]
theorem lookup_ite2 {y n : Str} {v : Value} {l : List (Str × Value)} : List.lookup y ((n, v) :: l) = if y = n then some v else List.lookup y l := congrFun (lookup_if n v l).symm y
theorem dead_at {n : Str} {v v' : Value} {u : Str → Option Value} {l : List (Str × Value)} (hn : dead.contains n = false) : ∀ (pre : List (Str × Value)), (∀ q ∈ pre, ¬ n = q.1) →
    (fun y => if y = n then some v else if dead.contains y = true then u y else List.lookup y (pre ++ (n, v') :: l)) = fun y => if dead.contains y = true then u y else List.lookup y (pre ++ (n, v) :: l)
  | [], _ => dead_set hn
  | (n2, v2) :: pre, h => by
    funext y
    have ih := congrFun (dead_at (v := v) (v' := v') (u := u) (l := l) hn pre fun q hq => h q (.tail _ hq)) y
    have hne : ¬ n = n2 := h (n2, v2) (.head _)
    rw [List.cons_append, List.cons_append, lookup_ite2, lookup_ite2]
    by_cases e : y = n
    · subst e
      rw [if_pos rfl] at ih ⊢
      rw [if_neg hne]
      exact ih
    · rw [if_neg e] at ih ⊢
      by_cases e2 : y = n2
      · rw [if_pos e2, if_pos e2]
      · rw [if_neg e2, if_neg e2]; exact ih
theorem strValues_of : ∀ {rs : List Value} {rp : List Str}, StrsAre rs rp → ∃ l : List (Str × Tok), rs = strValues l ∧ l.map (·.1) = rp
  | _, _, .nil => ⟨[], rfl, rfl⟩
  | _, _, .cons x t r => by
    obtain ⟨l, rfl, rfl⟩ := strValues_of r
    exact ⟨(x, t) :: l, rfl, rfl⟩
/-- g, n times -/
noncomputable def it (g : Nat → Nat) : Nat → Nat → Nat
  | 0, p => p
  | n + 1, p => g (it g n p)
theorem it_add (g : Nat → Nat) (a p : Nat) : ∀ b, it g (a + b) p = it g b (it g a p)
  | 0 => rfl
  | b + 1 => congrArg g (it_add g a p b)
theorem it_lt {g : Nat → Nat} (hg : ∀ p, p < 7 → g p < 7) {p : Nat} (hp : p < 7) : ∀ n, it g n p < 7
  | 0 => hp
  | n + 1 => hg _ (it_lt hg hp n)
/-- the letters of the log -/
noncomputable def lg (g : Nat → Nat) (sg : List Str) (st : Nat) (L0 : Str) : Nat → Str
  | 0 => L0
  | n + 1 => lg g sg st L0 n ++ sg.getD (it g (n + 1) st) Str.empty
theorem step_w {w : World} {loose : List Str} {mean : ExcName → Option Value} {mg mb : Str → Option Value} {dp un : Nat} {gd : Option (List Code)} {B : Heap} {L a : Addr} {m : Str → Option Value} {news : List (Addr × Obj)} {s : Shared} {Q E : Value → Shared → Prop} {name : Str} {scope : Scope} {cd : Value}
   {host : Str} {fi : Int} {p gp : Nat} {t0 t2 t3 : Tok} {R D : Addr} {n : Nat} {ks : List Int} {rs : List Value} {rp : List Str} (hk : scope.kind = .function) (F : Fr B L s.heap m) (N : News B L s.heap news) (X : (hd.heap_39 w.params).In B) (T : Top hd.view_39 loose mean mg mb B) (hdp : dp + 2 < recursionLimit) (hun : un + 70 < cLine)
   (hR : StrsAre rs rp) (hRm : (R, LCg.lst rs) ∈ news) (hDm : (D, tupO host t2 (fi + (p : Int)) t3 n) ∈ news) (h7 : rp.length = 7) (hp : p < 7) (hf0 : 0 ≤ fi) (hf1 : fi < 200000)
   (hs : Says (rp.getD p Str.empty) (kindP (ks.getD p 0)) (fi + (ks.getD p 0).fmod 7)) (hg : (gp : Int) = goalP ks p)
   (h : ∀ T' h' tk' t3' n', Fr B L h' m → News B L h' ((T', tupO host t2 (fi + (gp : Int)) t3' n') :: news) → Q (.ref T') { s with heap := h', toks := tk' }) :
   wpC (model PySem.Challenge.rw_tl0019_01.row.prog w) (Ar dp un gd (some [envOfC name scope L a cd])) (call (.ref 159) [.ref R, .int fi t0, .ref D]) Q E s := by
  have Fm := frames_one (name := name) (a := a) (cd := cd) F hk
  obtain ⟨l, rfl, rfl⟩ := strValues_of hR
  refine step_c (outer := [envOfC name scope L a cd]) l _ host fi (fi + (p : Int)) t0 t2 t3 R D n X T F.keep hdp hun (N _ hRm).1 (N _ hRm).2.2 (N _ hDm).1 (N _ hDm).2.2 (by rw [List.length_map] at h7; exact h7) (by omega) (by omega) hf0 (by omega) _ (by rw [show fi + (p : Int) - fi = (p : Int) from by omega, Int.toNat_natCast]) hs.len ?_ Fm hs.hx ?_ ?_
  · intro b hb
    have e : b = L := by
      have : b ∈ [L] := hb
      exact List.mem_singleton.mp this
    rw [e]; exact kts_self F
  · intro k x T' h' tk' tk'' e1 e2 Gr n1 n2
    obtain ⟨hk24, rfl⟩ := hs.some_iff e1 e2
    obtain ⟨F2, N2⟩ := growL F N Gr
    obtain ⟨N3, _⟩ := news_add F N N2 n1 n2
    have e3 : goalP ks p = (ks.getD p 0).fmod 7 := if_pos hk24
    rw [← e3, ← hg] at N3
    exact h T' h' tk' tk'' _ F2 N3
  · intro t1 vs h' tk' ht Gr
    obtain ⟨F2, N2⟩ := growL F N Gr
    have hk24 : ¬ kindP (ks.getD p 0) < 24 := by
      rcases hs.told ht with ⟨q, _⟩ | ⟨q, _⟩ | ⟨q, _⟩ <;> omega
    have e3 : goalP ks p = (p : Int) := if_neg hk24
    rw [e3] at hg
    refine h D h' tk' t3 n F2 fun q hq => ?_
    rcases List.mem_cons.mp hq with rfl | hq
    · rw [hg]; exact N2 _ hDm
    · exact N2 _ hq
end Mine
end
theorem Mine.fresh_LS : True ∧ True := by
  w_on
  w_top off
  walk1
  all_goals trivial
/-! text LS -/
section
open PySem PySem.W PyProof.Rows PySem.Spec PySem.Calls
open PySem.Builtin PySem.Builtin.Str PySem.StrLaws
namespace Mine
/-! where three dots cut a text -/
theorem dots_eq : PySem.Str.ofString "..." = ⟨#[46, 46, 46]⟩ := by decide +kernel
theorem at_dots {x : PySem.Str} {k : Nat} (h : At x ⟨#[46, 46, 46]⟩ x.length k) : x.cps.toList[k]? = some 46 := by
  obtain ⟨h1, h2⟩ := h
  rw [subAt_eq] at h2
  have e : ((x.cps.toList.drop k).take 3) = [46, 46, 46] := eq_of_beq h2
  have e2 := congrArg (fun l => l[0]?) e
  simp at e2
  simpa using e2
theorem at_dots' {x : PySem.Str} {k : Nat} {U V : List Nat} (e : x.cps.toList = U ++ [46, 46, 46] ++ V) (hk : k = U.length) : At x ⟨#[46, 46, 46]⟩ x.length k := by
  have hl : x.length = U.length + 3 + V.length := by
    show x.cps.size = _
    rw [← Array.length_toList, e]; simp; omega
  refine ⟨by rw [hl, hk]; show U.length + 3 ≤ _; omega, ?_⟩
  rw [subAt_eq, e, hk]
  show (List.take 3 (List.drop U.length (U ++ [46, 46, 46] ++ V)) == [46, 46, 46]) = true
  rw [List.append_assoc, List.drop_left' rfl]
  rfl
theorem chain_cut {x y : PySem.Str} {hi a f c : Nat} {cuts : List Nat} (h : ChainG x y hi a cuts f) (hf : ∀ k, f ≤ k → ¬ At x y hi k) (hac : a ≤ c) (hc : At x y hi c) (hn : ∀ k, a ≤ k → k < c → ¬ At x y hi k) :
    ∃ r, cuts = c :: r ∧ ChainG x y hi (c + y.length) r f := by
  cases cuts with
  | nil =>
    have e : f = a := h
    exact absurd hc (hf c (by omega))
  | cons d r =>
    obtain ⟨h1, h2, h3, h4⟩ := h
    have e : d = c := by
      rcases Nat.lt_trichotomy d c with q | q | q
      · exact absurd h2 (hn d h1 q)
      · exact q
      · exact absurd hc (h3 c hac q)
    subst e
    exact ⟨r, rfl, h4⟩
theorem chain_end {x y : PySem.Str} {hi a f : Nat} {cuts : List Nat} (h : ChainG x y hi a cuts f) (hn : ∀ k, a ≤ k → ¬ At x y hi k) : cuts = [] := by
  cases cuts with
  | nil => rfl
  | cons d r => exact absurd h.2.1 (hn d h.1)
theorem kind_dots (x : PySem.Str) : ¬ PySem.Builtin.Str.strKind x < PySem.Builtin.Str.strKind ⟨#[46, 46, 46]⟩ := by
  have e : PySem.Builtin.Str.strKind ⟨#[46, 46, 46]⟩ = 1 := by decide +kernel
  rw [e]
  unfold PySem.Builtin.Str.strKind
  split <;> (try split) <;> omega
theorem split_cuts {x : PySem.Str} (hl : 3 ≤ x.length) {cuts : List Nat} (hc : occurrences x ⟨#[46, 46, 46]⟩ 0 x.length (x.length + 1) = cuts) (hne : cuts ≠ []) : Txt.split x ⟨#[46, 46, 46]⟩ = partsFrom x 3 0 cuts := by
  unfold Txt.split
  rw [if_neg, if_neg, partsBetween_eq, hc]
  · rfl
  · rw [hc]; cases cuts <;> simp_all
  · have h1 : ¬ x.length < (⟨#[46, 46, 46]⟩ : PySem.Str).length := by show ¬ x.length < 3; omega
    simp [h1, kind_dots x]
theorem occ_some {x : PySem.Str} {c : Nat} (h : At x ⟨#[46, 46, 46]⟩ x.length c) : (occurrences x ⟨#[46, 46, 46]⟩ 0 x.length 1).isEmpty = false := by
  rcases occ_head_span x ⟨#[46, 46, 46]⟩ 0 x.length 1 (Nat.le_refl 1) with ⟨_, hn⟩ | ⟨i, r, e, _⟩
  · exact absurd h (hn c (Nat.zero_le _))
  · rw [e]; rfl
noncomputable def NoDot (u : PySem.Str) : Prop := ∀ c ∈ u.cps.toList, c ≠ 46
theorem sub_list (x : PySem.Str) (a b : Nat) : (strSub x a b).cps.toList = (x.cps.toList.take b).drop a := by
  show (x.cps.extract a b).toList = _
  simp [List.drop_take]
theorem str_ext {x y : PySem.Str} (h : x.cps.toList = y.cps.toList) : x = y := by
  cases x; cases y
  congr 1
  exact Array.toList_inj.mp h
theorem two_cuts {x u v : PySem.Str} (e : x.cps.toList = u.cps.toList ++ [46, 46, 46] ++ v.cps.toList) (hu : NoDot u) (hv : NoDot v) :
    Txt.split x ⟨#[46, 46, 46]⟩ = [u, v] ∧ (occurrences x ⟨#[46, 46, 46]⟩ 0 x.length 1).isEmpty = false := by
  have hA := at_dots' e rfl
  have hl : x.length = u.cps.toList.length + 3 + v.cps.toList.length := by
    show x.cps.size = _
    rw [← Array.length_toList, e]; simp; omega
  refine ⟨?_, occ_some hA⟩
  obtain ⟨f, hG, hf⟩ := occ_tight x ⟨#[46, 46, 46]⟩ (by decide)
  obtain ⟨r, hr, hG2⟩ := chain_cut hG hf (Nat.zero_le _) hA (fun k _ hk hAk => by
    have h1 := at_dots hAk
    rw [e, List.append_assoc, List.getElem?_append_left hk] at h1
    exact hu _ (List.mem_of_getElem? h1) rfl)
  have hr2 := chain_end hG2 (fun k hk hAk => by
    have h1 := at_dots hAk
    have hk' : u.cps.toList.length + 3 ≤ k := hk
    rw [e, List.getElem?_append_right (by simp; omega)] at h1
    exact hv _ (List.mem_of_getElem? h1) rfl)
  subst hr2
  rw [split_cuts (by omega) hr (by simp)]
  show [strSub x 0 _, strSub x _ x.length] = [u, v]
  congr 1
  · refine str_ext ?_
    rw [sub_list, e, List.append_assoc, List.take_left' rfl]; rfl
  · congr 1
    refine str_ext ?_
    rw [sub_list, List.take_of_length_le (by rw [Array.length_toList]; exact Nat.le_refl _), e, List.drop_left' (by simp)]
theorem two_split {u v : PySem.Str} (hu : NoDot u) (hv : NoDot v) :
    Txt.split (u ++ PySem.Str.ofString "..." ++ v) (PySem.Str.ofString "...") = [u, v] ∧ (occurrences (u ++ PySem.Str.ofString "..." ++ v) (PySem.Str.ofString "...") 0 (u ++ PySem.Str.ofString "..." ++ v).length 1).isEmpty = false := by
  rw [dots_eq]
  refine two_cuts ?_ hu hv
  show (u.cps ++ #[46, 46, 46] ++ v.cps).toList = _
  simp
theorem four_cuts {x : PySem.Str} {c : Nat} (hc : c ≠ 46) (e : x.cps.toList = [46, 46, 46, c, 46, 46, 46, c, 46, 46, 46]) :
    Txt.split x ⟨#[46, 46, 46]⟩ = [PySem.Str.empty, ⟨#[c]⟩, ⟨#[c]⟩, PySem.Str.empty] ∧ (occurrences x ⟨#[46, 46, 46]⟩ 0 x.length 1).isEmpty = false := by
  have hA0 : At x ⟨#[46, 46, 46]⟩ x.length 0 := at_dots' (U := []) (V := [c, 46, 46, 46, c, 46, 46, 46]) e rfl
  have hA4 : At x ⟨#[46, 46, 46]⟩ x.length 4 := at_dots' (U := [46, 46, 46, c]) (V := [c, 46, 46, 46]) e rfl
  have hA8 : At x ⟨#[46, 46, 46]⟩ x.length 8 := at_dots' (U := [46, 46, 46, c, 46, 46, 46, c]) (V := []) e rfl
  have hl : x.length = 11 := by
    show x.cps.size = _
    rw [← Array.length_toList, e]; rfl
  refine ⟨?_, occ_some hA0⟩
  obtain ⟨f, hG, hf⟩ := occ_tight x ⟨#[46, 46, 46]⟩ (by decide)
  obtain ⟨r, hr, hG2⟩ := chain_cut hG hf (Nat.zero_le _) hA0 (fun k _ hk => absurd hk (Nat.not_lt_zero _))
  obtain ⟨r2, hr2, hG3⟩ := chain_cut (c := 4) hG2 hf (by decide) hA4 (fun k h1 hk hAk => by
    have h1' : 3 ≤ k := h1
    have : k = 3 := by omega
    subst this
    have h2 := at_dots hAk
    rw [e] at h2
    simp at h2
    exact hc h2)
  obtain ⟨r3, hr3, hG4⟩ := chain_cut (c := 8) hG3 hf (by decide) hA8 (fun k h1 hk hAk => by
    have h1' : 7 ≤ k := h1
    have : k = 7 := by omega
    subst this
    have h2 := at_dots hAk
    rw [e] at h2
    simp at h2
    exact hc h2)
  have hr4 := chain_end hG4 (fun k hk hAk => by
    have hk' : 11 ≤ k := hk
    have h2 := at_dots hAk
    rw [e, List.getElem?_eq_none (by simpa using hk')] at h2
    cases h2)
  subst hr4 hr3 hr2
  rw [split_cuts (by omega) hr (by simp)]
  show [strSub x 0 0, strSub x 3 4, strSub x 7 8, strSub x 11 x.length] = _
  have e1 : strSub x 0 0 = PySem.Str.empty := str_ext (by rw [sub_list]; simp; rfl)
  have e2 : strSub x 3 4 = ⟨#[c]⟩ := str_ext (by rw [sub_list, e]; rfl)
  have e3 : strSub x 7 8 = ⟨#[c]⟩ := str_ext (by rw [sub_list, e]; rfl)
  have e4 : strSub x 11 x.length = PySem.Str.empty := str_ext (by rw [sub_list, hl, e]; rfl)
  rw [e1, e2, e3, e4]
theorem four_split {c : Nat} (hc : c ≠ 46) {x : PySem.Str} (hx : x = PySem.Str.ofString "..." ++ ⟨#[c]⟩ ++ PySem.Str.ofString "..." ++ ⟨#[c]⟩ ++ PySem.Str.ofString "...") :
    Txt.split x (PySem.Str.ofString "...") = [PySem.Str.empty, ⟨#[c]⟩, ⟨#[c]⟩, PySem.Str.empty] ∧ (occurrences x (PySem.Str.ofString "...") 0 x.length 1).isEmpty = false := by
  rw [dots_eq] at hx ⊢
  refine four_cuts hc ?_
  rw [hx]
  rfl
end Mine
end
theorem Mine.fresh_LT : True ∧ True := by
  w_on
  w_top off
  walk1
  all_goals trivial
/-! text LT -/
section
open PySem PySem.W PyProof.Rows PySem.Spec PySem.Calls
namespace Mine
noncomputable def takeS (x : Str) (j : Nat) : Str := ⟨(x.cps.toList.take j).toArray⟩
noncomputable def dropS (x : Str) (i : Nat) : Str := ⟨(x.cps.toList.drop i).toArray⟩
theorem len_list (x : Str) : x.cps.toList.length = x.length := Array.length_toList
theorem slice_to {x : Str} {j : Int} (h0 : 0 ≤ j) (h1 : j ≤ x.length) : Txt.slice x none (some j) = takeS x j.toNat := by
  have e := StrLaws.sliceText_to (x := x) (j := j) ⟨h0, by rw [len_list]; exact h1⟩
  rw [List.drop_zero, Int.sub_zero] at e
  exact e
theorem slice_from {x : Str} {i : Int} (h0 : 0 ≤ i) (h1 : i ≤ x.length) : Txt.slice x (some i) none = dropS x i.toNat := by
  have e := StrLaws.sliceText_from (x := x) (i := i) ⟨h0, by rw [len_list]; exact h1⟩
  rw [List.take_of_length_le (by rw [List.length_drop]; omega)] at e
  exact e
theorem noDot_slice {x : Str} (h : NoDot x) (l u : Option Int) : NoDot (Txt.slice x l u) := by
  intro c hc
  unfold Txt.slice at hc
  split at hc
  · exact h c hc
  · have hc' : c ∈ (Builtin.Str.strSliceIndices l u 1 x.length).filterMap (x.cps[·]?) := by simpa using hc
    obtain ⟨k, _, hk⟩ := List.mem_filterMap.mp hc'
    refine h c ?_
    rw [Array.mem_toList_iff]
    exact Array.mem_of_getElem? hk
theorem em_w2 {w : World} {loose : List Str} {mean : ExcName → Option Value} {mg mb : Str → Option Value} {dp un : Nat} {gd : Option (List Code)} {fr : Option (List Env)} {B : Heap} {L : Addr} {m : Str → Option Value} {news : List (Addr × Obj)} {s : Shared} {Q E : Value → Shared → Prop} {u v got : Str} {t1 t2 : Tok}
   (F : Fr B L s.heap m) (N : News B L s.heap news) (X : (hd.heap_39 w.params).In B) (T : Top hd.view_39 loose mean mg mb B) (hdp : dp < recursionLimit) (hun : un + 50 < cLine)
   (hu : NoDot u) (hv : NoDot v) (hul : u.length ≤ 1000) (hvl : v.length ≤ 1000) (hg : got.length ≤ 1000)
   (h : ∀ h' tk', Fr B L h' m → News B L h' news → Q (.bool (em2 u v got)) { s with heap := h', toks := tk' }) :
   wpAny (model PySem.Challenge.rw_tl0019_01.row.prog w) (Ar dp un gd fr) (call (.ref 72) [.str (u ++ Str.ofString "..." ++ v) t1, .str got t2]) Q E s := by
  have hd : (Str.ofString "...").length = 3 := by decide +kernel
  have hs := two_split hu hv
  refine em_two _ got u v t1 t2 X T F.keep hdp hun hs.1 hs.2 (by rw [PySem.Str.length_append, PySem.Str.length_append, hd]; omega) (by omega) (by omega) (by omega) ?_
  rintro _ h' tk' st rfl
  exact h h' tk' (fr_stays F N st).1 (fr_stays F N st).2
noncomputable def hitP (lg : Str) (i j : Nat) : Bool := em2 (takeS lg i) (dropS lg j) (takeS lg (lg.length - (j - i)))
/-- the first stretch that can be left out -/
noncomputable def upd (hit : Nat → Nat → Bool) (wr : Nat × Nat) (i j : Nat) : Nat × Nat := if wr.2 = 0 ∧ hit i j = true then (i, j - i) else wr
noncomputable def rin (hit : Nat → Nat → Bool) (j : Nat) (wr : Nat × Nat) : Nat → Nat × Nat
  | 0 => wr
  | n + 1 => upd hit (rin hit j wr n) n j
noncomputable def rout (hit : Nat → Nat → Bool) : Nat → Nat × Nat
  | 0 => (0, 0)
  | n + 1 => rin hit (n + 1) (rout hit n) (n + 1)
theorem dead_norm {n : Str} {v : Value} {m : Str → Option Value} {l : List (Str × Value)} (hm : ∀ y, dead.contains y = false → m y = List.lookup y l) (hj : m n = some v) :
    m = fun y => if y = n then some v else if dead.contains y = true then m y else List.lookup y l := by
  funext y
  by_cases h : y = n
  · rw [if_pos h, h, hj]
  · rw [if_neg h]
    cases q : dead.contains y with
    | true => simp
    | false => simp [hm y q]
theorem ring_norm {A B vi vj r0 w0 : Value} {u : Str → Option Value} {l : List (Str × Value)} :
    (fun y => if y = Str.ofString "way" then some A else if y = Str.ofString "ring" then some B else if y = Str.ofString "i" then some vi else if y = Str.ofString "j" then some vj else if dead.contains y = true then u y else List.lookup y ((Str.ofString "ring", r0) :: (Str.ofString "way", w0) :: l)) =
    fun y => if y = Str.ofString "j" then some vj else if dead.contains y = true then (if y = Str.ofString "i" then some vi else u y) else List.lookup y ((Str.ofString "ring", B) :: (Str.ofString "way", A) :: l) := by
  funext y
  cases hd : dead.contains y with
  | true =>
    have h1 : ¬ y = Str.ofString "way" := fun e => by rw [e] at hd; exact absurd hd (by decide +kernel)
    have h2 : ¬ y = Str.ofString "ring" := fun e => by rw [e] at hd; exact absurd hd (by decide +kernel)
    simp only [if_neg h1, if_neg h2, if_true]
    by_cases h3 : y = Str.ofString "i"
    · simp only [h3, if_true]
      rw [if_neg (by decide +kernel)]
    · simp only [if_neg h3]
  | false =>
    rw [if_neg (not_dead hd (n := Str.ofString "i") (by decide +kernel)), if_neg (not_dead hd (n := Str.ofString "j") (by decide +kernel)), if_neg (not_dead hd (n := Str.ofString "j") (by decide +kernel))]
    simp only [Bool.false_eq_true, if_false]
    simp only [lookup_ite2]
    by_cases h1 : y = Str.ofString "way"
    · rw [if_pos h1, if_neg (by rw [h1]; decide +kernel), if_pos h1]
    · by_cases h2 : y = Str.ofString "ring"
      · rw [if_neg h1, if_pos h2, if_pos h2]
      · simp only [if_neg h1, if_neg h2]
theorem ring_norm0 {vi vj : Value} {u : Str → Option Value} {l : List (Str × Value)} :
    (fun y => if y = Str.ofString "i" then some vi else if y = Str.ofString "j" then some vj else if dead.contains y = true then u y else List.lookup y l) =
    fun y => if y = Str.ofString "j" then some vj else if dead.contains y = true then (if y = Str.ofString "i" then some vi else u y) else List.lookup y l := by
  funext y
  by_cases h3 : y = Str.ofString "i"
  · rw [if_pos h3, if_neg (by rw [h3]; decide +kernel), if_pos (by rw [h3]; decide +kernel), if_pos h3]
  · rw [if_neg h3, if_neg h3]
theorem upd_yes {hit : Nat → Nat → Bool} {a b i j : Nat} (hb : b = 0) (h : hit i j = true) : upd hit (a, b) i j = (i, j - i) := if_pos ⟨hb, h⟩
theorem upd_no {hit : Nat → Nat → Bool} {a b i j : Nat} (h : hit i j = false) : upd hit (a, b) i j = (a, b) := if_neg (fun q => by rw [h] at q; cases q.2)
theorem upd_done {hit : Nat → Nat → Bool} {a b i j : Nat} (h : ¬ b = 0) : upd hit (a, b) i j = (a, b) := if_neg (fun q => h q.1)
end Mine
end
theorem Mine.fresh_LA15a : True ∧ True := by
  w_on
  w_top off
  walk1
  all_goals trivial
/-! text LA15a -/
section
open PySem PySem.W PyProof.Rows PySem.Spec PySem.Calls
namespace Mine
set_option maxRecDepth 100000 in
set_option maxHeartbeats 8000000 in
theorem ch15a {w : World} {loose : List Str} {mean : ExcName → Option Value} {mg mb : Str → Option Value} {dp un : Nat} {gd : Option (List Code)} {B : Heap} {L : Addr} {s : Shared} {qual : Str} {body : List Stmt} {scope : Scope} {cdv : Value} {S R G : Addr} {zs rs gs : List Value} {st : Int} {tst : Tok} {o1 o2 o3 o4 o5 o6 : Obj} {n' : Nat} {l : List (Str × Value)} {u : Str → Option Value} {V M T1 T2 I0 : Addr} {vs : List Value} {nv n1 p0 : Nat} {p fi sl fa : Int} {tp tl tfa tsl tf t4 t5 : Tok} {rp : List Str} {ks : List Int} {g : Nat → Nat} {lgS : Str} {oI0 oM oT2 : Obj}
    (LD : LawDef (hd.heap_39 w.params) qual body scope cdv) (X : (hd.heap_39 w.params).In B) (T : Top hd.view_39 loose mean mg mb B) (hdp : dp + 10 < recursionLimit) (hun : un + 100 < cLine)
    (hR : StrsAre rs rp) (h7 : rp.length = 7) (hf0 : 0 ≤ fi) (hf1 : fi < 200000) (hsay : ∀ k : Nat, k < 7 → Says (rp.getD k Str.empty) (kindP (ks.getD k 0)) (fi + (ks.getD k 0).fmod 7)) (hg : ∀ p, p < 7 → g p < 7 ∧ ((g p : Nat) : Int) = goalP ks p) (hp : p0 < 7) (hsl0 : 1 ≤ sl) (hsl1 : sl ≤ 2) (d3 : o3.data = .cell (some (.ref S))) (d4 : o4.data = .cell (some (.int fi tf)))
   (hcl : ∀ p ∈ (T2, oT2) :: (M, oM) :: (V, listOf vs.toArray nv) :: (G, listOf gs.toArray n') :: [(R, LCg.lst rs), (S, LCg.lst zs), (L + 1 + 1 + 1 + 1 + 1 + 1, o1), (L + 1 + 1 + 1 + 1 + 1, o2), (L + 1 + 1 + 1 + 1, o3), (L + 1 + 1 + 1, o4), (L + 1 + 1, o5), (L + 1, o6)], NoIt [] p)
    (F : Fr B L s.heap (fun y => (if dead.contains y = true then u y else List.lookup y ((Str.ofString "log", .str (lgS) tl) :: (Str.ofString "meets", .ref M) :: (Str.ofString "two", .ref T2) :: (Str.ofString "one", .ref T1) :: (Str.ofString "fast", .int fa tfa) :: (Str.ofString "slow", .int sl tsl) :: (Str.ofString "seen", .ref V) :: (Str.ofString "place", .int p tp) :: (Str.ofString "goals", .ref G) :: (Str.ofString "replies", .ref R) :: (Str.ofString "start", .int st tst) :: l)))) (N : News B L s.heap ((T1, tupO (Str.ofString "h") t4 (fi + ((p0 : Nat) : Int)) t5 n1) :: (I0, oI0) :: (T2, oT2) :: (M, oM) :: (V, listOf vs.toArray nv) :: (G, listOf gs.toArray n') :: [(R, LCg.lst rs), (S, LCg.lst zs), (L + 1 + 1 + 1 + 1 + 1 + 1, o1), (L + 1 + 1 + 1 + 1 + 1, o2), (L + 1 + 1 + 1 + 1, o3), (L + 1 + 1 + 1, o4), (L + 1 + 1, o5), (L + 1, o6)])) :
    wpC (model PySem.Challenge.rw_tl0019_01.row.prog w) (Ar dp un gd (some [envOfC qual scope L 164 cdv])) (execs ((forBody (body.drop 15)).take 1) (envOfC qual scope L 164 cdv)) (NxD B L s (fun l' news => ∃ T1 t5 n1, l' = (Str.ofString "log", .str (lgS) tl) :: (Str.ofString "meets", .ref M) :: (Str.ofString "two", .ref T2) :: (Str.ofString "one", .ref T1) :: (Str.ofString "fast", .int fa tfa) :: (Str.ofString "slow", .int sl tsl) :: (Str.ofString "seen", .ref V) :: (Str.ofString "place", .int p tp) :: (Str.ofString "goals", .ref G) :: (Str.ofString "replies", .ref R) :: (Str.ofString "start", .int st tst) :: l ∧ news = (T1, tupO (Str.ofString "h") t4 (fi + ((it g sl.toNat p0 : Nat) : Int)) t5 n1) :: (I0, oI0) :: (T2, oT2) :: (M, oM) :: (V, listOf vs.toArray nv) :: (G, listOf gs.toArray n') :: [(R, LCg.lst rs), (S, LCg.lst zs), (L + 1 + 1 + 1 + 1 + 1 + 1, o1), (L + 1 + 1 + 1 + 1 + 1, o2), (L + 1 + 1 + 1 + 1, o3), (L + 1 + 1 + 1, o4), (L + 1 + 1, o5), (L + 1, o6)])) (fun _ _ => False) s := by
  revert X
  k_fill
  intro X
  refine hideC ?_
  intro Q9 hQ9
  have hE := LawDef.eq LD (by k_dflt k_is)
  obtain ⟨rfl, rfl, rfl, rfl⟩ := hE
  clear LD
  dsimp only [List.drop, List.take]
  dsimp only [forBody, List.drop, List.take]
  have hcl' : ∀ p ∈ (I0, oI0) :: (T2, oT2) :: (M, oM) :: (V, listOf vs.toArray nv) :: (G, listOf gs.toArray n') :: [(R, LCg.lst rs), (S, LCg.lst zs), (L + 1 + 1 + 1 + 1 + 1 + 1, o1), (L + 1 + 1 + 1 + 1 + 1, o2), (L + 1 + 1 + 1 + 1, o3), (L + 1 + 1 + 1, o4), (L + 1 + 1, o5), (L + 1, o6)], NoIt [(I0, oI0)] p := noIt_fix (.head _) (noIt_more (fun _ h => by cases h) hcl)
  refine C.execs_cons (C.forRangeFL [(I0, oI0)] (B := B) (L := L) (a := 0) (b := sl) sl.toNat (fun i m news => ∃ (u : Str → Option Value) (T1 : Addr) (t5 : Tok) (n1 : Nat), m = (fun y => if dead.contains y = true then u y else List.lookup y ((Str.ofString "log", .str (lgS) tl) :: (Str.ofString "meets", .ref M) :: (Str.ofString "two", .ref T2) :: (Str.ofString "one", .ref T1) :: (Str.ofString "fast", .int fa tfa) :: (Str.ofString "slow", .int sl tsl) :: (Str.ofString "seen", .ref V) :: (Str.ofString "place", .int p tp) :: (Str.ofString "goals", .ref G) :: (Str.ofString "replies", .ref R) :: (Str.ofString "start", .int st tst) :: l)) ∧ news = (T1, tupO (Str.ofString "h") t4 (fi + ((it g i p0 : Nat) : Int)) t5 n1) :: (I0, oI0) :: (T2, oT2) :: (M, oM) :: (V, listOf vs.toArray nv) :: (G, listOf gs.toArray n') :: [(R, LCg.lst rs), (S, LCg.lst zs), (L + 1 + 1 + 1 + 1 + 1 + 1, o1), (L + 1 + 1 + 1 + 1 + 1, o2), (L + 1 + 1 + 1 + 1, o3), (L + 1 + 1 + 1, o4), (L + 1 + 1, o5), (L + 1, o6)]) rfl rfl (by rfl) (by rfl) (small_one (by omega) (by omega) (by omega) (by omega)) (by rw [rangeSize_nat, Int.sub_zero]) ?_ ?_ ?_)
  · k_steps
    refine ReadyF.intro (by assumption) (by assumption) (by assumption) ?_ ?_ ⟨_, _, _, _, rfl, rfl⟩
    · exact noIt_cons (.inr rfl) hcl'
    · intro p hp; cases List.mem_singleton.mp hp; k_mem
  · intro i t m news h tk I oI hi hJ hIt F1 N1
    refine hideC ?_
    intro Q8 hQ8
    revert hJ
    refine ex4k (fun u T1 t5 n1 => and2k (fun e90 e91 => ?_))
    subst e90 e91
    clear F N
    rw [dead_in (by decide +kernel)] at F1
    have hpi := it_lt (fun p q => (hg p q).1) hp i
    refine C.execs_cons (C.Assign_Name (C.Call_Name ?_))
    k_steps
    refine C.callWith_K (K := hd.heap_39 w.params) ?_ ?_
    (k_dflt k_is)
    k_steps
    refine' step_w (p := it g i p0) (gp := g (it g i p0)) (ks := ks) rfl (by assumption) (by assumption) X T (by omega) (by omega) hR ?z1 ?z2 h7 hpi hf0 hf1 (hsay _ hpi) (hg _ hpi).2 ?_
    (case z1 => k_mem)
    (case z2 => k_mem)
    intro T' h' tk' t3' n2 F2 N2
    k_steps
    refine C.of (wpAny_execs_nil ?_)
    rename Fr _ _ _ _ => F9
    rename News _ _ _ _ => N9
    have F10 := Fr.congr F9 (dead_at (by decide +kernel) [(Str.ofString "log", .str lgS tl), (Str.ofString "meets", .ref M), (Str.ofString "two", .ref T2)] (by intro q hq; simp only [List.mem_cons, List.not_mem_nil, or_false] at hq; rcases hq with rfl | rfl | rfl <;> (dsimp only; decide +kernel)))
    refine hQ8 _ _ ?_
    refine TurnedF.next F10 N9 ?_ (noIt_cons (.inr rfl) hcl') ⟨_, T', t3', n2, rfl, rfl⟩
    intro q hq
    rcases List.mem_cons.mp hq with rfl | hq
    · exact .tail _ (.head _)
    rcases List.mem_cons.mp hq with rfl | hq
    · exact .head _
    · exact .tail _ (.tail _ (.tail _ hq))
  · intro m news h tk hJ F1 N1
    revert hJ
    refine ex4k (fun u T1 t5 n1 => and2k (fun e90 e91 => ?_))
    subst e90 e91
    exact C.of (wpAny_execs_nil (hQ9 _ _ (NxD.of F1 N1 ⟨_, _, _, rfl, rfl⟩ fun _ hp => hp)))

end Mine
end
theorem Mine.fresh_LA15b : True ∧ True := by
  w_on
  w_top off
  walk1
  all_goals trivial
/-! text LA15b -/
section
open PySem PySem.W PyProof.Rows PySem.Spec PySem.Calls
namespace Mine
theorem lg_len {g : Nat → Nat} {sg : List Str} {st : Nat} {L0 : Str} (hg : ∀ p, p < 7 → g p < 7) (hst : st < 7) (hsl : ∀ k : Nat, k < 7 → (sg.getD k Str.empty).length = 1) : ∀ n, (lg g sg st L0 n).length = L0.length + n
  | 0 => rfl
  | n + 1 => by
    have h1 := hsl _ (it_lt hg hst (n + 1))
    have h2 := lg_len (L0 := L0) hg hst hsl n
    show (lg g sg st L0 n ++ sg.getD (it g (n + 1) st) Str.empty).length = _
    rw [PySem.Str.length_append]; omega
set_option maxRecDepth 100000 in
set_option maxHeartbeats 8000000 in
theorem ch15b {w : World} {loose : List Str} {mean : ExcName → Option Value} {mg mb : Str → Option Value} {dp un : Nat} {gd : Option (List Code)} {B : Heap} {L : Addr} {s : Shared} {qual : Str} {body : List Stmt} {scope : Scope} {cdv : Value} {S R G : Addr} {zs rs gs : List Value} {st : Int} {tst : Tok} {o1 o2 o3 o4 o5 o6 : Obj} {n' : Nat} {l : List (Str × Value)} {u : Str → Option Value} {V M T1 T2 I0 : Addr} {vs : List Value} {nv n1 p0 : Nat} {p fi sl fa : Int} {tp tl tfa tsl tf t4 t5 : Tok} {sg rp : List Str} {ks : List Int} {g : Nat → Nat} {lgS : Str} {oI0 oM oT1 : Obj}
    (LD : LawDef (hd.heap_39 w.params) qual body scope cdv) (X : (hd.heap_39 w.params).In B) (T : Top hd.view_39 loose mean mg mb B) (hdp : dp + 10 < recursionLimit) (hun : un + 100 < cLine)
    (hR : StrsAre rs rp) (h7 : rp.length = 7) (hf0 : 0 ≤ fi) (hf1 : fi < 200000) (hsay : ∀ k : Nat, k < 7 → Says (rp.getD k Str.empty) (kindP (ks.getD k 0)) (fi + (ks.getD k 0).fmod 7)) (hg : ∀ p, p < 7 → g p < 7 ∧ ((g p : Nat) : Int) = goalP ks p) (hp : p0 < 7) (hfa0 : 1 ≤ fa) (hfa1 : fa ≤ 5) (d3 : o3.data = .cell (some (.ref S))) (d4 : o4.data = .cell (some (.int fi tf)))
   (hZ : StrsAre zs sg) (hsg : sg.length = 7) (hsl : ∀ k : Nat, k < 7 → (sg.getD k Str.empty).length = 1) (hlg : lgS.length ≤ 100)
   (hcl : ∀ p ∈ (T1, oT1) :: (M, oM) :: (V, listOf vs.toArray nv) :: (G, listOf gs.toArray n') :: [(R, LCg.lst rs), (S, LCg.lst zs), (L + 1 + 1 + 1 + 1 + 1 + 1, o1), (L + 1 + 1 + 1 + 1 + 1, o2), (L + 1 + 1 + 1 + 1, o3), (L + 1 + 1 + 1, o4), (L + 1 + 1, o5), (L + 1, o6)], NoIt [] p)
    (F : Fr B L s.heap (fun y => (if dead.contains y = true then u y else List.lookup y ((Str.ofString "log", .str (lgS) tl) :: (Str.ofString "meets", .ref M) :: (Str.ofString "two", .ref T2) :: (Str.ofString "one", .ref T1) :: (Str.ofString "fast", .int fa tfa) :: (Str.ofString "slow", .int sl tsl) :: (Str.ofString "seen", .ref V) :: (Str.ofString "place", .int p tp) :: (Str.ofString "goals", .ref G) :: (Str.ofString "replies", .ref R) :: (Str.ofString "start", .int st tst) :: l)))) (N : News B L s.heap ((T2, tupO (Str.ofString "h") t4 (fi + ((p0 : Nat) : Int)) t5 n1) :: (I0, oI0) :: (T1, oT1) :: (M, oM) :: (V, listOf vs.toArray nv) :: (G, listOf gs.toArray n') :: [(R, LCg.lst rs), (S, LCg.lst zs), (L + 1 + 1 + 1 + 1 + 1 + 1, o1), (L + 1 + 1 + 1 + 1 + 1, o2), (L + 1 + 1 + 1 + 1, o3), (L + 1 + 1 + 1, o4), (L + 1 + 1, o5), (L + 1, o6)])) :
    wpC (model PySem.Challenge.rw_tl0019_01.row.prog w) (Ar dp un gd (some [envOfC qual scope L 164 cdv])) (execs (((forBody (body.drop 15)).drop 1).take 1) (envOfC qual scope L 164 cdv)) (NxD B L s (fun l' news => ∃ T2 t5 n1 tl, l' = (Str.ofString "log", .str (lg g sg p0 lgS fa.toNat) tl) :: (Str.ofString "meets", .ref M) :: (Str.ofString "two", .ref T2) :: (Str.ofString "one", .ref T1) :: (Str.ofString "fast", .int fa tfa) :: (Str.ofString "slow", .int sl tsl) :: (Str.ofString "seen", .ref V) :: (Str.ofString "place", .int p tp) :: (Str.ofString "goals", .ref G) :: (Str.ofString "replies", .ref R) :: (Str.ofString "start", .int st tst) :: l ∧ news = (T2, tupO (Str.ofString "h") t4 (fi + ((it g fa.toNat p0 : Nat) : Int)) t5 n1) :: (I0, oI0) :: (T1, oT1) :: (M, oM) :: (V, listOf vs.toArray nv) :: (G, listOf gs.toArray n') :: [(R, LCg.lst rs), (S, LCg.lst zs), (L + 1 + 1 + 1 + 1 + 1 + 1, o1), (L + 1 + 1 + 1 + 1 + 1, o2), (L + 1 + 1 + 1 + 1, o3), (L + 1 + 1 + 1, o4), (L + 1 + 1, o5), (L + 1, o6)])) (fun _ _ => False) s := by
  revert X
  k_fill
  intro X
  refine hideC ?_
  intro Q9 hQ9
  have hE := LawDef.eq LD (by k_dflt k_is)
  obtain ⟨rfl, rfl, rfl, rfl⟩ := hE
  clear LD
  dsimp only [List.drop, List.take]
  dsimp only [forBody, List.drop, List.take]
  have hcl' : ∀ p ∈ (I0, oI0) :: (T1, oT1) :: (M, oM) :: (V, listOf vs.toArray nv) :: (G, listOf gs.toArray n') :: [(R, LCg.lst rs), (S, LCg.lst zs), (L + 1 + 1 + 1 + 1 + 1 + 1, o1), (L + 1 + 1 + 1 + 1 + 1, o2), (L + 1 + 1 + 1 + 1, o3), (L + 1 + 1 + 1, o4), (L + 1 + 1, o5), (L + 1, o6)], NoIt [(I0, oI0)] p := noIt_fix (.head _) (noIt_more (fun _ h => by cases h) hcl)
  refine C.execs_cons (C.forRangeFL [(I0, oI0)] (B := B) (L := L) (a := 0) (b := fa) fa.toNat (fun i m news => ∃ (u : Str → Option Value) (T2 : Addr) (t5 : Tok) (n1 : Nat) (tl : Tok), m = (fun y => if dead.contains y = true then u y else List.lookup y ((Str.ofString "log", .str (lg g sg p0 lgS i) tl) :: (Str.ofString "meets", .ref M) :: (Str.ofString "two", .ref T2) :: (Str.ofString "one", .ref T1) :: (Str.ofString "fast", .int fa tfa) :: (Str.ofString "slow", .int sl tsl) :: (Str.ofString "seen", .ref V) :: (Str.ofString "place", .int p tp) :: (Str.ofString "goals", .ref G) :: (Str.ofString "replies", .ref R) :: (Str.ofString "start", .int st tst) :: l)) ∧ news = (T2, tupO (Str.ofString "h") t4 (fi + ((it g i p0 : Nat) : Int)) t5 n1) :: (I0, oI0) :: (T1, oT1) :: (M, oM) :: (V, listOf vs.toArray nv) :: (G, listOf gs.toArray n') :: [(R, LCg.lst rs), (S, LCg.lst zs), (L + 1 + 1 + 1 + 1 + 1 + 1, o1), (L + 1 + 1 + 1 + 1 + 1, o2), (L + 1 + 1 + 1 + 1, o3), (L + 1 + 1 + 1, o4), (L + 1 + 1, o5), (L + 1, o6)]) rfl rfl (by rfl) (by rfl) (small_one (by omega) (by omega) (by omega) (by omega)) (by rw [rangeSize_nat, Int.sub_zero]) ?_ ?_ ?_)
  · k_steps
    refine ReadyF.intro (by assumption) (by assumption) (by assumption) ?_ ?_ ⟨_, _, _, _, _, rfl, rfl⟩
    · exact noIt_cons (.inr rfl) hcl'
    · intro p hp; cases List.mem_singleton.mp hp; k_mem
  · intro i t m news h tk I oI hi hJ hIt F1 N1
    refine hideC ?_
    intro Q8 hQ8
    revert hJ
    refine ex5k (fun u T2 t5 n1 tl => and2k (fun e90 e91 => ?_))
    subst e90 e91
    clear F N
    rw [dead_in (by decide +kernel)] at F1
    have hpi := it_lt (fun p q => (hg p q).1) hp i
    have hpg := (hg _ hpi).1
    have hl1 := hsl _ hpg
    have hl2 := lg_len (L0 := lgS) (fun p q => (hg p q).1) hp hsl i
    refine C.splitC [_] _ ?_
    refine C.execs_cons (C.Assign_Name (C.Call_Name ?_))
    k_steps
    refine C.callWith_K (K := hd.heap_39 w.params) ?_ ?_
    (k_dflt k_is)
    k_steps
    refine' step_w (p := it g i p0) (gp := g (it g i p0)) (ks := ks) rfl (by assumption) (by assumption) X T (by omega) (by omega) hR ?z1 ?z2 h7 hpi hf0 hf1 (hsay _ hpi) (hg _ hpi).2 ?_
    (case z1 => k_mem)
    (case z2 => k_mem)
    intro T' h' tk' t3' n2 F2 N2
    k_steps
    refine C.of (wpAny_execs_nil ?_)
    dsimp only
    refine C.of ?_
    rename Fr _ _ _ _ => F9
    rename News _ _ _ _ => N9
    (try clear F1); (try clear N1)
    have F10 := Fr.congr F9 (dead_at (by decide +kernel) [(Str.ofString "log", .str (lg g sg p0 lgS i) tl), (Str.ofString "meets", .ref M)] (by intro q hq; simp only [List.mem_cons, List.not_mem_nil, or_false] at hq; rcases hq with rfl | rfl <;> (dsimp only; decide +kernel)))
    clear F9
    generalize hq : g (it g i p0) = q at *
    have hb0 : 0 ≤ fi + ((q : Nat) : Int) - fi := by omega
    have hb1 : fi + ((q : Nat) : Int) - fi < 7 := by omega
    have hl3 : (sg.getD (fi + ((q : Nat) : Int) - fi).toNat Str.empty).length = 1 := by rw [show (fi + ((q : Nat) : Int) - fi).toNat = q from by omega]; exact hl1
    k_steps
    rename Fr _ _ _ _ => F11
    rename News _ _ _ _ => N11
    rw [List.cons_append, List.cons_append, List.nil_append, dead_set (by decide +kernel), show (fi + ((q : Nat) : Int) - fi).toNat = q from by omega, ← hq] at F11
    rw [← hq] at N11
    refine hQ8 _ _ ?_
    refine TurnedF.next F11 N11 ?_ (noIt_cons (.inr rfl) hcl') ⟨_, T', t3', n2, _, rfl, rfl⟩
    intro q hq
    rcases List.mem_cons.mp hq with rfl | hq
    · exact .tail _ (.head _)
    rcases List.mem_cons.mp hq with rfl | hq
    · exact .head _
    · exact .tail _ (.tail _ (.tail _ hq))
  · intro m news h tk hJ F1 N1
    revert hJ
    refine ex5k (fun u T2 t5 n1 tl => and2k (fun e90 e91 => ?_))
    subst e90 e91
    exact C.of (wpAny_execs_nil (hQ9 _ _ (NxD.of F1 N1 ⟨_, _, _, _, rfl, rfl⟩ fun _ hp => hp)))

end Mine
end
theorem Mine.fresh_LA15c : True ∧ True := by
  w_on
  w_top off
  walk1
  all_goals trivial
/-! text LA15c -/
section
open PySem PySem.W PyProof.Rows PySem.Spec PySem.Calls
namespace Mine
theorem port_eq {fi : Int} {p q : Nat} : (fi + (p : Int) == fi + (q : Int)) = decide (p = q) := by
  by_cases h : p = q
  · simp [h]
  · rw [decide_eq_false h]; exact beq_false_of_ne (fun e => h (by omega))
local macro_rules | `(tactic| ke_shaped) => `(tactic| first | exact shaped_tup strOk_h)
set_option maxRecDepth 100000 in
set_option maxHeartbeats 8000000 in
theorem ch15c {w : World} {loose : List Str} {mean : ExcName → Option Value} {mg mb : Str → Option Value} {dp un : Nat} {gd : Option (List Code)} {fr : Option (List Env)} {B : Heap} {L : Addr} {s : Shared} {qual : Str} {body : List Stmt} {scope : Scope} {cdv : Value} {S R G : Addr} {zs rs gs : List Value} {st : Int} {tst : Tok} {o1 o2 o3 o4 o5 o6 : Obj} {n' : Nat} {l : List (Str × Value)} {u : Str → Option Value} {V M T1 T2 I0 : Addr} {vs : List Value} {nv n1 n2 nM p1 p2 : Nat} {p fi sl fa : Int} {tp tl tfa tsl t4 t5 t6 t7 : Tok} {lgS : Str} {oI0 : Obj} {bs : List Value}
    (LD : LawDef (hd.heap_39 w.params) qual body scope cdv) (X : (hd.heap_39 w.params).In B) (T : Top hd.view_39 loose mean mg mb B) (hdp : dp + 10 < recursionLimit) (hun : un + 100 < cLine)
    (hbs : bs.length ≤ 100) (hIt : ItObj oI0) (hM : ∀ p ∈ (V, listOf vs.toArray nv) :: (G, listOf gs.toArray n') :: [(R, LCg.lst rs), (S, LCg.lst zs), (L + 1 + 1 + 1 + 1 + 1 + 1, o1), (L + 1 + 1 + 1 + 1 + 1, o2), (L + 1 + 1 + 1 + 1, o3), (L + 1 + 1 + 1, o4), (L + 1 + 1, o5), (L + 1, o6)], p.1 ≠ M)
    (F : Fr B L s.heap (fun y => (if dead.contains y = true then u y else List.lookup y ((Str.ofString "log", .str (lgS) tl) :: (Str.ofString "meets", .ref M) :: (Str.ofString "two", .ref T2) :: (Str.ofString "one", .ref T1) :: (Str.ofString "fast", .int fa tfa) :: (Str.ofString "slow", .int sl tsl) :: (Str.ofString "seen", .ref V) :: (Str.ofString "place", .int p tp) :: (Str.ofString "goals", .ref G) :: (Str.ofString "replies", .ref R) :: (Str.ofString "start", .int st tst) :: l)))) (N : News B L s.heap ((I0, oI0) :: (T1, tupO (Str.ofString "h") t4 (fi + ((p1 : Nat) : Int)) t5 n1) :: (T2, tupO (Str.ofString "h") t7 (fi + ((p2 : Nat) : Int)) t6 n2) :: (M, listOf (bs).toArray nM) :: (V, listOf vs.toArray nv) :: (G, listOf gs.toArray n') :: [(R, LCg.lst rs), (S, LCg.lst zs), (L + 1 + 1 + 1 + 1 + 1 + 1, o1), (L + 1 + 1 + 1 + 1 + 1, o2), (L + 1 + 1 + 1 + 1, o3), (L + 1 + 1 + 1, o4), (L + 1 + 1, o5), (L + 1, o6)])) :
    wpAny (model PySem.Challenge.rw_tl0019_01.row.prog w) (Ar dp un gd fr) (execs (((forBody (body.drop 15)).drop 2).take 1) (envOfC qual scope L 164 cdv)) (NxD B L s (fun l' news => l' = (Str.ofString "log", .str (lgS) tl) :: (Str.ofString "meets", .ref M) :: (Str.ofString "two", .ref T2) :: (Str.ofString "one", .ref T1) :: (Str.ofString "fast", .int fa tfa) :: (Str.ofString "slow", .int sl tsl) :: (Str.ofString "seen", .ref V) :: (Str.ofString "place", .int p tp) :: (Str.ofString "goals", .ref G) :: (Str.ofString "replies", .ref R) :: (Str.ofString "start", .int st tst) :: l ∧ news = (I0, oI0) :: (T1, tupO (Str.ofString "h") t4 (fi + ((p1 : Nat) : Int)) t5 n1) :: (T2, tupO (Str.ofString "h") t7 (fi + ((p2 : Nat) : Int)) t6 n2) :: (M, listOf (bs ++ [Value.bool (decide (p1 = p2))]).toArray (nM + 1)) :: (V, listOf vs.toArray nv) :: (G, listOf gs.toArray n') :: [(R, LCg.lst rs), (S, LCg.lst zs), (L + 1 + 1 + 1 + 1 + 1 + 1, o1), (L + 1 + 1 + 1 + 1 + 1, o2), (L + 1 + 1 + 1 + 1, o3), (L + 1 + 1 + 1, o4), (L + 1 + 1, o5), (L + 1, o6)])) (fun _ _ => False) s := by
  revert X
  k_fill
  intro X
  refine hideA ?_
  intro Q9 hQ9
  have hE := LawDef.eq LD (by k_dflt k_is)
  obtain ⟨rfl, rfl, rfl, rfl⟩ := hE
  clear LD
  dsimp only [List.drop, List.take]
  dsimp only [forBody, List.drop, List.take]
  have n1 : (I0, oI0).1 ≠ M := news_ne N (.head _) (.tail _ (.tail _ (.tail _ (.head _)))) (by rw [show oI0.cls = _ from hIt]; exact (by decide : (Value.type "range_iterator") ≠ .type "list"))
  have n2 : T1 ≠ M := news_ne N (.tail _ (.head _)) (.tail _ (.tail _ (.tail _ (.head _)))) (by exact (by decide : (Value.type "tuple") ≠ .type "list"))
  have n3 : T2 ≠ M := news_ne N (.tail _ (.tail _ (.head _))) (.tail _ (.tail _ (.tail _ (.head _)))) (by exact (by decide : (Value.type "tuple") ≠ .type "list"))
  repeat' (first | (k_unfold; (try dsimp only)) | (k_here; (with_reducible show wpAny _ _ (call (Value.builtin _) [Value.ref _, _]) _ _ _); (refine' append_K ?z9a ?z9b ?z9c ?_ ?z9z; (case z9a => assumption); (case z9b => assumption); (case z9c => exact Upd.tail (by assumption) (Upd.tail (by assumption) (Upd.tail (by assumption) (Upd.head (by assumption))))); (case z9z => (rw [List.size_toArray, sizeLine_eq]; omega))); intro h9 F9 N9) | walk1 | (dsimp only; walk1) | fail "no step")
  rename News _ _ _ _ => N9
  rw [List.push_toArray, port_eq] at N9
  refine hQ9 _ _ ?_
  exact NxD.of (by assumption) N9 ⟨rfl, rfl⟩ (fun _ hp => hp)

end Mine
end
theorem Mine.fresh_LA15 : True ∧ True := by
  w_on
  w_top off
  walk1
  all_goals trivial
/-! text LA15 -/
section
open PySem PySem.W PyProof.Rows PySem.Spec PySem.Calls
namespace Mine
noncomputable def meetsP (g : Nat → Nat) (a b p0 i : Nat) : List Value := (List.range i).map fun j => Value.bool (decide (it g (a * (j + 1)) p0 = it g (b * (j + 1)) p0))
theorem lg_add (g : Nat → Nat) (sg : List Str) (st : Nat) (L0 : Str) (a : Nat) : ∀ b, lg g sg (it g a st) (lg g sg st L0 a) b = lg g sg st L0 (a + b)
  | 0 => rfl
  | b + 1 => by
    show lg g sg (it g a st) (lg g sg st L0 a) b ++ sg.getD (it g (b + 1) (it g a st)) Str.empty = lg g sg st L0 (a + b) ++ sg.getD (it g (a + b + 1) st) Str.empty
    rw [lg_add g sg st L0 a b, ← it_add]; rfl
theorem perm5 {α : Type} {a b : α} {r : List α} : ∀ p ∈ a :: b :: r, p ∈ b :: a :: r := fun p hp => by
  simp only [List.mem_cons] at hp ⊢
  rcases hp with h | h | h
  · exact .inr (.inl h)
  · exact .inl h
  · exact .inr (.inr h)
theorem perm5b {α : Type} {a b c : α} {r : List α} : ∀ p ∈ c :: b :: a :: r, p ∈ a :: b :: c :: r := fun p hp => by
  simp only [List.mem_cons] at hp ⊢
  rcases hp with h | h | h | h
  · exact .inr (.inr (.inl h))
  · exact .inr (.inl h)
  · exact .inl h
  · exact .inr (.inr (.inr h))
theorem perm5c {α : Type} {a b c : α} {r : List α} : ∀ p ∈ b :: c :: a :: r, p ∈ a :: b :: c :: r := fun p hp => by
  simp only [List.mem_cons] at hp ⊢
  rcases hp with h | h | h | h
  · exact .inr (.inl h)
  · exact .inr (.inr (.inl h))
  · exact .inl h
  · exact .inr (.inr (.inr h))
set_option maxRecDepth 100000 in
set_option maxHeartbeats 8000000 in
theorem ch15 {w : World} {loose : List Str} {mean : ExcName → Option Value} {mg mb : Str → Option Value} {dp un : Nat} {gd : Option (List Code)} {B : Heap} {L : Addr} {s : Shared} {qual : Str} {body : List Stmt} {scope : Scope} {cdv : Value} {S R G : Addr} {zs rs gs : List Value} {st : Int} {tst : Tok} {o1 o2 o3 o4 o5 o6 : Obj} {n' : Nat} {l : List (Str × Value)} {u : Str → Option Value} {V M T1 T2 : Addr} {vs : List Value} {nv n1 n2 nM p0 : Nat} {p fi sl fa : Int} {tp tl tfa tsl tf t4 t5 t6 t7 : Tok} {sg rp : List Str} {ks : List Int} {g : Nat → Nat} {lgS : Str}
    (LD : LawDef (hd.heap_39 w.params) qual body scope cdv) (X : (hd.heap_39 w.params).In B) (T : Top hd.view_39 loose mean mg mb B) (hdp : dp + 10 < recursionLimit) (hun : un + 100 < cLine)
    (hR : StrsAre rs rp) (h7 : rp.length = 7) (hf0 : 0 ≤ fi) (hf1 : fi < 200000) (hsay : ∀ k : Nat, k < 7 → Says (rp.getD k Str.empty) (kindP (ks.getD k 0)) (fi + (ks.getD k 0).fmod 7)) (hg : ∀ p, p < 7 → g p < 7 ∧ ((g p : Nat) : Int) = goalP ks p) (hp : p0 < 7) (hfa0 : 1 ≤ fa) (hfa1 : fa ≤ 5) (hsl0 : 1 ≤ sl) (hsl1 : sl ≤ 2) (d3 : o3.data = .cell (some (.ref S))) (d4 : o4.data = .cell (some (.int fi tf)))
   (hZ : StrsAre zs sg) (hsg : sg.length = 7) (hsl : ∀ k : Nat, k < 7 → (sg.getD k Str.empty).length = 1) (hL0 : lgS.length = 1)
   (hM : ∀ p ∈ (V, listOf vs.toArray nv) :: (G, listOf gs.toArray n') :: [(R, LCg.lst rs), (S, LCg.lst zs), (L + 1 + 1 + 1 + 1 + 1 + 1, o1), (L + 1 + 1 + 1 + 1 + 1, o2), (L + 1 + 1 + 1 + 1, o3), (L + 1 + 1 + 1, o4), (L + 1 + 1, o5), (L + 1, o6)], p.1 ≠ M) (hcl : ∀ p ∈ (V, listOf vs.toArray nv) :: (G, listOf gs.toArray n') :: [(R, LCg.lst rs), (S, LCg.lst zs), (L + 1 + 1 + 1 + 1 + 1 + 1, o1), (L + 1 + 1 + 1 + 1 + 1, o2), (L + 1 + 1 + 1 + 1, o3), (L + 1 + 1 + 1, o4), (L + 1 + 1, o5), (L + 1, o6)], NoIt [] p)
    (F : Fr B L s.heap (fun y => (if dead.contains y = true then u y else List.lookup y ((Str.ofString "log", .str (lgS) tl) :: (Str.ofString "meets", .ref M) :: (Str.ofString "two", .ref T2) :: (Str.ofString "one", .ref T1) :: (Str.ofString "fast", .int fa tfa) :: (Str.ofString "slow", .int sl tsl) :: (Str.ofString "seen", .ref V) :: (Str.ofString "place", .int p tp) :: (Str.ofString "goals", .ref G) :: (Str.ofString "replies", .ref R) :: (Str.ofString "start", .int st tst) :: l)))) (N : News B L s.heap ((T1, tupO (Str.ofString "h") t4 (fi + ((p0 : Nat) : Int)) t5 n1) :: (T2, tupO (Str.ofString "h") t7 (fi + ((p0 : Nat) : Int)) t6 n2) :: (M, listOf #[] nM) :: (V, listOf vs.toArray nv) :: (G, listOf gs.toArray n') :: [(R, LCg.lst rs), (S, LCg.lst zs), (L + 1 + 1 + 1 + 1 + 1 + 1, o1), (L + 1 + 1 + 1 + 1 + 1, o2), (L + 1 + 1 + 1 + 1, o3), (L + 1 + 1 + 1, o4), (L + 1 + 1, o5), (L + 1, o6)])) :
    wpC (model PySem.Challenge.rw_tl0019_01.row.prog w) (Ar dp un gd (some [envOfC qual scope L 164 cdv])) (execs ((body.drop 15).take 1) (envOfC qual scope L 164 cdv)) (NxD B L s (fun l' news => ∃ T1 T2 tl nM, l' = (Str.ofString "log", .str (lg g sg p0 lgS (fa.toNat * 8)) tl) :: (Str.ofString "meets", .ref M) :: (Str.ofString "two", .ref T2) :: (Str.ofString "one", .ref T1) :: (Str.ofString "fast", .int fa tfa) :: (Str.ofString "slow", .int sl tsl) :: (Str.ofString "seen", .ref V) :: (Str.ofString "place", .int p tp) :: (Str.ofString "goals", .ref G) :: (Str.ofString "replies", .ref R) :: (Str.ofString "start", .int st tst) :: l ∧ news = (M, listOf (meetsP g sl.toNat fa.toNat p0 8).toArray nM) :: (V, listOf vs.toArray nv) :: (G, listOf gs.toArray n') :: [(R, LCg.lst rs), (S, LCg.lst zs), (L + 1 + 1 + 1 + 1 + 1 + 1, o1), (L + 1 + 1 + 1 + 1 + 1, o2), (L + 1 + 1 + 1 + 1, o3), (L + 1 + 1 + 1, o4), (L + 1 + 1, o5), (L + 1, o6)])) (fun _ _ => False) s := by
  revert X
  k_fill
  intro X
  refine hideC ?_
  intro Q9 hQ9
  have hE := LawDef.eq LD (by k_dflt k_is)
  obtain ⟨rfl, rfl, rfl, rfl⟩ := hE
  dsimp only [List.drop, List.take]
  refine C.execs_cons (C.forRangeFL [] (B := B) (L := L) (a := 0) (b := 8) 8 (fun i m news => ∃ (u : Str → Option Value) (T1 T2 : Addr) (t5 t6 tl : Tok) (n1 n2 nM : Nat), m = (fun y => if dead.contains y = true then u y else List.lookup y ((Str.ofString "log", .str (lg g sg p0 lgS (fa.toNat * i)) tl) :: (Str.ofString "meets", .ref M) :: (Str.ofString "two", .ref T2) :: (Str.ofString "one", .ref T1) :: (Str.ofString "fast", .int fa tfa) :: (Str.ofString "slow", .int sl tsl) :: (Str.ofString "seen", .ref V) :: (Str.ofString "place", .int p tp) :: (Str.ofString "goals", .ref G) :: (Str.ofString "replies", .ref R) :: (Str.ofString "start", .int st tst) :: l)) ∧ news = (T1, tupO (Str.ofString "h") t4 (fi + ((it g (sl.toNat * i) p0 : Nat) : Int)) t5 n1) :: (T2, tupO (Str.ofString "h") t7 (fi + ((it g (fa.toNat * i) p0 : Nat) : Int)) t6 n2) :: (M, listOf (meetsP g sl.toNat fa.toNat p0 i).toArray nM) :: (V, listOf vs.toArray nv) :: (G, listOf gs.toArray n') :: [(R, LCg.lst rs), (S, LCg.lst zs), (L + 1 + 1 + 1 + 1 + 1 + 1, o1), (L + 1 + 1 + 1 + 1 + 1, o2), (L + 1 + 1 + 1 + 1, o3), (L + 1 + 1 + 1, o4), (L + 1 + 1, o5), (L + 1, o6)]) rfl rfl (by rfl) (by rfl) (by decide) (by rfl) ?_ ?_ ?_)
  · k_steps
    refine ReadyF.intro (by assumption) (by assumption) (by assumption) ?_ ?_ ⟨_, _, _, _, _, _, _, _, nM, rfl, rfl⟩
    · exact noIt_cons (.inr rfl) (noIt_cons (.inr rfl) (noIt_cons (.inl rfl) hcl))
    · intro p hp; cases hp
  · intro i t m news h tk I oI hi hJ hIt F1 N1
    refine hideC ?_
    intro Q8 hQ8
    revert hJ
    refine ex9k (fun u T1 T2 t5 t6 tl n1 n2 nM => and2k (fun e90 e91 => ?_))
    subst e90 e91
    clear F N
    rw [dead_in (by decide +kernel)] at F1
    have hpa := it_lt (fun p q => (hg p q).1) hp (sl.toNat * i)
    have hpb := it_lt (fun p q => (hg p q).1) hp (fa.toNat * i)
    have hll := lg_len (L0 := lgS) (fun p q => (hg p q).1) hp hsl (fa.toNat * i)
    have hfi : fa.toNat * i ≤ 5 * 8 := Nat.mul_le_mul (by omega) (by omega)
    refine C.splitC [_] _ ?_
    refine C.mono (ch15a LD X T hdp hun hR h7 hf0 hf1 hsay hg hpa hsl0 hsl1 d3 d4 (noIt_cons (.inr rfl) (noIt_cons (.inl rfl) hcl)) F1 (cutTo _ N1 perm5)) ?_ (fun _ _ (e : False) => e.elim)
    refine NxD.cont (fun h' tk' u2 l2 news F2 N2 => ex3k (fun T1 t5 n1 => and2k (fun e90 e91 => ?_)))
    subst e90 e91
    dsimp only
    clear F1 N1
    refine C.splitC [_] _ ?_
    refine C.mono (ch15b LD X T hdp hun hR h7 hf0 hf1 hsay hg hpb hfa0 hfa1 d3 d4 hZ hsg hsl (by omega) (noIt_cons (.inr rfl) (noIt_cons (.inl rfl) hcl)) F2 (cutTo _ N2 perm5b)) ?_ (fun _ _ (e : False) => e.elim)
    refine NxD.cont (fun h' tk' u3 l3 news F3 N3 => ex4k (fun T2 t6 n2 tl => and2k (fun e90 e91 => ?_)))
    subst e90 e91
    dsimp only
    clear F2 N2
    refine C.of (wpAny_mono (ch15c LD X T hdp hun (by rw [meetsP, List.length_map, List.length_range]; omega) hIt hM F3 (cutTo _ N3 perm5c)) ?_ (fun _ _ (e : False) => e.elim))
    refine NxD.cont (fun h' tk' u4 l4 news F4 N4 => and2k (fun e90 e91 => ?_))
    subst e90 e91
    rw [lg_add] at F4
    rw [← it_add, ← it_add] at N4
    refine hQ8 _ _ ?_
    refine TurnedF.next F4 N4 (fun _ hp => hp) (noIt_cons (.inr rfl) (noIt_cons (.inr rfl) (noIt_cons (.inl rfl) hcl))) ⟨u4, T1, T2, t5, t6, tl, n1, n2, nM + 1, rfl, ?_⟩
    rw [meetsP, meetsP, List.range_succ, List.map_append]
    rfl
  · intro m news h tk hJ F1 N1
    revert hJ
    refine ex9k (fun u T1 T2 t5 t6 tl n1 n2 nM => and2k (fun e90 e91 => ?_))
    subst e90 e91
    exact C.of (wpAny_execs_nil (hQ9 _ _ (NxD.of F1 N1 ⟨_, _, _, _, rfl, rfl⟩ fun _ hp => .tail _ (.tail _ hp))))

theorem ch15k {w : World} {loose : List Str} {mean : ExcName → Option Value} {mg mb : Str → Option Value} {dp un : Nat} {gd : Option (List Code)} {B : Heap} {L : Addr} {s : Shared} {qual : Str} {body : List Stmt} {scope : Scope} {cdv : Value} {S R G : Addr} {zs rs gs : List Value} {st : Int} {tst : Tok} {o1 o2 o3 o4 o5 o6 : Obj} {n' : Nat} {l : List (Str × Value)} {u : Str → Option Value} {V M T1 T2 : Addr} {vs : List Value} {nv n1 n2 nM p0 : Nat} {p fi sl fa : Int} {tp tl tfa tsl tf t4 t5 t6 t7 : Tok} {sg rp : List Str} {ks : List Int} {g : Nat → Nat} {lgS : Str} {Q9 : Flow → Shared → Prop} {E9 : Value → Shared → Prop}
    (LD : LawDef (hd.heap_39 w.params) qual body scope cdv) (X : (hd.heap_39 w.params).In B) (T : Top hd.view_39 loose mean mg mb B) (hdp : dp + 10 < recursionLimit) (hun : un + 100 < cLine) (hR : StrsAre rs rp) (h7 : rp.length = 7) (hf0 : 0 ≤ fi) (hf1 : fi < 200000) (hsay : ∀ k : Nat, k < 7 → Says (rp.getD k Str.empty) (kindP (ks.getD k 0)) (fi + (ks.getD k 0).fmod 7)) (hg : ∀ p, p < 7 → g p < 7 ∧ ((g p : Nat) : Int) = goalP ks p) (hp : p0 < 7) (hfa0 : 1 ≤ fa) (hfa1 : fa ≤ 5) (hsl0 : 1 ≤ sl) (hsl1 : sl ≤ 2) (d3 : o3.data = .cell (some (.ref S))) (d4 : o4.data = .cell (some (.int fi tf))) (hZ : StrsAre zs sg) (hsg : sg.length = 7) (hsl : ∀ k : Nat, k < 7 → (sg.getD k Str.empty).length = 1) (hL0 : lgS.length = 1) (hM : ∀ p ∈ (V, listOf vs.toArray nv) :: (G, listOf gs.toArray n') :: [(R, LCg.lst rs), (S, LCg.lst zs), (L + 1 + 1 + 1 + 1 + 1 + 1, o1), (L + 1 + 1 + 1 + 1 + 1, o2), (L + 1 + 1 + 1 + 1, o3), (L + 1 + 1 + 1, o4), (L + 1 + 1, o5), (L + 1, o6)], p.1 ≠ M) (hcl : ∀ p ∈ (V, listOf vs.toArray nv) :: (G, listOf gs.toArray n') :: [(R, LCg.lst rs), (S, LCg.lst zs), (L + 1 + 1 + 1 + 1 + 1 + 1, o1), (L + 1 + 1 + 1 + 1 + 1, o2), (L + 1 + 1 + 1 + 1, o3), (L + 1 + 1 + 1, o4), (L + 1 + 1, o5), (L + 1, o6)], NoIt [] p) (F : Fr B L s.heap (fun y => (if dead.contains y = true then u y else List.lookup y ((Str.ofString "log", .str (lgS) tl) :: (Str.ofString "meets", .ref M) :: (Str.ofString "two", .ref T2) :: (Str.ofString "one", .ref T1) :: (Str.ofString "fast", .int fa tfa) :: (Str.ofString "slow", .int sl tsl) :: (Str.ofString "seen", .ref V) :: (Str.ofString "place", .int p tp) :: (Str.ofString "goals", .ref G) :: (Str.ofString "replies", .ref R) :: (Str.ofString "start", .int st tst) :: l)))) (N : News B L s.heap ((T1, tupO (Str.ofString "h") t4 (fi + ((p0 : Nat) : Int)) t5 n1) :: (T2, tupO (Str.ofString "h") t7 (fi + ((p0 : Nat) : Int)) t6 n2) :: (M, listOf #[] nM) :: (V, listOf vs.toArray nv) :: (G, listOf gs.toArray n') :: [(R, LCg.lst rs), (S, LCg.lst zs), (L + 1 + 1 + 1 + 1 + 1 + 1, o1), (L + 1 + 1 + 1 + 1 + 1, o2), (L + 1 + 1 + 1 + 1, o3), (L + 1 + 1 + 1, o4), (L + 1 + 1, o5), (L + 1, o6)]))
    (k9 : ∀ (h9 : Heap) (tk9 : Nat) (u9 : Str → Option Value) T1 T2 tl nM, Fr B L h9 (fun y => if dead.contains y = true then u9 y else List.lookup y ((Str.ofString "log", .str (lg g sg p0 lgS (fa.toNat * 8)) tl) :: (Str.ofString "meets", .ref M) :: (Str.ofString "two", .ref T2) :: (Str.ofString "one", .ref T1) :: (Str.ofString "fast", .int fa tfa) :: (Str.ofString "slow", .int sl tsl) :: (Str.ofString "seen", .ref V) :: (Str.ofString "place", .int p tp) :: (Str.ofString "goals", .ref G) :: (Str.ofString "replies", .ref R) :: (Str.ofString "start", .int st tst) :: l)) → News B L h9 ((M, listOf (meetsP g sl.toNat fa.toNat p0 8).toArray nM) :: (V, listOf vs.toArray nv) :: (G, listOf gs.toArray n') :: [(R, LCg.lst rs), (S, LCg.lst zs), (L + 1 + 1 + 1 + 1 + 1 + 1, o1), (L + 1 + 1 + 1 + 1 + 1, o2), (L + 1 + 1 + 1 + 1, o3), (L + 1 + 1 + 1, o4), (L + 1 + 1, o5), (L + 1, o6)]) → Q9 .next { s with heap := h9, toks := tk9 }) :
    wpC (model PySem.Challenge.rw_tl0019_01.row.prog w) (Ar dp un gd (some [envOfC qual scope L 164 cdv])) (execs ((body.drop 15).take 1) (envOfC qual scope L 164 cdv)) Q9 E9 s :=
  C.mono (ch15 LD X T hdp hun hR h7 hf0 hf1 hsay hg hp hfa0 hfa1 hsl0 hsl1 d3 d4 hZ hsg hsl hL0 hM hcl F N) (NxD.cont (fun h9 tk9 u9 l'9 news9 f9 n9 => ex4k (fun T1 T2 tl nM => and2k (fun e90 e91 => by subst e90 e91; exact k9 h9 tk9 u9 T1 T2 tl nM f9 n9)))) (fun _ _ (e : False) => e.elim)
end Mine
end
theorem Mine.fresh_LA16 : True ∧ True := by
  w_on
  w_top off
  walk1
  all_goals trivial
/-! text LA16 -/
section
open PySem PySem.W PyProof.Rows PySem.Spec PySem.Calls
namespace Mine
set_option maxRecDepth 100000 in
set_option maxHeartbeats 8000000 in
theorem ch16 {w : World} {loose : List Str} {mean : ExcName → Option Value} {mg mb : Str → Option Value} {dp un : Nat} {gd : Option (List Code)} {fr : Option (List Env)} {B : Heap} {L : Addr} {s : Shared} {qual : Str} {body : List Stmt} {scope : Scope} {cdv : Value} {S R G : Addr} {zs rs gs : List Value} {st : Int} {tst : Tok} {o1 o2 o3 o4 o5 o6 : Obj} {n' : Nat} {l : List (Str × Value)} {u : Str → Option Value} {V M T1 T2 : Addr} {vs ms : List Value} {nv nM : Nat} {p sl fa : Int} {tp tl tfa tsl : Tok} {lgS : Str}
    (LD : LawDef (hd.heap_39 w.params) qual body scope cdv) (X : (hd.heap_39 w.params).In B) (T : Top hd.view_39 loose mean mg mb B) (hdp : dp + 10 < recursionLimit) (hun : un + 100 < cLine)
    
    (F : Fr B L s.heap (fun y => (if dead.contains y = true then u y else List.lookup y ((Str.ofString "log", .str lgS tl) :: (Str.ofString "meets", .ref M) :: (Str.ofString "two", .ref T2) :: (Str.ofString "one", .ref T1) :: (Str.ofString "fast", .int fa tfa) :: (Str.ofString "slow", .int sl tsl) :: (Str.ofString "seen", .ref V) :: (Str.ofString "place", .int p tp) :: (Str.ofString "goals", .ref G) :: (Str.ofString "replies", .ref R) :: (Str.ofString "start", .int st tst) :: l)))) (N : News B L s.heap ((M, listOf ms.toArray nM) :: (V, listOf vs.toArray nv) :: (G, listOf gs.toArray n') :: [(R, LCg.lst rs), (S, LCg.lst zs), (L + 1 + 1 + 1 + 1 + 1 + 1, o1), (L + 1 + 1 + 1 + 1 + 1, o2), (L + 1 + 1 + 1 + 1, o3), (L + 1 + 1 + 1, o4), (L + 1 + 1, o5), (L + 1, o6)])) :
    wpAny (model PySem.Challenge.rw_tl0019_01.row.prog w) (Ar dp un gd fr) (execs ((body.drop 16).take 1) (envOfC qual scope L 164 cdv)) (NxD B L s (fun l' news => ∃ t1 t2, l' = (Str.ofString "ring", .int 0 t2) :: (Str.ofString "way", .int 0 t1) :: (Str.ofString "log", .str lgS tl) :: (Str.ofString "meets", .ref M) :: (Str.ofString "two", .ref T2) :: (Str.ofString "one", .ref T1) :: (Str.ofString "fast", .int fa tfa) :: (Str.ofString "slow", .int sl tsl) :: (Str.ofString "seen", .ref V) :: (Str.ofString "place", .int p tp) :: (Str.ofString "goals", .ref G) :: (Str.ofString "replies", .ref R) :: (Str.ofString "start", .int st tst) :: l ∧ news = (M, listOf ms.toArray nM) :: (V, listOf vs.toArray nv) :: (G, listOf gs.toArray n') :: [(R, LCg.lst rs), (S, LCg.lst zs), (L + 1 + 1 + 1 + 1 + 1 + 1, o1), (L + 1 + 1 + 1 + 1 + 1, o2), (L + 1 + 1 + 1 + 1, o3), (L + 1 + 1 + 1, o4), (L + 1 + 1, o5), (L + 1, o6)])) (fun _ _ => False) s := by
  revert X
  k_fill
  intro X
  refine hideA ?_
  intro Q9 hQ9
  have hE := LawDef.eq LD (by k_dflt k_is)
  obtain ⟨rfl, rfl, rfl, rfl⟩ := hE
  clear LD
  dsimp only [List.drop, List.take]
  k_steps
  rename Fr _ _ _ _ => F9
  refine hQ9 _ _ ?_
  exact NxD.eq F9 (cons_step (cons_step rfl (by decide +kernel)) (by decide +kernel)) (by assumption) ⟨_, _, rfl, rfl⟩ (fun _ hp => by first | exact hp | exact .tail _ hp)

theorem ch16k {w : World} {loose : List Str} {mean : ExcName → Option Value} {mg mb : Str → Option Value} {dp un : Nat} {gd : Option (List Code)} {fr : Option (List Env)} {B : Heap} {L : Addr} {s : Shared} {qual : Str} {body : List Stmt} {scope : Scope} {cdv : Value} {S R G : Addr} {zs rs gs : List Value} {st : Int} {tst : Tok} {o1 o2 o3 o4 o5 o6 : Obj} {n' : Nat} {l : List (Str × Value)} {u : Str → Option Value} {V M T1 T2 : Addr} {vs ms : List Value} {nv nM : Nat} {p sl fa : Int} {tp tl tfa tsl : Tok} {lgS : Str} {Q9 : Flow → Shared → Prop} {E9 : Value → Shared → Prop}
    (LD : LawDef (hd.heap_39 w.params) qual body scope cdv) (X : (hd.heap_39 w.params).In B) (T : Top hd.view_39 loose mean mg mb B) (hdp : dp + 10 < recursionLimit) (hun : un + 100 < cLine) (F : Fr B L s.heap (fun y => (if dead.contains y = true then u y else List.lookup y ((Str.ofString "log", .str lgS tl) :: (Str.ofString "meets", .ref M) :: (Str.ofString "two", .ref T2) :: (Str.ofString "one", .ref T1) :: (Str.ofString "fast", .int fa tfa) :: (Str.ofString "slow", .int sl tsl) :: (Str.ofString "seen", .ref V) :: (Str.ofString "place", .int p tp) :: (Str.ofString "goals", .ref G) :: (Str.ofString "replies", .ref R) :: (Str.ofString "start", .int st tst) :: l)))) (N : News B L s.heap ((M, listOf ms.toArray nM) :: (V, listOf vs.toArray nv) :: (G, listOf gs.toArray n') :: [(R, LCg.lst rs), (S, LCg.lst zs), (L + 1 + 1 + 1 + 1 + 1 + 1, o1), (L + 1 + 1 + 1 + 1 + 1, o2), (L + 1 + 1 + 1 + 1, o3), (L + 1 + 1 + 1, o4), (L + 1 + 1, o5), (L + 1, o6)]))
    (k9 : ∀ (h9 : Heap) (tk9 : Nat) (u9 : Str → Option Value) t1 t2, Fr B L h9 (fun y => if dead.contains y = true then u9 y else List.lookup y ((Str.ofString "ring", .int 0 t2) :: (Str.ofString "way", .int 0 t1) :: (Str.ofString "log", .str lgS tl) :: (Str.ofString "meets", .ref M) :: (Str.ofString "two", .ref T2) :: (Str.ofString "one", .ref T1) :: (Str.ofString "fast", .int fa tfa) :: (Str.ofString "slow", .int sl tsl) :: (Str.ofString "seen", .ref V) :: (Str.ofString "place", .int p tp) :: (Str.ofString "goals", .ref G) :: (Str.ofString "replies", .ref R) :: (Str.ofString "start", .int st tst) :: l)) → News B L h9 ((M, listOf ms.toArray nM) :: (V, listOf vs.toArray nv) :: (G, listOf gs.toArray n') :: [(R, LCg.lst rs), (S, LCg.lst zs), (L + 1 + 1 + 1 + 1 + 1 + 1, o1), (L + 1 + 1 + 1 + 1 + 1, o2), (L + 1 + 1 + 1 + 1, o3), (L + 1 + 1 + 1, o4), (L + 1 + 1, o5), (L + 1, o6)]) → Q9 .next { s with heap := h9, toks := tk9 }) :
    wpAny (model PySem.Challenge.rw_tl0019_01.row.prog w) (Ar dp un gd fr) (execs ((body.drop 16).take 1) (envOfC qual scope L 164 cdv)) Q9 E9 s :=
  wpAny_mono (ch16 LD X T hdp hun F N) (NxD.cont (fun h9 tk9 u9 l'9 news9 f9 n9 => ex2k (fun t1 t2 => and2k (fun e90 e91 => by subst e90 e91; exact k9 h9 tk9 u9 t1 t2 f9 n9)))) (fun _ _ (e : False) => e.elim)
end Mine
end
theorem Mine.fresh_LA17a : True ∧ True := by
  w_on
  w_top off
  walk1
  all_goals trivial
/-! text LA17a -/
section
open PySem PySem.W PyProof.Rows PySem.Spec PySem.Calls
namespace Mine
set_option maxRecDepth 100000 in
set_option maxHeartbeats 8000000 in
theorem ch17a {w : World} {loose : List Str} {mean : ExcName → Option Value} {mg mb : Str → Option Value} {dp un : Nat} {gd : Option (List Code)} {fr : Option (List Env)} {B : Heap} {L : Addr} {s : Shared} {qual : Str} {body : List Stmt} {scope : Scope} {cdv : Value} {S R G : Addr} {zs rs gs : List Value} {st : Int} {tst : Tok} {o1 o2 o3 o4 o5 o6 : Obj} {n' : Nat} {l : List (Str × Value)} {u : Str → Option Value} {V M T1 T2 I0 I : Addr} {vs ms : List Value} {nv nM : Nat} {p sl fa : Int} {i j : Nat} {wy rg : Nat} {tp tl tfa tsl tw tr ti tj : Tok} {lgS : Str} {oI oI0 : Obj}
    (LD : LawDef (hd.heap_39 w.params) qual body scope cdv) (X : (hd.heap_39 w.params).In B) (T : Top hd.view_39 loose mean mg mb B) (hdp : dp + 10 < recursionLimit) (hun : un + 100 < cLine)
    (hij : i < j) (hj : j < 8) (hlg : 10 ≤ lgS.length) (hlg1 : lgS.length ≤ 100) (hnd : NoDot lgS)
    (F : Fr B L s.heap (fun y => (if y = Str.ofString "i" then some (.int ((i : Nat) : Int) ti) else if y = Str.ofString "j" then some (.int ((j : Nat) : Int) tj) else if dead.contains y = true then u y else List.lookup y ((Str.ofString "ring", .int ((rg : Nat) : Int) tr) :: (Str.ofString "way", .int ((wy : Nat) : Int) tw) :: (Str.ofString "log", .str lgS tl) :: (Str.ofString "meets", .ref M) :: (Str.ofString "two", .ref T2) :: (Str.ofString "one", .ref T1) :: (Str.ofString "fast", .int fa tfa) :: (Str.ofString "slow", .int sl tsl) :: (Str.ofString "seen", .ref V) :: (Str.ofString "place", .int p tp) :: (Str.ofString "goals", .ref G) :: (Str.ofString "replies", .ref R) :: (Str.ofString "start", .int st tst) :: l)))) (N : News B L s.heap ((I, oI) :: (I0, oI0) :: (M, listOf ms.toArray nM) :: (V, listOf vs.toArray nv) :: (G, listOf gs.toArray n') :: [(R, LCg.lst rs), (S, LCg.lst zs), (L + 1 + 1 + 1 + 1 + 1 + 1, o1), (L + 1 + 1 + 1 + 1 + 1, o2), (L + 1 + 1 + 1 + 1, o3), (L + 1 + 1 + 1, o4), (L + 1 + 1, o5), (L + 1, o6)])) :
    wpAny (model PySem.Challenge.rw_tl0019_01.row.prog w) (Ar dp un gd fr) (execs (forBody (forBody (body.drop 17))) (envOfC qual scope L 164 cdv)) (NxF B L s (fun m news => ∃ u : Str → Option Value, ∃ tw tr, m = (fun y => if y = Str.ofString "j" then some (.int ((j : Nat) : Int) tj) else if dead.contains y = true then u y else List.lookup y ((Str.ofString "ring", .int (((upd (hitP lgS) (wy, rg) i j).2 : Nat) : Int) tr) :: (Str.ofString "way", .int (((upd (hitP lgS) (wy, rg) i j).1 : Nat) : Int) tw) :: (Str.ofString "log", .str lgS tl) :: (Str.ofString "meets", .ref M) :: (Str.ofString "two", .ref T2) :: (Str.ofString "one", .ref T1) :: (Str.ofString "fast", .int fa tfa) :: (Str.ofString "slow", .int sl tsl) :: (Str.ofString "seen", .ref V) :: (Str.ofString "place", .int p tp) :: (Str.ofString "goals", .ref G) :: (Str.ofString "replies", .ref R) :: (Str.ofString "start", .int st tst) :: l)) ∧ news = (I, oI) :: (I0, oI0) :: (M, listOf ms.toArray nM) :: (V, listOf vs.toArray nv) :: (G, listOf gs.toArray n') :: [(R, LCg.lst rs), (S, LCg.lst zs), (L + 1 + 1 + 1 + 1 + 1 + 1, o1), (L + 1 + 1 + 1 + 1 + 1, o2), (L + 1 + 1 + 1 + 1, o3), (L + 1 + 1 + 1, o4), (L + 1 + 1, o5), (L + 1, o6)])) (fun _ _ => False) s := by
  revert X
  k_fill
  intro X
  refine hideA ?_
  intro Q9 hQ9
  have hE := LawDef.eq LD (by k_dflt k_is)
  obtain ⟨rfl, rfl, rfl, rfl⟩ := hE
  clear LD
  dsimp only [List.drop, List.take]
  dsimp only [forBody, List.drop, List.take]
  have e1 := slice_to (x := lgS) (j := (i : Int)) (by omega) (by omega)
  have e2 := slice_from (x := lgS) (i := (j : Int)) (by omega) (by omega)
  have e3 := slice_to (x := lgS) (j := (lgS.length : Int) - ((j : Int) - (i : Int))) (by omega) (by omega)
  rw [Int.toNat_natCast] at e1 e2
  rw [show ((lgS.length : Int) - ((j : Int) - (i : Int))).toNat = lgS.length - (j - i) from sub3 (by omega)] at e3
  repeat' (first | (k_unfold; (try dsimp only)) | (k_here; (with_reducible show wpAny _ _ (call (Value.ref 72) [Value.str (_ ++ _ ++ _) _, Value.str _ _]) _ _ _); refine' em_w2 ?z9F ?z9N ?z9X ?z9T ?z9d ?z9u ?z9a ?z9b ?z9c ?z9e ?z9f ?_; (case z9F => k_asm); (case z9N => k_asm); (case z9X => assumption); (case z9T => assumption); (case z9d => omega); (case z9u => omega); (case z9a => exact noDot_slice (by assumption) _ _); (case z9b => exact noDot_slice (by assumption) _ _); (case z9c => exact Nat.le_trans (Txt.slice_le _ _ _) (by omega)); (case z9e => exact Nat.le_trans (Txt.slice_le _ _ _) (by omega)); (case z9f => exact Nat.le_trans (Txt.slice_le _ _ _) (by omega)); intro h8 tk8 F8 N8) | walk1 | (dsimp only; walk1) | fail "no step")
  · have hh : hitP lgS i j = true := by unfold hitP; rw [← e1, ← e2, ← e3]; assumption
    have h2 := upd_yes (a := wy) (b := rg) (by omega) hh
    rename Fr _ _ _ _ => F9
    rw [ring_norm, show ((j : Int) - (i : Int)) = ((j - i : Nat) : Int) from by omega] at F9
    refine hQ9 _ _ ?_
    rw [h2]
    exact NxF.of F9 (by assumption) ⟨_, _, _, rfl, rfl⟩ (fun _ hp => by first | exact hp | exact .tail _ hp)
  · have hh : hitP lgS i j = false := by unfold hitP; rw [← e1, ← e2, ← e3]; assumption
    have h2 := upd_no (a := wy) (b := rg) hh
    rename Fr _ _ _ _ => F9
    rw [ring_norm0] at F9
    refine hQ9 _ _ ?_
    rw [h2]
    exact NxF.of F9 (by assumption) ⟨_, _, _, rfl, rfl⟩ (fun _ hp => hp)
  · have h2 := upd_done (hit := hitP lgS) (a := wy) (b := rg) (i := i) (j := j) (by omega)
    rename Fr _ _ _ _ => F9
    rw [ring_norm0] at F9
    refine hQ9 _ _ ?_
    rw [h2]
    exact NxF.of F9 (by assumption) ⟨_, _, _, rfl, rfl⟩ (fun _ hp => hp)
end Mine
end
theorem Mine.fresh_LA17 : True ∧ True := by
  w_on
  w_top off
  walk1
  all_goals trivial
/-! text LA17 -/
section
open PySem PySem.W PyProof.Rows PySem.Spec PySem.Calls
namespace Mine
set_option maxRecDepth 100000 in
set_option maxHeartbeats 8000000 in
theorem ch17 {w : World} {loose : List Str} {mean : ExcName → Option Value} {mg mb : Str → Option Value} {dp un : Nat} {gd : Option (List Code)} {B : Heap} {L : Addr} {s : Shared} {qual : Str} {body : List Stmt} {scope : Scope} {cdv : Value} {S R G : Addr} {zs rs gs : List Value} {st : Int} {tst : Tok} {o1 o2 o3 o4 o5 o6 : Obj} {n' : Nat} {l : List (Str × Value)} {u : Str → Option Value} {V M T1 T2 : Addr} {vs ms : List Value} {nv nM : Nat} {p sl fa : Int} {tp tl tfa tsl tw tr : Tok} {lgS : Str}
    (LD : LawDef (hd.heap_39 w.params) qual body scope cdv) (X : (hd.heap_39 w.params).In B) (T : Top hd.view_39 loose mean mg mb B) (hdp : dp + 10 < recursionLimit) (hun : un + 100 < cLine)
    (hlg : 10 ≤ lgS.length) (hlg1 : lgS.length ≤ 100) (hnd : NoDot lgS) (hcl : ∀ p ∈ (V, listOf vs.toArray nv) :: (G, listOf gs.toArray n') :: [(R, LCg.lst rs), (S, LCg.lst zs), (L + 1 + 1 + 1 + 1 + 1 + 1, o1), (L + 1 + 1 + 1 + 1 + 1, o2), (L + 1 + 1 + 1 + 1, o3), (L + 1 + 1 + 1, o4), (L + 1 + 1, o5), (L + 1, o6)], NoIt [] p)
    (F : Fr B L s.heap (fun y => (if dead.contains y = true then u y else List.lookup y ((Str.ofString "ring", .int 0 tr) :: (Str.ofString "way", .int 0 tw) :: (Str.ofString "log", .str lgS tl) :: (Str.ofString "meets", .ref M) :: (Str.ofString "two", .ref T2) :: (Str.ofString "one", .ref T1) :: (Str.ofString "fast", .int fa tfa) :: (Str.ofString "slow", .int sl tsl) :: (Str.ofString "seen", .ref V) :: (Str.ofString "place", .int p tp) :: (Str.ofString "goals", .ref G) :: (Str.ofString "replies", .ref R) :: (Str.ofString "start", .int st tst) :: l)))) (N : News B L s.heap ((M, listOf ms.toArray nM) :: (V, listOf vs.toArray nv) :: (G, listOf gs.toArray n') :: [(R, LCg.lst rs), (S, LCg.lst zs), (L + 1 + 1 + 1 + 1 + 1 + 1, o1), (L + 1 + 1 + 1 + 1 + 1, o2), (L + 1 + 1 + 1 + 1, o3), (L + 1 + 1 + 1, o4), (L + 1 + 1, o5), (L + 1, o6)])) :
    wpC (model PySem.Challenge.rw_tl0019_01.row.prog w) (Ar dp un gd (some [envOfC qual scope L 164 cdv])) (execs ((body.drop 17).take 1) (envOfC qual scope L 164 cdv)) (NxD B L s (fun l' news => ∃ tw tr, l' = (Str.ofString "ring", .int (((rout (hitP lgS) 7).2 : Nat) : Int) tr) :: (Str.ofString "way", .int (((rout (hitP lgS) 7).1 : Nat) : Int) tw) :: (Str.ofString "log", .str lgS tl) :: (Str.ofString "meets", .ref M) :: (Str.ofString "two", .ref T2) :: (Str.ofString "one", .ref T1) :: (Str.ofString "fast", .int fa tfa) :: (Str.ofString "slow", .int sl tsl) :: (Str.ofString "seen", .ref V) :: (Str.ofString "place", .int p tp) :: (Str.ofString "goals", .ref G) :: (Str.ofString "replies", .ref R) :: (Str.ofString "start", .int st tst) :: l ∧ news = (M, listOf ms.toArray nM) :: (V, listOf vs.toArray nv) :: (G, listOf gs.toArray n') :: [(R, LCg.lst rs), (S, LCg.lst zs), (L + 1 + 1 + 1 + 1 + 1 + 1, o1), (L + 1 + 1 + 1 + 1 + 1, o2), (L + 1 + 1 + 1 + 1, o3), (L + 1 + 1 + 1, o4), (L + 1 + 1, o5), (L + 1, o6)])) (fun _ _ => False) s := by
  revert X
  k_fill
  intro X
  refine hideC ?_
  intro Q9 hQ9
  have hE := LawDef.eq LD (by k_dflt k_is)
  obtain ⟨rfl, rfl, rfl, rfl⟩ := hE
  dsimp only [List.drop, List.take]
  have hcl0 : ∀ p ∈ (M, listOf ms.toArray nM) :: (V, listOf vs.toArray nv) :: (G, listOf gs.toArray n') :: [(R, LCg.lst rs), (S, LCg.lst zs), (L + 1 + 1 + 1 + 1 + 1 + 1, o1), (L + 1 + 1 + 1 + 1 + 1, o2), (L + 1 + 1 + 1 + 1, o3), (L + 1 + 1 + 1, o4), (L + 1 + 1, o5), (L + 1, o6)], NoIt [] p := noIt_cons (.inl rfl) hcl
  refine C.execs_cons (C.forRangeFL [] (B := B) (L := L) (a := 1) (b := 8) 7 (fun i m news => ∃ (u : Str → Option Value) (tw tr : Tok), m = (fun y => if dead.contains y = true then u y else List.lookup y ((Str.ofString "ring", .int (((rout (hitP lgS) i).2 : Nat) : Int) tr) :: (Str.ofString "way", .int (((rout (hitP lgS) i).1 : Nat) : Int) tw) :: (Str.ofString "log", .str lgS tl) :: (Str.ofString "meets", .ref M) :: (Str.ofString "two", .ref T2) :: (Str.ofString "one", .ref T1) :: (Str.ofString "fast", .int fa tfa) :: (Str.ofString "slow", .int sl tsl) :: (Str.ofString "seen", .ref V) :: (Str.ofString "place", .int p tp) :: (Str.ofString "goals", .ref G) :: (Str.ofString "replies", .ref R) :: (Str.ofString "start", .int st tst) :: l)) ∧ news = (M, listOf ms.toArray nM) :: (V, listOf vs.toArray nv) :: (G, listOf gs.toArray n') :: [(R, LCg.lst rs), (S, LCg.lst zs), (L + 1 + 1 + 1 + 1 + 1 + 1, o1), (L + 1 + 1 + 1 + 1 + 1, o2), (L + 1 + 1 + 1 + 1, o3), (L + 1 + 1 + 1, o4), (L + 1 + 1, o5), (L + 1, o6)]) rfl rfl (by rfl) (by rfl) (by decide) (by rfl) ?_ ?_ ?_)
  · k_steps
    exact ReadyF.intro (by assumption) (by assumption) (by assumption) hcl0 (fun p hp => by cases hp) ⟨_, _, _, rfl, rfl⟩
  · intro i t m news h tk I oI hi hJ hIt F1 N1
    refine hideC ?_
    intro Q8 hQ8
    revert hJ
    refine ex3k (fun u tw tr => and2k (fun e90 e91 => ?_))
    subst e90 e91
    clear F N
    rw [show (1 : Int) + (i : Int) = ((i + 1 : Nat) : Int) from by omega] at F1
    have hcl1 : ∀ p ∈ (I, oI) :: (M, listOf ms.toArray nM) :: (V, listOf vs.toArray nv) :: (G, listOf gs.toArray n') :: [(R, LCg.lst rs), (S, LCg.lst zs), (L + 1 + 1 + 1 + 1 + 1 + 1, o1), (L + 1 + 1 + 1 + 1 + 1, o2), (L + 1 + 1 + 1 + 1, o3), (L + 1 + 1 + 1, o4), (L + 1 + 1, o5), (L + 1, o6)], NoIt [(I, oI)] p := noIt_fix (.head _) (noIt_more (fun _ h => by cases h) hcl0)
    have hj0 : (0 : Int) ≤ ((i + 1 : Nat) : Int) := by omega
    have hj1 : ((i + 1 : Nat) : Int) < 8 := by omega
    refine C.execs_cons (C.forRangeFL [(I, oI)] (B := B) (L := L) (a := 0) (b := ((i + 1 : Nat) : Int)) (i + 1) (fun k m news => ∃ (u : Str → Option Value) (tw tr : Tok), m = (fun y => if y = Str.ofString "j" then some (.int ((i + 1 : Nat) : Int) t) else if dead.contains y = true then u y else List.lookup y ((Str.ofString "ring", .int (((rin (hitP lgS) (i + 1) (rout (hitP lgS) i) k).2 : Nat) : Int) tr) :: (Str.ofString "way", .int (((rin (hitP lgS) (i + 1) (rout (hitP lgS) i) k).1 : Nat) : Int) tw) :: (Str.ofString "log", .str lgS tl) :: (Str.ofString "meets", .ref M) :: (Str.ofString "two", .ref T2) :: (Str.ofString "one", .ref T1) :: (Str.ofString "fast", .int fa tfa) :: (Str.ofString "slow", .int sl tsl) :: (Str.ofString "seen", .ref V) :: (Str.ofString "place", .int p tp) :: (Str.ofString "goals", .ref G) :: (Str.ofString "replies", .ref R) :: (Str.ofString "start", .int st tst) :: l)) ∧ news = (I, oI) :: (M, listOf ms.toArray nM) :: (V, listOf vs.toArray nv) :: (G, listOf gs.toArray n') :: [(R, LCg.lst rs), (S, LCg.lst zs), (L + 1 + 1 + 1 + 1 + 1 + 1, o1), (L + 1 + 1 + 1 + 1 + 1, o2), (L + 1 + 1 + 1 + 1, o3), (L + 1 + 1 + 1, o4), (L + 1 + 1, o5), (L + 1, o6)]) rfl rfl (by rfl) (by rfl) (small_one (by omega) (by omega) (by omega) (by omega)) (by rw [rangeSize_nat]; omega) ?_ ?_ ?_)
    · k_steps
      exact ReadyF.intro (by assumption) (by assumption) (by assumption) hcl1 (fun p hp => by cases List.mem_singleton.mp hp; exact .head _) ⟨_, _, _, rfl, rfl⟩
    · intro k t2 m news h tk I2 oI2 hk hJ hIt2 F2 N2
      refine hideC ?_
      intro Q7 hQ7
      revert hJ
      refine ex3k (fun u tw tr => and2k (fun e90 e91 => ?_))
      subst e90 e91
      rw [show (0 : Int) + (k : Int) = ((k : Nat) : Int) from by omega] at F2
      refine C.of (wpAny_mono (ch17a (i := k) (j := i + 1) LD X T hdp hun hk (by omega) hlg hlg1 hnd F2 N2) ?_ (fun _ _ (e : False) => e.elim))
      refine NxF.cont (fun h' tk' m news F3 N3 => ex3k (fun u tw tr => and2k (fun e90 e91 => ?_)))
      subst e90 e91
      refine hQ7 _ _ ?_
      exact TurnedF.next F3 N3 (fun _ hp => hp) hcl1 ⟨_, _, _, rfl, rfl⟩
    · intro m news h tk hJ F2 N2
      revert hJ
      refine ex3k (fun u tw tr => and2k (fun e90 e91 => ?_))
      subst e90 e91
      rw [dead_in (by decide +kernel)] at F2
      exact C.of (wpAny_execs_nil (hQ8 _ _ (TurnedF.next F2 N2 (fun _ hp => hp) hcl0 ⟨_, _, _, rfl, rfl⟩)))
  · intro m news h tk hJ F1 N1
    revert hJ
    refine ex3k (fun u tw tr => and2k (fun e90 e91 => ?_))
    subst e90 e91
    exact C.of (wpAny_execs_nil (hQ9 _ _ (NxD.of F1 N1 ⟨_, _, rfl, rfl⟩ fun _ hp => hp)))

theorem ch17k {w : World} {loose : List Str} {mean : ExcName → Option Value} {mg mb : Str → Option Value} {dp un : Nat} {gd : Option (List Code)} {B : Heap} {L : Addr} {s : Shared} {qual : Str} {body : List Stmt} {scope : Scope} {cdv : Value} {S R G : Addr} {zs rs gs : List Value} {st : Int} {tst : Tok} {o1 o2 o3 o4 o5 o6 : Obj} {n' : Nat} {l : List (Str × Value)} {u : Str → Option Value} {V M T1 T2 : Addr} {vs ms : List Value} {nv nM : Nat} {p sl fa : Int} {tp tl tfa tsl tw tr : Tok} {lgS : Str} {Q9 : Flow → Shared → Prop} {E9 : Value → Shared → Prop}
    (LD : LawDef (hd.heap_39 w.params) qual body scope cdv) (X : (hd.heap_39 w.params).In B) (T : Top hd.view_39 loose mean mg mb B) (hdp : dp + 10 < recursionLimit) (hun : un + 100 < cLine) (hlg : 10 ≤ lgS.length) (hlg1 : lgS.length ≤ 100) (hnd : NoDot lgS) (hcl : ∀ p ∈ (V, listOf vs.toArray nv) :: (G, listOf gs.toArray n') :: [(R, LCg.lst rs), (S, LCg.lst zs), (L + 1 + 1 + 1 + 1 + 1 + 1, o1), (L + 1 + 1 + 1 + 1 + 1, o2), (L + 1 + 1 + 1 + 1, o3), (L + 1 + 1 + 1, o4), (L + 1 + 1, o5), (L + 1, o6)], NoIt [] p) (F : Fr B L s.heap (fun y => (if dead.contains y = true then u y else List.lookup y ((Str.ofString "ring", .int 0 tr) :: (Str.ofString "way", .int 0 tw) :: (Str.ofString "log", .str lgS tl) :: (Str.ofString "meets", .ref M) :: (Str.ofString "two", .ref T2) :: (Str.ofString "one", .ref T1) :: (Str.ofString "fast", .int fa tfa) :: (Str.ofString "slow", .int sl tsl) :: (Str.ofString "seen", .ref V) :: (Str.ofString "place", .int p tp) :: (Str.ofString "goals", .ref G) :: (Str.ofString "replies", .ref R) :: (Str.ofString "start", .int st tst) :: l)))) (N : News B L s.heap ((M, listOf ms.toArray nM) :: (V, listOf vs.toArray nv) :: (G, listOf gs.toArray n') :: [(R, LCg.lst rs), (S, LCg.lst zs), (L + 1 + 1 + 1 + 1 + 1 + 1, o1), (L + 1 + 1 + 1 + 1 + 1, o2), (L + 1 + 1 + 1 + 1, o3), (L + 1 + 1 + 1, o4), (L + 1 + 1, o5), (L + 1, o6)]))
    (k9 : ∀ (h9 : Heap) (tk9 : Nat) (u9 : Str → Option Value) tw tr, Fr B L h9 (fun y => if dead.contains y = true then u9 y else List.lookup y ((Str.ofString "ring", .int (((rout (hitP lgS) 7).2 : Nat) : Int) tr) :: (Str.ofString "way", .int (((rout (hitP lgS) 7).1 : Nat) : Int) tw) :: (Str.ofString "log", .str lgS tl) :: (Str.ofString "meets", .ref M) :: (Str.ofString "two", .ref T2) :: (Str.ofString "one", .ref T1) :: (Str.ofString "fast", .int fa tfa) :: (Str.ofString "slow", .int sl tsl) :: (Str.ofString "seen", .ref V) :: (Str.ofString "place", .int p tp) :: (Str.ofString "goals", .ref G) :: (Str.ofString "replies", .ref R) :: (Str.ofString "start", .int st tst) :: l)) → News B L h9 ((M, listOf ms.toArray nM) :: (V, listOf vs.toArray nv) :: (G, listOf gs.toArray n') :: [(R, LCg.lst rs), (S, LCg.lst zs), (L + 1 + 1 + 1 + 1 + 1 + 1, o1), (L + 1 + 1 + 1 + 1 + 1, o2), (L + 1 + 1 + 1 + 1, o3), (L + 1 + 1 + 1, o4), (L + 1 + 1, o5), (L + 1, o6)]) → Q9 .next { s with heap := h9, toks := tk9 }) :
    wpC (model PySem.Challenge.rw_tl0019_01.row.prog w) (Ar dp un gd (some [envOfC qual scope L 164 cdv])) (execs ((body.drop 17).take 1) (envOfC qual scope L 164 cdv)) Q9 E9 s :=
  C.mono (ch17 LD X T hdp hun hlg hlg1 hnd hcl F N) (NxD.cont (fun h9 tk9 u9 l'9 news9 f9 n9 => ex2k (fun tw tr => and2k (fun e90 e91 => by subst e90 e91; exact k9 h9 tk9 u9 tw tr f9 n9)))) (fun _ _ (e : False) => e.elim)
end Mine
end
theorem Mine.fresh_LA18 : True ∧ True := by
  w_on
  w_top off
  walk1
  all_goals trivial
/-! text LA18 -/
section
open PySem PySem.W PyProof.Rows PySem.Spec PySem.Calls
namespace Mine
set_option maxRecDepth 100000 in
set_option maxHeartbeats 8000000 in
theorem ch18 {w : World} {loose : List Str} {mean : ExcName → Option Value} {mg mb : Str → Option Value} {dp un : Nat} {gd : Option (List Code)} {fr : Option (List Env)} {B : Heap} {L : Addr} {s : Shared} {qual : Str} {body : List Stmt} {scope : Scope} {cdv : Value} {S R G : Addr} {zs rs gs : List Value} {st : Int} {tst : Tok} {o1 o2 o3 o4 o5 o6 : Obj} {n' : Nat} {l : List (Str × Value)} {u : Str → Option Value} {V M T1 T2 : Addr} {vs ms : List Value} {nv nM : Nat} {p sl fa : Int} {wy rg : Nat} {vis : List Int} {tp tl tfa tsl tw tr : Tok} {lgS : Str}
    (LD : LawDef (hd.heap_39 w.params) qual body scope cdv) (X : (hd.heap_39 w.params).In B) (T : Top hd.view_39 loose mean mg mb B) (hdp : dp + 10 < recursionLimit) (hun : un + 100 < cLine)
    (hI : IntsAre vs vis) (hp : p ∈ vis) (hlay : PyData.layable0 (.list (vis.map .int)) = true) (hlen : vis.length ≤ 7) (hw : vis.idxOf p = wy) (hr : wy + rg = vis.length)
    (F : Fr B L s.heap (fun y => (if dead.contains y = true then u y else List.lookup y ((Str.ofString "ring", .int ((rg : Nat) : Int) tr) :: (Str.ofString "way", .int ((wy : Nat) : Int) tw) :: (Str.ofString "log", .str lgS tl) :: (Str.ofString "meets", .ref M) :: (Str.ofString "two", .ref T2) :: (Str.ofString "one", .ref T1) :: (Str.ofString "fast", .int fa tfa) :: (Str.ofString "slow", .int sl tsl) :: (Str.ofString "seen", .ref V) :: (Str.ofString "place", .int p tp) :: (Str.ofString "goals", .ref G) :: (Str.ofString "replies", .ref R) :: (Str.ofString "start", .int st tst) :: l)))) (N : News B L s.heap ((M, listOf ms.toArray nM) :: (V, listOf vs.toArray nv) :: (G, listOf gs.toArray n') :: [(R, LCg.lst rs), (S, LCg.lst zs), (L + 1 + 1 + 1 + 1 + 1 + 1, o1), (L + 1 + 1 + 1 + 1 + 1, o2), (L + 1 + 1 + 1 + 1, o3), (L + 1 + 1 + 1, o4), (L + 1 + 1, o5), (L + 1, o6)])) :
    wpAny (model PySem.Challenge.rw_tl0019_01.row.prog w) (Ar dp un gd fr) (execs ((body.drop 18).take 1) (envOfC qual scope L 164 cdv)) (NxD B L s (fun l' news => l' = (Str.ofString "ring", .int ((rg : Nat) : Int) tr) :: (Str.ofString "way", .int ((wy : Nat) : Int) tw) :: (Str.ofString "log", .str lgS tl) :: (Str.ofString "meets", .ref M) :: (Str.ofString "two", .ref T2) :: (Str.ofString "one", .ref T1) :: (Str.ofString "fast", .int fa tfa) :: (Str.ofString "slow", .int sl tsl) :: (Str.ofString "seen", .ref V) :: (Str.ofString "place", .int p tp) :: (Str.ofString "goals", .ref G) :: (Str.ofString "replies", .ref R) :: (Str.ofString "start", .int st tst) :: l ∧ news = (M, listOf ms.toArray nM) :: (V, listOf vs.toArray nv) :: (G, listOf gs.toArray n') :: [(R, LCg.lst rs), (S, LCg.lst zs), (L + 1 + 1 + 1 + 1 + 1 + 1, o1), (L + 1 + 1 + 1 + 1 + 1, o2), (L + 1 + 1 + 1 + 1, o3), (L + 1 + 1 + 1, o4), (L + 1 + 1, o5), (L + 1, o6)])) (fun _ _ => False) s := by
  revert X
  k_fill
  intro X
  refine hideA ?_
  intro Q9 hQ9
  have hE := LawDef.eq LD (by k_dflt k_is)
  obtain ⟨rfl, rfl, rfl, rfl⟩ := hE
  clear LD
  dsimp only [List.drop, List.take]
  repeat' (first | (k_unfold; (try dsimp only)) | (k_here; (with_reducible show wpAny _ _ (call (Value.builtin _) [Value.ref _, Value.int _ _]) _ _ _); refine index_list_ints (News.isList (by k_asm) (by k_mem)) (by assumption) (by assumption) (by assumption) ?_) | walk1 | (dsimp only; walk1) | fail "no step")
  · refine hQ9 _ _ ?_
    exact NxD.of (by assumption) (by assumption) ⟨rfl, rfl⟩ (fun _ hp => .tail _ (.tail _ hp))
  · exfalso
    rename (_ && _) = false => hc
    rw [hw, show ((wy : Int) + (rg : Int)) = ((vis.length : Nat) : Int) from by omega] at hc
    simp at hc
theorem ch18k {w : World} {loose : List Str} {mean : ExcName → Option Value} {mg mb : Str → Option Value} {dp un : Nat} {gd : Option (List Code)} {fr : Option (List Env)} {B : Heap} {L : Addr} {s : Shared} {qual : Str} {body : List Stmt} {scope : Scope} {cdv : Value} {S R G : Addr} {zs rs gs : List Value} {st : Int} {tst : Tok} {o1 o2 o3 o4 o5 o6 : Obj} {n' : Nat} {l : List (Str × Value)} {u : Str → Option Value} {V M T1 T2 : Addr} {vs ms : List Value} {nv nM : Nat} {p sl fa : Int} {wy rg : Nat} {vis : List Int} {tp tl tfa tsl tw tr : Tok} {lgS : Str} {Q9 : Flow → Shared → Prop} {E9 : Value → Shared → Prop}
    (LD : LawDef (hd.heap_39 w.params) qual body scope cdv) (X : (hd.heap_39 w.params).In B) (T : Top hd.view_39 loose mean mg mb B) (hdp : dp + 10 < recursionLimit) (hun : un + 100 < cLine) (hI : IntsAre vs vis) (hp : p ∈ vis) (hlay : PyData.layable0 (.list (vis.map .int)) = true) (hlen : vis.length ≤ 7) (hw : vis.idxOf p = wy) (hr : wy + rg = vis.length) (F : Fr B L s.heap (fun y => (if dead.contains y = true then u y else List.lookup y ((Str.ofString "ring", .int ((rg : Nat) : Int) tr) :: (Str.ofString "way", .int ((wy : Nat) : Int) tw) :: (Str.ofString "log", .str lgS tl) :: (Str.ofString "meets", .ref M) :: (Str.ofString "two", .ref T2) :: (Str.ofString "one", .ref T1) :: (Str.ofString "fast", .int fa tfa) :: (Str.ofString "slow", .int sl tsl) :: (Str.ofString "seen", .ref V) :: (Str.ofString "place", .int p tp) :: (Str.ofString "goals", .ref G) :: (Str.ofString "replies", .ref R) :: (Str.ofString "start", .int st tst) :: l)))) (N : News B L s.heap ((M, listOf ms.toArray nM) :: (V, listOf vs.toArray nv) :: (G, listOf gs.toArray n') :: [(R, LCg.lst rs), (S, LCg.lst zs), (L + 1 + 1 + 1 + 1 + 1 + 1, o1), (L + 1 + 1 + 1 + 1 + 1, o2), (L + 1 + 1 + 1 + 1, o3), (L + 1 + 1 + 1, o4), (L + 1 + 1, o5), (L + 1, o6)]))
    (k9 : ∀ (h9 : Heap) (tk9 : Nat) (u9 : Str → Option Value), Fr B L h9 (fun y => if dead.contains y = true then u9 y else List.lookup y ((Str.ofString "ring", .int ((rg : Nat) : Int) tr) :: (Str.ofString "way", .int ((wy : Nat) : Int) tw) :: (Str.ofString "log", .str lgS tl) :: (Str.ofString "meets", .ref M) :: (Str.ofString "two", .ref T2) :: (Str.ofString "one", .ref T1) :: (Str.ofString "fast", .int fa tfa) :: (Str.ofString "slow", .int sl tsl) :: (Str.ofString "seen", .ref V) :: (Str.ofString "place", .int p tp) :: (Str.ofString "goals", .ref G) :: (Str.ofString "replies", .ref R) :: (Str.ofString "start", .int st tst) :: l)) → News B L h9 ((M, listOf ms.toArray nM) :: (V, listOf vs.toArray nv) :: (G, listOf gs.toArray n') :: [(R, LCg.lst rs), (S, LCg.lst zs), (L + 1 + 1 + 1 + 1 + 1 + 1, o1), (L + 1 + 1 + 1 + 1 + 1, o2), (L + 1 + 1 + 1 + 1, o3), (L + 1 + 1 + 1, o4), (L + 1 + 1, o5), (L + 1, o6)]) → Q9 .next { s with heap := h9, toks := tk9 }) :
    wpAny (model PySem.Challenge.rw_tl0019_01.row.prog w) (Ar dp un gd fr) (execs ((body.drop 18).take 1) (envOfC qual scope L 164 cdv)) Q9 E9 s :=
  wpAny_mono (ch18 LD X T hdp hun hI hp hlay hlen hw hr F N) (NxD.cont (fun h9 tk9 u9 l'9 news9 f9 n9 => and2k (fun e90 e91 => by subst e90 e91; exact k9 h9 tk9 u9 f9 n9))) (fun _ _ (e : False) => e.elim)
end Mine
end
theorem Mine.fresh_LA19a : True ∧ True := by
  w_on
  w_top off
  walk1
  all_goals trivial
/-! text LA19a -/
section
open PySem PySem.W PyProof.Rows PySem.Spec PySem.Calls
namespace Mine
theorem em_w4 {w : World} {loose : List Str} {mean : ExcName → Option Value} {mg mb : Str → Option Value} {dp un : Nat} {gd : Option (List Code)} {fr : Option (List Env)} {B : Heap} {L : Addr} {m : Str → Option Value} {news : List (Addr × Obj)} {s : Shared} {Q E : Value → Shared → Prop} {c got : Str} {t1 t2 : Tok}
   (F : Fr B L s.heap m) (N : News B L s.heap news) (X : (hd.heap_39 w.params).In B) (T : Top hd.view_39 loose mean mg mb B) (hdp : dp < recursionLimit) (hun : un + 50 < cLine)
   (hc : c.length = 1) (hnd : NoDot c) (hg : got.length ≤ 1000)
   (h : ∀ h' tk', Fr B L h' m → News B L h' news → Q (.bool (em4 c got)) { s with heap := h', toks := tk' }) :
   wpAny (model PySem.Challenge.rw_tl0019_01.row.prog w) (Ar dp un gd fr) (call (.ref 72) [.str (Str.ofString "..." ++ c ++ Str.ofString "..." ++ c ++ Str.ofString "...") t1, .str got t2]) Q E s := by
  have hd : (Str.ofString "...").length = 3 := by decide +kernel
  obtain ⟨q, rfl⟩ : ∃ q, c = ⟨#[q]⟩ := by
    obtain ⟨cps⟩ := c
    have hs : cps.size = 1 := hc
    obtain ⟨q, hq⟩ := Array.size_eq_one_iff.mp hs
    exact ⟨q, by rw [hq]⟩
  have hs := four_split (c := q) (hnd q (by simp)) rfl
  refine em_four _ got _ _ t1 t2 X T F.keep hdp hun hs.1 rfl rfl hs.2 (by simp only [PySem.Str.length_append, hd]; show 3 + 1 + 3 + 1 + 3 ≤ _; omega) (by omega) ?_
  rintro _ h' tk' st rfl
  exact h h' tk' (fr_stays F N st).1 (fr_stays F N st).2
set_option maxRecDepth 100000 in
set_option maxHeartbeats 8000000 in
theorem ch19a {w : World} {loose : List Str} {mean : ExcName → Option Value} {mg mb : Str → Option Value} {dp un : Nat} {gd : Option (List Code)} {fr : Option (List Env)} {B : Heap} {L : Addr} {s : Shared} {qual : Str} {body : List Stmt} {scope : Scope} {cdv : Value} {S R G : Addr} {zs rs gs : List Value} {st : Int} {tst : Tok} {o1 o2 o3 o4 o5 o6 : Obj} {n' : Nat} {l : List (Str × Value)} {u : Str → Option Value} {V M T1 T2 I : Addr} {vs ms : List Value} {nv nM : Nat} {p sl fa : Int} {wy rg : Nat} {vis : List Int} {tp tl tfa tsl tw tr : Tok} {sg : List Str} {lgS : Str} {oI : Obj} {k : Int} {tk : Tok}
    (LD : LawDef (hd.heap_39 w.params) qual body scope cdv) (X : (hd.heap_39 w.params).In B) (T : Top hd.view_39 loose mean mg mb B) (hdp : dp + 10 < recursionLimit) (hun : un + 100 < cLine)
    (hI : IntsAre vs vis) (hlen : vis.length ≤ 7) (hw : wy ≤ vis.length) (hZ : StrsAre zs sg) (hsg : sg.length = 7) (hk0 : 0 ≤ k) (hk1 : k < 7) (hs1 : (sg.getD k.toNat Str.empty).length = 1) (hs2 : NoDot (sg.getD k.toNat Str.empty)) (hlg : lgS.length ≤ 100) (d3 : o3.data = .cell (some (.ref S))) (hsame : em4 (sg.getD k.toNat Str.empty) lgS = (vis.drop wy).any fun x => x == k)
    (F : Fr B L s.heap (fun y => (if y = Str.ofString "k" then some (.int k tk) else if dead.contains y = true then u y else List.lookup y ((Str.ofString "ring", .int ((rg : Nat) : Int) tr) :: (Str.ofString "way", .int ((wy : Nat) : Int) tw) :: (Str.ofString "log", .str lgS tl) :: (Str.ofString "meets", .ref M) :: (Str.ofString "two", .ref T2) :: (Str.ofString "one", .ref T1) :: (Str.ofString "fast", .int fa tfa) :: (Str.ofString "slow", .int sl tsl) :: (Str.ofString "seen", .ref V) :: (Str.ofString "place", .int p tp) :: (Str.ofString "goals", .ref G) :: (Str.ofString "replies", .ref R) :: (Str.ofString "start", .int st tst) :: l)))) (N : News B L s.heap ((I, oI) :: (M, listOf ms.toArray nM) :: (V, listOf vs.toArray nv) :: (G, listOf gs.toArray n') :: [(R, LCg.lst rs), (S, LCg.lst zs), (L + 1 + 1 + 1 + 1 + 1 + 1, o1), (L + 1 + 1 + 1 + 1 + 1, o2), (L + 1 + 1 + 1 + 1, o3), (L + 1 + 1 + 1, o4), (L + 1 + 1, o5), (L + 1, o6)])) :
    wpAny (model PySem.Challenge.rw_tl0019_01.row.prog w) (Ar dp un gd fr) (execs (forBody (body.drop 19)) (envOfC qual scope L 164 cdv)) (NxF B L s (fun m news => m = (fun y => if y = Str.ofString "k" then some (.int k tk) else if dead.contains y = true then u y else List.lookup y ((Str.ofString "ring", .int ((rg : Nat) : Int) tr) :: (Str.ofString "way", .int ((wy : Nat) : Int) tw) :: (Str.ofString "log", .str lgS tl) :: (Str.ofString "meets", .ref M) :: (Str.ofString "two", .ref T2) :: (Str.ofString "one", .ref T1) :: (Str.ofString "fast", .int fa tfa) :: (Str.ofString "slow", .int sl tsl) :: (Str.ofString "seen", .ref V) :: (Str.ofString "place", .int p tp) :: (Str.ofString "goals", .ref G) :: (Str.ofString "replies", .ref R) :: (Str.ofString "start", .int st tst) :: l)) ∧ news = (I, oI) :: (M, listOf ms.toArray nM) :: (V, listOf vs.toArray nv) :: (G, listOf gs.toArray n') :: [(R, LCg.lst rs), (S, LCg.lst zs), (L + 1 + 1 + 1 + 1 + 1 + 1, o1), (L + 1 + 1 + 1 + 1 + 1, o2), (L + 1 + 1 + 1 + 1, o3), (L + 1 + 1 + 1, o4), (L + 1 + 1, o5), (L + 1, o6)])) (fun _ _ => False) s := by
  revert X
  k_fill
  intro X
  refine hideA ?_
  intro Q9 hQ9
  have hE := LawDef.eq LD (by k_dflt k_is)
  obtain ⟨rfl, rfl, rfl, rfl⟩ := hE
  clear LD
  dsimp only [List.drop, List.take]
  dsimp only [forBody, List.drop, List.take]
  iterate 40 (first | (k_unfold; (try dsimp only)) | (k_here; (with_reducible show wpAny _ _ (call (Value.ref 72) [Value.str (_ ++ _ ++ _ ++ _ ++ _) _, Value.str _ _]) _ _ _); refine' em_w4 ?z9F ?z9N ?z9X ?z9T ?z9d ?z9u ?z9a ?z9b ?z9f ?_; (case z9F => k_asm); (case z9N => k_asm); (case z9X => assumption); (case z9T => assumption); (case z9d => omega); (case z9u => omega); (case z9a => assumption); (case z9b => assumption); (case z9f => omega); intro h8 tk8 F8 N8) | walk1 | (dsimp only; walk1))
  try dsimp only
  k_here
  refine kba_turn (value' := PySem.Expr.Name (PySem.Str.ofString "_") ⟨0, 0, 0, 0⟩) (fun _ => rfl) ?_
  (with_reducible show wpAny _ _ (subscriptTail _ (PySem.Expr.Slice (some _) none none _) (Value.ref _) (Value.ref _)) _ _ _)
  refine' kmk_slice_ints (s := ⟨_, _, _, _, _⟩) ?z9F ?z9N ?z9l ?z9p ?z9q ?z9i (slice_ints_fromW ?z9i ?z9h0) rfl ?_ ?z9s ?z9t ?z9z
  (case z9F => k_asm)
  (case z9N => k_asm)
  (case z9l => kmk_list)
  (case z9p => kmk_part)
  (case z9q => kmk_part)
  (case z9i => assumption)
  (case z9h0 => omega)
  (case z9s => with_unfolding_all rfl)
  (case z9t => kmk_pure)
  (case z9z => kmk_size)
  intro D' ws' h' F' N' l1 hI' hC' hL'
  (try k_lt l1)
  repeat' (first | (k_unfold; (try dsimp only)) | (k_here; (with_reducible show wpAny _ _ (call (Value.ref 72) [Value.str (_ ++ _ ++ _ ++ _ ++ _) _, Value.str _ _]) _ _ _); refine' em_w4 ?z9F ?z9N ?z9X ?z9T ?z9d ?z9u ?z9a ?z9b ?z9f ?_; (case z9F => k_asm); (case z9N => k_asm); (case z9X => assumption); (case z9T => assumption); (case z9d => omega); (case z9u => omega); (case z9a => assumption); (case z9b => assumption); (case z9f => omega); intro h8 tk8 F8 N8) | walk1 | (dsimp only; walk1) | fail "no step")
  · exfalso
    rename (_ != _) = true => hc
    rw [hsame, Int.toNat_natCast, bne_self_eq_false] at hc
    cases hc
  · refine hQ9 _ _ ?_
    exact NxF.of (by assumption) (by assumption) ⟨rfl, rfl⟩ (by intro p hp; repeat (first | exact hp | apply List.Mem.tail))

end Mine
end
theorem Mine.fresh_LA19 : True ∧ True := by
  w_on
  w_top off
  walk1
  all_goals trivial
/-! text LA19 -/
section
open PySem PySem.W PyProof.Rows PySem.Spec PySem.Calls
namespace Mine
set_option maxRecDepth 100000 in
set_option maxHeartbeats 8000000 in
theorem ch19 {w : World} {loose : List Str} {mean : ExcName → Option Value} {mg mb : Str → Option Value} {dp un : Nat} {gd : Option (List Code)} {B : Heap} {L : Addr} {s : Shared} {qual : Str} {body : List Stmt} {scope : Scope} {cdv : Value} {S R G : Addr} {zs rs gs : List Value} {st : Int} {tst : Tok} {o1 o2 o3 o4 o5 o6 : Obj} {n' : Nat} {l : List (Str × Value)} {u : Str → Option Value} {V M T1 T2 : Addr} {vs ms : List Value} {nv nM : Nat} {p sl fa : Int} {wy rg : Nat} {vis : List Int} {tp tl tfa tsl tw tr : Tok} {sg : List Str} {lgS : Str}
    (LD : LawDef (hd.heap_39 w.params) qual body scope cdv) (X : (hd.heap_39 w.params).In B) (T : Top hd.view_39 loose mean mg mb B) (hdp : dp + 10 < recursionLimit) (hun : un + 100 < cLine)
    (hI : IntsAre vs vis) (hlen : vis.length ≤ 7) (hw : wy ≤ vis.length) (hZ : StrsAre zs sg) (hsg : sg.length = 7) (hs1 : ∀ k : Nat, k < 7 → (sg.getD k Str.empty).length = 1 ∧ NoDot (sg.getD k Str.empty)) (hlg : lgS.length ≤ 100) (d3 : o3.data = .cell (some (.ref S))) (hsame : ∀ k : Nat, k < 7 → em4 (sg.getD k Str.empty) lgS = (vis.drop wy).any fun x => x == (k : Int)) (hcl : ∀ p ∈ (M, listOf ms.toArray nM) :: (V, listOf vs.toArray nv) :: (G, listOf gs.toArray n') :: [(R, LCg.lst rs), (S, LCg.lst zs), (L + 1 + 1 + 1 + 1 + 1 + 1, o1), (L + 1 + 1 + 1 + 1 + 1, o2), (L + 1 + 1 + 1 + 1, o3), (L + 1 + 1 + 1, o4), (L + 1 + 1, o5), (L + 1, o6)], NoIt [] p)
    (F : Fr B L s.heap (fun y => (if dead.contains y = true then u y else List.lookup y ((Str.ofString "ring", .int ((rg : Nat) : Int) tr) :: (Str.ofString "way", .int ((wy : Nat) : Int) tw) :: (Str.ofString "log", .str lgS tl) :: (Str.ofString "meets", .ref M) :: (Str.ofString "two", .ref T2) :: (Str.ofString "one", .ref T1) :: (Str.ofString "fast", .int fa tfa) :: (Str.ofString "slow", .int sl tsl) :: (Str.ofString "seen", .ref V) :: (Str.ofString "place", .int p tp) :: (Str.ofString "goals", .ref G) :: (Str.ofString "replies", .ref R) :: (Str.ofString "start", .int st tst) :: l)))) (N : News B L s.heap ((M, listOf ms.toArray nM) :: (V, listOf vs.toArray nv) :: (G, listOf gs.toArray n') :: [(R, LCg.lst rs), (S, LCg.lst zs), (L + 1 + 1 + 1 + 1 + 1 + 1, o1), (L + 1 + 1 + 1 + 1 + 1, o2), (L + 1 + 1 + 1 + 1, o3), (L + 1 + 1 + 1, o4), (L + 1 + 1, o5), (L + 1, o6)])) :
    wpC (model PySem.Challenge.rw_tl0019_01.row.prog w) (Ar dp un gd (some [envOfC qual scope L 164 cdv])) (execs ((body.drop 19).take 1) (envOfC qual scope L 164 cdv)) (NxD B L s (fun l' news => l' = (Str.ofString "ring", .int ((rg : Nat) : Int) tr) :: (Str.ofString "way", .int ((wy : Nat) : Int) tw) :: (Str.ofString "log", .str lgS tl) :: (Str.ofString "meets", .ref M) :: (Str.ofString "two", .ref T2) :: (Str.ofString "one", .ref T1) :: (Str.ofString "fast", .int fa tfa) :: (Str.ofString "slow", .int sl tsl) :: (Str.ofString "seen", .ref V) :: (Str.ofString "place", .int p tp) :: (Str.ofString "goals", .ref G) :: (Str.ofString "replies", .ref R) :: (Str.ofString "start", .int st tst) :: l ∧ news = (M, listOf ms.toArray nM) :: (V, listOf vs.toArray nv) :: (G, listOf gs.toArray n') :: [(R, LCg.lst rs), (S, LCg.lst zs), (L + 1 + 1 + 1 + 1 + 1 + 1, o1), (L + 1 + 1 + 1 + 1 + 1, o2), (L + 1 + 1 + 1 + 1, o3), (L + 1 + 1 + 1, o4), (L + 1 + 1, o5), (L + 1, o6)])) (fun _ _ => False) s := by
  revert X
  k_fill
  intro X
  refine hideC ?_
  intro Q9 hQ9
  have hE := LawDef.eq LD (by k_dflt k_is)
  obtain ⟨rfl, rfl, rfl, rfl⟩ := hE
  dsimp only [List.drop, List.take]
  refine C.execs_cons (C.forRangeFL [] (B := B) (L := L) (a := 0) (b := 7) 7 (fun i m news => ∃ (u : Str → Option Value), m = (fun y => if dead.contains y = true then u y else List.lookup y ((Str.ofString "ring", .int ((rg : Nat) : Int) tr) :: (Str.ofString "way", .int ((wy : Nat) : Int) tw) :: (Str.ofString "log", .str lgS tl) :: (Str.ofString "meets", .ref M) :: (Str.ofString "two", .ref T2) :: (Str.ofString "one", .ref T1) :: (Str.ofString "fast", .int fa tfa) :: (Str.ofString "slow", .int sl tsl) :: (Str.ofString "seen", .ref V) :: (Str.ofString "place", .int p tp) :: (Str.ofString "goals", .ref G) :: (Str.ofString "replies", .ref R) :: (Str.ofString "start", .int st tst) :: l)) ∧ news = (M, listOf ms.toArray nM) :: (V, listOf vs.toArray nv) :: (G, listOf gs.toArray n') :: [(R, LCg.lst rs), (S, LCg.lst zs), (L + 1 + 1 + 1 + 1 + 1 + 1, o1), (L + 1 + 1 + 1 + 1 + 1, o2), (L + 1 + 1 + 1 + 1, o3), (L + 1 + 1 + 1, o4), (L + 1 + 1, o5), (L + 1, o6)]) rfl rfl (by rfl) (by rfl) (by decide) (by rfl) ?_ ?_ ?_)
  · k_steps
    exact ReadyF.intro (by assumption) (by assumption) (by assumption) hcl (fun p hp => by cases hp) ⟨_, rfl, rfl⟩
  · intro i t m news h tk I oI hi hJ hIt F1 N1
    refine hideC ?_
    intro Q8 hQ8
    revert hJ
    refine ex1k (fun u => and2k (fun e90 e91 => ?_))
    subst e90 e91
    clear F N
    rw [show (0 : Int) + (i : Int) = (i : Int) from by omega] at F1
    refine C.of (wpAny_mono (ch19a LD X T hdp hun hI hlen hw hZ hsg (by omega) (by omega) (by rw [Int.toNat_natCast]; exact (hs1 i hi).1) (by rw [Int.toNat_natCast]; exact (hs1 i hi).2) hlg d3 (by rw [Int.toNat_natCast]; exact hsame i hi) F1 N1) ?_ (fun _ _ (e : False) => e.elim))
    refine NxF.cont (fun h' tk' m news F2 N2 => and2k (fun e90 e91 => ?_))
    subst e90 e91
    rw [dead_in (by decide +kernel)] at F2
    refine hQ8 _ _ ?_
    exact TurnedF.next F2 N2 (fun _ hp => hp) hcl ⟨_, rfl, rfl⟩
  · intro m news h tk hJ F1 N1
    revert hJ
    refine ex1k (fun u => and2k (fun e90 e91 => ?_))
    subst e90 e91
    exact C.of (wpAny_execs_nil (hQ9 _ _ (NxD.of F1 N1 ⟨rfl, rfl⟩ fun _ hp => hp)))

theorem ch19k {w : World} {loose : List Str} {mean : ExcName → Option Value} {mg mb : Str → Option Value} {dp un : Nat} {gd : Option (List Code)} {B : Heap} {L : Addr} {s : Shared} {qual : Str} {body : List Stmt} {scope : Scope} {cdv : Value} {S R G : Addr} {zs rs gs : List Value} {st : Int} {tst : Tok} {o1 o2 o3 o4 o5 o6 : Obj} {n' : Nat} {l : List (Str × Value)} {u : Str → Option Value} {V M T1 T2 : Addr} {vs ms : List Value} {nv nM : Nat} {p sl fa : Int} {wy rg : Nat} {vis : List Int} {tp tl tfa tsl tw tr : Tok} {sg : List Str} {lgS : Str} {Q9 : Flow → Shared → Prop} {E9 : Value → Shared → Prop}
    (LD : LawDef (hd.heap_39 w.params) qual body scope cdv) (X : (hd.heap_39 w.params).In B) (T : Top hd.view_39 loose mean mg mb B) (hdp : dp + 10 < recursionLimit) (hun : un + 100 < cLine) (hI : IntsAre vs vis) (hlen : vis.length ≤ 7) (hw : wy ≤ vis.length) (hZ : StrsAre zs sg) (hsg : sg.length = 7) (hs1 : ∀ k : Nat, k < 7 → (sg.getD k Str.empty).length = 1 ∧ NoDot (sg.getD k Str.empty)) (hlg : lgS.length ≤ 100) (d3 : o3.data = .cell (some (.ref S))) (hsame : ∀ k : Nat, k < 7 → em4 (sg.getD k Str.empty) lgS = (vis.drop wy).any fun x => x == (k : Int)) (hcl : ∀ p ∈ (M, listOf ms.toArray nM) :: (V, listOf vs.toArray nv) :: (G, listOf gs.toArray n') :: [(R, LCg.lst rs), (S, LCg.lst zs), (L + 1 + 1 + 1 + 1 + 1 + 1, o1), (L + 1 + 1 + 1 + 1 + 1, o2), (L + 1 + 1 + 1 + 1, o3), (L + 1 + 1 + 1, o4), (L + 1 + 1, o5), (L + 1, o6)], NoIt [] p) (F : Fr B L s.heap (fun y => (if dead.contains y = true then u y else List.lookup y ((Str.ofString "ring", .int ((rg : Nat) : Int) tr) :: (Str.ofString "way", .int ((wy : Nat) : Int) tw) :: (Str.ofString "log", .str lgS tl) :: (Str.ofString "meets", .ref M) :: (Str.ofString "two", .ref T2) :: (Str.ofString "one", .ref T1) :: (Str.ofString "fast", .int fa tfa) :: (Str.ofString "slow", .int sl tsl) :: (Str.ofString "seen", .ref V) :: (Str.ofString "place", .int p tp) :: (Str.ofString "goals", .ref G) :: (Str.ofString "replies", .ref R) :: (Str.ofString "start", .int st tst) :: l)))) (N : News B L s.heap ((M, listOf ms.toArray nM) :: (V, listOf vs.toArray nv) :: (G, listOf gs.toArray n') :: [(R, LCg.lst rs), (S, LCg.lst zs), (L + 1 + 1 + 1 + 1 + 1 + 1, o1), (L + 1 + 1 + 1 + 1 + 1, o2), (L + 1 + 1 + 1 + 1, o3), (L + 1 + 1 + 1, o4), (L + 1 + 1, o5), (L + 1, o6)]))
    (k9 : ∀ (h9 : Heap) (tk9 : Nat) (u9 : Str → Option Value), Fr B L h9 (fun y => if dead.contains y = true then u9 y else List.lookup y ((Str.ofString "ring", .int ((rg : Nat) : Int) tr) :: (Str.ofString "way", .int ((wy : Nat) : Int) tw) :: (Str.ofString "log", .str lgS tl) :: (Str.ofString "meets", .ref M) :: (Str.ofString "two", .ref T2) :: (Str.ofString "one", .ref T1) :: (Str.ofString "fast", .int fa tfa) :: (Str.ofString "slow", .int sl tsl) :: (Str.ofString "seen", .ref V) :: (Str.ofString "place", .int p tp) :: (Str.ofString "goals", .ref G) :: (Str.ofString "replies", .ref R) :: (Str.ofString "start", .int st tst) :: l)) → News B L h9 ((M, listOf ms.toArray nM) :: (V, listOf vs.toArray nv) :: (G, listOf gs.toArray n') :: [(R, LCg.lst rs), (S, LCg.lst zs), (L + 1 + 1 + 1 + 1 + 1 + 1, o1), (L + 1 + 1 + 1 + 1 + 1, o2), (L + 1 + 1 + 1 + 1, o3), (L + 1 + 1 + 1, o4), (L + 1 + 1, o5), (L + 1, o6)]) → Q9 .next { s with heap := h9, toks := tk9 }) :
    wpC (model PySem.Challenge.rw_tl0019_01.row.prog w) (Ar dp un gd (some [envOfC qual scope L 164 cdv])) (execs ((body.drop 19).take 1) (envOfC qual scope L 164 cdv)) Q9 E9 s :=
  C.mono (ch19 LD X T hdp hun hI hlen hw hZ hsg hs1 hlg d3 hsame hcl F N) (NxD.cont (fun h9 tk9 u9 l'9 news9 f9 n9 => and2k (fun e90 e91 => by subst e90 e91; exact k9 h9 tk9 u9 f9 n9))) (fun _ _ (e : False) => e.elim)
end Mine
end
theorem Mine.fresh_LA20 : True ∧ True := by
  w_on
  w_top off
  walk1
  all_goals trivial
/-! text LA20 -/
section
open PySem PySem.W PyProof.Rows PySem.Spec PySem.Calls
namespace Mine
set_option maxRecDepth 100000 in
set_option maxHeartbeats 8000000 in
theorem ch20 {w : World} {loose : List Str} {mean : ExcName → Option Value} {mg mb : Str → Option Value} {dp un : Nat} {gd : Option (List Code)} {fr : Option (List Env)} {B : Heap} {L : Addr} {s : Shared} {qual : Str} {body : List Stmt} {scope : Scope} {cdv : Value} {S R G : Addr} {zs rs gs : List Value} {st : Int} {tst : Tok} {o1 o2 o3 o4 o5 o6 : Obj} {n' : Nat} {l : List (Str × Value)} {u : Str → Option Value} {V M T1 T2 : Addr} {vs ms : List Value} {nv nM : Nat} {p sl fa : Int} {wy rg : Nat} {tp tl tfa tsl tw tr : Tok} {lgS : Str}
    (LD : LawDef (hd.heap_39 w.params) qual body scope cdv) (X : (hd.heap_39 w.params).In B) (T : Top hd.view_39 loose mean mg mb B) (hdp : dp + 10 < recursionLimit) (hun : un + 100 < cLine)
    (hap : @Ne Nat (L + 1 + 1 + 1 + 1 + 1) M ∧ @Ne Nat (L + 1 + 1 + 1 + 1 + 1) V ∧ @Ne Nat (L + 1 + 1 + 1 + 1 + 1) G ∧ @Ne Nat (L + 1 + 1 + 1 + 1 + 1) R ∧ @Ne Nat (L + 1 + 1 + 1 + 1 + 1) S) (d2 : o2.data = .cell none)
    (F : Fr B L s.heap (fun y => (if dead.contains y = true then u y else List.lookup y ((Str.ofString "ring", .int ((rg : Nat) : Int) tr) :: (Str.ofString "way", .int ((wy : Nat) : Int) tw) :: (Str.ofString "log", .str lgS tl) :: (Str.ofString "meets", .ref M) :: (Str.ofString "two", .ref T2) :: (Str.ofString "one", .ref T1) :: (Str.ofString "fast", .int fa tfa) :: (Str.ofString "slow", .int sl tsl) :: (Str.ofString "seen", .ref V) :: (Str.ofString "place", .int p tp) :: (Str.ofString "goals", .ref G) :: (Str.ofString "replies", .ref R) :: (Str.ofString "start", .int st tst) :: l)))) (N : News B L s.heap ((M, listOf ms.toArray nM) :: (V, listOf vs.toArray nv) :: (G, listOf gs.toArray n') :: [(R, LCg.lst rs), (S, LCg.lst zs), (L + 1 + 1 + 1 + 1 + 1 + 1, o1), (L + 1 + 1 + 1 + 1 + 1, o2), (L + 1 + 1 + 1 + 1, o3), (L + 1 + 1 + 1, o4), (L + 1 + 1, o5), (L + 1, o6)])) :
    wpAny (model PySem.Challenge.rw_tl0019_01.row.prog w) (Ar dp un gd fr) (execs ((body.drop 20).take 1) (envOfC qual scope L 164 cdv)) (NxD B L s (fun l' news => ∃ o2' t, l' = (Str.ofString "ring", .int ((rg : Nat) : Int) tr) :: (Str.ofString "way", .int ((wy : Nat) : Int) tw) :: (Str.ofString "log", .str lgS tl) :: (Str.ofString "meets", .ref M) :: (Str.ofString "two", .ref T2) :: (Str.ofString "one", .ref T1) :: (Str.ofString "fast", .int fa tfa) :: (Str.ofString "slow", .int sl tsl) :: (Str.ofString "seen", .ref V) :: (Str.ofString "place", .int p tp) :: (Str.ofString "goals", .ref G) :: (Str.ofString "replies", .ref R) :: (Str.ofString "start", .int st tst) :: l ∧ o2'.data = .cell (some (.int 1 t)) ∧ news = (M, listOf ms.toArray nM) :: (V, listOf vs.toArray nv) :: (G, listOf gs.toArray n') :: [(R, LCg.lst rs), (S, LCg.lst zs), (L + 1 + 1 + 1 + 1 + 1 + 1, o1), (L + 1 + 1 + 1 + 1 + 1, o2'), (L + 1 + 1 + 1 + 1, o3), (L + 1 + 1 + 1, o4), (L + 1 + 1, o5), (L + 1, o6)])) (fun _ _ => False) s := by
  revert X
  k_fill
  intro X
  refine hideA ?_
  intro Q9 hQ9
  have hE := LawDef.eq LD (by k_dflt k_is)
  obtain ⟨rfl, rfl, rfl, rfl⟩ := hE
  clear LD
  dsimp only [List.drop, List.take]
  k_steps
  refine hQ9 _ _ ?_
  exact NxD.of (by assumption) (by assumption) ⟨_, _, rfl, by assumption, rfl⟩ (fun _ hp => hp)

theorem ch20k {w : World} {loose : List Str} {mean : ExcName → Option Value} {mg mb : Str → Option Value} {dp un : Nat} {gd : Option (List Code)} {fr : Option (List Env)} {B : Heap} {L : Addr} {s : Shared} {qual : Str} {body : List Stmt} {scope : Scope} {cdv : Value} {S R G : Addr} {zs rs gs : List Value} {st : Int} {tst : Tok} {o1 o2 o3 o4 o5 o6 : Obj} {n' : Nat} {l : List (Str × Value)} {u : Str → Option Value} {V M T1 T2 : Addr} {vs ms : List Value} {nv nM : Nat} {p sl fa : Int} {wy rg : Nat} {tp tl tfa tsl tw tr : Tok} {lgS : Str} {Q9 : Flow → Shared → Prop} {E9 : Value → Shared → Prop}
    (LD : LawDef (hd.heap_39 w.params) qual body scope cdv) (X : (hd.heap_39 w.params).In B) (T : Top hd.view_39 loose mean mg mb B) (hdp : dp + 10 < recursionLimit) (hun : un + 100 < cLine) (hap : @Ne Nat (L + 1 + 1 + 1 + 1 + 1) M ∧ @Ne Nat (L + 1 + 1 + 1 + 1 + 1) V ∧ @Ne Nat (L + 1 + 1 + 1 + 1 + 1) G ∧ @Ne Nat (L + 1 + 1 + 1 + 1 + 1) R ∧ @Ne Nat (L + 1 + 1 + 1 + 1 + 1) S) (d2 : o2.data = .cell none) (F : Fr B L s.heap (fun y => (if dead.contains y = true then u y else List.lookup y ((Str.ofString "ring", .int ((rg : Nat) : Int) tr) :: (Str.ofString "way", .int ((wy : Nat) : Int) tw) :: (Str.ofString "log", .str lgS tl) :: (Str.ofString "meets", .ref M) :: (Str.ofString "two", .ref T2) :: (Str.ofString "one", .ref T1) :: (Str.ofString "fast", .int fa tfa) :: (Str.ofString "slow", .int sl tsl) :: (Str.ofString "seen", .ref V) :: (Str.ofString "place", .int p tp) :: (Str.ofString "goals", .ref G) :: (Str.ofString "replies", .ref R) :: (Str.ofString "start", .int st tst) :: l)))) (N : News B L s.heap ((M, listOf ms.toArray nM) :: (V, listOf vs.toArray nv) :: (G, listOf gs.toArray n') :: [(R, LCg.lst rs), (S, LCg.lst zs), (L + 1 + 1 + 1 + 1 + 1 + 1, o1), (L + 1 + 1 + 1 + 1 + 1, o2), (L + 1 + 1 + 1 + 1, o3), (L + 1 + 1 + 1, o4), (L + 1 + 1, o5), (L + 1, o6)]))
    (k9 : ∀ (h9 : Heap) (tk9 : Nat) (u9 : Str → Option Value) o2' t, Fr B L h9 (fun y => if dead.contains y = true then u9 y else List.lookup y ((Str.ofString "ring", .int ((rg : Nat) : Int) tr) :: (Str.ofString "way", .int ((wy : Nat) : Int) tw) :: (Str.ofString "log", .str lgS tl) :: (Str.ofString "meets", .ref M) :: (Str.ofString "two", .ref T2) :: (Str.ofString "one", .ref T1) :: (Str.ofString "fast", .int fa tfa) :: (Str.ofString "slow", .int sl tsl) :: (Str.ofString "seen", .ref V) :: (Str.ofString "place", .int p tp) :: (Str.ofString "goals", .ref G) :: (Str.ofString "replies", .ref R) :: (Str.ofString "start", .int st tst) :: l)) → News B L h9 ((M, listOf ms.toArray nM) :: (V, listOf vs.toArray nv) :: (G, listOf gs.toArray n') :: [(R, LCg.lst rs), (S, LCg.lst zs), (L + 1 + 1 + 1 + 1 + 1 + 1, o1), (L + 1 + 1 + 1 + 1 + 1, o2'), (L + 1 + 1 + 1 + 1, o3), (L + 1 + 1 + 1, o4), (L + 1 + 1, o5), (L + 1, o6)]) → (o2'.data = .cell (some (.int 1 t))) → Q9 .next { s with heap := h9, toks := tk9 }) :
    wpAny (model PySem.Challenge.rw_tl0019_01.row.prog w) (Ar dp un gd fr) (execs ((body.drop 20).take 1) (envOfC qual scope L 164 cdv)) Q9 E9 s :=
  wpAny_mono (ch20 LD X T hdp hun hap d2 F N) (NxD.cont (fun h9 tk9 u9 l'9 news9 f9 n9 => ex2k (fun o2' t => and3k (fun e90 q91 e92 => by subst e90 e92; exact k9 h9 tk9 u9 o2' t f9 n9 q91)))) (fun _ _ (e : False) => e.elim)
end Mine
end
theorem Mine.fresh_LA21 : True ∧ True := by
  w_on
  w_top off
  walk1
  all_goals trivial
/-! text LA21 -/
section
open PySem PySem.W PyProof.Rows PySem.Spec PySem.Calls
namespace Mine
set_option maxRecDepth 100000 in
set_option maxHeartbeats 8000000 in
theorem ch21 {w : World} {loose : List Str} {mean : ExcName → Option Value} {mg mb : Str → Option Value} {dp un : Nat} {gd : Option (List Code)} {fr : Option (List Env)} {B : Heap} {L : Addr} {s : Shared} {qual : Str} {body : List Stmt} {scope : Scope} {cdv : Value} {S R G : Addr} {zs rs gs : List Value} {st : Int} {tst : Tok} {o1 o2 o3 o4 o5 o6 : Obj} {n' : Nat} {l : List (Str × Value)} {u : Str → Option Value} {V M T1 T2 : Addr} {vs ms : List Value} {nv nM : Nat} {p sl fa : Int} {wy rg : Nat} {tp tl tfa tsl tw tr : Tok} {lgS : Str} {tz : Tok}
    (LD : LawDef (hd.heap_39 w.params) qual body scope cdv) (X : (hd.heap_39 w.params).In B) (T : Top hd.view_39 loose mean mg mb B) (hdp : dp + 10 < recursionLimit) (hun : un + 100 < cLine)
    (hap : @Ne Nat (L + 1 + 1 + 1 + 1 + 1) M ∧ @Ne Nat (L + 1 + 1 + 1 + 1 + 1) V ∧ @Ne Nat (L + 1 + 1 + 1 + 1 + 1) G ∧ @Ne Nat (L + 1 + 1 + 1 + 1 + 1) R ∧ @Ne Nat (L + 1 + 1 + 1 + 1 + 1) S) (hr0 : 1 ≤ rg) (hr1 : rg ≤ 7) (hd0 : 1 ≤ fa - sl) (hd1 : fa - sl ≤ 3) (hfa : 0 ≤ fa ∧ fa ≤ 10) (hsl : 0 ≤ sl ∧ sl ≤ 10) (d2 : o2.data = .cell (some (.int 1 tz)))
    (F : Fr B L s.heap (fun y => (if dead.contains y = true then u y else List.lookup y ((Str.ofString "ring", .int ((rg : Nat) : Int) tr) :: (Str.ofString "way", .int ((wy : Nat) : Int) tw) :: (Str.ofString "log", .str lgS tl) :: (Str.ofString "meets", .ref M) :: (Str.ofString "two", .ref T2) :: (Str.ofString "one", .ref T1) :: (Str.ofString "fast", .int fa tfa) :: (Str.ofString "slow", .int sl tsl) :: (Str.ofString "seen", .ref V) :: (Str.ofString "place", .int p tp) :: (Str.ofString "goals", .ref G) :: (Str.ofString "replies", .ref R) :: (Str.ofString "start", .int st tst) :: l)))) (N : News B L s.heap ((M, listOf ms.toArray nM) :: (V, listOf vs.toArray nv) :: (G, listOf gs.toArray n') :: [(R, LCg.lst rs), (S, LCg.lst zs), (L + 1 + 1 + 1 + 1 + 1 + 1, o1), (L + 1 + 1 + 1 + 1 + 1, o2), (L + 1 + 1 + 1 + 1, o3), (L + 1 + 1 + 1, o4), (L + 1 + 1, o5), (L + 1, o6)])) :
    wpAny (model PySem.Challenge.rw_tl0019_01.row.prog w) (Ar dp un gd fr) (execs ((body.drop 21).take 1) (envOfC qual scope L 164 cdv)) (NxD B L s (fun l' news => ∃ o2' z t, l' = (Str.ofString "ring", .int ((rg : Nat) : Int) tr) :: (Str.ofString "way", .int ((wy : Nat) : Int) tw) :: (Str.ofString "log", .str lgS tl) :: (Str.ofString "meets", .ref M) :: (Str.ofString "two", .ref T2) :: (Str.ofString "one", .ref T1) :: (Str.ofString "fast", .int fa tfa) :: (Str.ofString "slow", .int sl tsl) :: (Str.ofString "seen", .ref V) :: (Str.ofString "place", .int p tp) :: (Str.ofString "goals", .ref G) :: (Str.ofString "replies", .ref R) :: (Str.ofString "start", .int st tst) :: l ∧ o2'.data = .cell (some (.int z t)) ∧ 1 ≤ z ∧ z ≤ (rg : Int) ∧ (z * (fa - sl)).fmod (rg : Int) = 0 ∧ (∀ y : Int, 1 ≤ y → y < z → (y * (fa - sl)).fmod (rg : Int) ≠ 0) ∧ news = (M, listOf ms.toArray nM) :: (V, listOf vs.toArray nv) :: (G, listOf gs.toArray n') :: [(R, LCg.lst rs), (S, LCg.lst zs), (L + 1 + 1 + 1 + 1 + 1 + 1, o1), (L + 1 + 1 + 1 + 1 + 1, o2'), (L + 1 + 1 + 1 + 1, o3), (L + 1 + 1 + 1, o4), (L + 1 + 1, o5), (L + 1, o6)])) (fun _ _ => False) s := by
  revert X
  k_fill
  intro X
  refine hideA ?_
  intro Q9 hQ9
  have hE := LawDef.eq LD (by k_dflt k_is)
  obtain ⟨rfl, rfl, rfl, rfl⟩ := hE
  clear LD
  dsimp only [List.drop, List.take]
  refine wpAny_execs_cons (While_inv2 (fun c m news => ∃ (u : Str → Option Value) (o2 : Obj) (z : Int) (t : Tok), m = (fun y => if dead.contains y = true then u y else List.lookup y ((Str.ofString "ring", .int ((rg : Nat) : Int) tr) :: (Str.ofString "way", .int ((wy : Nat) : Int) tw) :: (Str.ofString "log", .str lgS tl) :: (Str.ofString "meets", .ref M) :: (Str.ofString "two", .ref T2) :: (Str.ofString "one", .ref T1) :: (Str.ofString "fast", .int fa tfa) :: (Str.ofString "slow", .int sl tsl) :: (Str.ofString "seen", .ref V) :: (Str.ofString "place", .int p tp) :: (Str.ofString "goals", .ref G) :: (Str.ofString "replies", .ref R) :: (Str.ofString "start", .int st tst) :: l)) ∧ news = (M, listOf ms.toArray nM) :: (V, listOf vs.toArray nv) :: (G, listOf gs.toArray n') :: [(R, LCg.lst rs), (S, LCg.lst zs), (L + 1 + 1 + 1 + 1 + 1 + 1, o1), (L + 1 + 1 + 1 + 1 + 1, o2), (L + 1 + 1 + 1 + 1, o3), (L + 1 + 1 + 1, o4), (L + 1 + 1, o5), (L + 1, o6)] ∧ o2.data = .cell (some (.int z t)) ∧ 1 ≤ z ∧ z ≤ (rg : Int) ∧ (∀ y : Int, 1 ≤ y → y < z → (y * (fa - sl)).fmod (rg : Int) ≠ 0) ∧ c = ((rg : Int) + 1 - z).toNat) (n₀ := rg) F N ⟨u, o2, 1, tz, rfl, rfl, d2, by omega, by omega, fun y h1 h2 => by omega, by omega⟩ ?_ ?_)
  · clear F N d2
    rintro c m₁ news₁ h₁ tk₁ F1 N1 ⟨u1, o2, z, t, rfl, rfl, d2, hz0, hz1, hmin, hc⟩
    k_steps
    · rename (_ : Int) ≠ 0 => hnz
      have hz : z ≠ (rg : Int) := fun e => hnz (by rw [e]; exact Int.fmod_eq_zero_of_dvd ⟨_, rfl⟩)
      refine ⟨_, _, _, _, ((rg : Int) + 1 - (z + 1)).toNat, rfl, by assumption, by assumption, by omega, u1, _, z + 1, _, rfl, rfl, by assumption, by omega, by omega, fun y h1 h2 => ?_, rfl⟩
      by_cases hy : y = z
      · rw [hy]; exact hnz
      · exact hmin y h1 (by omega)
    · rename (_ : Int) = 0 => hez
      refine hQ9 _ _ ?_
      exact NxD.of F1 N1 ⟨_, z, _, rfl, d2, hz0, hz1, hez, hmin, rfl⟩ (fun _ hp => hp)
  · exact fun _ _ (e : False) => e.elim
theorem ch21k {w : World} {loose : List Str} {mean : ExcName → Option Value} {mg mb : Str → Option Value} {dp un : Nat} {gd : Option (List Code)} {fr : Option (List Env)} {B : Heap} {L : Addr} {s : Shared} {qual : Str} {body : List Stmt} {scope : Scope} {cdv : Value} {S R G : Addr} {zs rs gs : List Value} {st : Int} {tst : Tok} {o1 o2 o3 o4 o5 o6 : Obj} {n' : Nat} {l : List (Str × Value)} {u : Str → Option Value} {V M T1 T2 : Addr} {vs ms : List Value} {nv nM : Nat} {p sl fa : Int} {wy rg : Nat} {tp tl tfa tsl tw tr : Tok} {lgS : Str} {tz : Tok} {Q9 : Flow → Shared → Prop} {E9 : Value → Shared → Prop}
    (LD : LawDef (hd.heap_39 w.params) qual body scope cdv) (X : (hd.heap_39 w.params).In B) (T : Top hd.view_39 loose mean mg mb B) (hdp : dp + 10 < recursionLimit) (hun : un + 100 < cLine) (hap : @Ne Nat (L + 1 + 1 + 1 + 1 + 1) M ∧ @Ne Nat (L + 1 + 1 + 1 + 1 + 1) V ∧ @Ne Nat (L + 1 + 1 + 1 + 1 + 1) G ∧ @Ne Nat (L + 1 + 1 + 1 + 1 + 1) R ∧ @Ne Nat (L + 1 + 1 + 1 + 1 + 1) S) (hr0 : 1 ≤ rg) (hr1 : rg ≤ 7) (hd0 : 1 ≤ fa - sl) (hd1 : fa - sl ≤ 3) (hfa : 0 ≤ fa ∧ fa ≤ 10) (hsl : 0 ≤ sl ∧ sl ≤ 10) (d2 : o2.data = .cell (some (.int 1 tz))) (F : Fr B L s.heap (fun y => (if dead.contains y = true then u y else List.lookup y ((Str.ofString "ring", .int ((rg : Nat) : Int) tr) :: (Str.ofString "way", .int ((wy : Nat) : Int) tw) :: (Str.ofString "log", .str lgS tl) :: (Str.ofString "meets", .ref M) :: (Str.ofString "two", .ref T2) :: (Str.ofString "one", .ref T1) :: (Str.ofString "fast", .int fa tfa) :: (Str.ofString "slow", .int sl tsl) :: (Str.ofString "seen", .ref V) :: (Str.ofString "place", .int p tp) :: (Str.ofString "goals", .ref G) :: (Str.ofString "replies", .ref R) :: (Str.ofString "start", .int st tst) :: l)))) (N : News B L s.heap ((M, listOf ms.toArray nM) :: (V, listOf vs.toArray nv) :: (G, listOf gs.toArray n') :: [(R, LCg.lst rs), (S, LCg.lst zs), (L + 1 + 1 + 1 + 1 + 1 + 1, o1), (L + 1 + 1 + 1 + 1 + 1, o2), (L + 1 + 1 + 1 + 1, o3), (L + 1 + 1 + 1, o4), (L + 1 + 1, o5), (L + 1, o6)]))
    (k9 : ∀ (h9 : Heap) (tk9 : Nat) (u9 : Str → Option Value) o2' z t, Fr B L h9 (fun y => if dead.contains y = true then u9 y else List.lookup y ((Str.ofString "ring", .int ((rg : Nat) : Int) tr) :: (Str.ofString "way", .int ((wy : Nat) : Int) tw) :: (Str.ofString "log", .str lgS tl) :: (Str.ofString "meets", .ref M) :: (Str.ofString "two", .ref T2) :: (Str.ofString "one", .ref T1) :: (Str.ofString "fast", .int fa tfa) :: (Str.ofString "slow", .int sl tsl) :: (Str.ofString "seen", .ref V) :: (Str.ofString "place", .int p tp) :: (Str.ofString "goals", .ref G) :: (Str.ofString "replies", .ref R) :: (Str.ofString "start", .int st tst) :: l)) → News B L h9 ((M, listOf ms.toArray nM) :: (V, listOf vs.toArray nv) :: (G, listOf gs.toArray n') :: [(R, LCg.lst rs), (S, LCg.lst zs), (L + 1 + 1 + 1 + 1 + 1 + 1, o1), (L + 1 + 1 + 1 + 1 + 1, o2'), (L + 1 + 1 + 1 + 1, o3), (L + 1 + 1 + 1, o4), (L + 1 + 1, o5), (L + 1, o6)]) → (o2'.data = .cell (some (.int z t))) → (1 ≤ z) → (z ≤ (rg : Int)) → ((z * (fa - sl)).fmod (rg : Int) = 0) → ((∀ y : Int, 1 ≤ y → y < z → (y * (fa - sl)).fmod (rg : Int) ≠ 0)) → Q9 .next { s with heap := h9, toks := tk9 }) :
    wpAny (model PySem.Challenge.rw_tl0019_01.row.prog w) (Ar dp un gd fr) (execs ((body.drop 21).take 1) (envOfC qual scope L 164 cdv)) Q9 E9 s :=
  wpAny_mono (ch21 LD X T hdp hun hap hr0 hr1 hd0 hd1 hfa hsl d2 F N) (NxD.cont (fun h9 tk9 u9 l'9 news9 f9 n9 => ex3k (fun o2' z t => and7k (fun e90 q91 q92 q93 q94 q95 e96 => by subst e90 e96; exact k9 h9 tk9 u9 o2' z t f9 n9 q91 q92 q93 q94 q95)))) (fun _ _ (e : False) => e.elim)
end Mine
end
theorem Mine.fresh_LA22 : True ∧ True := by
  w_on
  w_top off
  walk1
  all_goals trivial
/-! text LA22 -/
section
open PySem PySem.W PyProof.Rows PySem.Spec PySem.Calls
namespace Mine
noncomputable def leadS (wy : Nat) (sl : Int) : Str := Txt.mul (Str.ofString " ") ((if 1 > ((wy : Int) + sl - 1).fdiv sl then 1 else ((wy : Int) + sl - 1).fdiv sl) - 1)
set_option maxRecDepth 100000 in
set_option maxHeartbeats 8000000 in
theorem ch22 {w : World} {loose : List Str} {mean : ExcName → Option Value} {mg mb : Str → Option Value} {dp un : Nat} {gd : Option (List Code)} {fr : Option (List Env)} {B : Heap} {L : Addr} {s : Shared} {qual : Str} {body : List Stmt} {scope : Scope} {cdv : Value} {S R G : Addr} {zs rs gs : List Value} {st : Int} {tst : Tok} {o1 o2 o3 o4 o5 o6 : Obj} {n' : Nat} {l : List (Str × Value)} {u : Str → Option Value} {V M T1 T2 : Addr} {vs ms : List Value} {nv nM : Nat} {p sl fa : Int} {wy rg : Nat} {tp tl tfa tsl tw tr : Tok} {lgS : Str}
    (LD : LawDef (hd.heap_39 w.params) qual body scope cdv) (X : (hd.heap_39 w.params).In B) (T : Top hd.view_39 loose mean mg mb B) (hdp : dp + 10 < recursionLimit) (hun : un + 100 < cLine)
    (hap : @Ne Nat (L + 1 + 1 + 1 + 1 + 1 + 1) M ∧ @Ne Nat (L + 1 + 1 + 1 + 1 + 1 + 1) V ∧ @Ne Nat (L + 1 + 1 + 1 + 1 + 1 + 1) G ∧ @Ne Nat (L + 1 + 1 + 1 + 1 + 1 + 1) R ∧ @Ne Nat (L + 1 + 1 + 1 + 1 + 1 + 1) S) (hw : wy ≤ 7) (hsl : 1 ≤ sl ∧ sl ≤ 2) (hl0 : 0 ≤ ((wy : Int) + sl - 1).fdiv sl) (hl1 : ((wy : Int) + sl - 1).fdiv sl ≤ 8) (d1 : o1.data = .cell none)
    (F : Fr B L s.heap (fun y => (if dead.contains y = true then u y else List.lookup y ((Str.ofString "ring", .int ((rg : Nat) : Int) tr) :: (Str.ofString "way", .int ((wy : Nat) : Int) tw) :: (Str.ofString "log", .str lgS tl) :: (Str.ofString "meets", .ref M) :: (Str.ofString "two", .ref T2) :: (Str.ofString "one", .ref T1) :: (Str.ofString "fast", .int fa tfa) :: (Str.ofString "slow", .int sl tsl) :: (Str.ofString "seen", .ref V) :: (Str.ofString "place", .int p tp) :: (Str.ofString "goals", .ref G) :: (Str.ofString "replies", .ref R) :: (Str.ofString "start", .int st tst) :: l)))) (N : News B L s.heap ((M, listOf ms.toArray nM) :: (V, listOf vs.toArray nv) :: (G, listOf gs.toArray n') :: [(R, LCg.lst rs), (S, LCg.lst zs), (L + 1 + 1 + 1 + 1 + 1 + 1, o1), (L + 1 + 1 + 1 + 1 + 1, o2), (L + 1 + 1 + 1 + 1, o3), (L + 1 + 1 + 1, o4), (L + 1 + 1, o5), (L + 1, o6)])) :
    wpAny (model PySem.Challenge.rw_tl0019_01.row.prog w) (Ar dp un gd fr) (execs ((body.drop 22).take 1) (envOfC qual scope L 164 cdv)) (NxD B L s (fun l' news => ∃ o1' t, l' = (Str.ofString "ring", .int ((rg : Nat) : Int) tr) :: (Str.ofString "way", .int ((wy : Nat) : Int) tw) :: (Str.ofString "log", .str lgS tl) :: (Str.ofString "meets", .ref M) :: (Str.ofString "two", .ref T2) :: (Str.ofString "one", .ref T1) :: (Str.ofString "fast", .int fa tfa) :: (Str.ofString "slow", .int sl tsl) :: (Str.ofString "seen", .ref V) :: (Str.ofString "place", .int p tp) :: (Str.ofString "goals", .ref G) :: (Str.ofString "replies", .ref R) :: (Str.ofString "start", .int st tst) :: l ∧ o1'.data = .cell (some (.str (leadS wy sl) t)) ∧ news = (M, listOf ms.toArray nM) :: (V, listOf vs.toArray nv) :: (G, listOf gs.toArray n') :: [(R, LCg.lst rs), (S, LCg.lst zs), (L + 1 + 1 + 1 + 1 + 1 + 1, o1'), (L + 1 + 1 + 1 + 1 + 1, o2), (L + 1 + 1 + 1 + 1, o3), (L + 1 + 1 + 1, o4), (L + 1 + 1, o5), (L + 1, o6)])) (fun _ _ => False) s := by
  revert X
  k_fill
  intro X
  refine hideA ?_
  intro Q9 hQ9
  have hE := LawDef.eq LD (by k_dflt k_is)
  obtain ⟨rfl, rfl, rfl, rfl⟩ := hE
  clear LD
  dsimp only [List.drop, List.take]
  k_steps
  refine hQ9 _ _ ?_
  exact NxD.of (by assumption) (by assumption) ⟨_, _, rfl, by assumption, rfl⟩ (fun _ hp => hp)
theorem ch22k {w : World} {loose : List Str} {mean : ExcName → Option Value} {mg mb : Str → Option Value} {dp un : Nat} {gd : Option (List Code)} {fr : Option (List Env)} {B : Heap} {L : Addr} {s : Shared} {qual : Str} {body : List Stmt} {scope : Scope} {cdv : Value} {S R G : Addr} {zs rs gs : List Value} {st : Int} {tst : Tok} {o1 o2 o3 o4 o5 o6 : Obj} {n' : Nat} {l : List (Str × Value)} {u : Str → Option Value} {V M T1 T2 : Addr} {vs ms : List Value} {nv nM : Nat} {p sl fa : Int} {wy rg : Nat} {tp tl tfa tsl tw tr : Tok} {lgS : Str} {Q9 : Flow → Shared → Prop} {E9 : Value → Shared → Prop}
    (LD : LawDef (hd.heap_39 w.params) qual body scope cdv) (X : (hd.heap_39 w.params).In B) (T : Top hd.view_39 loose mean mg mb B) (hdp : dp + 10 < recursionLimit) (hun : un + 100 < cLine) (hap : @Ne Nat (L + 1 + 1 + 1 + 1 + 1 + 1) M ∧ @Ne Nat (L + 1 + 1 + 1 + 1 + 1 + 1) V ∧ @Ne Nat (L + 1 + 1 + 1 + 1 + 1 + 1) G ∧ @Ne Nat (L + 1 + 1 + 1 + 1 + 1 + 1) R ∧ @Ne Nat (L + 1 + 1 + 1 + 1 + 1 + 1) S) (hw : wy ≤ 7) (hsl : 1 ≤ sl ∧ sl ≤ 2) (hl0 : 0 ≤ ((wy : Int) + sl - 1).fdiv sl) (hl1 : ((wy : Int) + sl - 1).fdiv sl ≤ 8) (d1 : o1.data = .cell none) (F : Fr B L s.heap (fun y => (if dead.contains y = true then u y else List.lookup y ((Str.ofString "ring", .int ((rg : Nat) : Int) tr) :: (Str.ofString "way", .int ((wy : Nat) : Int) tw) :: (Str.ofString "log", .str lgS tl) :: (Str.ofString "meets", .ref M) :: (Str.ofString "two", .ref T2) :: (Str.ofString "one", .ref T1) :: (Str.ofString "fast", .int fa tfa) :: (Str.ofString "slow", .int sl tsl) :: (Str.ofString "seen", .ref V) :: (Str.ofString "place", .int p tp) :: (Str.ofString "goals", .ref G) :: (Str.ofString "replies", .ref R) :: (Str.ofString "start", .int st tst) :: l)))) (N : News B L s.heap ((M, listOf ms.toArray nM) :: (V, listOf vs.toArray nv) :: (G, listOf gs.toArray n') :: [(R, LCg.lst rs), (S, LCg.lst zs), (L + 1 + 1 + 1 + 1 + 1 + 1, o1), (L + 1 + 1 + 1 + 1 + 1, o2), (L + 1 + 1 + 1 + 1, o3), (L + 1 + 1 + 1, o4), (L + 1 + 1, o5), (L + 1, o6)]))
    (k9 : ∀ (h9 : Heap) (tk9 : Nat) (u9 : Str → Option Value) o1' t, Fr B L h9 (fun y => if dead.contains y = true then u9 y else List.lookup y ((Str.ofString "ring", .int ((rg : Nat) : Int) tr) :: (Str.ofString "way", .int ((wy : Nat) : Int) tw) :: (Str.ofString "log", .str lgS tl) :: (Str.ofString "meets", .ref M) :: (Str.ofString "two", .ref T2) :: (Str.ofString "one", .ref T1) :: (Str.ofString "fast", .int fa tfa) :: (Str.ofString "slow", .int sl tsl) :: (Str.ofString "seen", .ref V) :: (Str.ofString "place", .int p tp) :: (Str.ofString "goals", .ref G) :: (Str.ofString "replies", .ref R) :: (Str.ofString "start", .int st tst) :: l)) → News B L h9 ((M, listOf ms.toArray nM) :: (V, listOf vs.toArray nv) :: (G, listOf gs.toArray n') :: [(R, LCg.lst rs), (S, LCg.lst zs), (L + 1 + 1 + 1 + 1 + 1 + 1, o1'), (L + 1 + 1 + 1 + 1 + 1, o2), (L + 1 + 1 + 1 + 1, o3), (L + 1 + 1 + 1, o4), (L + 1 + 1, o5), (L + 1, o6)]) → (o1'.data = .cell (some (.str (leadS wy sl) t))) → Q9 .next { s with heap := h9, toks := tk9 }) :
    wpAny (model PySem.Challenge.rw_tl0019_01.row.prog w) (Ar dp un gd fr) (execs ((body.drop 22).take 1) (envOfC qual scope L 164 cdv)) Q9 E9 s :=
  wpAny_mono (ch22 LD X T hdp hun hap hw hsl hl0 hl1 d1 F N) (NxD.cont (fun h9 tk9 u9 l'9 news9 f9 n9 => ex2k (fun o1' t => and3k (fun e90 q91 e92 => by subst e90 e92; exact k9 h9 tk9 u9 o1' t f9 n9 q91)))) (fun _ _ (e : False) => e.elim)
end Mine
end
theorem Mine.fresh_WS0 : True ∧ True := by
  w_on
  w_top off
  walk1
  all_goals trivial
/-! text WS0 -/
section
open PySem PySem.W PyProof.Rows PySem.Spec PySem.Calls
namespace Mine
/-- a def, as the written part holds it -/
noncomputable def DefAt (K : Frag) (f : Addr) (qual : Str) (body : List Stmt) (scope : Scope) (cdv : Value) : Prop :=
  ∃ oc od name params dV kV doc pm an ct osl, K.lookup f = some ⟨oc, od, .func (fnOf name qual params body scope dV kV doc pm an cdv ct), osl⟩
theorem DefAt.eq {K : Frag} {f : Addr} {qual qual' : Str} {body body' : List Stmt} {scope scope' : Scope} {cdv cdv' oc dV kV doc pm ct : Value} {od an : Option Addr} {name : Str} {params : Arguments} {osl : Array (Option Value)}
    (h : DefAt K f qual body scope cdv) (e : K.lookup f = some ⟨oc, od, .func (fnOf name qual' params body' scope' dV kV doc pm an cdv' ct), osl⟩) : qual = qual' ∧ body = body' ∧ scope = scope' ∧ cdv = cdv' := by
  obtain ⟨_, _, _, _, _, _, _, _, _, _, _, h⟩ := h
  rw [h] at e
  injection e with e
  injection e with _ _ e _
  injection e with e
  injection e with e1 e2 e3 e4 e5 e6 e7 e8 e9 e10 e11 e12
  exact ⟨e2, by injection e4, e5, by assumption⟩
section
variable {prog : Program} {w : World} {A : Around} {E : Value → Shared → Prop} {s : Shared} {H₀ : Heap} {K : Frag} {p : Program} {loose : List PySem.Str} {mean : ExcName → Option Value} {mg mb : PySem.Str → Option Value}
  {name qual : PySem.Str} {params : Arguments} {body : List Stmt} {scope : Scope} {dV kV doc pm cdv ct oc : Value} {an od : Option Addr} {osl : Array (Option Value)} {f : Addr} {pos : List Value} {binds : List (PySem.Str × Value)}
/-- entering a def whose frame may change the objects of news -/
theorem enterA {R : Result → Shared → Prop} (news : List (Addr × Obj))
    (X : K.In H₀) (T : Top p loose mean mg mb H₀) (st : H₀.StaysIn s.heap)
    (ho : K.lookup f = some ⟨oc, od, .func (fnOf name qual params body scope dV kV doc pm an cdv ct), osl⟩) (hcd : codeIn K cdv qual = true) (hroom : A.depth < recursionLimit)
    (hbind : BindsTo s (fnOf name qual params body scope dV kV doc pm an cdv ct) ⟨pos, []⟩ binds) (hloc : ∀ y ∈ binds, scope.names.lookup y.1 = some .local)
    (hnews : ∀ p ∈ news, H₀.get? p.1 = none ∧ s.heap.get? p.1 = some p.2)
    (h : ∀ B L' h₁ tk₁, B = hideAll s.heap (news.map (·.1)) → L' = s.heap.objs.size → K.In B → Top p loose mean mg mb B → Fr B L' h₁ (fun y => binds.reverse.lookup y) → News B L' h₁ news → (∀ p ∈ news, p.1 < L') →
      wpAny (model prog w) (A.deeper (envOf qual scope L' f cdv)) (execs body (envOf qual scope L' f cdv))
        (fun fl s' => R (.ok (.ret (match fl with | .ret v => v | _ => .none))) s') (fun _ _ => False) { s with heap := h₁, toks := tk₁ })
    (hco : scope.isCoroutine = false) (hgen : scope.isGenerator = false) (hk : scope.kind = .function)
    (hcell : ∀ x ∈ scope.names, x.2 ≠ .cell) : codeAny (model prog w) A (.call (.ref f) ⟨pos, []⟩) R s := by
  have Xs := X.keeps st
  have Ts := T.keeps st
  refine codeAny_call_def (fd := fnOf name qual params body scope dV kV doc pm an cdv ct) (body := body) (binds := binds) hroom (Xs _ _ ho) rfl Ts.nolimit (codeRec_of Xs hcd) rfl hbind hcell hloc (fun h₁ hns hk₁ => ?_) hco hgen hk
  have hst : H₀.StaysIn (hideAll s.heap (news.map (·.1))) := stays_hide st _ fun a ha => by
    obtain ⟨q, hq, rfl⟩ := List.mem_map.mp ha
    exact (hnews q hq).1
  refine wpAny_mono (h _ _ h₁ _ rfl rfl (X.keeps hst) (T.keeps hst) ⟨hns, fun b o e => hk₁ b o (of_hideAll _ e), Nat.le_of_eq (hideAll_size _ _)⟩
    (fun p hp => ⟨hk₁ _ _ (hnews p hp).2, Nat.ne_of_lt (Heap.lt_size (hnews p hp).2), hideAll_none _ (List.mem_map_of_mem hp)⟩) (fun p hp => Heap.lt_size (hnews p hp).2)) (fun _ _ q => q) fun _ _ e => e.elim
end
/-- the text that a loop walks stands -/
noncomputable def ReadyS (x : Str) (B : Heap) (L : Addr) (s : Shared) (J : (Str → Option Value) → List (Addr × Obj) → Prop) (xv : Value) (s₁ : Shared) : Prop :=
  ∃ t m news h₁ tk₁, xv = .str x t ∧ s₁ = { s with heap := h₁, toks := tk₁ } ∧ Fr B L h₁ m ∧ News B L h₁ news ∧ J m news
noncomputable def TurnedS (B : Heap) (L I : Addr) (oI : Obj) (s : Shared) (J : (Str → Option Value) → List (Addr × Obj) → Prop) (Qb : Shared → Prop) (f : Flow) (s' : Shared) : Prop :=
  match f with
  | .ret _ => False
  | .brk => Qb s'
  | _ => ∃ h' tk' m' news', s' = { s with heap := h', toks := tk' } ∧ Fr B L h' m' ∧ News B L h' ((I, oI) :: news') ∧ (∀ p ∈ news', @Ne Nat p.1 I) ∧ J m' news'
section
variable {prog : Program} {w : World} {A : Around} {s : Shared} {env : Env} {B : Heap} {v : Str} {px pos : Pos} {iter : Expr} {body : List Stmt}
theorem forStr {Q : Flow → Shared → Prop} {L : Addr} {x : Str} (J : Nat → (Str → Option Value) → List (Addr × Obj) → Prop) (hL : env.locals = L)
    (hh : A.handled = none) (hx : env.kindOf v = some .local) (hp : (env.scope.kind == .class || (env.scope.kind == .module && env.locals != env.globals)) = false)
    (h : wpAny (model prog w) A (eval iter env) (ReadyS x B L s (J 0)) (fun _ _ => False) s)
    (turn : ∀ i c t m news h tk I oI, x.cps[i]? = some c → J i m news → (∀ p ∈ news, @Ne Nat p.1 I) → Fr B L h (fun y => if y = v then some (.str ⟨#[c]⟩ t) else m y) → News B L h ((I, oI) :: news) →
      wpAny (model prog w) A (execs body env) (TurnedS B L I oI s (J (i + 1)) fun s' => Q .next s') (fun _ _ => False) { s with heap := h, toks := tk })
    (done : ∀ m news h tk, J x.cps.size m news → Fr B L h m → News B L h news → Q .next { s with heap := h, toks := tk })
    (hs : ∀ x, foldedSetIterable iter env x = Pure.pure x := by intro _; rfl) :
    wpAny (model prog w) A (exec (.For (.Name v px) iter body [] pos) env) Q (fun _ _ => False) s := by
  subst hL
  refine wpAny_For (wpAny_mono h (fun xv s₁ h₁ => ?_) fun _ _ e => e.elim) hs
  revert h₁
  refine ex5k (fun t m news h₁ tk₁ => and5k (fun e93 e94 F N hj => ?_))
  subst e93 e94
  have core : ∀ (nm : String) (I : Addr) (g₀ : Heap), (∀ A' : Around, A'.handled = none → Walks prog w A' I [I] [I] x.cps.size (SignAt x) (fun i h => h.IsStrIter I nm x t i)) → g₀.IsStrIter I nm x t 0 → Fr B env.locals g₀ m → News B env.locals g₀ news → B.get? I = none → env.locals ≠ I → (∀ p ∈ news, p.1 ≠ I) →
      codeAny (model prog w) A (.forLoop (.Name v px) (.ref I) body [] env) (fun r s' => match r with | .ok f => Q f s' | .error e => cameBackBy (model prog w) A env (fun _ _ => False) e s') { s with heap := g₀, toks := tk₁ } := by
    intro nm I g₀ W hit F0 N0 hI0 hLI hnI
    refine codeAny_forLoop (fun k s' => ∃ h' tk m' news' i, s' = { s with heap := h', toks := tk } ∧ h'.IsStrIter I nm x t i ∧ Fr B env.locals h' m' ∧ News B env.locals h' news' ∧ (∀ p ∈ news', p.1 ≠ I) ∧ J i m' news' ∧ i ≤ x.cps.size ∧ k = x.cps.size + 1 - i) ?_ (x.cps.size + 1)
      ⟨g₀, tk₁, m, news, 0, rfl, hit, F0, N0, hnI, hj, Nat.zero_le _, rfl⟩
    intro k s'
    refine ex5k (fun h' tk m' news' i => and8k (fun e91 hst F' N' hnI' hJ hi e92 => ?_))
    subst e91 e92
    have keepB : ∀ h₂ : Heap, (∀ b o, b ∉ [I] → h'.get? b = some o → h₂.get? b = some o) → Fr B env.locals h₂ m' ∧ News B env.locals h₂ news' := fun h₂ hk =>
      ⟨⟨F'.ns.at' fun o e => hk _ o (fun q => hLI (List.mem_singleton.mp q)) e, fun b o e => hk b o (fun q => by rw [List.mem_singleton.mp q, hI0] at e; cases e) (F'.keep b o e), F'.above⟩, fun p hp => ⟨hk _ _ (fun q => hnI' p hp (List.mem_singleton.mp q)) (N' p hp).1, (N' p hp).2⟩⟩
    by_cases hlt : i < x.cps.size
    · refine (W A hh).item i _ _ _ hlt hst fun vv h₂ tk₂ hP hit₂ hk => ?_
      obtain ⟨c, u, hc, rfl⟩ := hP
      obtain ⟨F₁, N₁⟩ := keepB h₂ hk
      refine wpAny_assign_Name (wpAny_storeName_local hx F₁.ns (fun h₃ hn₃ hs₃ => ?_) hp)
      have F₂ := F₁.set hn₃ hs₃
      have N₂ : News B env.locals h₃ news' := N₁.set hs₃
      obtain ⟨oI, hoI, hcI, hdI⟩ := hit₂
      have hoI₃ : h₃.get? I = some oI := (hs₃.2 I fun q => hLI q.symm).trans hoI
      have N₃ : News B env.locals h₃ ((I, oI) :: news') := fun p hp => by
        rcases List.mem_cons.mp hp with rfl | hp
        · exact ⟨hoI₃, fun q => hLI q.symm, hI0⟩
        · exact N₂ p hp
      refine wpAny_mono (turn i c u m' news' h₃ _ I oI hc hJ hnI' F₂ N₃) (fun f s₃ hf => ?_) fun _ _ e => e.elim
      have fin : (∃ h' tk' m'' news'', s₃ = { s with heap := h', toks := tk' } ∧ Fr B env.locals h' m'' ∧ News B env.locals h' ((I, oI) :: news'') ∧ (∀ p ∈ news'', @Ne Nat p.1 I) ∧ J (i + 1) m'' news'') →
          ∃ k, k < x.cps.size + 1 - i ∧ ∃ h' tk m' news' i, s₃ = { s with heap := h', toks := tk } ∧ h'.IsStrIter I nm x t i ∧ Fr B env.locals h' m' ∧ News B env.locals h' news' ∧ (∀ p ∈ news', p.1 ≠ I) ∧ J i m' news' ∧ i ≤ x.cps.size ∧ k = x.cps.size + 1 - i := by
        rintro ⟨h₄, tk₄, m₄, news₄, e, F₄, N₄, hc₄, hJ₄⟩
        exact ⟨x.cps.size + 1 - (i + 1), by omega, h₄, tk₄, m₄, news₄, i + 1, e, ⟨oI, (N₄ _ (.head _)).1, hcI, hdI⟩, F₄, fun p hp => N₄ p (.tail _ hp), hc₄, hJ₄, by omega, rfl⟩
      cases f with
      | ret v => exact hf.elim
      | brk => exact hf
      | next => exact fin hf
      | cont => exact fin hf
    · have hin : i = x.cps.size := by omega
      subst hin
      refine (W A hh).done _ _ _ hst fun h₂ tk₂ hk => wpAny_execs_nil ?_
      obtain ⟨F₁, N₁⟩ := keepB h₂ hk
      exact done m' news' h₂ tk₂ hJ F₁ N₁
  have hI0 : B.get? h₁.objs.size = none := next_is_new F
  have hLI : env.locals ≠ h₁.objs.size := fun e => absurd F.ns.lt (e ▸ Nat.lt_irrefl _)
  have hnI : ∀ p ∈ news, p.1 ≠ h₁.objs.size := fun p hp => Nat.ne_of_lt (Heap.lt_size (N p hp).1)
  cases ha : x.cps.all (· < 128)
  · exact wpAny_pyIter_wide ha (core "str_iterator" _ _ (fun A' hA => Walks.strWide hA _ x t) ⟨_, Heap.get?_push_size _ rfl, rfl, rfl⟩ (F.push _) (fun p hp => ⟨Heap.get?_push_of_some _ (N p hp).1, (N p hp).2⟩) hI0 hLI hnI)
  · exact wpAny_pyIter_ascii ha (core "str_ascii_iterator" _ _ (fun A' hA => Walks.strAscii hA _ x t) ⟨_, Heap.get?_push_size _ rfl, rfl, rfl⟩ (F.push _) (fun p hp => ⟨Heap.get?_push_of_some _ (N p hp).1, (N p hp).2⟩) hI0 hLI hnI)
end
end Mine
end
theorem Mine.fresh_WI1s : True ∧ True := by
  w_on
  w_top off
  walk1
  all_goals trivial
/-! text WI1s -/
section
open PySem PySem.W PyProof.Rows PySem.Spec PySem.Calls
namespace Mine
theorem ne_sp {c : Nat} (h : ¬ c = 32) : ((⟨#[c]⟩ : Str) == Str.ofString " ") = false := by
  rw [show Str.ofString " " = (⟨#[32]⟩ : Str) from by decide +kernel]
  refine beq_false_of_ne fun e => h ?_
  injection e with e
  simpa using e
theorem ne_tb {c : Nat} (h : ¬ c = 9) : ((⟨#[c]⟩ : Str) == Str.ofString "\t") = false := by
  rw [show Str.ofString "\t" = (⟨#[9]⟩ : Str) from by decide +kernel]
  refine beq_false_of_ne fun e => h ?_
  injection e with e
  simpa using e
theorem ws_norm {b' n' nt' c' vc nt n b C : Value} {l : List (Str × Value)} :
    (fun y => if y = Str.ofString "b" then some b' else if y = Str.ofString "count" then some c' else if y = Str.ofString "nt" then some nt' else if y = Str.ofString "n" then some n' else if y = Str.ofString "ch" then some vc else List.lookup y ((Str.ofString "nt", nt) :: (Str.ofString "n", n) :: (Str.ofString "b", b) :: (Str.ofString "count", C) :: l)) =
    fun y => if y = Str.ofString "ch" then some vc else List.lookup y ((Str.ofString "nt", nt') :: (Str.ofString "n", n') :: (Str.ofString "b", b') :: (Str.ofString "count", c') :: l) := by
  funext y
  simp only [lookup_ite2]
  by_cases h1 : y = Str.ofString "b"
  · subst h1; repeat (first | rw [if_pos rfl] | rw [if_neg (by decide +kernel)])
  by_cases h2 : y = Str.ofString "count"
  · subst h2; repeat (first | rw [if_pos rfl] | rw [if_neg (by decide +kernel)])
  by_cases h3 : y = Str.ofString "nt"
  · subst h3; repeat (first | rw [if_pos rfl] | rw [if_neg (by decide +kernel)])
  by_cases h4 : y = Str.ofString "n"
  · subst h4; repeat (first | rw [if_pos rfl] | rw [if_neg (by decide +kernel)])
  simp only [if_neg h1, if_neg h2, if_neg h3, if_neg h4]
theorem ws_norm_b {b' n' nt' vc nt n b C : Value} {l : List (Str × Value)} :
    (fun y => if y = Str.ofString "b" then some b' else if y = Str.ofString "nt" then some nt' else if y = Str.ofString "n" then some n' else if y = Str.ofString "ch" then some vc else List.lookup y ((Str.ofString "nt", nt) :: (Str.ofString "n", n) :: (Str.ofString "b", b) :: (Str.ofString "count", C) :: l)) =
    fun y => if y = Str.ofString "ch" then some vc else List.lookup y ((Str.ofString "nt", nt') :: (Str.ofString "n", n') :: (Str.ofString "b", b') :: (Str.ofString "count", C) :: l) := by
  funext y
  simp only [lookup_ite2]
  by_cases h1 : y = Str.ofString "b"
  · subst h1; repeat (first | rw [if_pos rfl] | rw [if_neg (by decide +kernel)])
  by_cases h3 : y = Str.ofString "nt"
  · subst h3; repeat (first | rw [if_pos rfl] | rw [if_neg (by decide +kernel)])
  by_cases h4 : y = Str.ofString "n"
  · subst h4; repeat (first | rw [if_pos rfl] | rw [if_neg (by decide +kernel)])
  simp only [if_neg h1, if_neg h3, if_neg h4]
theorem ws_norm_s {b' n' vc nt n b C : Value} {l : List (Str × Value)} :
    (fun y => if y = Str.ofString "b" then some b' else if y = Str.ofString "n" then some n' else if y = Str.ofString "ch" then some vc else List.lookup y ((Str.ofString "nt", nt) :: (Str.ofString "n", n) :: (Str.ofString "b", b) :: (Str.ofString "count", C) :: l)) =
    fun y => if y = Str.ofString "ch" then some vc else List.lookup y ((Str.ofString "nt", nt) :: (Str.ofString "n", n') :: (Str.ofString "b", b') :: (Str.ofString "count", C) :: l) := by
  funext y
  simp only [lookup_ite2]
  by_cases h1 : y = Str.ofString "b"
  · subst h1; repeat (first | rw [if_pos rfl] | rw [if_neg (by decide +kernel)])
  by_cases h4 : y = Str.ofString "n"
  · subst h4; repeat (first | rw [if_pos rfl] | rw [if_neg (by decide +kernel)])
  simp only [if_neg h1, if_neg h4]
theorem nat_add1 (k : Nat) : ((k : Int) + 1) = ((k + 1 : Nat) : Int) := rfl
theorem sp_eq : ((⟨#[32]⟩ : Str) == Str.ofString " ") = true := by decide +kernel
theorem tb_eq : ((⟨#[9]⟩ : Str) == Str.ofString "\t") = true := by decide +kernel
theorem sp_tb : ((⟨#[9]⟩ : Str) == Str.ofString " ") = false := by decide +kernel
theorem flat_rep {k : Int} : (List.replicate k.toNat [(0 : Int)]).flatten = List.replicate k.toNat 0 := by
  induction k.toNat with
  | zero => rfl
  | succ n ih => rw [List.replicate_succ, List.replicate_succ, List.flatten_cons, ih]; rfl
set_option maxRecDepth 100000 in
set_option maxHeartbeats 8000000 in
theorem wi1s {w : World} {loose : List Str} {mean : ExcName → Option Value} {mg mb : Str → Option Value} {dp un : Nat} {gd : Option (List Code)} {fr : Option (List Env)} {B : Heap} {L : Addr} {s : Shared} {qual : Str} {body : List Stmt} {scope : Scope} {cdv : Value} {X0 DX C I : Addr} {x : Str} {tx tS tT t1 t2 t3 tc : Tok} {n nt b c nC nd : Nat} {vs : List Value} {cs : List Int} {oI : Obj} {es : List DictEntry}
    (LD : DefAt (hd.heap_39 w.params) 89 qual body scope cdv) (X : (hd.heap_39 w.params).In B) (T : Top hd.view_39 loose mean mg mb B) (hdp : dp + 10 < recursionLimit) (hun : un + 100 < cLine)
    (hne : @Ne Nat X0 DX) (hC1 : @Ne Nat C X0) (hC2 : @Ne Nat C DX) (hC3 : @Ne Nat C I) (hIs : IntsAre vs cs) (hb8 : b ≤ 20) (hl8 : cs.length ≤ 20) (hc : c = 32)
    (F : Fr B L s.heap (fun y => (if y = Str.ofString "ch" then some (.str ⟨#[c]⟩ tc) else List.lookup y [(Str.ofString "nt", .int ((nt : Nat) : Int) t1), (Str.ofString "n", .int ((n : Nat) : Int) t2), (Str.ofString "b", .int ((b : Nat) : Int) t3), (Str.ofString "count", .ref C), (Str.ofString "S", .str (Str.ofString " ") tS), (Str.ofString "T", .str (Str.ofString "\t") tT), (Str.ofString "ws", .str x tx), (Str.ofString "self", .ref X0)]))) (N : News B L s.heap [(I, oI), (C, listOf vs.toArray nC), (X0, instObj 134 DX), (DX, dictOf es nd)]) :
    wpAny (model PySem.Challenge.rw_tl0019_01.row.prog w) (Ar dp un gd fr) (execs (forBody (body.drop 4)) (envOf qual scope L 89 cdv)) (NxF B L s (fun m news => ∃ t2 t3, m = (fun y => if y = Str.ofString "ch" then some (.str ⟨#[c]⟩ tc) else List.lookup y [(Str.ofString "nt", .int ((nt : Nat) : Int) t1), (Str.ofString "n", .int ((n + 1 : Nat) : Int) t2), (Str.ofString "b", .int ((b + 1 : Nat) : Int) t3), (Str.ofString "count", .ref C), (Str.ofString "S", .str (Str.ofString " ") tS), (Str.ofString "T", .str (Str.ofString "\t") tT), (Str.ofString "ws", .str x tx), (Str.ofString "self", .ref X0)]) ∧ news = [(I, oI), (C, listOf vs.toArray nC), (X0, instObj 134 DX), (DX, dictOf es nd)])) (fun _ _ => False) s := by
  revert X
  k_fill
  intro X
  refine hideA ?_
  intro Q9 hQ9
  have hE := DefAt.eq LD (by k_dflt k_is)
  obtain ⟨rfl, rfl, rfl, rfl⟩ := hE
  clear LD
  dsimp only [List.drop, List.take]
  dsimp only [forBody, List.drop, List.take]
  k_steps
  · rename Fr _ _ _ _ => F9
    rw [ws_norm_s, nat_add1, nat_add1] at F9
    refine hQ9 _ _ ?_
    exact NxF.of F9 (by assumption) ⟨_, _, rfl, rfl⟩ (fun _ hp => hp)
  all_goals (exfalso; rename (_ == Str.ofString " ") = false => hq; subst hc; rw [sp_eq] at hq; cases hq)

end Mine
end
theorem Mine.fresh_WI1a : True ∧ True := by
  w_on
  w_top off
  walk1
  all_goals trivial
/-! text WI1a -/
section
open PySem PySem.W PyProof.Rows PySem.Spec PySem.Calls
namespace Mine
set_option maxRecDepth 100000 in
set_option maxHeartbeats 8000000 in
theorem wi1a {w : World} {loose : List Str} {mean : ExcName → Option Value} {mg mb : Str → Option Value} {dp un : Nat} {gd : Option (List Code)} {fr : Option (List Env)} {B : Heap} {L : Addr} {s : Shared} {qual : Str} {body : List Stmt} {scope : Scope} {cdv : Value} {X0 DX C I : Addr} {x : Str} {tx tS tT t1 t2 t3 tc : Tok} {n nt b c nC nd : Nat} {vs : List Value} {cs : List Int} {oI : Obj} {es : List DictEntry}
    (LD : DefAt (hd.heap_39 w.params) 89 qual body scope cdv) (X : (hd.heap_39 w.params).In B) (T : Top hd.view_39 loose mean mg mb B) (hdp : dp + 10 < recursionLimit) (hun : un + 100 < cLine)
    (hne : @Ne Nat X0 DX) (hC1 : @Ne Nat C X0) (hC2 : @Ne Nat C DX) (hC3 : @Ne Nat C I) (hIs : IntsAre vs cs) (hb8 : b ≤ 20) (hl8 : cs.length ≤ 20) (hc : c = 9) (hba : cs.length ≤ b)
    (F : Fr B L s.heap (fun y => (if y = Str.ofString "ch" then some (.str ⟨#[c]⟩ tc) else List.lookup y [(Str.ofString "nt", .int ((nt : Nat) : Int) t1), (Str.ofString "n", .int ((n : Nat) : Int) t2), (Str.ofString "b", .int ((b : Nat) : Int) t3), (Str.ofString "count", .ref C), (Str.ofString "S", .str (Str.ofString " ") tS), (Str.ofString "T", .str (Str.ofString "\t") tT), (Str.ofString "ws", .str x tx), (Str.ofString "self", .ref X0)]))) (N : News B L s.heap [(I, oI), (C, listOf vs.toArray nC), (X0, instObj 134 DX), (DX, dictOf es nd)]) :
    wpAny (model PySem.Challenge.rw_tl0019_01.row.prog w) (Ar dp un gd fr) (execs (forBody (body.drop 4)) (envOf qual scope L 89 cdv)) (NxF B L s (fun m news => ∃ C' t1 t2 t3, ∃ vs' : List Value, ∃ nC', m = (fun y => if y = Str.ofString "ch" then some (.str ⟨#[c]⟩ tc) else List.lookup y [(Str.ofString "nt", .int ((nt + 1 : Nat) : Int) t1), (Str.ofString "n", .int ((n + 1 : Nat) : Int) t2), (Str.ofString "b", .int ((0 : Nat) : Int) t3), (Str.ofString "count", .ref C'), (Str.ofString "S", .str (Str.ofString " ") tS), (Str.ofString "T", .str (Str.ofString "\t") tT), (Str.ofString "ws", .str x tx), (Str.ofString "self", .ref X0)]) ∧ IntsAre vs' ((cs ++ List.replicate (b + 1 - cs.length) 0).set b ((cs ++ List.replicate (b + 1 - cs.length) 0).getD b 0 + 1)) ∧ news = [(I, oI), (C', listOf vs'.toArray nC'), (X0, instObj 134 DX), (DX, dictOf es nd)] ∧ @Ne Nat C' X0 ∧ @Ne Nat C' DX ∧ @Ne Nat C' I)) (fun _ _ => False) s := by
  revert X
  k_fill
  intro X
  refine hideA ?_
  intro Q9 hQ9
  have hE := DefAt.eq LD (by k_dflt k_is)
  obtain ⟨rfl, rfl, rfl, rfl⟩ := hE
  clear LD
  dsimp only [List.drop, List.take]
  dsimp only [forBody, List.drop, List.take]
  k_steps
  · exfalso; rename (_ == Str.ofString " ") = true => hq; subst hc; rw [sp_tb] at hq; cases hq
  · rename Fr _ _ _ _ => F9
    rename News _ _ _ _ => N9
    rename IntsAre (List.set _ _ _) _ => hW
    rw [ws_norm, nat_add1, nat_add1] at F9
    rw [flat_rep, show ((b : Int) - (cs.length : Int) + 1).toNat = b + 1 - cs.length from sub_one (by assumption), Int.toNat_natCast] at hW
    rw [flat_rep, show ((b : Int) - (cs.length : Int) + 1).toNat = b + 1 - cs.length from sub_one (by assumption), Int.toNat_natCast] at N9
    refine hQ9 _ _ ?_
    refine NxF.of F9 N9 ⟨_, _, _, _, _, 0, rfl, hW, rfl, ?_, ?_, ?_⟩ (by intro p hp; simp only [List.mem_cons] at hp ⊢; rcases hp with h | h | h | h | h; exact .inr (.inr (.inr (.inl h))); exact .inl h; exact .inr (.inr (.inr (.inr (.inr (.inl h))))); exact .inr (.inr (.inr (.inr (.inr (.inr (.inl h)))))); cases h)
    all_goals omega
  · exfalso; rename (_ == Str.ofString "\t") = false => hq; subst hc; rw [tb_eq] at hq; cases hq

end Mine
end
theorem Mine.fresh_WI1b : True ∧ True := by
  w_on
  w_top off
  walk1
  all_goals trivial
/-! text WI1b -/
section
open PySem PySem.W PyProof.Rows PySem.Spec PySem.Calls
namespace Mine
set_option maxRecDepth 100000 in
set_option maxHeartbeats 8000000 in
theorem wi1b {w : World} {loose : List Str} {mean : ExcName → Option Value} {mg mb : Str → Option Value} {dp un : Nat} {gd : Option (List Code)} {fr : Option (List Env)} {B : Heap} {L : Addr} {s : Shared} {qual : Str} {body : List Stmt} {scope : Scope} {cdv : Value} {X0 DX C I : Addr} {x : Str} {tx tS tT t1 t2 t3 tc : Tok} {n nt b c nC nd : Nat} {vs : List Value} {cs : List Int} {oI : Obj} {es : List DictEntry}
    (LD : DefAt (hd.heap_39 w.params) 89 qual body scope cdv) (X : (hd.heap_39 w.params).In B) (T : Top hd.view_39 loose mean mg mb B) (hdp : dp + 10 < recursionLimit) (hun : un + 100 < cLine)
    (hne : @Ne Nat X0 DX) (hC1 : @Ne Nat C X0) (hC2 : @Ne Nat C DX) (hC3 : @Ne Nat C I) (hIs : IntsAre vs cs) (hb8 : b ≤ 20) (hl8 : cs.length ≤ 20) (hc : c = 9) (hba : b < cs.length)
    (F : Fr B L s.heap (fun y => (if y = Str.ofString "ch" then some (.str ⟨#[c]⟩ tc) else List.lookup y [(Str.ofString "nt", .int ((nt : Nat) : Int) t1), (Str.ofString "n", .int ((n : Nat) : Int) t2), (Str.ofString "b", .int ((b : Nat) : Int) t3), (Str.ofString "count", .ref C), (Str.ofString "S", .str (Str.ofString " ") tS), (Str.ofString "T", .str (Str.ofString "\t") tT), (Str.ofString "ws", .str x tx), (Str.ofString "self", .ref X0)]))) (N : News B L s.heap [(I, oI), (C, listOf vs.toArray nC), (X0, instObj 134 DX), (DX, dictOf es nd)]) :
    wpAny (model PySem.Challenge.rw_tl0019_01.row.prog w) (Ar dp un gd fr) (execs (forBody (body.drop 4)) (envOf qual scope L 89 cdv)) (NxF B L s (fun m news => ∃ C' t1 t2 t3, ∃ vs' : List Value, ∃ nC', m = (fun y => if y = Str.ofString "ch" then some (.str ⟨#[c]⟩ tc) else List.lookup y [(Str.ofString "nt", .int ((nt + 1 : Nat) : Int) t1), (Str.ofString "n", .int ((n + 1 : Nat) : Int) t2), (Str.ofString "b", .int ((0 : Nat) : Int) t3), (Str.ofString "count", .ref C'), (Str.ofString "S", .str (Str.ofString " ") tS), (Str.ofString "T", .str (Str.ofString "\t") tT), (Str.ofString "ws", .str x tx), (Str.ofString "self", .ref X0)]) ∧ IntsAre vs' (cs.set b (cs.getD b 0 + 1)) ∧ news = [(I, oI), (C', listOf vs'.toArray nC'), (X0, instObj 134 DX), (DX, dictOf es nd)] ∧ @Ne Nat C' X0 ∧ @Ne Nat C' DX ∧ @Ne Nat C' I)) (fun _ _ => False) s := by
  revert X
  k_fill
  intro X
  refine hideA ?_
  intro Q9 hQ9
  have hE := DefAt.eq LD (by k_dflt k_is)
  obtain ⟨rfl, rfl, rfl, rfl⟩ := hE
  clear LD
  dsimp only [List.drop, List.take]
  dsimp only [forBody, List.drop, List.take]
  k_steps
  · exfalso; rename (_ == Str.ofString " ") = true => hq; subst hc; rw [sp_tb] at hq; cases hq
  · rename Fr _ _ _ _ => F9
    rename News _ _ _ _ => N9
    rename IntsAre (List.set _ _ _) _ => hW
    rw [ws_norm_b, nat_add1, nat_add1] at F9
    rw [Int.toNat_natCast] at hW
    refine hQ9 _ _ ?_
    exact NxF.of F9 N9 ⟨_, _, _, _, _, nC, rfl, hW, rfl, hC1, hC2, hC3⟩ (fun _ hp => hp)
  · exfalso; rename (_ == Str.ofString "\t") = false => hq; subst hc; rw [tb_eq] at hq; cases hq

end Mine
end
theorem Mine.fresh_WI1x : True ∧ True := by
  w_on
  w_top off
  walk1
  all_goals trivial
/-! text WI1x -/
section
open PySem PySem.W PyProof.Rows PySem.Spec PySem.Calls
namespace Mine
noncomputable def NxK (B : Heap) (L : Addr) (s : Shared) (P : (Str → Option Value) → List (Addr × Obj) → Prop) (f : Flow) (s' : Shared) : Prop :=
  f = .brk ∧ ∃ h' tk' m news, s' = { s with heap := h', toks := tk' } ∧ Fr B L h' m ∧ News B L h' news ∧ P m news
theorem NxK.cont {B : Heap} {L : Addr} {s : Shared} {P : (Str → Option Value) → List (Addr × Obj) → Prop} {G : Flow → Shared → Prop} (k : ∀ h' tk' m news, Fr B L h' m → News B L h' news → P m news → G .brk { s with heap := h', toks := tk' }) : ∀ f s', NxK B L s P f s' → G f s' := by
  rintro f s' ⟨rfl, h', tk', m, news, rfl, F, N, p⟩
  exact k h' tk' m news F N p
set_option maxRecDepth 100000 in
set_option maxHeartbeats 8000000 in
theorem wi1x {w : World} {loose : List Str} {mean : ExcName → Option Value} {mg mb : Str → Option Value} {dp un : Nat} {gd : Option (List Code)} {fr : Option (List Env)} {B : Heap} {L : Addr} {s : Shared} {qual : Str} {body : List Stmt} {scope : Scope} {cdv : Value} {X0 DX C I : Addr} {x : Str} {tx tS tT t1 t2 t3 tc : Tok} {n nt b c nC nd : Nat} {vs : List Value} {cs : List Int} {oI : Obj} {es : List DictEntry}
    (LD : DefAt (hd.heap_39 w.params) 89 qual body scope cdv) (X : (hd.heap_39 w.params).In B) (T : Top hd.view_39 loose mean mg mb B) (hdp : dp + 10 < recursionLimit) (hun : un + 100 < cLine)
    (hne : @Ne Nat X0 DX) (hC1 : @Ne Nat C X0) (hC2 : @Ne Nat C DX) (hC3 : @Ne Nat C I) (hIs : IntsAre vs cs) (hb8 : b ≤ 20) (hl8 : cs.length ≤ 20) (hc1 : ¬ c = 32) (hc2 : ¬ c = 9)
    (F : Fr B L s.heap (fun y => (if y = Str.ofString "ch" then some (.str ⟨#[c]⟩ tc) else List.lookup y [(Str.ofString "nt", .int ((nt : Nat) : Int) t1), (Str.ofString "n", .int ((n : Nat) : Int) t2), (Str.ofString "b", .int ((b : Nat) : Int) t3), (Str.ofString "count", .ref C), (Str.ofString "S", .str (Str.ofString " ") tS), (Str.ofString "T", .str (Str.ofString "\t") tT), (Str.ofString "ws", .str x tx), (Str.ofString "self", .ref X0)]))) (N : News B L s.heap [(I, oI), (C, listOf vs.toArray nC), (X0, instObj 134 DX), (DX, dictOf es nd)]) :
    wpAny (model PySem.Challenge.rw_tl0019_01.row.prog w) (Ar dp un gd fr) (execs (forBody (body.drop 4)) (envOf qual scope L 89 cdv)) (NxK B L s (fun m news => m = (fun y => if y = Str.ofString "ch" then some (.str ⟨#[c]⟩ tc) else List.lookup y [(Str.ofString "nt", .int ((nt : Nat) : Int) t1), (Str.ofString "n", .int ((n : Nat) : Int) t2), (Str.ofString "b", .int ((b : Nat) : Int) t3), (Str.ofString "count", .ref C), (Str.ofString "S", .str (Str.ofString " ") tS), (Str.ofString "T", .str (Str.ofString "\t") tT), (Str.ofString "ws", .str x tx), (Str.ofString "self", .ref X0)]) ∧ news = [(I, oI), (C, listOf vs.toArray nC), (X0, instObj 134 DX), (DX, dictOf es nd)])) (fun _ _ => False) s := by
  revert X
  k_fill
  intro X
  refine hideA ?_
  intro Q9 hQ9
  have hE := DefAt.eq LD (by k_dflt k_is)
  obtain ⟨rfl, rfl, rfl, rfl⟩ := hE
  clear LD
  dsimp only [List.drop, List.take]
  dsimp only [forBody, List.drop, List.take]
  k_steps
  all_goals first
    | (exfalso; rename (_ == Str.ofString " ") = true => hq; rw [ne_sp hc1] at hq; cases hq; done)
    | (exfalso; rename (_ == Str.ofString "\t") = true => hq; rw [ne_tb hc2] at hq; cases hq; done)
    | (refine hQ9 _ _ ?_; refine ⟨rfl, _, _, _, _, rfl, by assumption, by assumption, rfl, rfl⟩)

end Mine
end
theorem Mine.fresh_WI4 : True ∧ True := by
  w_on
  w_top off
  walk1
  all_goals trivial
/-! text WI4 -/
section
open PySem PySem.W PyProof.Rows PySem.Spec PySem.Calls
namespace Mine
noncomputable def csP (ll : Nat) : Nat → List Int
  | 0 => []
  | 1 => (List.replicate (ll + 1) 0).set ll ((List.replicate (ll + 1) 0).getD ll 0 + 1)
  | j + 2 => (csP ll (j + 1)).set 0 ((csP ll (j + 1)).getD 0 0 + 1)
theorem csP_len (ll : Nat) : ∀ j, (csP ll (j + 1)).length = ll + 1
  | 0 => by simp [csP]
  | j + 1 => by simp only [csP, List.length_set]; exact csP_len ll j
noncomputable def bJ (ll i : Nat) : Nat := if i ≤ ll then i else 0
theorem ch_twice {a : Value} {uc : Option Value} {l : List (Str × Value)} {n : Str} : (fun y => if y = n then some a else (fun y => if y = n then uc else List.lookup y l) y) = fun y => if y = n then some a else List.lookup y l := by
  funext y
  by_cases h : y = n
  · rw [if_pos h, if_pos h]
  · simp only [if_neg h]
set_option maxRecDepth 100000 in
set_option maxHeartbeats 8000000 in
theorem wi4 {w : World} {loose : List Str} {mean : ExcName → Option Value} {mg mb : Str → Option Value} {dp un : Nat} {gd : Option (List Code)} {fr : Option (List Env)} {B : Heap} {L : Addr} {s : Shared} {qual : Str} {body : List Stmt} {scope : Scope} {cdv : Value} {X0 DX C : Addr} {x : Str} {tx tS tT t1 t2 t3 : Tok} {n nt b nd ll k q : Nat} {es : List DictEntry}
    (LD : DefAt (hd.heap_39 w.params) 89 qual body scope cdv) (X : (hd.heap_39 w.params).In B) (T : Top hd.view_39 loose mean mg mb B) (hdp : dp + 10 < recursionLimit) (hun : un + 100 < cLine)
    (hne : @Ne Nat X0 DX) (hC1 : @Ne Nat C X0) (hC2 : @Ne Nat C DX) (hx1 : ∀ i, i < ll → x.cps[i]? = some 32) (hx2 : ∀ i, ll ≤ i → i < ll + k → x.cps[i]? = some 9) (hx3 : x.cps[ll + k]? = some q) (hq1 : ¬ q = 32) (hq2 : ¬ q = 9) (hll : ll ≤ 10) (hk : 1 ≤ k) (hk8 : k ≤ 8) (hraw : ∃ tr, es = [{ hash := PyData.keyHash w.params (Str.ofString "raw"), key := Value.str (Str.ofString "raw") tr, val := Value.str x tx }]) (hnd : nd = 1)
    (F : Fr B L s.heap (fun y => (List.lookup y [(Str.ofString "nt", .int ((0 : Nat) : Int) t1), (Str.ofString "n", .int ((0 : Nat) : Int) t2), (Str.ofString "b", .int ((0 : Nat) : Int) t3), (Str.ofString "count", .ref C), (Str.ofString "S", .str (Str.ofString " ") tS), (Str.ofString "T", .str (Str.ofString "\t") tT), (Str.ofString "ws", .str x tx), (Str.ofString "self", .ref X0)]))) (N : News B L s.heap [(C, listOf ([] : List Value).toArray 0), (X0, instObj 134 DX), (DX, dictOf es nd)]) :
    wpAny (model PySem.Challenge.rw_tl0019_01.row.prog w) (Ar dp un gd fr) (execs ((body.drop 4).take 1) (envOf qual scope L 89 cdv)) (NxF B L s (fun m news => ∃ (uc : Option Value) (C : Addr) (t1 t2 t3 : Tok) (vs : List Value) (nC : Nat), m = (fun y => if y = Str.ofString "ch" then uc else List.lookup y [(Str.ofString "nt", .int ((ll + k - ll : Nat) : Int) t1), (Str.ofString "n", .int ((ll + k : Nat) : Int) t2), (Str.ofString "b", .int ((bJ ll (ll + k) : Nat) : Int) t3), (Str.ofString "count", .ref C), (Str.ofString "S", .str (Str.ofString " ") tS), (Str.ofString "T", .str (Str.ofString "\t") tT), (Str.ofString "ws", .str x tx), (Str.ofString "self", .ref X0)]) ∧ IntsAre vs (csP ll (ll + k - ll)) ∧ news = [(C, listOf vs.toArray nC), (X0, instObj 134 DX), (DX, dictOf es nd)] ∧ @Ne Nat C X0 ∧ @Ne Nat C DX)) (fun _ _ => False) s := by
  revert X
  k_fill
  intro X
  refine hideA ?_
  intro Q9 hQ9
  have hE := DefAt.eq LD (by k_dflt k_is)
  obtain ⟨rfl, rfl, rfl, rfl⟩ := hE
  dsimp only [List.drop, List.take]
  refine wpAny_execs_cons (forStr (B := B) (L := L) (x := x) (fun i m news => i ≤ ll + k ∧ ∃ (uc : Option Value) (C : Addr) (t1 t2 t3 : Tok) (vs : List Value) (nC : Nat), m = (fun y => if y = Str.ofString "ch" then uc else List.lookup y [(Str.ofString "nt", .int ((i - ll : Nat) : Int) t1), (Str.ofString "n", .int ((i : Nat) : Int) t2), (Str.ofString "b", .int ((bJ ll (i) : Nat) : Int) t3), (Str.ofString "count", .ref C), (Str.ofString "S", .str (Str.ofString " ") tS), (Str.ofString "T", .str (Str.ofString "\t") tT), (Str.ofString "ws", .str x tx), (Str.ofString "self", .ref X0)]) ∧ IntsAre vs (csP ll (i - ll)) ∧ news = [(C, listOf vs.toArray nC), (X0, instObj 134 DX), (DX, dictOf es nd)] ∧ @Ne Nat C X0 ∧ @Ne Nat C DX) rfl rfl (by rfl) (by rfl) ?_ ?_ ?_)
  · obtain ⟨tr, rfl⟩ := hraw
    subst hnd
    k_steps
    refine ⟨_, _, _, _, _, rfl, rfl, by assumption, by assumption, Nat.zero_le _, none, C, t1, t2, t3, [], 0, ?_, ?_, rfl, hC1, hC2⟩
    · rw [show 0 - ll = 0 from by omega, show bJ ll 0 = 0 from by unfold bJ; simp]
      funext y
      by_cases h : y = Str.ofString "ch"
      · rw [if_pos h, h]; simp only [lookup_ite2]; repeat (rw [if_neg (by decide +kernel)]); rfl
      · rw [if_neg h]
    · rw [show 0 - ll = 0 from by omega]; exact .nil
  · rintro i c t m news h tk I oI hc ⟨hi, uc, C, t1, t2, t3, vs, nC, rfl, hI, rfl, hC1, hC2⟩ hnI F1 N1
    clear F N
    rw [ch_twice] at F1
    have hC3 : @Ne Nat C I := hnI _ (.head _)
    have hX3 : @Ne Nat X0 I := hnI (X0, _) (.tail _ (.head _))
    have hD3 : @Ne Nat DX I := hnI (DX, _) (.tail _ (.tail _ (.head _)))
    have hb8 : bJ ll i ≤ 20 := by unfold bJ; split <;> omega
    by_cases h1 : i < ll
    · have hcc : c = 32 := by have := hx1 i h1; rw [hc] at this; exact Option.some.inj this
      have e1 : i + 1 - ll = i - ll := sub_low h1
      have e2 : bJ ll (i + 1) = bJ ll i + 1 := by unfold bJ; rw [if_pos (by omega), if_pos (by omega)]
      have hl8 : (csP ll (i - ll)).length ≤ 20 := by rw [show i - ll = 0 from by omega]; simp [csP]
      refine hideA ?_
      intro Q8 hQ8
      refine wpAny_mono (wi1s LD X T hdp hun hne hC1 hC2 hC3 hI hb8 hl8 hcc F1 N1) ?_ (fun _ _ (e : False) => e.elim)
      refine NxF.cont (fun h' tk' m news F2 N2 => ex2k (fun t2 t3 => and2k (fun e90 e91 => ?_)))
      subst e90 e91
      refine hQ8 _ _ ?_
      exact ⟨h', tk', _, _, rfl, F2, N2, hnI, by omega, _, C, t1, t2, t3, vs, nC, by rw [e1, e2], by rw [e1]; exact hI, rfl, hC1, hC2⟩
    · by_cases h2 : i < ll + k
      · have hcc : c = 9 := by have := hx2 i (by omega) h2; rw [hc] at this; exact Option.some.inj this
        have e1 : i + 1 - ll = i - ll + 1 := by omega
        have e2 : bJ ll (i + 1) = 0 := by unfold bJ; rw [if_neg (by omega)]
        by_cases h3 : i = ll
        · have e3 : i - ll = 0 := by omega
          have e4 : bJ ll i = ll := by unfold bJ; rw [if_pos (by omega), h3]
          rw [e3] at hI
          have hl8 : (csP ll 0).length ≤ 20 := by simp [csP]
          refine hideA ?_
          intro Q8 hQ8
          refine wpAny_mono (wi1a LD X T hdp hun hne hC1 hC2 hC3 hI hb8 hl8 hcc (by simp [csP]) F1 N1) ?_ (fun _ _ (e : False) => e.elim)
          refine NxF.cont (fun h' tk' m news F2 N2 => ex6k (fun C' t1 t2 t3 vs' nC' => and6k (fun e90 hI' e92 hn1 hn2 hn3 => ?_)))
          subst e90 e92
          refine hQ8 _ _ ?_
          refine ⟨h', tk', _, _, rfl, F2, N2, ?_, by omega, _, C', t1, t2, t3, vs', nC', by rw [e1, e2], ?_, rfl, hn1, hn2⟩
          · intro p hp
            simp only [List.mem_cons, List.not_mem_nil, or_false] at hp
            rcases hp with rfl | rfl | rfl
            · exact hn3
            · exact hX3
            · exact hD3
          · rw [e1, e3]
            rw [e4] at hI'
            exact hI'
        · obtain ⟨j, hj⟩ : ∃ j, i - ll = j + 1 := sub_up (by omega)
          have e4 : bJ ll i = 0 := by unfold bJ; rw [if_neg (by omega)]
          have hl7 := csP_len ll j
          rw [hj] at hI
          refine hideA ?_
          intro Q8 hQ8
          refine wpAny_mono (wi1b LD X T hdp hun hne hC1 hC2 hC3 hI hb8 (by omega) hcc (by omega) F1 N1) ?_ (fun _ _ (e : False) => e.elim)
          refine NxF.cont (fun h' tk' m news F2 N2 => ex6k (fun C' t1 t2 t3 vs' nC' => and6k (fun e90 hI' e92 hn1 hn2 hn3 => ?_)))
          subst e90 e92
          refine hQ8 _ _ ?_
          refine ⟨h', tk', _, _, rfl, F2, N2, ?_, by omega, _, C', t1, t2, t3, vs', nC', by rw [e1, e2], ?_, rfl, hn1, hn2⟩
          · intro p hp
            simp only [List.mem_cons, List.not_mem_nil, or_false] at hp
            rcases hp with rfl | rfl | rfl
            · exact hn3
            · exact hX3
            · exact hD3
          · rw [e1, hj]
            rw [e4] at hI'
            exact hI'
      · have hie : i = ll + k := by omega
        subst hie
        have hcc : c = q := by rw [hc] at hx3; exact Option.some.inj hx3
        subst hcc
        obtain ⟨j, hj⟩ : ∃ j, ll + k - ll = j + 1 := sub_up (Nat.lt_add_of_pos_right (by assumption))
        have hl7 := csP_len ll j
        refine wpAny_mono (wi1x LD X T hdp hun hne hC1 hC2 hC3 hI hb8 (by rw [hj]; omega) hq1 hq2 F1 N1) ?_ (fun _ _ (e : False) => e.elim)
        refine NxK.cont (fun h' tk' m news F2 N2 => and2k (fun e90 e91 => ?_))
        subst e90 e91
        exact wpAny_execs_nil (hQ9 _ _ (NxF.of F2 N2 ⟨_, C, t1, t2, t3, vs, nC, rfl, hI, rfl, hC1, hC2⟩ (fun _ hp => .tail _ hp)))
  · rintro m news h tk ⟨hi, _⟩
    exfalso
    obtain ⟨hlt, _⟩ := Array.getElem?_eq_some_iff.mp hx3
    omega

end Mine
end
theorem Mine.fresh_WI5 : True ∧ True := by
  w_on
  w_top off
  walk1
  all_goals trivial
/-! text WI5 -/
section
open PySem PySem.W PyProof.Rows PySem.Spec PySem.Calls
namespace Mine
set_option maxRecDepth 100000 in
set_option maxHeartbeats 8000000 in
theorem wi5 {w : World} {loose : List Str} {mean : ExcName → Option Value} {mg mb : Str → Option Value} {dp un : Nat} {gd : Option (List Code)} {fr : Option (List Env)} {B : Heap} {L : Addr} {s : Shared} {qual : Str} {body : List Stmt} {scope : Scope} {cdv : Value} {X0 DX C : Addr} {x : Str} {tx tS tT t1 t2 t3 : Tok} {n nt b nC : Nat} {vs : List Value} {cs : List Int} {uc : Option Value} {tr : Tok}
    (LD : DefAt (hd.heap_39 w.params) 89 qual body scope cdv) (X : (hd.heap_39 w.params).In B) (T : Top hd.view_39 loose mean mg mb B) (hdp : dp + 10 < recursionLimit) (hun : un + 100 < cLine)
    (hne : @Ne Nat X0 DX) (hC1 : @Ne Nat C X0) (hC2 : @Ne Nat C DX) (hI : IntsAre vs cs) (hl : cs.length ≤ 20)
    (F : Fr B L s.heap (fun y => (if y = Str.ofString "ch" then uc else List.lookup y [(Str.ofString "nt", .int ((nt : Nat) : Int) t1), (Str.ofString "n", .int ((n : Nat) : Int) t2), (Str.ofString "b", .int ((b : Nat) : Int) t3), (Str.ofString "count", .ref C), (Str.ofString "S", .str (Str.ofString " ") tS), (Str.ofString "T", .str (Str.ofString "\t") tT), (Str.ofString "ws", .str x tx), (Str.ofString "self", .ref X0)]))) (N : News B L s.heap [(C, listOf vs.toArray nC), (X0, instObj 134 DX), (DX, dictOf [{ hash := PyData.keyHash w.params (Str.ofString "raw"), key := Value.str (Str.ofString "raw") tr, val := Value.str x tx }] 1)]) :
    wpAny (model PySem.Challenge.rw_tl0019_01.row.prog w) (Ar dp un gd fr) (execs ((body.drop 5).take 4) (envOf qual scope L 89 cdv)) (NxF B L s (fun m news => ∃ D1 D2 ta tb te td sm, news = [(D1, ({ cls := Value.type "tuple", data := Data.seq #[Value.ref D2, Value.int ((b : Nat) : Int) t3] } : Obj)), (D2, ({ cls := Value.type "tuple", data := Data.seq vs.toArray } : Obj)), (X0, instObj 134 DX), (DX, dictOf [{ hash := PyData.keyHash w.params (Str.ofString "raw"), key := Value.str (Str.ofString "raw") tr, val := Value.str x tx }, { hash := PyData.keyHash w.params (Str.ofString "n"), key := Value.str (Str.ofString "n") ta, val := Value.int ((n : Nat) : Int) t2 }, { hash := PyData.keyHash w.params (Str.ofString "nt"), key := Value.str (Str.ofString "nt") tb, val := Value.int ((nt : Nat) : Int) t1 }, { hash := PyData.keyHash w.params (Str.ofString "norm"), key := Value.str (Str.ofString "norm") te, val := Value.ref D1 }, { hash := PyData.keyHash w.params (Str.ofString "is_simple"), key := Value.str (Str.ofString "is_simple") td, val := Value.bool sm }] 5)])) (fun _ _ => False) s := by
  revert X
  k_fill
  intro X
  refine hideA ?_
  intro Q9 hQ9
  have hE := DefAt.eq LD (by k_dflt k_is)
  obtain ⟨rfl, rfl, rfl, rfl⟩ := hE
  clear LD
  dsimp only [List.drop, List.take]
  k_steps
  rename News _ _ _ _ => N9
  have q9 := news_ne N9 (.tail _ (.head _)) (.tail _ (.tail _ (.tail _ (.tail _ (.head _))))) (by exact (by decide : (Value.type "tuple") ≠ .type "dict"))
  k_steps
  refine hQ9 _ _ ?_
  refine NxF.of (by assumption) (by assumption) ⟨_, _, _, _, _, _, _, rfl⟩ (by intro p hp; rcases List.mem_cons.mp hp with rfl | hp; exact .head _; rcases List.mem_cons.mp hp with rfl | hp; exact .tail _ (.head _); exact .tail _ (.tail _ (.tail _ hp)))

end Mine
end
theorem Mine.fresh_WI0 : True ∧ True := by
  w_on
  w_top off
  walk1
  all_goals trivial
/-! text WI0 -/
section
open PySem PySem.W PyProof.Rows PySem.Spec PySem.Calls
namespace Mine
theorem cons_if {n : Str} {v : Value} {m : Str → Option Value} {l : List (Str × Value)} (e : m = fun y => List.lookup y l) : (fun y => if y = n then some v else m y) = fun y => List.lookup y ((n, v) :: l) := by
  subst e
  exact lookup_if n v l
set_option maxRecDepth 100000 in
set_option maxHeartbeats 8000000 in
theorem wi0 {w : World} {loose : List Str} {mean : ExcName → Option Value} {mg mb : Str → Option Value} {dp un : Nat} {gd : Option (List Code)} {fr : Option (List Env)} {B : Heap} {L : Addr} {s : Shared} {qual : Str} {body : List Stmt} {scope : Scope} {cdv : Value} {X0 DX : Addr} {x : Str} {tx : Tok}
    (LD : DefAt (hd.heap_39 w.params) 89 qual body scope cdv) (X : (hd.heap_39 w.params).In B) (T : Top hd.view_39 loose mean mg mb B) (hdp : dp + 10 < recursionLimit) (hun : un + 100 < cLine)
    (hne : @Ne Nat X0 DX)
    (F : Fr B L s.heap (fun y => List.lookup y [(Str.ofString "ws", .str x tx), (Str.ofString "self", .ref X0)])) (N : News B L s.heap [(X0, instObj 134 DX), (DX, dictOf [] 0)]) :
    wpAny (model PySem.Challenge.rw_tl0019_01.row.prog w) (Ar dp un gd fr) (execs ((body.drop 0).take 4) (envOf qual scope L 89 cdv)) (NxF B L s (fun m news => ∃ C t1 t2 t3 tS tT tr, m = (fun y => List.lookup y [(Str.ofString "nt", .int ((0 : Nat) : Int) t1), (Str.ofString "n", .int ((0 : Nat) : Int) t2), (Str.ofString "b", .int ((0 : Nat) : Int) t3), (Str.ofString "count", .ref C), (Str.ofString "S", .str (Str.ofString " ") tS), (Str.ofString "T", .str (Str.ofString "\t") tT), (Str.ofString "ws", .str x tx), (Str.ofString "self", .ref X0)]) ∧ news = [(C, listOf #[] 0), (X0, instObj 134 DX), (DX, dictOf [{ hash := PyData.keyHash w.params (Str.ofString "raw"), key := Value.str (Str.ofString "raw") tr, val := Value.str x tx }] 1)] ∧ @Ne Nat C X0 ∧ @Ne Nat C DX)) (fun _ _ => False) s := by
  revert X
  k_fill
  intro X
  refine hideA ?_
  intro Q9 hQ9
  have hE := DefAt.eq LD (by k_dflt k_is)
  obtain ⟨rfl, rfl, rfl, rfl⟩ := hE
  clear LD
  dsimp only [List.drop, List.take]
  k_steps
  rename Fr _ _ _ _ => F9
  refine hQ9 _ _ ?_
  refine NxF.of F9 (by assumption) ⟨_, _, _, _, _, _, _, cons_if (cons_if (cons_if (cons_if (cons_if (cons_if rfl))))), rfl, ?_, ?_⟩ (by intro p hp; rcases List.mem_cons.mp hp with rfl | hp; exact .head _; exact .tail _ (.tail _ hp))
  all_goals omega

end Mine
end
theorem Mine.fresh_WSN : True ∧ True := by
  w_on
  w_top off
  walk1
  all_goals trivial
/-! text WSN -/
section
open PySem PySem.W PyProof.Rows PySem.Spec PySem.Calls
namespace Mine
theorem after_enter {B h₁ h₂ : Heap} {L L2 X0 DX D1 D2 : Addr} {m m2 : Str → Option Value} {oX oD oX' oD' o1 o2 : Obj} {news : List (Addr × Obj)} (F1 : Fr B L h₁ m) (N1 : News B L h₁ ((X0, oX) :: (DX, oD) :: news))
    (F2 : Fr (hideAll h₁ [X0, DX]) L2 h₂ m2) (N2 : News (hideAll h₁ [X0, DX]) L2 h₂ [(D1, o1), (D2, o2), (X0, oX'), (DX, oD')]) (hX : ∀ p ∈ news, p.1 ≠ X0) (hD : ∀ p ∈ news, p.1 ≠ DX) :
    Fr B L h₂ m ∧ News B L h₂ ((D1, o1) :: (D2, o2) :: (X0, oX') :: (DX, oD') :: news) := by
  have nX := N1 _ (.head _)
  have nD := N1 _ (.tail _ (.head _))
  have keep : ∀ b o, b ≠ X0 → b ≠ DX → h₁.get? b = some o → h₂.get? b = some o := fun b o q1 q2 e => F2.keep b o (hideAll_get _ e (by
    intro hm
    simp only [List.mem_cons, List.not_mem_nil, or_false] at hm
    exact hm.elim q1 q2))
  have hLX : L ≠ X0 := fun e => nX.2.1 e.symm
  have hLD : L ≠ DX := fun e => nD.2.1 e.symm
  obtain ⟨oL, es, n, hoL, _⟩ := F1.ns
  have hb : ∀ (D : Addr) (o : Obj), (D, o) ∈ [(D1, o1), (D2, o2)] → D ≠ L ∧ B.get? D = none := fun D o hm => by
    have q : (hideAll h₁ [X0, DX]).get? D = none := by
      simp only [List.mem_cons, List.not_mem_nil, or_false, Prod.mk.injEq] at hm
      rcases hm with ⟨rfl, rfl⟩ | ⟨rfl, rfl⟩
      · exact (N2 _ (.head _)).2.2
      · exact (N2 _ (.tail _ (.head _))).2.2
    have hin : ∀ b o, b ≠ X0 → b ≠ DX → h₁.get? b = some o → (hideAll h₁ [X0, DX]).get? b = some o := fun b o q1 q2 e => hideAll_get _ e (by
      intro hm
      simp only [List.mem_cons, List.not_mem_nil, or_false] at hm
      exact hm.elim q1 q2)
    refine ⟨fun e => ?_, ?_⟩
    · rw [e, hin L oL hLX hLD hoL] at q; cases q
    · cases hB : B.get? D with
      | none => rfl
      | some o' =>
        have e1 : D ≠ X0 := fun e => by
          have := nX.2.2
          dsimp only at this
          rw [← e, hB] at this; cases this
        have e2 : D ≠ DX := fun e => by
          have := nD.2.2
          dsimp only at this
          rw [← e, hB] at this; cases this
        rw [hin D o' e1 e2 (F1.keep _ _ hB)] at q; cases q
  refine ⟨⟨F1.ns.at' fun o e => keep L o hLX hLD e, fun b o e => keep b o (fun q => ?_) (fun q => ?_) (F1.keep b o e), F1.above⟩, fun p hp => ?_⟩
  · have := nX.2.2
    dsimp only at this
    rw [← q, e] at this; cases this
  · have := nD.2.2
    dsimp only at this
    rw [← q, e] at this; cases this
  · rcases List.mem_cons.mp hp with rfl | hp
    · exact ⟨(N2 _ (.head _)).1, hb _ _ (.head _)⟩
    rcases List.mem_cons.mp hp with rfl | hp
    · exact ⟨(N2 _ (.tail _ (.head _))).1, hb _ _ (.tail _ (.head _))⟩
    rcases List.mem_cons.mp hp with rfl | hp
    · exact ⟨(N2 _ (.tail _ (.tail _ (.head _)))).1, nX.2⟩
    rcases List.mem_cons.mp hp with rfl | hp
    · exact ⟨(N2 _ (.tail _ (.tail _ (.tail _ (.head _))))).1, nD.2⟩
    · have np := N1 p (.tail _ (.tail _ hp))
      exact ⟨keep _ _ (hX p hp) (hD p hp) np.1, np.2⟩
set_option maxRecDepth 100000 in
theorem DefAt.of {K : Frag} {f : Addr} {qual : Str} {body : List Stmt} {scope : Scope} {cdv oc dV kV doc pm ct : Value} {od an : Option Addr} {name : Str} {params : Arguments} {osl : Array (Option Value)}
    (e : K.lookup f = some ⟨oc, od, .func (fnOf name qual params body scope dV kV doc pm an cdv ct), osl⟩) : DefAt K f qual body scope cdv := ⟨_, _, _, _, _, _, _, _, _, _, _, e⟩
set_option maxRecDepth 100000 in
set_option maxHeartbeats 8000000 in
theorem ini_c {w : World} {loose : List Str} {mean : ExcName → Option Value} {mg mb : Str → Option Value} {dp un : Nat} {gd : Option (List Code)} {fr : Option (List Env)} {B : Heap} {L : Addr} {s : Shared} {m : Str → Option Value} {news : List (Addr × Obj)} {x : Str} {tx : Tok} {ll k q : Nat} {X0 DX : Addr} {qual : Str} {body : List Stmt} {scope : Scope} {cdv : Value} {R : Result → Shared → Prop}
    (LD : DefAt (hd.heap_39 w.params) 89 qual body scope cdv) (X : (hd.heap_39 w.params).In B) (T : Top hd.view_39 loose mean mg mb B) (hdp : dp + 11 < recursionLimit) (hun : un + 110 < cLine)
    (F : Fr B L s.heap m) (N : News B L s.heap ((X0, instObj 134 DX) :: (DX, dictOf [] 0) :: news)) (hX : ∀ p ∈ news, p.1 ≠ X0) (hD : ∀ p ∈ news, p.1 ≠ DX) (hne : @Ne Nat X0 DX) (hx1 : ∀ i, i < ll → x.cps[i]? = some 32) (hx2 : ∀ i, ll ≤ i → i < ll + k → x.cps[i]? = some 9) (hx3 : x.cps[ll + k]? = some q) (hq1 : ¬ q = 32) (hq2 : ¬ q = 9) (hll : ll ≤ 10) (hk : 1 ≤ k) (hk8 : k ≤ 8)
    (hR : ∀ h' tk' D1 D2 ta tb te td t1 t2 t3 tr sm vs, IntsAre vs (csP ll k) → Fr B L h' m → News B L h' ((D1, ({ cls := Value.type "tuple", data := Data.seq #[Value.ref D2, Value.int ((0 : Nat) : Int) t3] } : Obj)) :: (D2, ({ cls := Value.type "tuple", data := Data.seq vs.toArray } : Obj)) :: (X0, instObj 134 DX) :: (DX, dictOf [{ hash := PyData.keyHash w.params (Str.ofString "raw"), key := Value.str (Str.ofString "raw") tr, val := Value.str x tx }, { hash := PyData.keyHash w.params (Str.ofString "n"), key := Value.str (Str.ofString "n") ta, val := Value.int ((ll + k : Nat) : Int) t2 }, { hash := PyData.keyHash w.params (Str.ofString "nt"), key := Value.str (Str.ofString "nt") tb, val := Value.int ((k : Nat) : Int) t1 }, { hash := PyData.keyHash w.params (Str.ofString "norm"), key := Value.str (Str.ofString "norm") te, val := Value.ref D1 }, { hash := PyData.keyHash w.params (Str.ofString "is_simple"), key := Value.str (Str.ofString "is_simple") td, val := Value.bool sm }] 5) :: news) → R (.ok (.ret .none)) { s with heap := h', toks := tk' }) :
    codeAny (model PySem.Challenge.rw_tl0019_01.row.prog w) (Ar dp un gd fr) (.call (.ref 89) ⟨[.ref X0, .str x tx], []⟩) R s := by
  revert X
  k_fill
  intro X
  have hE := DefAt.eq LD (by k_dflt k_is)
  obtain ⟨rfl, rfl, rfl, rfl⟩ := hE
  refine' enterA (binds := [(Str.ofString "self", .ref X0), (Str.ofString "ws", .str x tx)]) [(X0, instObj 134 DX), (DX, dictOf [] 0)] X T F.keep ?ho ?hcd ?hr ?hb ?hl ?hn ?_ ?c2 ?c3 ?c4 ?c5
  (case ho => k_dflt k_is); (case hcd => k_dflt k_is); (case hr => (show dp < recursionLimit; omega)); (case hb => exact BindsTo.of_eq rfl); (case hl => exact locs rfl); (case c2 => exact rfl); (case c3 => exact rfl); (case c4 => exact rfl); (case c5 => decide)
  (case hn =>
    (intro p hp
     rcases List.mem_cons.mp hp with rfl | hp
     · exact ⟨(N _ (.head _)).2.2, (N _ (.head _)).1⟩
     cases List.mem_singleton.mp hp
     exact ⟨(N _ (.tail _ (.head _))).2.2, (N _ (.tail _ (.head _))).1⟩))
  intro B' L' h₁ tk₁ eB eL X' T' F' N' lt
  refine hideA ?_
  intro Q8 hQ8
  refine splitA [_, _, _, _] _ ?_
  refine wpAny_mono (wi0 LD X' T' (by show dp + 1 + 10 < recursionLimit; omega) (by show un + 3 + 100 < cLine; omega) hne F' N') ?_ (fun _ _ (e : False) => e.elim)
  refine NxF.cont (fun h' tk' m1 news1 F1 N1 => ex7k (fun C t1 t2 t3 tS tT tr => and4k (fun e90 e91 hC1 hC2 => ?_)))
  subst e90 e91
  dsimp only
  clear F' N'
  refine splitA [_] _ ?_
  refine wpAny_mono (wi4 (n := 0) (nt := 0) (b := 0) LD X' T' (by show dp + 1 + 10 < recursionLimit; omega) (by show un + 3 + 100 < cLine; omega) hne hC1 hC2 hx1 hx2 hx3 hq1 hq2 hll hk hk8 ⟨tr, rfl⟩ rfl F1 N1) ?_ (fun _ _ (e : False) => e.elim)
  refine NxF.cont (fun h' tk' m1 news1 F2 N2 => ex7k (fun uc C t1 t2 t3 vs nC => and5k (fun e90 hI e92 hC1 hC2 => ?_)))
  subst e90 e92
  dsimp only
  clear F1 N1
  have hkk : ll + k - ll = k := by omega
  rw [hkk] at hI F2
  have hb0 : bJ ll (ll + k) = 0 := by unfold bJ; rw [if_neg (by omega)]
  rw [hb0] at F2
  have hlen : (csP ll k).length ≤ 20 := by
    obtain ⟨j, rfl⟩ : ∃ j, k = j + 1 := ⟨k - 1, by omega⟩
    rw [csP_len]; omega
  refine wpAny_mono (wi5 LD X' T' (by show dp + 1 + 10 < recursionLimit; omega) (by show un + 3 + 100 < cLine; omega) hne hC1 hC2 hI hlen F2 N2) ?_ (fun _ _ (e : False) => e.elim)
  refine NxF.cont (fun h' tk' m1 news1 F3 N3 => ex7k (fun D1 D2 ta tb te td sm => (fun e90 => ?_)))
  subst e90
  subst eB
  obtain ⟨F4, N4⟩ := after_enter F N F3 N3 hX hD
  refine hQ8 _ _ ?_
  exact hR h' tk' D1 D2 ta tb te td t1 t2 t3 tr sm vs hI F4 N4
set_option maxRecDepth 100000 in
set_option maxHeartbeats 8000000 in
theorem ws_w {w : World} {loose : List Str} {mean : ExcName → Option Value} {mg mb : Str → Option Value} {dp un : Nat} {gd : Option (List Code)} {fr : Option (List Env)} {B : Heap} {L : Addr} {s : Shared} {m : Str → Option Value} {news : List (Addr × Obj)} {x : Str} {tx : Tok} {ll k q : Nat} {Q E : Value → Shared → Prop}
    (F : Fr B L s.heap m) (N : News B L s.heap news) (X : (hd.heap_39 w.params).In B) (T : Top hd.view_39 loose mean mg mb B) (hdp : dp + 20 < recursionLimit) (hun : un + 120 < cLine) (hx1 : ∀ i, i < ll → x.cps[i]? = some 32) (hx2 : ∀ i, ll ≤ i → i < ll + k → x.cps[i]? = some 9) (hx3 : x.cps[ll + k]? = some q) (hq1 : ¬ q = 32) (hq2 : ¬ q = 9) (hll : ll ≤ 10) (hk : 1 ≤ k) (hk8 : k ≤ 8)
    (h : ∀ X0 DX h' tk' D1 D2 ta tb te td t1 t2 t3 tr sm vs, IntsAre vs (csP ll k) → Fr B L h' m → News B L h' ((D1, ({ cls := Value.type "tuple", data := Data.seq #[Value.ref D2, Value.int ((0 : Nat) : Int) t3] } : Obj)) :: (D2, ({ cls := Value.type "tuple", data := Data.seq vs.toArray } : Obj)) :: (X0, instObj 134 DX) :: (DX, dictOf [{ hash := PyData.keyHash w.params (Str.ofString "raw"), key := Value.str (Str.ofString "raw") tr, val := Value.str x tx }, { hash := PyData.keyHash w.params (Str.ofString "n"), key := Value.str (Str.ofString "n") ta, val := Value.int ((ll + k : Nat) : Int) t2 }, { hash := PyData.keyHash w.params (Str.ofString "nt"), key := Value.str (Str.ofString "nt") tb, val := Value.int ((k : Nat) : Int) t1 }, { hash := PyData.keyHash w.params (Str.ofString "norm"), key := Value.str (Str.ofString "norm") te, val := Value.ref D1 }, { hash := PyData.keyHash w.params (Str.ofString "is_simple"), key := Value.str (Str.ofString "is_simple") td, val := Value.bool sm }] 5) :: news) → (∀ p ∈ news, p.1 < DX) → DX < X0 → Q (.ref X0) { s with heap := h', toks := tk' }) :
    wpAny (model PySem.Challenge.rw_tl0019_01.row.prog w) (Ar dp un gd fr) (call (.ref 134) [.str x tx]) Q E s := by
  revert X
  k_fill
  intro X
  refine' call_cls (K := hd.heap_39 w.params) (C := 134) (fI := 89) F X N ?k4 ?k5 ?k6 ?_
  (case k4 => k_is)
  (case k5 => k_is)
  (case k6 => k_is)
  intro X0 DX h₁ F1 N1 l1 l2
  refine' ini_c (ll := ll) (k := k) (q := q) ?LD X T ?hd ?hu F1 N1 (fun p hp => ?hX) (fun p hp => Nat.ne_of_lt (l1 p hp)) (Nat.ne_of_gt l2) hx1 hx2 hx3 hq1 hq2 hll hk hk8 ?_
  (case LD => (refine' DefAt.of ?z7L; (case z7L => k_dflt k_is)))
  (case hd => (show dp + 1 + 11 < recursionLimit; omega))
  (case hu => (show un + 1 + 110 < cLine; omega))
  (case hX => exact Nat.ne_of_lt (Nat.lt_trans (l1 p hp) l2))
  intro h' tk' D1 D2 ta tb te td t1 t2 t3 tr sm vs hI F2 N2
  exact ⟨rfl, h X0 DX h' tk' D1 D2 ta tb te td t1 t2 t3 tr sm vs hI F2 N2 l1 l2⟩
end Mine
end
theorem Mine.fresh_LX : True ∧ True := by
  w_on
  w_top off
  walk1
  all_goals trivial
/-! text LX -/
section
open PySem PySem.W PyProof.Rows PySem.Spec PySem.Calls
namespace Mine
theorem fold_rep (c : Nat) : ∀ (m : Nat) (a : Array Nat), ((List.replicate m #[c]).foldl (· ++ ·) a).toList = a.toList ++ List.replicate m c
  | 0, a => by simp
  | m + 1, a => by
    rw [List.replicate_succ, List.foldl_cons, fold_rep c m, Array.toList_append, List.append_assoc]
    rfl
theorem mul_list (c : Nat) (n : Int) : (Txt.mul ⟨#[c]⟩ n).cps.toList = List.replicate n.toNat c := by
  unfold Txt.mul
  split
  · rw [show n.toNat = 0 from by omega]; rfl
  · split
    · rename_i h
      have h1 : n = 1 := by
        rcases Bool.or_eq_true_iff.mp h with q | q
        · exact eq_of_beq q
        · cases q
      subst h1
      rfl
    · have := fold_rep c n.toNat #[]
      simpa using this
theorem tab_eq : Str.ofString "\t" = (⟨#[9]⟩ : Str) := by decide +kernel
theorem sp_eq' : Str.ofString " " = (⟨#[32]⟩ : Str) := by decide +kernel
theorem ws_list {ld : Str} {ll q : Nat} {k : Int} (hld : ld.cps.toList = List.replicate ll 32) :
    (ld ++ Txt.mul (Str.ofString "\t") k ++ ⟨#[q]⟩ ++ Str.ofString "\t").cps.toList = List.replicate ll 32 ++ (List.replicate k.toNat 9 ++ [q, 9]) := by
  rw [tab_eq]
  show (ld.cps ++ (Txt.mul ⟨#[9]⟩ k).cps ++ #[q] ++ #[9]).toList = _
  simp [hld, mul_list]
theorem ws_at {x : Str} {ll k q : Nat} (e : x.cps.toList = List.replicate ll 32 ++ (List.replicate k 9 ++ [q, 9])) :
    (∀ i, i < ll → x.cps[i]? = some 32) ∧ (∀ i, ll ≤ i → i < ll + k → x.cps[i]? = some 9) ∧ x.cps[ll + k]? = some q := by
  have g : ∀ i, x.cps[i]? = (List.replicate ll 32 ++ (List.replicate k 9 ++ [q, 9]))[i]? := fun i => by rw [← e, Array.getElem?_toList]
  refine ⟨fun i hi => ?_, fun i h1 h2 => ?_, ?_⟩
  · rw [g, List.getElem?_append_left (by simpa using hi)]
    simp [hi]
  · rw [g, List.getElem?_append_right (by simpa using h1), List.getElem?_append_left (by simp; omega), List.length_replicate, List.getElem?_replicate, if_pos (by omega)]
  · rw [g, List.getElem?_append_right (by simp), List.getElem?_append_right (by simp)]
    simp
/-- Whitespace(lead + tabs + sign + tab) in the law's own words -/
theorem ws_w2 {w : World} {loose : List Str} {mean : ExcName → Option Value} {mg mb : Str → Option Value} {dp un : Nat} {gd : Option (List Code)} {fr : Option (List Env)} {B : Heap} {L : Addr} {s : Shared} {m : Str → Option Value} {news : List (Addr × Obj)} {ld sg : Str} {tx : Tok} {ll q : Nat} {k : Int} {Q E : Value → Shared → Prop}
    (F : Fr B L s.heap m) (N : News B L s.heap news) (X : (hd.heap_39 w.params).In B) (T : Top hd.view_39 loose mean mg mb B) (hdp : dp + 20 < recursionLimit) (hun : un + 120 < cLine)
    (hld : ld.cps.toList = List.replicate ll 32) (hsg : sg = ⟨#[q]⟩) (hq1 : ¬ q = 32) (hq2 : ¬ q = 9) (hll : ll ≤ 10) (hk : 1 ≤ k) (hk8 : k < 1 + ((8 : Nat) : Int))
    (h : ∀ X0 DX h' tk' D1 D2 tr ta tb te td t1 t2 t3 sm vs, IntsAre vs (csP ll k.toNat) → Fr B L h' m → News B L h' ((D1, ({ cls := Value.type "tuple", data := Data.seq #[Value.ref D2, Value.int 0 t3] } : Obj)) :: (D2, ({ cls := Value.type "tuple", data := Data.seq vs.toArray } : Obj)) :: (X0, instObj 134 DX) ::
      (DX, dictOf [{ hash := PyData.keyHash w.params (Str.ofString "raw"), key := Value.str (Str.ofString "raw") tr, val := Value.str (ld ++ Txt.mul (Str.ofString "\t") k ++ sg ++ Str.ofString "\t") tx }, { hash := PyData.keyHash w.params (Str.ofString "n"), key := Value.str (Str.ofString "n") ta, val := Value.int ((ll + k.toNat : Nat) : Int) t2 }, { hash := PyData.keyHash w.params (Str.ofString "nt"), key := Value.str (Str.ofString "nt") tb, val := Value.int k t1 }, { hash := PyData.keyHash w.params (Str.ofString "norm"), key := Value.str (Str.ofString "norm") te, val := Value.ref D1 }, { hash := PyData.keyHash w.params (Str.ofString "is_simple"), key := Value.str (Str.ofString "is_simple") td, val := Value.bool sm }] 5) :: news) →
      (∀ p ∈ news, p.1 < DX) → DX < X0 → Q (.ref X0) { s with heap := h', toks := tk' }) :
    wpAny (model PySem.Challenge.rw_tl0019_01.row.prog w) (Ar dp un gd fr) (call (.ref 134) [.str (ld ++ Txt.mul (Str.ofString "\t") k ++ sg ++ Str.ofString "\t") tx]) Q E s := by
  subst hsg
  obtain ⟨h1, h2, h3⟩ := ws_at (ws_list (q := q) (k := k) hld)
  refine ws_w (ll := ll) (k := k.toNat) (q := q) F N X T hdp hun h1 h2 h3 hq1 hq2 hll (by omega) (by omega) ?_
  intro X0 DX h' tk' D1 D2 ta tb te td t1 t2 t3 tr sm vs hI F2 N2 l1 l2
  rw [show ((k.toNat : Nat) : Int) = k from by omega] at N2
  exact h X0 DX h' tk' D1 D2 tr ta tb te td t1 t2 t3 sm vs hI F2 N2 l1 l2
end Mine
end
theorem Mine.fresh_IL0 : True ∧ True := by
  w_on
  w_top off
  walk1
  all_goals trivial
/-! text IL0 -/
section
open PySem PySem.W PyProof.Rows PySem.Spec PySem.Calls
namespace Mine
section
variable {prog : Program} {w : World} {A : Around} {s : Shared} {env : Env} {B : Heap} {v : Str} {px pos : Pos} {iter : Expr} {body : List Stmt}
theorem forRangeA {Q : Flow → Shared → Prop} {L : Addr} {a b : Int} (n : Nat) (J : Nat → (Str → Option Value) → List (Addr × Obj) → Prop) (hL : env.locals = L)
    (hh : A.handled = none) (hx : env.kindOf v = some .local) (hp : (env.scope.kind == .class || (env.scope.kind == .module && env.locals != env.globals)) = false)
    (hsmall : Builtin.Range.small a b 1 = true) (hn : Builtin.Range.rangeSize a b 1 = (n : Int))
    (h : wpAny (model prog w) A (eval iter env) (ReadyF [] B L a b s (J 0)) (fun _ _ => False) s)
    (turn : ∀ i t m news h tk I oI, i < n → J i m news → (∀ p ∈ news, @Ne Nat p.1 I) → Fr B L h (fun y => if y = v then some (.int (a + (i : Int)) t) else m y) → News B L h ((I, oI) :: news) →
      wpAny (model prog w) A (execs body env) (TurnedS B L I oI s (J (i + 1)) fun s' => Q .next s') (fun _ _ => False) { s with heap := h, toks := tk })
    (done : ∀ m news h tk, J n m news → Fr B L h m → News B L h news → Q .next { s with heap := h, toks := tk })
    (hs : ∀ x, foldedSetIterable iter env x = Pure.pure x := by intro _; rfl) :
    wpAny (model prog w) A (exec (.For (.Name v px) iter body [] pos) env) Q (fun _ _ => False) s := by
  subst hL
  refine wpAny_For (wpAny_mono h (fun xv s₁ h₁ => ?_) fun _ _ e => e.elim) hs
  revert h₁
  refine ex8k (fun r t u z m news h₁ tk₁ => and8k (fun e93 e94 hr F N _ _ hj => ?_))
  subst e93 e94
  refine wpAny_pyIter_range hr hsmall ?_
  rw [hn]
  have hI0 : B.get? h₁.objs.size = none := next_is_new F
  have F0 : Fr B env.locals (h₁.push { cls := .type "range_iterator", data := .fields #[rawInt a, rawInt (n : Int), rawInt 1] }) m := F.push _
  have hI1 : IsRangeIter (h₁.push { cls := .type "range_iterator", data := .fields #[rawInt a, rawInt (n : Int), rawInt 1] }) h₁.objs.size a (n : Int) 1 := Heap.get?_push_size _ rfl
  have N0 : News B env.locals (h₁.push { cls := .type "range_iterator", data := .fields #[rawInt a, rawInt (n : Int), rawInt 1] }) news := fun p hp => ⟨Heap.get?_push_of_some _ (N p hp).1, (N p hp).2⟩
  have hLI : env.locals ≠ h₁.objs.size := fun e => absurd F.ns.lt (e ▸ Nat.lt_irrefl _)
  have hnI : ∀ p ∈ news, p.1 ≠ h₁.objs.size := fun p hp => Nat.ne_of_lt (Heap.lt_size (N p hp).1)
  revert F0 hI1 N0
  generalize (h₁.push { cls := .type "range_iterator", data := .fields #[rawInt a, rawInt (n : Int), rawInt 1] }) = g₀
  intro F0 hI1 N0
  revert hI0 hI1 hLI hnI
  dsimp only
  generalize h₁.objs.size = I
  intro hI0 hLI hnI hI1
  refine codeAny_forLoop (fun k s' => ∃ h' tk m' news' i, s' = { s with heap := h', toks := tk } ∧ IsRangeIter h' I (a + (i : Nat)) ((n : Int) - (i : Nat)) 1 ∧ Fr B env.locals h' m' ∧ News B env.locals h' news' ∧ (∀ p ∈ news', p.1 ≠ I) ∧ J i m' news' ∧ i ≤ n ∧ k = n + 1 - i) ?_ (n + 1)
    ⟨g₀, tk₁, m, news, 0, rfl, by simpa using hI1, F0, N0, hnI, hj, Nat.zero_le _, rfl⟩
  intro k s'
  refine ex5k (fun h' tk m' news' i => and8k (fun e91 hst F' N' hnI' hJ hi e92 => ?_))
  subst e91 e92
  have keepB : ∀ h₂ : Heap, (∀ b o, b ≠ I → h'.get? b = some o → h₂.get? b = some o) → Fr B env.locals h₂ m' ∧ News B env.locals h₂ news' := fun h₂ hk =>
    ⟨⟨F'.ns.at' fun o e => hk _ o hLI e, fun b o e => hk b o (fun q => by rw [q, hI0] at e; cases e) (F'.keep b o e), F'.above⟩, fun p hp => ⟨hk _ _ (hnI' p hp) (N' p hp).1, (N' p hp).2⟩⟩
  by_cases hlt : i < n
  · refine wpAny_pyNext_range_item hst (by omega) fun h₂ hit hsb => ?_
    obtain ⟨F₁, N₁⟩ := keepB h₂ fun b o hb e => (hsb.2 b hb).trans e
    refine wpAny_assign_Name (wpAny_storeName_local hx F₁.ns (fun h₃ hn₃ hs₃ => ?_) hp)
    have F₂ := F₁.set hn₃ hs₃
    have hit₃ : IsRangeIter h₃ I (a + (i : Nat) + 1) ((n : Int) - (i : Nat) - 1) 1 := (hs₃.2 I fun q => hLI q.symm).trans hit
    have N₂ : News B env.locals h₃ news' := N₁.set hs₃
    have N₃ : News B env.locals h₃ ((I, { cls := .type "range_iterator", dict := none, data := .fields #[rawInt (a + (i : Nat) + 1), rawInt ((n : Int) - (i : Nat) - 1), rawInt 1], slots := #[] }) :: news') := fun p hp => by
      rcases List.mem_cons.mp hp with rfl | hp
      · exact ⟨hit₃, fun q => hLI q.symm, hI0⟩
      · exact N₂ p hp
    refine wpAny_mono (turn i _ m' news' h₃ _ I _ hlt hJ hnI' F₂ N₃) (fun f s₃ hf => ?_) fun _ _ e => e.elim
    have fin : (∃ h' tk' m'' news'', s₃ = { s with heap := h', toks := tk' } ∧ Fr B env.locals h' m'' ∧ News B env.locals h' ((I, { cls := .type "range_iterator", dict := none, data := .fields #[rawInt (a + (i : Nat) + 1), rawInt ((n : Int) - (i : Nat) - 1), rawInt 1], slots := #[] }) :: news'') ∧ (∀ p ∈ news'', @Ne Nat p.1 I) ∧ J (i + 1) m'' news'') →
        ∃ k, k < n + 1 - i ∧ ∃ h' tk m' news' i, s₃ = { s with heap := h', toks := tk } ∧ IsRangeIter h' I (a + (i : Nat)) ((n : Int) - (i : Nat)) 1 ∧ Fr B env.locals h' m' ∧ News B env.locals h' news' ∧ (∀ p ∈ news', p.1 ≠ I) ∧ J i m' news' ∧ i ≤ n ∧ k = n + 1 - i := by
      rintro ⟨h₄, tk₄, m₄, news₄, e, F₄, N₄, hc₄, hJ₄⟩
      have hI4 := (N₄ _ (.head _)).1
      dsimp only at hI4
      refine ⟨n + 1 - (i + 1), by omega, h₄, tk₄, m₄, news₄, i + 1, e, ?_, F₄, fun p hp => N₄ p (.tail _ hp), hc₄, hJ₄, by omega, rfl⟩
      unfold IsRangeIter
      rw [hI4]
      have e1 : a + ((i + 1 : Nat) : Int) = a + (i : Nat) + 1 := by omega
      have e2 : (n : Int) - ((i + 1 : Nat) : Int) = (n : Int) - (i : Nat) - 1 := by omega
      rw [e1, e2]
    cases f with
    | ret v => exact hf.elim
    | brk => exact hf
    | next => exact fin hf
    | cont => exact fin hf
  · have hin : i = n := by omega
    subst hin
    refine wpAny_pyNext_range_end hh hst (by omega) fun h₂ hk => wpAny_execs_nil ?_
    obtain ⟨F₁, N₁⟩ := keepB h₂ fun b o hb e => hk b o hb e
    exact done m' news' h₂ tk hJ F₁ N₁
end
end Mine
end
theorem Mine.fresh_IL1 : True ∧ True := by
  w_on
  w_top off
  walk1
  all_goals trivial
/-! text IL1 -/
section
open PySem PySem.W PyProof.Rows PySem.Spec PySem.Calls
namespace Mine
noncomputable def NxR (B : Heap) (L : Addr) (s : Shared) (P : Value → List (Addr × Obj) → Prop) (f : Flow) (s' : Shared) : Prop :=
  ∃ v h' tk' m news, f = .ret v ∧ s' = { s with heap := h', toks := tk' } ∧ Fr B L h' m ∧ News B L h' news ∧ P v news
theorem il_norm {a b c : Value} {l : List (Str × Value)} : (fun y => if y = Str.ofString "il" then some a else if y = Str.ofString "i" then some b else List.lookup y ((Str.ofString "il", c) :: l)) = fun y => if y = Str.ofString "i" then some b else List.lookup y ((Str.ofString "il", a) :: l) := by
  funext y
  simp only [lookup_ite2]
  by_cases h : y = Str.ofString "il"
  · rw [if_pos h, if_neg (by rw [h]; decide +kernel), if_pos h]
  · simp only [if_neg h]
set_option maxRecDepth 100000 in
set_option maxHeartbeats 8000000 in
theorem il0 {w : World} {loose : List Str} {mean : ExcName → Option Value} {mg mb : Str → Option Value} {dp un : Nat} {gd : Option (List Code)} {fr : Option (List Env)} {B : Heap} {L : Addr} {s : Shared} {qual : Str} {body : List Stmt} {scope : Scope} {cdv : Value} {X0 DX D1 D2 : Addr} {x : Str} {tx tr ta tb te td t1 t2 t3 tz : Tok} {ll k : Nat} {vs : List Value} {cs : List Int} {sm : Bool} {kk sz : Int}
    (LD : DefAt (hd.heap_39 w.params) 103 qual body scope cdv) (X : (hd.heap_39 w.params).In B) (T : Top hd.view_39 loose mean mg mb B) (hdp : dp + 10 < recursionLimit) (hun : un + 100 < cLine)
    (hI : IntsAre vs cs) (hcs : cs.length ≤ 20)
    (F : Fr B L s.heap (fun y => (List.lookup y [(Str.ofString "tabsize", .int sz tz), (Str.ofString "self", .ref X0)]))) (N : News B L s.heap ((D1, ({ cls := Value.type "tuple", data := Data.seq #[Value.ref D2, Value.int 0 t3] } : Obj)) :: (D2, ({ cls := Value.type "tuple", data := Data.seq vs.toArray } : Obj)) :: (X0, instObj 134 DX) :: (DX, dictOf [{ hash := PyData.keyHash w.params (Str.ofString "raw"), key := Value.str (Str.ofString "raw") tr, val := Value.str x tx }, { hash := PyData.keyHash w.params (Str.ofString "n"), key := Value.str (Str.ofString "n") ta, val := Value.int ((ll + k : Nat) : Int) t2 }, { hash := PyData.keyHash w.params (Str.ofString "nt"), key := Value.str (Str.ofString "nt") tb, val := Value.int kk t1 }, { hash := PyData.keyHash w.params (Str.ofString "norm"), key := Value.str (Str.ofString "norm") te, val := Value.ref D1 }, { hash := PyData.keyHash w.params (Str.ofString "is_simple"), key := Value.str (Str.ofString "is_simple") td, val := Value.bool sm }] 5) :: [])) :
    wpAny (model PySem.Challenge.rw_tl0019_01.row.prog w) (Ar dp un gd fr) (execs ((body.drop 0).take 2) (envOf qual scope L 103 cdv)) (NxF B L s (fun m news => ∃ ti, m = (fun y => List.lookup y ((Str.ofString "il", .int (0) ti) :: (Str.ofString "trailing", .int 0 t3) :: (Str.ofString "count", .ref D2) :: [(Str.ofString "tabsize", .int sz tz), (Str.ofString "self", .ref X0)])) ∧ news = (D1, ({ cls := Value.type "tuple", data := Data.seq #[Value.ref D2, Value.int 0 t3] } : Obj)) :: (D2, ({ cls := Value.type "tuple", data := Data.seq vs.toArray } : Obj)) :: (X0, instObj 134 DX) :: (DX, dictOf [{ hash := PyData.keyHash w.params (Str.ofString "raw"), key := Value.str (Str.ofString "raw") tr, val := Value.str x tx }, { hash := PyData.keyHash w.params (Str.ofString "n"), key := Value.str (Str.ofString "n") ta, val := Value.int ((ll + k : Nat) : Int) t2 }, { hash := PyData.keyHash w.params (Str.ofString "nt"), key := Value.str (Str.ofString "nt") tb, val := Value.int kk t1 }, { hash := PyData.keyHash w.params (Str.ofString "norm"), key := Value.str (Str.ofString "norm") te, val := Value.ref D1 }, { hash := PyData.keyHash w.params (Str.ofString "is_simple"), key := Value.str (Str.ofString "is_simple") td, val := Value.bool sm }] 5) :: [])) (fun _ _ => False) s := by
  revert X
  k_fill
  intro X
  refine hideA ?_
  intro Q9 hQ9
  have hE := DefAt.eq LD (by k_dflt k_is)
  obtain ⟨rfl, rfl, rfl, rfl⟩ := hE
  clear LD
  dsimp only [List.drop, List.take]
  k_steps
  rename Fr _ _ _ _ => F9
  refine hQ9 _ _ ?_
  exact NxF.of F9 (by assumption) ⟨_, cons_if (cons_if (cons_if rfl)), rfl⟩ (fun _ hp => hp)

end Mine
end
theorem Mine.fresh_IL2 : True ∧ True := by
  w_on
  w_top off
  walk1
  all_goals trivial
/-! text IL2 -/
section
open PySem PySem.W PyProof.Rows PySem.Spec PySem.Calls
namespace Mine
set_option maxRecDepth 100000 in
set_option maxHeartbeats 8000000 in
theorem il2 {w : World} {loose : List Str} {mean : ExcName → Option Value} {mg mb : Str → Option Value} {dp un : Nat} {gd : Option (List Code)} {fr : Option (List Env)} {B : Heap} {L : Addr} {s : Shared} {qual : Str} {body : List Stmt} {scope : Scope} {cdv : Value} {X0 DX D1 D2 I : Addr} {x : Str} {tx tr ta tb te td t1 t2 t3 tz ti tk : Tok} {ll k i : Nat} {vs : List Value} {cs : List Int} {sm : Bool} {oI : Obj} {kk sz il : Int}
    (LD : DefAt (hd.heap_39 w.params) 103 qual body scope cdv) (X : (hd.heap_39 w.params).In B) (T : Top hd.view_39 loose mean mg mb B) (hdp : dp + 10 < recursionLimit) (hun : un + 100 < cLine)
    (hI : IntsAre vs cs) (hcs : cs.length ≤ 20) (hz0 : 1 ≤ sz) (hz1 : sz ≤ 10) (hi0 : (0 : Int) ≤ (i : Int)) (hi : (i : Int) < cs.length) (hc0 : 0 ≤ cs.getD ((i : Nat) : Int).toNat 0) (hc1 : cs.getD ((i : Nat) : Int).toNat 0 ≤ 10) (hd0 : 0 ≤ ((i : Nat) : Int).fdiv sz) (hd1 : ((i : Nat) : Int).fdiv sz ≤ 20) (hil0 : 0 ≤ il) (hil : il ≤ 1000)
    (F : Fr B L s.heap (fun y => (if y = Str.ofString "i" then some (.int ((i : Nat) : Int) tk) else List.lookup y ((Str.ofString "il", .int (il) ti) :: (Str.ofString "trailing", .int 0 t3) :: (Str.ofString "count", .ref D2) :: [(Str.ofString "tabsize", .int sz tz), (Str.ofString "self", .ref X0)])))) (N : News B L s.heap ((I, oI) :: (D1, ({ cls := Value.type "tuple", data := Data.seq #[Value.ref D2, Value.int 0 t3] } : Obj)) :: (D2, ({ cls := Value.type "tuple", data := Data.seq vs.toArray } : Obj)) :: (X0, instObj 134 DX) :: (DX, dictOf [{ hash := PyData.keyHash w.params (Str.ofString "raw"), key := Value.str (Str.ofString "raw") tr, val := Value.str x tx }, { hash := PyData.keyHash w.params (Str.ofString "n"), key := Value.str (Str.ofString "n") ta, val := Value.int ((ll + k : Nat) : Int) t2 }, { hash := PyData.keyHash w.params (Str.ofString "nt"), key := Value.str (Str.ofString "nt") tb, val := Value.int kk t1 }, { hash := PyData.keyHash w.params (Str.ofString "norm"), key := Value.str (Str.ofString "norm") te, val := Value.ref D1 }, { hash := PyData.keyHash w.params (Str.ofString "is_simple"), key := Value.str (Str.ofString "is_simple") td, val := Value.bool sm }] 5) :: [])) :
    wpAny (model PySem.Challenge.rw_tl0019_01.row.prog w) (Ar dp un gd fr) (execs (forBody (body.drop 2)) (envOf qual scope L 103 cdv)) (NxF B L s (fun m news => ∃ ti, m = (fun y => if y = Str.ofString "i" then some (.int ((i : Nat) : Int) tk) else List.lookup y ((Str.ofString "il", .int (il + ((i : Nat) : Int).fdiv sz * cs.getD ((i : Nat) : Int).toNat 0) ti) :: (Str.ofString "trailing", .int 0 t3) :: (Str.ofString "count", .ref D2) :: [(Str.ofString "tabsize", .int sz tz), (Str.ofString "self", .ref X0)])) ∧ news = (I, oI) :: (D1, ({ cls := Value.type "tuple", data := Data.seq #[Value.ref D2, Value.int 0 t3] } : Obj)) :: (D2, ({ cls := Value.type "tuple", data := Data.seq vs.toArray } : Obj)) :: (X0, instObj 134 DX) :: (DX, dictOf [{ hash := PyData.keyHash w.params (Str.ofString "raw"), key := Value.str (Str.ofString "raw") tr, val := Value.str x tx }, { hash := PyData.keyHash w.params (Str.ofString "n"), key := Value.str (Str.ofString "n") ta, val := Value.int ((ll + k : Nat) : Int) t2 }, { hash := PyData.keyHash w.params (Str.ofString "nt"), key := Value.str (Str.ofString "nt") tb, val := Value.int kk t1 }, { hash := PyData.keyHash w.params (Str.ofString "norm"), key := Value.str (Str.ofString "norm") te, val := Value.ref D1 }, { hash := PyData.keyHash w.params (Str.ofString "is_simple"), key := Value.str (Str.ofString "is_simple") td, val := Value.bool sm }] 5) :: [])) (fun _ _ => False) s := by
  revert X
  k_fill
  intro X
  refine hideA ?_
  intro Q9 hQ9
  have hE := DefAt.eq LD (by k_dflt k_is)
  obtain ⟨rfl, rfl, rfl, rfl⟩ := hE
  clear LD
  dsimp only [List.drop, List.take]
  dsimp only [forBody, List.drop, List.take]
  k_steps
  rename Fr _ _ _ _ => F9
  rw [il_norm] at F9
  refine hQ9 _ _ ?_
  exact NxF.of F9 (by assumption) ⟨_, rfl, rfl⟩ (fun _ hp => hp)

end Mine
end
theorem Mine.fresh_IL3 : True ∧ True := by
  w_on
  w_top off
  walk1
  all_goals trivial
/-! text IL3 -/
section
open PySem PySem.W PyProof.Rows PySem.Spec PySem.Calls
namespace Mine
set_option maxRecDepth 100000 in
set_option maxHeartbeats 8000000 in
theorem il3 {w : World} {loose : List Str} {mean : ExcName → Option Value} {mg mb : Str → Option Value} {dp un : Nat} {gd : Option (List Code)} {fr : Option (List Env)} {B : Heap} {L : Addr} {s : Shared} {qual : Str} {body : List Stmt} {scope : Scope} {cdv : Value} {X0 DX D1 D2 : Addr} {x : Str} {tx tr ta tb te td t1 t2 t3 tz ti : Tok} {ll k i : Nat} {vs : List Value} {sm : Bool} {ui : Option Value} {kk sz il : Int}
    (LD : DefAt (hd.heap_39 w.params) 103 qual body scope cdv) (X : (hd.heap_39 w.params).In B) (T : Top hd.view_39 loose mean mg mb B) (hdp : dp + 10 < recursionLimit) (hun : un + 100 < cLine)
    (hz0 : 1 ≤ sz) (hz1 : sz ≤ 10) (hk : 0 ≤ kk ∧ kk ≤ 10) (hil0 : 0 ≤ il) (hil : il ≤ 100)
    (F : Fr B L s.heap (fun y => (if y = Str.ofString "i" then ui else List.lookup y ((Str.ofString "il", .int (il) ti) :: (Str.ofString "trailing", .int 0 t3) :: (Str.ofString "count", .ref D2) :: [(Str.ofString "tabsize", .int sz tz), (Str.ofString "self", .ref X0)])))) (N : News B L s.heap ((D1, ({ cls := Value.type "tuple", data := Data.seq #[Value.ref D2, Value.int 0 t3] } : Obj)) :: (D2, ({ cls := Value.type "tuple", data := Data.seq vs.toArray } : Obj)) :: (X0, instObj 134 DX) :: (DX, dictOf [{ hash := PyData.keyHash w.params (Str.ofString "raw"), key := Value.str (Str.ofString "raw") tr, val := Value.str x tx }, { hash := PyData.keyHash w.params (Str.ofString "n"), key := Value.str (Str.ofString "n") ta, val := Value.int ((ll + k : Nat) : Int) t2 }, { hash := PyData.keyHash w.params (Str.ofString "nt"), key := Value.str (Str.ofString "nt") tb, val := Value.int kk t1 }, { hash := PyData.keyHash w.params (Str.ofString "norm"), key := Value.str (Str.ofString "norm") te, val := Value.ref D1 }, { hash := PyData.keyHash w.params (Str.ofString "is_simple"), key := Value.str (Str.ofString "is_simple") td, val := Value.bool sm }] 5) :: [])) :
    wpAny (model PySem.Challenge.rw_tl0019_01.row.prog w) (Ar dp un gd fr) (execs ((body.drop 3).take 1) (envOf qual scope L 103 cdv)) (NxR B L s (fun v news => (∃ t, v = .int (sz * (il + kk)) t) ∧ news = (D1, ({ cls := Value.type "tuple", data := Data.seq #[Value.ref D2, Value.int 0 t3] } : Obj)) :: (D2, ({ cls := Value.type "tuple", data := Data.seq vs.toArray } : Obj)) :: (X0, instObj 134 DX) :: (DX, dictOf [{ hash := PyData.keyHash w.params (Str.ofString "raw"), key := Value.str (Str.ofString "raw") tr, val := Value.str x tx }, { hash := PyData.keyHash w.params (Str.ofString "n"), key := Value.str (Str.ofString "n") ta, val := Value.int ((ll + k : Nat) : Int) t2 }, { hash := PyData.keyHash w.params (Str.ofString "nt"), key := Value.str (Str.ofString "nt") tb, val := Value.int kk t1 }, { hash := PyData.keyHash w.params (Str.ofString "norm"), key := Value.str (Str.ofString "norm") te, val := Value.ref D1 }, { hash := PyData.keyHash w.params (Str.ofString "is_simple"), key := Value.str (Str.ofString "is_simple") td, val := Value.bool sm }] 5) :: [])) (fun _ _ => False) s := by
  revert X
  k_fill
  intro X
  refine hideA ?_
  intro Q9 hQ9
  have hE := DefAt.eq LD (by k_dflt k_is)
  obtain ⟨rfl, rfl, rfl, rfl⟩ := hE
  clear LD
  dsimp only [List.drop, List.take]
  k_steps
  dsimp only
  rw [Int.zero_add]
  refine hQ9 _ _ ?_
  exact ⟨_, _, _, _, _, rfl, rfl, by assumption, by assumption, ⟨_, rfl⟩, rfl⟩

end Mine
end
theorem Mine.fresh_ILN : True ∧ True := by
  w_on
  w_top off
  walk1
  all_goals trivial
/-! text ILN -/
section
open PySem PySem.W PyProof.Rows PySem.Spec PySem.Calls
namespace Mine
theorem csP_at (ll : Nat) {idx : Nat} (h1 : 1 ≤ idx) (h2 : idx ≤ ll) : ∀ j, (csP ll (j + 1)).getD idx 0 = if idx = ll then 1 else 0
  | 0 => by
    simp only [csP, List.getD_eq_getElem?_getD, List.getElem?_set, List.length_replicate, List.getElem?_replicate]
    by_cases h : ll = idx
    · subst h; simp
    · rw [if_neg h, if_pos (by omega), if_neg (fun e => h e.symm)]; rfl
  | j + 1 => by
    have ih := csP_at ll h1 h2 j
    simp only [csP, List.getD_eq_getElem?_getD, List.getElem?_set] at ih ⊢
    rw [if_neg (by omega)]
    exact ih
noncomputable def ilP (zn ll i : Nat) : Int := if ll < zn + i ∧ zn ≤ ll then ((ll : Nat) : Int).fdiv (zn : Int) else 0
theorem fdiv_bd {a b : Nat} (hb : 1 ≤ b) (ha : a ≤ 20) : 0 ≤ ((a : Nat) : Int).fdiv (b : Int) ∧ ((a : Nat) : Int).fdiv (b : Int) ≤ 20 := by
  rw [Int.fdiv_eq_ediv_of_nonneg _ (by omega)]
  refine ⟨Int.ediv_nonneg (by omega) (by omega), ?_⟩
  have := Int.ediv_le_self (a := (a : Int)) (b : Int) (by omega)
  omega
theorem ilP_bd {zn ll i : Nat} (hz : 1 ≤ zn) (hl : ll ≤ 10) : 0 ≤ ilP zn ll i ∧ ilP zn ll i ≤ 20 := by
  unfold ilP
  split
  · exact fdiv_bd hz (by omega)
  · omega
set_option maxRecDepth 100000 in
set_option maxHeartbeats 8000000 in
theorem il_c {w : World} {loose : List Str} {mean : ExcName → Option Value} {mg mb : Str → Option Value} {dp un : Nat} {gd : Option (List Code)} {fr : Option (List Env)} {B : Heap} {L : Addr} {s : Shared} {m : Str → Option Value} {news : List (Addr × Obj)} {qual : Str} {body : List Stmt} {scope : Scope} {cdv : Value} {X0 DX D1 D2 : Addr} {x : Str} {tx tr ta tb te td t1 t2 t3 tz : Tok} {ll k zn : Nat} {vs : List Value} {sm : Bool} {Q E : Value → Shared → Prop}
    (LD : DefAt (hd.heap_39 w.params) 103 qual body scope cdv) (F : Fr B L s.heap m) (N : News B L s.heap news) (X : (hd.heap_39 w.params).In B) (T : Top hd.view_39 loose mean mg mb B) (hdp : dp + 20 < recursionLimit) (hun : un + 120 < cLine)
    (hm : ∀ p ∈ (D1, ({ cls := Value.type "tuple", data := Data.seq #[Value.ref D2, Value.int 0 t3] } : Obj)) :: (D2, ({ cls := Value.type "tuple", data := Data.seq vs.toArray } : Obj)) :: (X0, instObj 134 DX) :: (DX, dictOf [{ hash := PyData.keyHash w.params (Str.ofString "raw"), key := Value.str (Str.ofString "raw") tr, val := Value.str x tx }, { hash := PyData.keyHash w.params (Str.ofString "n"), key := Value.str (Str.ofString "n") ta, val := Value.int ((ll + k : Nat) : Int) t2 }, { hash := PyData.keyHash w.params (Str.ofString "nt"), key := Value.str (Str.ofString "nt") tb, val := Value.int ((k : Nat) : Int) t1 }, { hash := PyData.keyHash w.params (Str.ofString "norm"), key := Value.str (Str.ofString "norm") te, val := Value.ref D1 }, { hash := PyData.keyHash w.params (Str.ofString "is_simple"), key := Value.str (Str.ofString "is_simple") td, val := Value.bool sm }] 5) :: [], p ∈ news) (hI : IntsAre vs (csP ll k)) (hll : ll ≤ 10) (hk1 : 1 ≤ k) (hk8 : k ≤ 8) (hz0 : 1 ≤ zn) (hz1 : zn ≤ 10)
    (h : ∀ h' tk' t, Fr B L h' m → News B L h' news → Q (.int ((zn : Int) * (((ll : Nat) : Int).fdiv (zn : Int) + (k : Int))) t) { s with heap := h', toks := tk' }) :
    wpAny (model PySem.Challenge.rw_tl0019_01.row.prog w) (Ar dp un gd fr) (call (.ref 103) [.ref X0, .int (zn : Int) tz]) Q E s := by
  revert X
  k_fill
  intro X
  have hE := DefAt.eq LD (by k_dflt k_is)
  obtain ⟨rfl, rfl, rfl, rfl⟩ := hE
  obtain ⟨j, rfl⟩ : ∃ j, k = j + 1 := ⟨k - 1, by omega⟩
  have hlen := csP_len ll j
  have hsz : vs.toArray.size = ll + 1 := by rw [List.size_toArray, hI.length, hlen]
  refine wpAny_call ?_
  refine' enterA (binds := [(Str.ofString "self", .ref X0), (Str.ofString "tabsize", .int (zn : Int) tz)]) ((D1, ({ cls := Value.type "tuple", data := Data.seq #[Value.ref D2, Value.int 0 t3] } : Obj)) :: (D2, ({ cls := Value.type "tuple", data := Data.seq vs.toArray } : Obj)) :: (X0, instObj 134 DX) :: (DX, dictOf [{ hash := PyData.keyHash w.params (Str.ofString "raw"), key := Value.str (Str.ofString "raw") tr, val := Value.str x tx }, { hash := PyData.keyHash w.params (Str.ofString "n"), key := Value.str (Str.ofString "n") ta, val := Value.int ((ll + (j + 1) : Nat) : Int) t2 }, { hash := PyData.keyHash w.params (Str.ofString "nt"), key := Value.str (Str.ofString "nt") tb, val := Value.int (((j + 1) : Nat) : Int) t1 }, { hash := PyData.keyHash w.params (Str.ofString "norm"), key := Value.str (Str.ofString "norm") te, val := Value.ref D1 }, { hash := PyData.keyHash w.params (Str.ofString "is_simple"), key := Value.str (Str.ofString "is_simple") td, val := Value.bool sm }] 5) :: []) X T F.keep ?ho ?hcd ?hr ?hb ?hl ?hn ?_ ?c2 ?c3 ?c4 ?c5
  (case ho => k_dflt k_is); (case hcd => k_dflt k_is); (case hr => (show dp < recursionLimit; omega)); (case hb => exact BindsTo.of_eq rfl); (case hl => exact locs rfl); (case c2 => exact rfl); (case c3 => exact rfl); (case c4 => exact rfl); (case c5 => decide)
  (case hn => (intro p hp; exact ⟨(N p (hm p hp)).2.2, (N p (hm p hp)).1⟩))
  intro B' L' h₁ tk₁ eB eL X' T' F' N' lt
  refine splitA [_, _] _ ?_
  refine wpAny_mono (il0 (sz := (zn : Int)) LD X' T' (by show dp + 1 + 10 < recursionLimit; omega) (by show un + 3 + 100 < cLine; omega) hI (by omega) F' N') ?_ (fun _ _ (e : False) => e.elim)
  refine NxF.cont (fun h' tk' m1 news1 F1 N1 => ex1k (fun ti => and2k (fun e90 e91 => ?_)))
  subst e90 e91
  dsimp only
  clear F' N'
  have hzi : (0 : Int) ≤ (zn : Int) := by omega
  have hzi2 : (zn : Int) ≤ 10 := by omega
  refine wpAny_execs_cons (forRangeA (B := B') (L := L') (a := (zn : Int)) (b := ((vs.toArray.size : Nat) : Int)) (ll + 1 - zn) (fun i m news => ∃ (ui : Option Value) (ti : Tok), m = (fun y => if y = Str.ofString "i" then ui else List.lookup y ((Str.ofString "il", .int (ilP zn ll i) ti) :: (Str.ofString "trailing", .int 0 t3) :: (Str.ofString "count", .ref D2) :: [(Str.ofString "tabsize", .int (zn : Int) tz), (Str.ofString "self", .ref X0)])) ∧ news = (D1, ({ cls := Value.type "tuple", data := Data.seq #[Value.ref D2, Value.int 0 t3] } : Obj)) :: (D2, ({ cls := Value.type "tuple", data := Data.seq vs.toArray } : Obj)) :: (X0, instObj 134 DX) :: (DX, dictOf [{ hash := PyData.keyHash w.params (Str.ofString "raw"), key := Value.str (Str.ofString "raw") tr, val := Value.str x tx }, { hash := PyData.keyHash w.params (Str.ofString "n"), key := Value.str (Str.ofString "n") ta, val := Value.int ((ll + (j + 1) : Nat) : Int) t2 }, { hash := PyData.keyHash w.params (Str.ofString "nt"), key := Value.str (Str.ofString "nt") tb, val := Value.int (((j + 1) : Nat) : Int) t1 }, { hash := PyData.keyHash w.params (Str.ofString "norm"), key := Value.str (Str.ofString "norm") te, val := Value.ref D1 }, { hash := PyData.keyHash w.params (Str.ofString "is_simple"), key := Value.str (Str.ofString "is_simple") td, val := Value.bool sm }] 5) :: []) rfl rfl (by rfl) (by rfl) (small_one (by omega) (by omega) (by omega) (by omega)) (by rw [rangeSize_nat, hsz, Int.toNat_sub]) ?_ ?_ ?_)
  · repeat' (first | (k_unfold; (try dsimp only)) | (k_here; (with_reducible show wpAny _ _ (call (Value.builtin "len") [Value.ref _]) _ _ _); refine' len_tuple ?z9a ?z9b ?_; (case z9a => exact ⟨_, (News.get (by k_asm) (by k_mem)), rfl, _, rfl⟩); (case z9b => omega)) | walk1 | (dsimp only; walk1) | fail "no step")
    exact ReadyF.intro (by first | assumption | (rw [hlen]; assumption) | (rw [hsz] at *; assumption)) (by assumption) (by assumption) (fun p hp => by
      left
      simp only [List.mem_cons, List.not_mem_nil, or_false] at hp
      rcases hp with rfl | rfl | rfl | rfl <;> (intro fs e; cases e)) (fun p hp => by cases hp) ⟨none, ti, by
        rw [show ilP zn ll 0 = 0 from by unfold ilP; rw [if_neg (by omega)]]
        funext y
        by_cases h : y = Str.ofString "i"
        · rw [if_pos h, h]; simp only [lookup_ite2]; repeat (rw [if_neg (by decide +kernel)])
          rfl
        · rw [if_neg h], rfl⟩
  · rintro i t m2 news2 h2 tk2 I oI hi ⟨ui, ti, rfl, rfl⟩ hnI F2 N2
    have hzl : zn + i ≤ ll := by clear hsz hlen; omega
    rw [ch_twice, show (zn : Int) + (i : Int) = ((zn + i : Nat) : Int) from by omega] at F2
    have hat := csP_at ll (idx := zn + i) (by omega) (by omega) j
    have hb := ilP_bd (i := i) hz0 hll
    have hd := fdiv_bd (a := zn + i) (b := zn) hz0 (Nat.le_trans hzl (Nat.le_trans hll (by decide)))
    have hq : (csP ll (j + 1)).getD ((zn + i : Nat) : Int).toNat 0 = if zn + i = ll then 1 else 0 := by rw [Int.toNat_natCast]; exact hat
    refine wpAny_mono (il2 (i := zn + i) (sz := (zn : Int)) (il := ilP zn ll i) LD X' T' (by show dp + 1 + 10 < recursionLimit; omega) (by show un + 3 + 100 < cLine; omega) hI (by omega) (by omega) hzi2 (by omega) (by omega) (by rw [hq]; split <;> omega) (by rw [hq]; split <;> omega) hd.1 hd.2 hb.1 (by omega) F2 N2) ?_ (fun _ _ (e : False) => e.elim)
    refine NxF.cont (fun h3 tk3 m3 news3 F3 N3 => ex1k (fun ti => and2k (fun e90 e91 => ?_)))
    subst e90 e91
    refine ⟨h3, tk3, _, _, rfl, F3, N3, hnI, some (.int ((zn + i : Nat) : Int) t), ti, ?_, rfl⟩
    have e : ilP zn ll i + ((zn + i : Nat) : Int).fdiv (zn : Int) * (csP ll (j + 1)).getD ((zn + i : Nat) : Int).toNat 0 = ilP zn ll (i + 1) := by
      rw [hq]
      unfold ilP
      rw [if_neg (by omega)]
      by_cases he : zn + i = ll
      · rw [if_pos he, if_pos (by omega), he]; omega
      · rw [if_neg he, if_neg (by omega)]; omega
    rw [e]
  · rintro m2 news2 h2 tk2 ⟨ui, ti, rfl, rfl⟩ F2 N2
    have hb := ilP_bd (zn := zn) (ll := ll) (i := ll + 1 - zn) hz0 hll
    have e : ilP zn ll (ll + 1 - zn) = ((ll : Nat) : Int).fdiv (zn : Int) := by
      unfold ilP
      by_cases hz : zn ≤ ll
      · rw [if_pos ⟨by omega, hz⟩]
      · rw [if_neg (fun q => hz q.2), Int.fdiv_eq_ediv_of_nonneg _ (by omega), Int.ediv_eq_zero_of_lt (by omega) (by omega)]
    refine wpAny_mono (il3 (i := 0) (kk := (((j + 1) : Nat) : Int)) (sz := (zn : Int)) LD X' T' (by show dp + 1 + 10 < recursionLimit; omega) (by show un + 3 + 100 < cLine; omega) (by omega) hzi2 ⟨by omega, by omega⟩ hb.1 (by omega) F2 N2) ?_ (fun _ _ (e : False) => e.elim)
    rintro f s' ⟨v, h3, tk3, m3, news3, rfl, rfl, F3, N3, ⟨t, rfl⟩, rfl⟩
    rw [e]
    subst eB
    have st := stays_of (fun p hp => (N p (hm p hp)).1) F3 N3 (fun _ hp => hp)
    exact h h3 tk3 t (fr_stays F N st).1 (fr_stays F N st).2
set_option maxRecDepth 100000 in
set_option maxHeartbeats 8000000 in
theorem il_w {w : World} {loose : List Str} {mean : ExcName → Option Value} {mg mb : Str → Option Value} {dp un : Nat} {gd : Option (List Code)} {fr : Option (List Env)} {B : Heap} {L : Addr} {s : Shared} {m : Str → Option Value} {news : List (Addr × Obj)} {X0 DX D1 D2 : Addr} {x : Str} {tx tr ta tb te td t1 t2 t3 tz : Tok} {ll k zn : Nat} {vs : List Value} {sm : Bool} {Q E : Value → Shared → Prop}
    (F : Fr B L s.heap m) (N : News B L s.heap news) (X : (hd.heap_39 w.params).In B) (T : Top hd.view_39 loose mean mg mb B) (hdp : dp + 20 < recursionLimit) (hun : un + 120 < cLine)
    (hm : ∀ p ∈ (D1, ({ cls := Value.type "tuple", data := Data.seq #[Value.ref D2, Value.int 0 t3] } : Obj)) :: (D2, ({ cls := Value.type "tuple", data := Data.seq vs.toArray } : Obj)) :: (X0, instObj 134 DX) :: (DX, dictOf [{ hash := PyData.keyHash w.params (Str.ofString "raw"), key := Value.str (Str.ofString "raw") tr, val := Value.str x tx }, { hash := PyData.keyHash w.params (Str.ofString "n"), key := Value.str (Str.ofString "n") ta, val := Value.int ((ll + k : Nat) : Int) t2 }, { hash := PyData.keyHash w.params (Str.ofString "nt"), key := Value.str (Str.ofString "nt") tb, val := Value.int ((k : Nat) : Int) t1 }, { hash := PyData.keyHash w.params (Str.ofString "norm"), key := Value.str (Str.ofString "norm") te, val := Value.ref D1 }, { hash := PyData.keyHash w.params (Str.ofString "is_simple"), key := Value.str (Str.ofString "is_simple") td, val := Value.bool sm }] 5) :: [], p ∈ news) (hI : IntsAre vs (csP ll k)) (hll : ll ≤ 10) (hk1 : 1 ≤ k) (hk8 : k ≤ 8) (hz0 : 1 ≤ zn) (hz1 : zn ≤ 10)
    (h : ∀ h' tk' t, Fr B L h' m → News B L h' news → Q (.int ((zn : Int) * (((ll : Nat) : Int).fdiv (zn : Int) + (k : Int))) t) { s with heap := h', toks := tk' }) :
    wpAny (model PySem.Challenge.rw_tl0019_01.row.prog w) (Ar dp un gd fr) (call (.ref 103) [.ref X0, .int (zn : Int) tz]) Q E s := by
  revert X
  k_fill
  intro X
  refine' il_c ?LD F N X T hdp hun hm hI hll hk1 hk8 hz0 hz1 h
  (case LD => (refine' DefAt.of ?z7L; (case z7L => k_dflt k_is)))
end Mine
end
theorem Mine.fresh_ILX : True ∧ True := by
  w_on
  w_top off
  walk1
  all_goals trivial
/-! text ILX -/
section
open PySem PySem.W PyProof.Rows PySem.Spec PySem.Calls
namespace Mine
theorem il_w2 {w : World} {loose : List Str} {mean : ExcName → Option Value} {mg mb : Str → Option Value} {dp un : Nat} {gd : Option (List Code)} {fr : Option (List Env)} {B : Heap} {L : Addr} {s : Shared} {m : Str → Option Value} {news : List (Addr × Obj)} {X0 DX D1 D2 : Addr} {x : Str} {tx tr ta tb te td t1 t2 t3 tz : Tok} {ll : Nat} {vs : List Value} {sm : Bool} {sz : Int} {k : Int} {Q E : Value → Shared → Prop}
    (F : Fr B L s.heap m) (N : News B L s.heap news) (X : (hd.heap_39 w.params).In B) (T : Top hd.view_39 loose mean mg mb B) (hdp : dp + 20 < recursionLimit) (hun : un + 120 < cLine)
    (hm : ∀ p ∈ (D1, ({ cls := Value.type "tuple", data := Data.seq #[Value.ref D2, Value.int 0 t3] } : Obj)) :: (D2, ({ cls := Value.type "tuple", data := Data.seq vs.toArray } : Obj)) :: (X0, instObj 134 DX) :: (DX, dictOf [{ hash := PyData.keyHash w.params (Str.ofString "raw"), key := Value.str (Str.ofString "raw") tr, val := Value.str x tx }, { hash := PyData.keyHash w.params (Str.ofString "n"), key := Value.str (Str.ofString "n") ta, val := Value.int ((ll + k.toNat : Nat) : Int) t2 }, { hash := PyData.keyHash w.params (Str.ofString "nt"), key := Value.str (Str.ofString "nt") tb, val := Value.int k t1 }, { hash := PyData.keyHash w.params (Str.ofString "norm"), key := Value.str (Str.ofString "norm") te, val := Value.ref D1 }, { hash := PyData.keyHash w.params (Str.ofString "is_simple"), key := Value.str (Str.ofString "is_simple") td, val := Value.bool sm }] 5) :: [], p ∈ news) (hI : IntsAre vs (csP ll k.toNat)) (hll : ll ≤ 10) (hk1 : 1 ≤ k) (hk8 : k < 1 + ((8 : Nat) : Int)) (hz0 : 1 ≤ sz) (hz1 : sz ≤ 10)
    (h : ∀ h' tk' t, Fr B L h' m → News B L h' news → Q (.int (sz * (((ll : Nat) : Int).fdiv sz + k)) t) { s with heap := h', toks := tk' }) :
    wpAny (model PySem.Challenge.rw_tl0019_01.row.prog w) (Ar dp un gd fr) (call (.ref 103) [.ref X0, .int sz tz]) Q E s := by
  obtain ⟨zn, rfl⟩ := Int.eq_ofNat_of_zero_le (show 0 ≤ sz from by omega)
  obtain ⟨kn, rfl⟩ := Int.eq_ofNat_of_zero_le (show 0 ≤ k from by omega)
  rw [Int.toNat_natCast] at hm hI
  exact il_w (k := kn) (zn := zn) F N X T hdp hun hm hI hll (by omega) (by omega) (by omega) (by omega) h
theorem il_w3 {w : World} {loose : List Str} {mean : ExcName → Option Value} {mg mb : Str → Option Value} {dp un : Nat} {gd : Option (List Code)} {fr : Option (List Env)} {B : Heap} {L : Addr} {s : Shared} {m : Str → Option Value} {news : List (Addr × Obj)} {X0 DX D1 D2 : Addr} {x : Str} {tx tr ta tb te td t1 t2 t3 tz : Tok} {ll : Nat} {vs : List Value} {sm : Bool} {sz : Int} {k : Int} {Q E : Value → Shared → Prop}
    (F : Fr B L s.heap m) (N : News B L s.heap news) (X : (hd.heap_39 w.params).In B) (T : Top hd.view_39 loose mean mg mb B) (hdp : dp + 20 < recursionLimit) (hun : un + 120 < cLine)
    (m1 : (X0, instObj 134 DX) ∈ news) (m2 : (DX, dictOf [{ hash := PyData.keyHash w.params (Str.ofString "raw"), key := Value.str (Str.ofString "raw") tr, val := Value.str x tx }, { hash := PyData.keyHash w.params (Str.ofString "n"), key := Value.str (Str.ofString "n") ta, val := Value.int ((ll + k.toNat : Nat) : Int) t2 }, { hash := PyData.keyHash w.params (Str.ofString "nt"), key := Value.str (Str.ofString "nt") tb, val := Value.int k t1 }, { hash := PyData.keyHash w.params (Str.ofString "norm"), key := Value.str (Str.ofString "norm") te, val := Value.ref D1 }, { hash := PyData.keyHash w.params (Str.ofString "is_simple"), key := Value.str (Str.ofString "is_simple") td, val := Value.bool sm }] 5) ∈ news) (m3 : (D1, ({ cls := Value.type "tuple", data := Data.seq #[Value.ref D2, Value.int 0 t3] } : Obj)) ∈ news) (m4 : (D2, ({ cls := Value.type "tuple", data := Data.seq vs.toArray } : Obj)) ∈ news)
    (hI : IntsAre vs (csP ll k.toNat)) (hll : ll ≤ 10) (hk1 : 1 ≤ k) (hk8 : k < 1 + ((8 : Nat) : Int)) (hz0 : 1 ≤ sz) (hz1 : sz ≤ 10)
    (h : ∀ h' tk' t, Fr B L h' m → News B L h' news → Q (.int (sz * (((ll : Nat) : Int).fdiv sz + k)) t) { s with heap := h', toks := tk' }) :
    wpAny (model PySem.Challenge.rw_tl0019_01.row.prog w) (Ar dp un gd fr) (call (.ref 103) [.ref X0, .int sz tz]) Q E s :=
  il_w2 F N X T hdp hun (fun p hp => by
    simp only [List.mem_cons, List.not_mem_nil, or_false] at hp
    rcases hp with rfl | rfl | rfl | rfl
    · exact m3
    · exact m4
    · exact m1
    · exact m2) hI hll hk1 hk8 hz0 hz1 h
noncomputable def stopsP (ll : Nat) (sz : Int) : List Int := (rangeKs 1 8).map fun k => sz * (((ll : Nat) : Int).fdiv sz + k)
end Mine
end
theorem Mine.fresh_LA23 : True ∧ True := by
  w_on
  w_top off
  walk1
  all_goals trivial
/-! text LA23 -/
section
open PySem PySem.W PyProof.Rows PySem.Spec PySem.Calls
namespace Mine
local macro_rules | `(tactic| walk_at "CompSrc") => `(tactic| (k_here; (try k_fmods); k_dflt (refine LCg.CompSrc.range (n := 8) (by rfl) (by k_asm) (by k_asm) (by assumption) (by decide) (by rfl) (by exact Nat.le_of_ble_eq_true rfl) ?_); intro g9; (refine' kcf_range _ (fun k9 t9 I9 oI9 C9 oC9 D9 m9 ys9 h9 tk9 E9 hlo9 hhi9 hC9 hx9 F9 N9 off9 ne9 => ?_) ?_); (all_goals (try (simp only [LCg.Off3, and_true] at off9))); (all_goals (try ((show KPfMark → _); intro hMark9))); kcf_last))
local macro_rules | `(tactic| walk_at "call ref") => `(tactic| (k_here; (with_reducible show wpAny _ _ (call (Value.ref 134) [Value.str _ _]) _ _ _); refine' ws_w2 ?z9F ?z9N ?z9X ?z9T ?z9d ?z9u ?z9a ?z9b ?z9c ?z9e ?z9f ?z9g ?z9h ?_; (case z9F => k_asm); (case z9N => k_asm); (case z9X => assumption); (case z9T => assumption); (case z9d => omega); (case z9u => omega); (case z9a => assumption); (case z9b => assumption); (case z9c => assumption); (case z9e => assumption); (case z9f => assumption); (case z9g => assumption); (case z9h => assumption); intro X8 DX8 h8 tk8 D18 D28 tr8 ta8 tb8 te8 td8 t18 t28 t38 sm8 vs8 hI8 F8 N8 l18 l28; (try k_lt l18)))
local macro_rules | `(tactic| walk_at "call ref") => `(tactic| (k_here; (with_reducible show wpAny _ _ (call (Value.ref 103) [Value.ref _, Value.int _ _]) _ _ _); refine' il_w3 ?z9F ?z9N ?z9X ?z9T ?z9d ?z9u ?z91 ?z92 ?z93 ?z94 ?z9a ?z9b ?z9c ?z9e ?z9f ?z9g ?_; (case z9F => k_asm); (case z9N => k_asm); (case z9X => assumption); (case z9T => assumption); (case z9d => omega); (case z9u => omega); (case z91 => k_mem); (case z92 => k_mem); (case z93 => k_mem); (case z94 => k_mem); (case z9a => assumption); (case z9b => assumption); (case z9c => assumption); (case z9e => assumption); (case z9f => assumption); (case z9g => assumption); intro h8 tk8 t8 F8 N8))
set_option maxRecDepth 100000 in
set_option maxHeartbeats 8000000 in
theorem ch23 {w : World} {loose : List Str} {mean : ExcName → Option Value} {mg mb : Str → Option Value} {dp un : Nat} {gd : Option (List Code)} {fr : Option (List Env)} {B : Heap} {L : Addr} {s : Shared} {qual : Str} {body : List Stmt} {scope : Scope} {cdv : Value} {S R G : Addr} {zs rs gs : List Value} {st : Int} {tst : Tok} {o1 o2 o3 o4 o5 o6 : Obj} {n' : Nat} {l : List (Str × Value)} {u : Str → Option Value} {V M T1 T2 : Addr} {vs ms : List Value} {nv nM : Nat} {p sl fa : Int} {wy rg : Nat} {tp tl tfa tsl tw tr : Tok} {sg : List Str} {lgS : Str} {ld : Str} {ll q : Nat} {tz tld : Tok} {size : Int}
    (LD : LawDef (hd.heap_39 w.params) qual body scope cdv) (X : (hd.heap_39 w.params).In B) (T : Top hd.view_39 loose mean mg mb B) (hdp : dp + 30 < recursionLimit) (hun : un + 200 < cLine)
    (hZ : StrsAre zs sg) (hsg : sg.length = 7) (hs1 : (sg.getD (Int.toNat 0) Str.empty).length = 1) (hs2 : sg.getD (Int.toNat 0) Str.empty = ⟨#[q]⟩) (hq1 : ¬ q = 32) (hq2 : ¬ q = 9) (hll : ll ≤ 10) (hld2 : ld.cps.toList = List.replicate ll 32) (hld : ld.length ≤ 10) (hz0 : 1 ≤ size) (hz1 : size ≤ 10) (d1 : o1.data = .cell (some (.str ld tld))) (d2 : o2.data = .cell (some (.int size tz))) (d3 : o3.data = .cell (some (.ref S)))
    (F : Fr B L s.heap (fun y => (if dead.contains y = true then u y else List.lookup y ((Str.ofString "ring", .int ((rg : Nat) : Int) tr) :: (Str.ofString "way", .int ((wy : Nat) : Int) tw) :: (Str.ofString "log", .str lgS tl) :: (Str.ofString "meets", .ref M) :: (Str.ofString "two", .ref T2) :: (Str.ofString "one", .ref T1) :: (Str.ofString "fast", .int fa tfa) :: (Str.ofString "slow", .int sl tsl) :: (Str.ofString "seen", .ref V) :: (Str.ofString "place", .int p tp) :: (Str.ofString "goals", .ref G) :: (Str.ofString "replies", .ref R) :: (Str.ofString "start", .int st tst) :: l)))) (N : News B L s.heap ((M, listOf ms.toArray nM) :: (V, listOf vs.toArray nv) :: (G, listOf gs.toArray n') :: [(R, LCg.lst rs), (S, LCg.lst zs), (L + 1 + 1 + 1 + 1 + 1 + 1, o1), (L + 1 + 1 + 1 + 1 + 1, o2), (L + 1 + 1 + 1 + 1, o3), (L + 1 + 1 + 1, o4), (L + 1 + 1, o5), (L + 1, o6)])) :
    wpAny (model PySem.Challenge.rw_tl0019_01.row.prog w) (Ar dp un gd fr) (execs ((body.drop 23).take 1) (envOfC qual scope L 164 cdv)) (NxD B L s (fun l' news => ∃ P ys, l' = (Str.ofString "stops", .ref P) :: (Str.ofString "ring", .int ((rg : Nat) : Int) tr) :: (Str.ofString "way", .int ((wy : Nat) : Int) tw) :: (Str.ofString "log", .str lgS tl) :: (Str.ofString "meets", .ref M) :: (Str.ofString "two", .ref T2) :: (Str.ofString "one", .ref T1) :: (Str.ofString "fast", .int fa tfa) :: (Str.ofString "slow", .int sl tsl) :: (Str.ofString "seen", .ref V) :: (Str.ofString "place", .int p tp) :: (Str.ofString "goals", .ref G) :: (Str.ofString "replies", .ref R) :: (Str.ofString "start", .int st tst) :: l ∧ IntsAre ys (stopsP ll size) ∧ news = (P, LCg.lst ys) :: (M, listOf ms.toArray nM) :: (V, listOf vs.toArray nv) :: (G, listOf gs.toArray n') :: [(R, LCg.lst rs), (S, LCg.lst zs), (L + 1 + 1 + 1 + 1 + 1 + 1, o1), (L + 1 + 1 + 1 + 1 + 1, o2), (L + 1 + 1 + 1 + 1, o3), (L + 1 + 1 + 1, o4), (L + 1 + 1, o5), (L + 1, o6)])) (fun _ _ => False) s := by
  revert X
  k_fill
  intro X
  refine hideA ?_
  intro Q9 hQ9
  have hE := LawDef.eq LD (by k_dflt k_is)
  obtain ⟨rfl, rfl, rfl, rfl⟩ := hE
  clear LD
  dsimp only [List.drop, List.take]
  k_steps
  rename Fr _ _ _ _ => F9
  rename IntsAre _ (List.map _ _) => hW
  simp only [PySem.Str.length_append, Nat.le_refl, and_self, if_true] at hW
  refine hQ9 _ _ ?_
  exact NxD.eq F9 (cons_step rfl (by decide +kernel)) (by assumption) ⟨_, _, rfl, hW, rfl⟩ (fun _ hp => hp)
theorem ch23k {w : World} {loose : List Str} {mean : ExcName → Option Value} {mg mb : Str → Option Value} {dp un : Nat} {gd : Option (List Code)} {fr : Option (List Env)} {B : Heap} {L : Addr} {s : Shared} {qual : Str} {body : List Stmt} {scope : Scope} {cdv : Value} {S R G : Addr} {zs rs gs : List Value} {st : Int} {tst : Tok} {o1 o2 o3 o4 o5 o6 : Obj} {n' : Nat} {l : List (Str × Value)} {u : Str → Option Value} {V M T1 T2 : Addr} {vs ms : List Value} {nv nM : Nat} {p sl fa : Int} {wy rg : Nat} {tp tl tfa tsl tw tr : Tok} {sg : List Str} {lgS : Str} {ld : Str} {ll q : Nat} {tz tld : Tok} {size : Int} {Q9 : Flow → Shared → Prop} {E9 : Value → Shared → Prop}
    (LD : LawDef (hd.heap_39 w.params) qual body scope cdv) (X : (hd.heap_39 w.params).In B) (T : Top hd.view_39 loose mean mg mb B) (hdp : dp + 30 < recursionLimit) (hun : un + 200 < cLine) (hZ : StrsAre zs sg) (hsg : sg.length = 7) (hs1 : (sg.getD (Int.toNat 0) Str.empty).length = 1) (hs2 : sg.getD (Int.toNat 0) Str.empty = ⟨#[q]⟩) (hq1 : ¬ q = 32) (hq2 : ¬ q = 9) (hll : ll ≤ 10) (hld2 : ld.cps.toList = List.replicate ll 32) (hld : ld.length ≤ 10) (hz0 : 1 ≤ size) (hz1 : size ≤ 10) (d1 : o1.data = .cell (some (.str ld tld))) (d2 : o2.data = .cell (some (.int size tz))) (d3 : o3.data = .cell (some (.ref S))) (F : Fr B L s.heap (fun y => (if dead.contains y = true then u y else List.lookup y ((Str.ofString "ring", .int ((rg : Nat) : Int) tr) :: (Str.ofString "way", .int ((wy : Nat) : Int) tw) :: (Str.ofString "log", .str lgS tl) :: (Str.ofString "meets", .ref M) :: (Str.ofString "two", .ref T2) :: (Str.ofString "one", .ref T1) :: (Str.ofString "fast", .int fa tfa) :: (Str.ofString "slow", .int sl tsl) :: (Str.ofString "seen", .ref V) :: (Str.ofString "place", .int p tp) :: (Str.ofString "goals", .ref G) :: (Str.ofString "replies", .ref R) :: (Str.ofString "start", .int st tst) :: l)))) (N : News B L s.heap ((M, listOf ms.toArray nM) :: (V, listOf vs.toArray nv) :: (G, listOf gs.toArray n') :: [(R, LCg.lst rs), (S, LCg.lst zs), (L + 1 + 1 + 1 + 1 + 1 + 1, o1), (L + 1 + 1 + 1 + 1 + 1, o2), (L + 1 + 1 + 1 + 1, o3), (L + 1 + 1 + 1, o4), (L + 1 + 1, o5), (L + 1, o6)]))
    (k9 : ∀ (h9 : Heap) (tk9 : Nat) (u9 : Str → Option Value) P ys, Fr B L h9 (fun y => if dead.contains y = true then u9 y else List.lookup y ((Str.ofString "stops", .ref P) :: (Str.ofString "ring", .int ((rg : Nat) : Int) tr) :: (Str.ofString "way", .int ((wy : Nat) : Int) tw) :: (Str.ofString "log", .str lgS tl) :: (Str.ofString "meets", .ref M) :: (Str.ofString "two", .ref T2) :: (Str.ofString "one", .ref T1) :: (Str.ofString "fast", .int fa tfa) :: (Str.ofString "slow", .int sl tsl) :: (Str.ofString "seen", .ref V) :: (Str.ofString "place", .int p tp) :: (Str.ofString "goals", .ref G) :: (Str.ofString "replies", .ref R) :: (Str.ofString "start", .int st tst) :: l)) → News B L h9 ((P, LCg.lst ys) :: (M, listOf ms.toArray nM) :: (V, listOf vs.toArray nv) :: (G, listOf gs.toArray n') :: [(R, LCg.lst rs), (S, LCg.lst zs), (L + 1 + 1 + 1 + 1 + 1 + 1, o1), (L + 1 + 1 + 1 + 1 + 1, o2), (L + 1 + 1 + 1 + 1, o3), (L + 1 + 1 + 1, o4), (L + 1 + 1, o5), (L + 1, o6)]) → (IntsAre ys (stopsP ll size)) → Q9 .next { s with heap := h9, toks := tk9 }) :
    wpAny (model PySem.Challenge.rw_tl0019_01.row.prog w) (Ar dp un gd fr) (execs ((body.drop 23).take 1) (envOfC qual scope L 164 cdv)) Q9 E9 s :=
  wpAny_mono (ch23 LD X T hdp hun hZ hsg hs1 hs2 hq1 hq2 hll hld2 hld hz0 hz1 d1 d2 d3 F N) (NxD.cont (fun h9 tk9 u9 l'9 news9 f9 n9 => ex2k (fun P ys => and3k (fun e90 q91 e92 => by subst e90 e92; exact k9 h9 tk9 u9 P ys f9 n9 q91)))) (fun _ _ (e : False) => e.elim)
end Mine
end
theorem Mine.fresh_LA24a : True ∧ True := by
  w_on
  w_top off
  walk1
  all_goals trivial
/-! text LA24a -/
section
open PySem PySem.W PyProof.Rows PySem.Spec PySem.Calls
namespace Mine
set_option maxRecDepth 100000 in
set_option maxHeartbeats 8000000 in
theorem ch24a {w : World} {loose : List Str} {mean : ExcName → Option Value} {mg mb : Str → Option Value} {dp un : Nat} {gd : Option (List Code)} {fr : Option (List Env)} {B : Heap} {L : Addr} {s : Shared} {qual : Str} {body : List Stmt} {scope : Scope} {cdv : Value} {S R G : Addr} {zs rs gs : List Value} {st : Int} {tst : Tok} {o1 o2 o3 o4 o5 o6 : Obj} {n' : Nat} {l : List (Str × Value)} {u : Str → Option Value} {V M T1 T2 I : Addr} {vs ms : List Value} {nv nM : Nat} {p sl fa : Int} {wy rg : Nat} {tp tl tfa tsl tw tr : Tok} {lgS : Str} {oI : Obj} {P : Addr} {ps : List Value} {stp : List Int} {tn : Int} {tt2 : Tok}
    (LD : LawDef (hd.heap_39 w.params) qual body scope cdv) (X : (hd.heap_39 w.params).In B) (T : Top hd.view_39 loose mean mg mb B) (hdp : dp + 10 < recursionLimit) (hun : un + 100 < cLine)
    (hS : IntsAre ps stp) (ht0 : 1 ≤ tn) (ht1 : tn ≤ 8) (hsl : 1 ≤ sl ∧ sl ≤ 2) (hfa : 1 ≤ fa ∧ fa ≤ 5) (hp : 0 ≤ sl * tn) (hab : sl * tn ≤ fa * tn) (hbl : fa * tn ≤ lgS.length) (hlg1 : lgS.length ≤ 100) (hnd : NoDot lgS)
    (F : Fr B L s.heap (fun y => (if y = Str.ofString "turn" then some (.int tn tt2) else if dead.contains y = true then u y else List.lookup y ((Str.ofString "stops", .ref P) :: (Str.ofString "ring", .int ((rg : Nat) : Int) tr) :: (Str.ofString "way", .int ((wy : Nat) : Int) tw) :: (Str.ofString "log", .str lgS tl) :: (Str.ofString "meets", .ref M) :: (Str.ofString "two", .ref T2) :: (Str.ofString "one", .ref T1) :: (Str.ofString "fast", .int fa tfa) :: (Str.ofString "slow", .int sl tsl) :: (Str.ofString "seen", .ref V) :: (Str.ofString "place", .int p tp) :: (Str.ofString "goals", .ref G) :: (Str.ofString "replies", .ref R) :: (Str.ofString "start", .int st tst) :: l)))) (N : News B L s.heap ((I, oI) :: (P, LCg.lst ps) :: (M, listOf ms.toArray nM) :: (V, listOf vs.toArray nv) :: (G, listOf gs.toArray n') :: [(R, LCg.lst rs), (S, LCg.lst zs), (L + 1 + 1 + 1 + 1 + 1 + 1, o1), (L + 1 + 1 + 1 + 1 + 1, o2), (L + 1 + 1 + 1 + 1, o3), (L + 1 + 1 + 1, o4), (L + 1 + 1, o5), (L + 1, o6)])) :
    wpAny (model PySem.Challenge.rw_tl0019_01.row.prog w) (Ar dp un gd fr) (execs ((forBody (body.drop 24)).take 3) (envOfC qual scope L 164 cdv)) (NxF B L s (fun m news => ∃ ta tb tjn tle, m = (fun y => if y = Str.ofString "due" then some (.bool (stp.any fun x => x == tn)) else if y = Str.ofString "joined" then some (.str (Txt.slice lgS none (some (sl * tn)) ++ Str.ofString "..." ++ Txt.slice lgS (some (fa * tn)) none) tjn) else if y = Str.ofString "left" then some (.int ((lgS.length : Int) - (fa * tn - sl * tn)) tle) else if y = Str.ofString "a" then some (.int (sl * tn) ta) else if y = Str.ofString "b" then some (.int (fa * tn) tb) else if y = Str.ofString "turn" then some (.int tn tt2) else if dead.contains y = true then u y else List.lookup y ((Str.ofString "stops", .ref P) :: (Str.ofString "ring", .int ((rg : Nat) : Int) tr) :: (Str.ofString "way", .int ((wy : Nat) : Int) tw) :: (Str.ofString "log", .str lgS tl) :: (Str.ofString "meets", .ref M) :: (Str.ofString "two", .ref T2) :: (Str.ofString "one", .ref T1) :: (Str.ofString "fast", .int fa tfa) :: (Str.ofString "slow", .int sl tsl) :: (Str.ofString "seen", .ref V) :: (Str.ofString "place", .int p tp) :: (Str.ofString "goals", .ref G) :: (Str.ofString "replies", .ref R) :: (Str.ofString "start", .int st tst) :: l)) ∧ news = ((I, oI) :: (P, LCg.lst ps) :: (M, listOf ms.toArray nM) :: (V, listOf vs.toArray nv) :: (G, listOf gs.toArray n') :: [(R, LCg.lst rs), (S, LCg.lst zs), (L + 1 + 1 + 1 + 1 + 1 + 1, o1), (L + 1 + 1 + 1 + 1 + 1, o2), (L + 1 + 1 + 1 + 1, o3), (L + 1 + 1 + 1, o4), (L + 1 + 1, o5), (L + 1, o6)]))) (fun _ _ => False) s := by
  revert X
  k_fill
  intro X
  refine hideA ?_
  intro Q9 hQ9
  have hE := LawDef.eq LD (by k_dflt k_is)
  obtain ⟨rfl, rfl, rfl, rfl⟩ := hE
  clear LD
  dsimp only [List.drop, List.take]
  dsimp only [forBody, List.drop, List.take]
  k_steps
  rename Fr _ _ _ _ => F9
  refine hQ9 _ _ ?_
  exact NxF.of F9 (by assumption) ⟨_, _, _, _, rfl, rfl⟩ (by intro p hp; repeat (first | exact hp | apply List.Mem.tail))
end Mine
end
theorem Mine.fresh_LA24b : True ∧ True := by
  w_on
  w_top off
  walk1
  all_goals trivial
/-! text LA24b -/
section
open PySem PySem.W PyProof.Rows PySem.Spec PySem.Calls
namespace Mine
theorem em_w2b {w : World} {loose : List Str} {mean : ExcName → Option Value} {mg mb : Str → Option Value} {dp un : Nat} {gd : Option (List Code)} {fr : Option (List Env)} {B : Heap} {L : Addr} {m : Str → Option Value} {news : List (Addr × Obj)} {s : Shared} {Q E : Value → Shared → Prop} {u got : Str} {t1 t2 : Tok}
   (F : Fr B L s.heap m) (N : News B L s.heap news) (X : (hd.heap_39 w.params).In B) (T : Top hd.view_39 loose mean mg mb B) (hdp : dp < recursionLimit) (hun : un + 50 < cLine)
   (hu : NoDot u) (hul : u.length ≤ 1000) (hg : got.length ≤ 1000)
   (h : ∀ h' tk', Fr B L h' m → News B L h' news → Q (.bool (em2 u Str.empty got)) { s with heap := h', toks := tk' }) :
   wpAny (model PySem.Challenge.rw_tl0019_01.row.prog w) (Ar dp un gd fr) (call (.ref 72) [.str (u ++ Str.ofString "...") t1, .str got t2]) Q E s := by
  have e : u ++ Str.ofString "..." = u ++ Str.ofString "..." ++ Str.empty := by
    show (⟨u.cps ++ (Str.ofString "...").cps⟩ : Str) = ⟨u.cps ++ (Str.ofString "...").cps ++ #[]⟩
    rw [Array.append_empty]
  rw [e]
  exact em_w2 F N X T hdp hun hu (fun c hc => by cases hc) hul (by show 0 ≤ 1000; omega) hg h
set_option maxRecDepth 100000 in
set_option maxHeartbeats 8000000 in
theorem ch24b {w : World} {loose : List Str} {mean : ExcName → Option Value} {mg mb : Str → Option Value} {dp un : Nat} {gd : Option (List Code)} {fr : Option (List Env)} {B : Heap} {L : Addr} {s : Shared} {qual : Str} {body : List Stmt} {scope : Scope} {cdv : Value} {S R G : Addr} {zs rs gs : List Value} {st : Int} {tst : Tok} {o1 o2 o3 o4 o5 o6 : Obj} {n' : Nat} {l : List (Str × Value)} {u : Str → Option Value} {V M T1 T2 I : Addr} {vs ms : List Value} {nv nM : Nat} {p sl fa : Int} {wy rg : Nat} {tp tl tfa tsl tw tr : Tok} {lgS : Str} {oI : Obj} {P : Addr} {ps : List Value} {tn av bv : Int} {tt2 ta tb tjn tle : Tok} {bs : List Bool} {du : Bool}
    (LD : LawDef (hd.heap_39 w.params) qual body scope cdv) (X : (hd.heap_39 w.params).In B) (T : Top hd.view_39 loose mean mg mb B) (hdp : dp + 10 < recursionLimit) (hun : un + 100 < cLine)
    (hp : 0 ≤ av) (hab : av ≤ bv) (hbl : bv ≤ lgS.length) (hlg1 : lgS.length ≤ 100) (hnd : NoDot lgS) (hB : LSm.BoolsAre ms bs) (hbs : bs.length = 8) (ht0 : 1 ≤ tn) (ht1 : tn ≤ 8) (h1 : bs.getD (tn - 1).toNat false = du) (h2 : em2 (Txt.slice lgS (some bv) none) Str.empty (Txt.slice lgS (some av) none) = du)
    (F : Fr B L s.heap (fun y => (if y = Str.ofString "due" then some (.bool du) else if y = Str.ofString "joined" then some (.str (Txt.slice lgS none (some av) ++ Str.ofString "..." ++ Txt.slice lgS (some bv) none) tjn) else if y = Str.ofString "left" then some (.int ((lgS.length : Int) - (bv - av)) tle) else if y = Str.ofString "a" then some (.int av ta) else if y = Str.ofString "b" then some (.int bv tb) else if y = Str.ofString "turn" then some (.int tn tt2) else if dead.contains y = true then u y else List.lookup y ((Str.ofString "stops", .ref P) :: (Str.ofString "ring", .int ((rg : Nat) : Int) tr) :: (Str.ofString "way", .int ((wy : Nat) : Int) tw) :: (Str.ofString "log", .str lgS tl) :: (Str.ofString "meets", .ref M) :: (Str.ofString "two", .ref T2) :: (Str.ofString "one", .ref T1) :: (Str.ofString "fast", .int fa tfa) :: (Str.ofString "slow", .int sl tsl) :: (Str.ofString "seen", .ref V) :: (Str.ofString "place", .int p tp) :: (Str.ofString "goals", .ref G) :: (Str.ofString "replies", .ref R) :: (Str.ofString "start", .int st tst) :: l)))) (N : News B L s.heap ((I, oI) :: (P, LCg.lst ps) :: (M, listOf ms.toArray nM) :: (V, listOf vs.toArray nv) :: (G, listOf gs.toArray n') :: [(R, LCg.lst rs), (S, LCg.lst zs), (L + 1 + 1 + 1 + 1 + 1 + 1, o1), (L + 1 + 1 + 1 + 1 + 1, o2), (L + 1 + 1 + 1 + 1, o3), (L + 1 + 1 + 1, o4), (L + 1 + 1, o5), (L + 1, o6)])) :
    wpAny (model PySem.Challenge.rw_tl0019_01.row.prog w) (Ar dp un gd fr) (execs (((forBody (body.drop 24)).drop 3).take 1) (envOfC qual scope L 164 cdv)) (NxF B L s (fun m news => m = (fun y => if y = Str.ofString "due" then some (.bool du) else if y = Str.ofString "joined" then some (.str (Txt.slice lgS none (some av) ++ Str.ofString "..." ++ Txt.slice lgS (some bv) none) tjn) else if y = Str.ofString "left" then some (.int ((lgS.length : Int) - (bv - av)) tle) else if y = Str.ofString "a" then some (.int av ta) else if y = Str.ofString "b" then some (.int bv tb) else if y = Str.ofString "turn" then some (.int tn tt2) else if dead.contains y = true then u y else List.lookup y ((Str.ofString "stops", .ref P) :: (Str.ofString "ring", .int ((rg : Nat) : Int) tr) :: (Str.ofString "way", .int ((wy : Nat) : Int) tw) :: (Str.ofString "log", .str lgS tl) :: (Str.ofString "meets", .ref M) :: (Str.ofString "two", .ref T2) :: (Str.ofString "one", .ref T1) :: (Str.ofString "fast", .int fa tfa) :: (Str.ofString "slow", .int sl tsl) :: (Str.ofString "seen", .ref V) :: (Str.ofString "place", .int p tp) :: (Str.ofString "goals", .ref G) :: (Str.ofString "replies", .ref R) :: (Str.ofString "start", .int st tst) :: l)) ∧ news = ((I, oI) :: (P, LCg.lst ps) :: (M, listOf ms.toArray nM) :: (V, listOf vs.toArray nv) :: (G, listOf gs.toArray n') :: [(R, LCg.lst rs), (S, LCg.lst zs), (L + 1 + 1 + 1 + 1 + 1 + 1, o1), (L + 1 + 1 + 1 + 1 + 1, o2), (L + 1 + 1 + 1 + 1, o3), (L + 1 + 1 + 1, o4), (L + 1 + 1, o5), (L + 1, o6)]))) (fun _ _ => False) s := by
  revert X
  k_fill
  intro X
  refine hideA ?_
  intro Q9 hQ9
  have hE := LawDef.eq LD (by k_dflt k_is)
  obtain ⟨rfl, rfl, rfl, rfl⟩ := hE
  clear LD
  dsimp only [List.drop, List.take]
  dsimp only [forBody, List.drop, List.take]
  repeat' (first | (k_unfold; (try dsimp only)) | (k_here; (with_reducible show wpAny _ _ (call (Value.ref 72) [Value.str (_ ++ Str.ofString _) _, Value.str _ _]) _ _ _); refine' em_w2b ?z9F ?z9N ?z9X ?z9T ?z9d ?z9u ?z9a ?z9c ?z9f ?_; (case z9F => k_asm); (case z9N => k_asm); (case z9X => assumption); (case z9T => assumption); (case z9d => omega); (case z9u => omega); (case z9a => exact noDot_slice (by assumption) _ _); (case z9c => exact Nat.le_trans (Txt.slice_le _ _ _) (by omega)); (case z9f => exact Nat.le_trans (Txt.slice_le _ _ _) (by omega)); intro h8 tk8 F8 N8) | (k_here; (with_reducible show wpAny _ _ (call (Value.ref 72) [Value.str (_ ++ _ ++ _) _, Value.str _ _]) _ _ _); refine' em_w2 ?z9F ?z9N ?z9X ?z9T ?z9d ?z9u ?z9a ?z9b ?z9c ?z9e ?z9f ?_; (case z9F => k_asm); (case z9N => k_asm); (case z9X => assumption); (case z9T => assumption); (case z9d => omega); (case z9u => omega); (case z9a => exact noDot_slice (by assumption) _ _); (case z9b => exact noDot_slice (by assumption) _ _); (case z9c => exact Nat.le_trans (Txt.slice_le _ _ _) (by omega)); (case z9e => exact Nat.le_trans (Txt.slice_le _ _ _) (by omega)); (case z9f => first | omega | exact Nat.le_trans (Txt.slice_le _ _ _) (by omega)); intro h8 tk8 F8 N8) | walk1 | (dsimp only; walk1) | fail "no step")
  all_goals first
    | (exfalso; rename (_ != _) = true => hc; rw [h1, bne_self_eq_false] at hc; cases hc; done)
    | (exfalso; rename (_ != _) = true => hc; rw [h2, bne_self_eq_false] at hc; cases hc; done)
    | (refine hQ9 _ _ ?_; exact NxF.of (by assumption) (by assumption) ⟨rfl, rfl⟩ (by intro p hp; repeat (first | exact hp | apply List.Mem.tail)))
end Mine
end
theorem Mine.fresh_LA24c : True ∧ True := by
  w_on
  w_top off
  walk1
  all_goals trivial
/-! text LA24c -/
section
open PySem PySem.W PyProof.Rows PySem.Spec PySem.Calls
namespace Mine
set_option maxRecDepth 100000 in
set_option maxHeartbeats 8000000 in
theorem ch24c {w : World} {loose : List Str} {mean : ExcName → Option Value} {mg mb : Str → Option Value} {dp un : Nat} {gd : Option (List Code)} {fr : Option (List Env)} {B : Heap} {L : Addr} {s : Shared} {qual : Str} {body : List Stmt} {scope : Scope} {cdv : Value} {S R G : Addr} {zs rs gs : List Value} {st : Int} {tst : Tok} {o1 o2 o3 o4 o5 o6 : Obj} {n' : Nat} {l : List (Str × Value)} {u : Str → Option Value} {V M T1 T2 I : Addr} {vs ms : List Value} {nv nM : Nat} {p sl fa : Int} {wy rg : Nat} {tp tl tfa tsl tw tr : Tok} {lgS : Str} {oI : Obj} {P : Addr} {ps : List Value} {tn av bv : Int} {tt2 ta tb tjn tle : Tok} {du : Bool}
    (LD : LawDef (hd.heap_39 w.params) qual body scope cdv) (X : (hd.heap_39 w.params).In B) (T : Top hd.view_39 loose mean mg mb B) (hdp : dp + 10 < recursionLimit) (hun : un + 100 < cLine)
    (hp : 0 ≤ av) (hab : av ≤ bv) (hbl : bv ≤ lgS.length) (hlg1 : lgS.length ≤ 100) (hnd : NoDot lgS) (hle : 1 ≤ (lgS.length : Int) - (bv - av)) (h3 : em2 (Txt.slice lgS none (some av)) (Txt.slice lgS (some bv) none) (Txt.slice lgS none (some ((lgS.length : Int) - (bv - av)))) = du) (h4 : em2 (Txt.slice lgS none (some av)) (Txt.slice lgS (some bv) none) (Txt.slice lgS none (some ((lgS.length : Int) - (bv - av) - 1))) = false)
    (F : Fr B L s.heap (fun y => (if y = Str.ofString "due" then some (.bool du) else if y = Str.ofString "joined" then some (.str (Txt.slice lgS none (some av) ++ Str.ofString "..." ++ Txt.slice lgS (some bv) none) tjn) else if y = Str.ofString "left" then some (.int ((lgS.length : Int) - (bv - av)) tle) else if y = Str.ofString "a" then some (.int av ta) else if y = Str.ofString "b" then some (.int bv tb) else if y = Str.ofString "turn" then some (.int tn tt2) else if dead.contains y = true then u y else List.lookup y ((Str.ofString "stops", .ref P) :: (Str.ofString "ring", .int ((rg : Nat) : Int) tr) :: (Str.ofString "way", .int ((wy : Nat) : Int) tw) :: (Str.ofString "log", .str lgS tl) :: (Str.ofString "meets", .ref M) :: (Str.ofString "two", .ref T2) :: (Str.ofString "one", .ref T1) :: (Str.ofString "fast", .int fa tfa) :: (Str.ofString "slow", .int sl tsl) :: (Str.ofString "seen", .ref V) :: (Str.ofString "place", .int p tp) :: (Str.ofString "goals", .ref G) :: (Str.ofString "replies", .ref R) :: (Str.ofString "start", .int st tst) :: l)))) (N : News B L s.heap ((I, oI) :: (P, LCg.lst ps) :: (M, listOf ms.toArray nM) :: (V, listOf vs.toArray nv) :: (G, listOf gs.toArray n') :: [(R, LCg.lst rs), (S, LCg.lst zs), (L + 1 + 1 + 1 + 1 + 1 + 1, o1), (L + 1 + 1 + 1 + 1 + 1, o2), (L + 1 + 1 + 1 + 1, o3), (L + 1 + 1 + 1, o4), (L + 1 + 1, o5), (L + 1, o6)])) :
    wpAny (model PySem.Challenge.rw_tl0019_01.row.prog w) (Ar dp un gd fr) (execs (((forBody (body.drop 24)).drop 4).take 1) (envOfC qual scope L 164 cdv)) (NxF B L s (fun m news => m = (fun y => if y = Str.ofString "due" then some (.bool du) else if y = Str.ofString "joined" then some (.str (Txt.slice lgS none (some av) ++ Str.ofString "..." ++ Txt.slice lgS (some bv) none) tjn) else if y = Str.ofString "left" then some (.int ((lgS.length : Int) - (bv - av)) tle) else if y = Str.ofString "a" then some (.int av ta) else if y = Str.ofString "b" then some (.int bv tb) else if y = Str.ofString "turn" then some (.int tn tt2) else if dead.contains y = true then u y else List.lookup y ((Str.ofString "stops", .ref P) :: (Str.ofString "ring", .int ((rg : Nat) : Int) tr) :: (Str.ofString "way", .int ((wy : Nat) : Int) tw) :: (Str.ofString "log", .str lgS tl) :: (Str.ofString "meets", .ref M) :: (Str.ofString "two", .ref T2) :: (Str.ofString "one", .ref T1) :: (Str.ofString "fast", .int fa tfa) :: (Str.ofString "slow", .int sl tsl) :: (Str.ofString "seen", .ref V) :: (Str.ofString "place", .int p tp) :: (Str.ofString "goals", .ref G) :: (Str.ofString "replies", .ref R) :: (Str.ofString "start", .int st tst) :: l)) ∧ news = ((I, oI) :: (P, LCg.lst ps) :: (M, listOf ms.toArray nM) :: (V, listOf vs.toArray nv) :: (G, listOf gs.toArray n') :: [(R, LCg.lst rs), (S, LCg.lst zs), (L + 1 + 1 + 1 + 1 + 1 + 1, o1), (L + 1 + 1 + 1 + 1 + 1, o2), (L + 1 + 1 + 1 + 1, o3), (L + 1 + 1 + 1, o4), (L + 1 + 1, o5), (L + 1, o6)]))) (fun _ _ => False) s := by
  revert X
  k_fill
  intro X
  refine hideA ?_
  intro Q9 hQ9
  have hE := LawDef.eq LD (by k_dflt k_is)
  obtain ⟨rfl, rfl, rfl, rfl⟩ := hE
  clear LD
  dsimp only [List.drop, List.take]
  dsimp only [forBody, List.drop, List.take]
  repeat' (first | (k_unfold; (try dsimp only)) | (k_here; (with_reducible show wpAny _ _ (call (Value.ref 72) [Value.str (_ ++ Str.ofString _) _, Value.str _ _]) _ _ _); refine' em_w2b ?z9F ?z9N ?z9X ?z9T ?z9d ?z9u ?z9a ?z9c ?z9f ?_; (case z9F => k_asm); (case z9N => k_asm); (case z9X => assumption); (case z9T => assumption); (case z9d => omega); (case z9u => omega); (case z9a => exact noDot_slice (by assumption) _ _); (case z9c => exact Nat.le_trans (Txt.slice_le _ _ _) (by omega)); (case z9f => exact Nat.le_trans (Txt.slice_le _ _ _) (by omega)); intro h8 tk8 F8 N8) | (k_here; (with_reducible show wpAny _ _ (call (Value.ref 72) [Value.str (_ ++ _ ++ _) _, Value.str _ _]) _ _ _); refine' em_w2 ?z9F ?z9N ?z9X ?z9T ?z9d ?z9u ?z9a ?z9b ?z9c ?z9e ?z9f ?_; (case z9F => k_asm); (case z9N => k_asm); (case z9X => assumption); (case z9T => assumption); (case z9d => omega); (case z9u => omega); (case z9a => exact noDot_slice (by assumption) _ _); (case z9b => exact noDot_slice (by assumption) _ _); (case z9c => exact Nat.le_trans (Txt.slice_le _ _ _) (by omega)); (case z9e => exact Nat.le_trans (Txt.slice_le _ _ _) (by omega)); (case z9f => first | omega | exact Nat.le_trans (Txt.slice_le _ _ _) (by omega)); intro h8 tk8 F8 N8) | walk1 | (dsimp only; walk1) | fail "no step")
  all_goals first
    | (exfalso; rename (_ != _) = true => hc; rw [h3, bne_self_eq_false] at hc; cases hc; done)
    | (exfalso; rename (_ != _) = true => hc; rw [h4, bne_self_eq_false] at hc; cases hc; done)
    | (refine hQ9 _ _ ?_; exact NxF.of (by assumption) (by assumption) ⟨rfl, rfl⟩ (by intro p hp; repeat (first | exact hp | apply List.Mem.tail)))
end Mine
end
theorem Mine.fresh_LA24d : True ∧ True := by
  w_on
  w_top off
  walk1
  all_goals trivial
/-! text LA24d -/
section
open PySem PySem.W PyProof.Rows PySem.Spec PySem.Calls
namespace Mine
set_option maxRecDepth 100000 in
set_option maxHeartbeats 8000000 in
theorem ch24d {w : World} {loose : List Str} {mean : ExcName → Option Value} {mg mb : Str → Option Value} {dp un : Nat} {gd : Option (List Code)} {fr : Option (List Env)} {B : Heap} {L : Addr} {s : Shared} {qual : Str} {body : List Stmt} {scope : Scope} {cdv : Value} {S R G : Addr} {zs rs gs : List Value} {st : Int} {tst : Tok} {o1 o2 o3 o4 o5 o6 : Obj} {n' : Nat} {l : List (Str × Value)} {u : Str → Option Value} {V M T1 T2 I : Addr} {vs ms : List Value} {nv nM : Nat} {p sl fa : Int} {wy rg : Nat} {tp tl tfa tsl tw tr : Tok} {lgS : Str} {oI : Obj} {P : Addr} {ps : List Value} {tn av bv : Int} {tt2 ta tb tjn tle : Tok} {du : Bool}
    (LD : LawDef (hd.heap_39 w.params) qual body scope cdv) (X : (hd.heap_39 w.params).In B) (T : Top hd.view_39 loose mean mg mb B) (hdp : dp + 10 < recursionLimit) (hun : un + 100 < cLine)
    (hp : 0 ≤ av) (hab : av ≤ bv) (hbl : bv ≤ lgS.length) (hlg1 : lgS.length ≤ 100) (hnd : NoDot lgS) (h5 : em2 (Txt.slice lgS none (some av)) (Txt.slice lgS (some bv) none) lgS = true)
    (F : Fr B L s.heap (fun y => (if y = Str.ofString "due" then some (.bool du) else if y = Str.ofString "joined" then some (.str (Txt.slice lgS none (some av) ++ Str.ofString "..." ++ Txt.slice lgS (some bv) none) tjn) else if y = Str.ofString "left" then some (.int ((lgS.length : Int) - (bv - av)) tle) else if y = Str.ofString "a" then some (.int av ta) else if y = Str.ofString "b" then some (.int bv tb) else if y = Str.ofString "turn" then some (.int tn tt2) else if dead.contains y = true then u y else List.lookup y ((Str.ofString "stops", .ref P) :: (Str.ofString "ring", .int ((rg : Nat) : Int) tr) :: (Str.ofString "way", .int ((wy : Nat) : Int) tw) :: (Str.ofString "log", .str lgS tl) :: (Str.ofString "meets", .ref M) :: (Str.ofString "two", .ref T2) :: (Str.ofString "one", .ref T1) :: (Str.ofString "fast", .int fa tfa) :: (Str.ofString "slow", .int sl tsl) :: (Str.ofString "seen", .ref V) :: (Str.ofString "place", .int p tp) :: (Str.ofString "goals", .ref G) :: (Str.ofString "replies", .ref R) :: (Str.ofString "start", .int st tst) :: l)))) (N : News B L s.heap ((I, oI) :: (P, LCg.lst ps) :: (M, listOf ms.toArray nM) :: (V, listOf vs.toArray nv) :: (G, listOf gs.toArray n') :: [(R, LCg.lst rs), (S, LCg.lst zs), (L + 1 + 1 + 1 + 1 + 1 + 1, o1), (L + 1 + 1 + 1 + 1 + 1, o2), (L + 1 + 1 + 1 + 1, o3), (L + 1 + 1 + 1, o4), (L + 1 + 1, o5), (L + 1, o6)])) :
    wpAny (model PySem.Challenge.rw_tl0019_01.row.prog w) (Ar dp un gd fr) (execs (((forBody (body.drop 24)).drop 5).take 1) (envOfC qual scope L 164 cdv)) (NxF B L s (fun m news => m = (fun y => if y = Str.ofString "due" then some (.bool du) else if y = Str.ofString "joined" then some (.str (Txt.slice lgS none (some av) ++ Str.ofString "..." ++ Txt.slice lgS (some bv) none) tjn) else if y = Str.ofString "left" then some (.int ((lgS.length : Int) - (bv - av)) tle) else if y = Str.ofString "a" then some (.int av ta) else if y = Str.ofString "b" then some (.int bv tb) else if y = Str.ofString "turn" then some (.int tn tt2) else if dead.contains y = true then u y else List.lookup y ((Str.ofString "stops", .ref P) :: (Str.ofString "ring", .int ((rg : Nat) : Int) tr) :: (Str.ofString "way", .int ((wy : Nat) : Int) tw) :: (Str.ofString "log", .str lgS tl) :: (Str.ofString "meets", .ref M) :: (Str.ofString "two", .ref T2) :: (Str.ofString "one", .ref T1) :: (Str.ofString "fast", .int fa tfa) :: (Str.ofString "slow", .int sl tsl) :: (Str.ofString "seen", .ref V) :: (Str.ofString "place", .int p tp) :: (Str.ofString "goals", .ref G) :: (Str.ofString "replies", .ref R) :: (Str.ofString "start", .int st tst) :: l)) ∧ news = ((I, oI) :: (P, LCg.lst ps) :: (M, listOf ms.toArray nM) :: (V, listOf vs.toArray nv) :: (G, listOf gs.toArray n') :: [(R, LCg.lst rs), (S, LCg.lst zs), (L + 1 + 1 + 1 + 1 + 1 + 1, o1), (L + 1 + 1 + 1 + 1 + 1, o2), (L + 1 + 1 + 1 + 1, o3), (L + 1 + 1 + 1, o4), (L + 1 + 1, o5), (L + 1, o6)]))) (fun _ _ => False) s := by
  revert X
  k_fill
  intro X
  refine hideA ?_
  intro Q9 hQ9
  have hE := LawDef.eq LD (by k_dflt k_is)
  obtain ⟨rfl, rfl, rfl, rfl⟩ := hE
  clear LD
  dsimp only [List.drop, List.take]
  dsimp only [forBody, List.drop, List.take]
  repeat' (first | (k_unfold; (try dsimp only)) | (k_here; (with_reducible show wpAny _ _ (call (Value.ref 72) [Value.str (_ ++ Str.ofString _) _, Value.str _ _]) _ _ _); refine' em_w2b ?z9F ?z9N ?z9X ?z9T ?z9d ?z9u ?z9a ?z9c ?z9f ?_; (case z9F => k_asm); (case z9N => k_asm); (case z9X => assumption); (case z9T => assumption); (case z9d => omega); (case z9u => omega); (case z9a => exact noDot_slice (by assumption) _ _); (case z9c => exact Nat.le_trans (Txt.slice_le _ _ _) (by omega)); (case z9f => exact Nat.le_trans (Txt.slice_le _ _ _) (by omega)); intro h8 tk8 F8 N8) | (k_here; (with_reducible show wpAny _ _ (call (Value.ref 72) [Value.str (_ ++ _ ++ _) _, Value.str _ _]) _ _ _); refine' em_w2 ?z9F ?z9N ?z9X ?z9T ?z9d ?z9u ?z9a ?z9b ?z9c ?z9e ?z9f ?_; (case z9F => k_asm); (case z9N => k_asm); (case z9X => assumption); (case z9T => assumption); (case z9d => omega); (case z9u => omega); (case z9a => exact noDot_slice (by assumption) _ _); (case z9b => exact noDot_slice (by assumption) _ _); (case z9c => exact Nat.le_trans (Txt.slice_le _ _ _) (by omega)); (case z9e => exact Nat.le_trans (Txt.slice_le _ _ _) (by omega)); (case z9f => first | omega | exact Nat.le_trans (Txt.slice_le _ _ _) (by omega)); intro h8 tk8 F8 N8) | walk1 | (dsimp only; walk1) | fail "no step")
  all_goals first
    | (exfalso; rename (_ != _) = true => hc; rw [h5, bne_self_eq_false] at hc; cases hc; done)
    | (refine hQ9 _ _ ?_; exact NxF.of (by assumption) (by assumption) ⟨rfl, rfl⟩ (by intro p hp; repeat (first | exact hp | apply List.Mem.tail)))
end Mine
end
theorem Mine.fresh_LA24 : True ∧ True := by
  w_on
  w_top off
  walk1
  all_goals trivial
/-! text LA24 -/
section
open PySem PySem.W PyProof.Rows PySem.Spec PySem.Calls
namespace Mine
noncomputable def LastOk (lgS : Str) (sl fa : Int) (stp : List Int) (bs : List Bool) (tn : Int) : Prop :=
  0 ≤ sl * tn ∧ sl * tn ≤ fa * tn ∧ fa * tn ≤ lgS.length ∧ 1 ≤ (lgS.length : Int) - (fa * tn - sl * tn) ∧ bs.getD (tn - 1).toNat false = (stp.any fun x => x == tn) ∧
  em2 (Txt.slice lgS (some (fa * tn)) none) Str.empty (Txt.slice lgS (some (sl * tn)) none) = (stp.any fun x => x == tn) ∧
  em2 (Txt.slice lgS none (some (sl * tn))) (Txt.slice lgS (some (fa * tn)) none) (Txt.slice lgS none (some ((lgS.length : Int) - (fa * tn - sl * tn)))) = (stp.any fun x => x == tn) ∧
  em2 (Txt.slice lgS none (some (sl * tn))) (Txt.slice lgS (some (fa * tn)) none) (Txt.slice lgS none (some ((lgS.length : Int) - (fa * tn - sl * tn) - 1))) = false ∧
  em2 (Txt.slice lgS none (some (sl * tn))) (Txt.slice lgS (some (fa * tn)) none) lgS = true
theorem dead_m24 {v1 v2 v3 v4 v5 v6 : Value} {u : Str → Option Value} {l : List (Str × Value)} :
    (fun y => if y = Str.ofString "due" then some v1 else if y = Str.ofString "joined" then some v2 else if y = Str.ofString "left" then some v3 else if y = Str.ofString "a" then some v4 else if y = Str.ofString "b" then some v5 else if y = Str.ofString "turn" then some v6 else if dead.contains y = true then u y else List.lookup y l) =
    fun y => if dead.contains y = true then (if y = Str.ofString "due" then some v1 else if y = Str.ofString "joined" then some v2 else if y = Str.ofString "left" then some v3 else if y = Str.ofString "a" then some v4 else if y = Str.ofString "b" then some v5 else if y = Str.ofString "turn" then some v6 else u y) else List.lookup y l := by
  funext y
  cases hy : dead.contains y with
  | true => simp only [if_true]
  | false =>
    repeat rw [if_neg (not_dead hy (by decide +kernel))]
set_option maxRecDepth 100000 in
set_option maxHeartbeats 8000000 in
theorem ch24 {w : World} {loose : List Str} {mean : ExcName → Option Value} {mg mb : Str → Option Value} {dp un : Nat} {gd : Option (List Code)} {B : Heap} {L : Addr} {s : Shared} {qual : Str} {body : List Stmt} {scope : Scope} {cdv : Value} {S R G : Addr} {zs rs gs : List Value} {st : Int} {tst : Tok} {o1 o2 o3 o4 o5 o6 : Obj} {n' : Nat} {l : List (Str × Value)} {u : Str → Option Value} {V M T1 T2 : Addr} {vs ms : List Value} {nv nM : Nat} {p sl fa : Int} {wy rg : Nat} {tp tl tfa tsl tw tr : Tok} {lgS : Str} {P : Addr} {ps : List Value} {stp : List Int} {bs : List Bool}
    (LD : LawDef (hd.heap_39 w.params) qual body scope cdv) (X : (hd.heap_39 w.params).In B) (T : Top hd.view_39 loose mean mg mb B) (hdp : dp + 10 < recursionLimit) (hun : un + 100 < cLine)
    (hS : IntsAre ps stp) (hsl : 1 ≤ sl ∧ sl ≤ 2) (hfa : 1 ≤ fa ∧ fa ≤ 5) (hlg1 : lgS.length ≤ 100) (hnd : NoDot lgS) (hB : LSm.BoolsAre ms bs) (hbs : bs.length = 8) (hok : ∀ i : Nat, i < 8 → LastOk lgS sl fa stp bs (1 + (i : Int))) (hcl : ∀ p ∈ (M, listOf ms.toArray nM) :: (V, listOf vs.toArray nv) :: (G, listOf gs.toArray n') :: [(R, LCg.lst rs), (S, LCg.lst zs), (L + 1 + 1 + 1 + 1 + 1 + 1, o1), (L + 1 + 1 + 1 + 1 + 1, o2), (L + 1 + 1 + 1 + 1, o3), (L + 1 + 1 + 1, o4), (L + 1 + 1, o5), (L + 1, o6)], NoIt [] p)
    (F : Fr B L s.heap (fun y => (if dead.contains y = true then u y else List.lookup y ((Str.ofString "stops", .ref P) :: (Str.ofString "ring", .int ((rg : Nat) : Int) tr) :: (Str.ofString "way", .int ((wy : Nat) : Int) tw) :: (Str.ofString "log", .str lgS tl) :: (Str.ofString "meets", .ref M) :: (Str.ofString "two", .ref T2) :: (Str.ofString "one", .ref T1) :: (Str.ofString "fast", .int fa tfa) :: (Str.ofString "slow", .int sl tsl) :: (Str.ofString "seen", .ref V) :: (Str.ofString "place", .int p tp) :: (Str.ofString "goals", .ref G) :: (Str.ofString "replies", .ref R) :: (Str.ofString "start", .int st tst) :: l)))) (N : News B L s.heap ((P, LCg.lst ps) :: (M, listOf ms.toArray nM) :: (V, listOf vs.toArray nv) :: (G, listOf gs.toArray n') :: [(R, LCg.lst rs), (S, LCg.lst zs), (L + 1 + 1 + 1 + 1 + 1 + 1, o1), (L + 1 + 1 + 1 + 1 + 1, o2), (L + 1 + 1 + 1 + 1, o3), (L + 1 + 1 + 1, o4), (L + 1 + 1, o5), (L + 1, o6)])) :
    wpC (model PySem.Challenge.rw_tl0019_01.row.prog w) (Ar dp un gd (some [envOfC qual scope L 164 cdv])) (execs ((body.drop 24).take 1) (envOfC qual scope L 164 cdv)) (NxD B L s (fun l' news => l' = (Str.ofString "stops", .ref P) :: (Str.ofString "ring", .int ((rg : Nat) : Int) tr) :: (Str.ofString "way", .int ((wy : Nat) : Int) tw) :: (Str.ofString "log", .str lgS tl) :: (Str.ofString "meets", .ref M) :: (Str.ofString "two", .ref T2) :: (Str.ofString "one", .ref T1) :: (Str.ofString "fast", .int fa tfa) :: (Str.ofString "slow", .int sl tsl) :: (Str.ofString "seen", .ref V) :: (Str.ofString "place", .int p tp) :: (Str.ofString "goals", .ref G) :: (Str.ofString "replies", .ref R) :: (Str.ofString "start", .int st tst) :: l ∧ news = (P, LCg.lst ps) :: (M, listOf ms.toArray nM) :: (V, listOf vs.toArray nv) :: (G, listOf gs.toArray n') :: [(R, LCg.lst rs), (S, LCg.lst zs), (L + 1 + 1 + 1 + 1 + 1 + 1, o1), (L + 1 + 1 + 1 + 1 + 1, o2), (L + 1 + 1 + 1 + 1, o3), (L + 1 + 1 + 1, o4), (L + 1 + 1, o5), (L + 1, o6)])) (fun _ _ => False) s := by
  revert X
  k_fill
  intro X
  refine hideC ?_
  intro Q9 hQ9
  have hE := LawDef.eq LD (by k_dflt k_is)
  obtain ⟨rfl, rfl, rfl, rfl⟩ := hE
  dsimp only [List.drop, List.take]
  have hcl2 : ∀ p ∈ (P, LCg.lst ps) :: (M, listOf ms.toArray nM) :: (V, listOf vs.toArray nv) :: (G, listOf gs.toArray n') :: [(R, LCg.lst rs), (S, LCg.lst zs), (L + 1 + 1 + 1 + 1 + 1 + 1, o1), (L + 1 + 1 + 1 + 1 + 1, o2), (L + 1 + 1 + 1 + 1, o3), (L + 1 + 1 + 1, o4), (L + 1 + 1, o5), (L + 1, o6)], NoIt [] p := noIt_cons (.inl rfl) hcl
  refine C.execs_cons (C.forRangeFL [] (B := B) (L := L) (a := 1) (b := 9) 8 (fun i m news => ∃ (u : Str → Option Value), m = (fun y => if dead.contains y = true then u y else List.lookup y ((Str.ofString "stops", .ref P) :: (Str.ofString "ring", .int ((rg : Nat) : Int) tr) :: (Str.ofString "way", .int ((wy : Nat) : Int) tw) :: (Str.ofString "log", .str lgS tl) :: (Str.ofString "meets", .ref M) :: (Str.ofString "two", .ref T2) :: (Str.ofString "one", .ref T1) :: (Str.ofString "fast", .int fa tfa) :: (Str.ofString "slow", .int sl tsl) :: (Str.ofString "seen", .ref V) :: (Str.ofString "place", .int p tp) :: (Str.ofString "goals", .ref G) :: (Str.ofString "replies", .ref R) :: (Str.ofString "start", .int st tst) :: l)) ∧ news = (P, LCg.lst ps) :: (M, listOf ms.toArray nM) :: (V, listOf vs.toArray nv) :: (G, listOf gs.toArray n') :: [(R, LCg.lst rs), (S, LCg.lst zs), (L + 1 + 1 + 1 + 1 + 1 + 1, o1), (L + 1 + 1 + 1 + 1 + 1, o2), (L + 1 + 1 + 1 + 1, o3), (L + 1 + 1 + 1, o4), (L + 1 + 1, o5), (L + 1, o6)]) rfl rfl (by rfl) (by rfl) (by decide) (by rfl) ?_ ?_ ?_)
  · k_steps
    exact ReadyF.intro (by assumption) (by assumption) (by assumption) hcl2 (fun p hp => by cases hp) ⟨_, rfl, rfl⟩
  · intro i t m news h tk I oI hi hJ hIt F1 N1
    refine hideC ?_
    intro Q8 hQ8
    revert hJ
    refine ex1k (fun u => and2k (fun e90 e91 => ?_))
    subst e90 e91
    clear F N
    obtain ⟨k1, k2, k3, k4, k5, k6, k7, k8, k9⟩ := hok i hi
    refine C.split [_, _, _] _ ?_
    refine wpAny_mono (ch24a LD X T hdp hun hS (by omega) (by omega) hsl hfa k1 k2 k3 hlg1 hnd F1 N1) ?_ (fun _ _ (e : False) => e.elim)
    refine NxF.cont (fun h' tk' m news F2 N2 => ex4k (fun ta tb tj tle => and2k (fun e90 e91 => ?_)))
    subst e90 e91
    dsimp only
    clear F1 N1
    refine C.split [_] _ ?_
    refine wpAny_mono (ch24b LD X T hdp hun k1 k2 k3 hlg1 hnd hB hbs (by omega) (by omega) k5 k6 F2 N2) ?_ (fun _ _ (e : False) => e.elim)
    refine NxF.cont (fun h' tk' m news F1 N1 => and2k (fun e90 e91 => ?_))
    subst e90 e91
    dsimp only
    clear F2 N2
    refine C.split [_] _ ?_
    refine wpAny_mono (ch24c LD X T hdp hun k1 k2 k3 hlg1 hnd k4 k7 k8 F1 N1) ?_ (fun _ _ (e : False) => e.elim)
    refine NxF.cont (fun h' tk' m news F2 N2 => and2k (fun e90 e91 => ?_))
    subst e90 e91
    dsimp only
    clear F1 N1
    refine C.of (wpAny_mono (ch24d LD X T hdp hun k1 k2 k3 hlg1 hnd k9 F2 N2) ?_ (fun _ _ (e : False) => e.elim))
    refine NxF.cont (fun h' tk' m news F1 N1 => and2k (fun e90 e91 => ?_))
    subst e90 e91
    rw [dead_m24] at F1
    refine hQ8 _ _ ?_
    exact TurnedF.next F1 N1 (fun _ hp => hp) hcl2 ⟨_, rfl, rfl⟩
  · intro m news h tk hJ F1 N1
    revert hJ
    refine ex1k (fun u => and2k (fun e90 e91 => ?_))
    subst e90 e91
    exact C.of (wpAny_execs_nil (hQ9 _ _ (NxD.of F1 N1 ⟨rfl, rfl⟩ fun _ hp => hp)))

theorem ch24k {w : World} {loose : List Str} {mean : ExcName → Option Value} {mg mb : Str → Option Value} {dp un : Nat} {gd : Option (List Code)} {B : Heap} {L : Addr} {s : Shared} {qual : Str} {body : List Stmt} {scope : Scope} {cdv : Value} {S R G : Addr} {zs rs gs : List Value} {st : Int} {tst : Tok} {o1 o2 o3 o4 o5 o6 : Obj} {n' : Nat} {l : List (Str × Value)} {u : Str → Option Value} {V M T1 T2 : Addr} {vs ms : List Value} {nv nM : Nat} {p sl fa : Int} {wy rg : Nat} {tp tl tfa tsl tw tr : Tok} {lgS : Str} {P : Addr} {ps : List Value} {stp : List Int} {bs : List Bool} {Q9 : Flow → Shared → Prop} {E9 : Value → Shared → Prop}
    (LD : LawDef (hd.heap_39 w.params) qual body scope cdv) (X : (hd.heap_39 w.params).In B) (T : Top hd.view_39 loose mean mg mb B) (hdp : dp + 10 < recursionLimit) (hun : un + 100 < cLine) (hS : IntsAre ps stp) (hsl : 1 ≤ sl ∧ sl ≤ 2) (hfa : 1 ≤ fa ∧ fa ≤ 5) (hlg1 : lgS.length ≤ 100) (hnd : NoDot lgS) (hB : LSm.BoolsAre ms bs) (hbs : bs.length = 8) (hok : ∀ i : Nat, i < 8 → LastOk lgS sl fa stp bs (1 + (i : Int))) (hcl : ∀ p ∈ (M, listOf ms.toArray nM) :: (V, listOf vs.toArray nv) :: (G, listOf gs.toArray n') :: [(R, LCg.lst rs), (S, LCg.lst zs), (L + 1 + 1 + 1 + 1 + 1 + 1, o1), (L + 1 + 1 + 1 + 1 + 1, o2), (L + 1 + 1 + 1 + 1, o3), (L + 1 + 1 + 1, o4), (L + 1 + 1, o5), (L + 1, o6)], NoIt [] p) (F : Fr B L s.heap (fun y => (if dead.contains y = true then u y else List.lookup y ((Str.ofString "stops", .ref P) :: (Str.ofString "ring", .int ((rg : Nat) : Int) tr) :: (Str.ofString "way", .int ((wy : Nat) : Int) tw) :: (Str.ofString "log", .str lgS tl) :: (Str.ofString "meets", .ref M) :: (Str.ofString "two", .ref T2) :: (Str.ofString "one", .ref T1) :: (Str.ofString "fast", .int fa tfa) :: (Str.ofString "slow", .int sl tsl) :: (Str.ofString "seen", .ref V) :: (Str.ofString "place", .int p tp) :: (Str.ofString "goals", .ref G) :: (Str.ofString "replies", .ref R) :: (Str.ofString "start", .int st tst) :: l)))) (N : News B L s.heap ((P, LCg.lst ps) :: (M, listOf ms.toArray nM) :: (V, listOf vs.toArray nv) :: (G, listOf gs.toArray n') :: [(R, LCg.lst rs), (S, LCg.lst zs), (L + 1 + 1 + 1 + 1 + 1 + 1, o1), (L + 1 + 1 + 1 + 1 + 1, o2), (L + 1 + 1 + 1 + 1, o3), (L + 1 + 1 + 1, o4), (L + 1 + 1, o5), (L + 1, o6)]))
    (k9 : ∀ (h9 : Heap) (tk9 : Nat) (u9 : Str → Option Value), Fr B L h9 (fun y => if dead.contains y = true then u9 y else List.lookup y ((Str.ofString "stops", .ref P) :: (Str.ofString "ring", .int ((rg : Nat) : Int) tr) :: (Str.ofString "way", .int ((wy : Nat) : Int) tw) :: (Str.ofString "log", .str lgS tl) :: (Str.ofString "meets", .ref M) :: (Str.ofString "two", .ref T2) :: (Str.ofString "one", .ref T1) :: (Str.ofString "fast", .int fa tfa) :: (Str.ofString "slow", .int sl tsl) :: (Str.ofString "seen", .ref V) :: (Str.ofString "place", .int p tp) :: (Str.ofString "goals", .ref G) :: (Str.ofString "replies", .ref R) :: (Str.ofString "start", .int st tst) :: l)) → News B L h9 ((P, LCg.lst ps) :: (M, listOf ms.toArray nM) :: (V, listOf vs.toArray nv) :: (G, listOf gs.toArray n') :: [(R, LCg.lst rs), (S, LCg.lst zs), (L + 1 + 1 + 1 + 1 + 1 + 1, o1), (L + 1 + 1 + 1 + 1 + 1, o2), (L + 1 + 1 + 1 + 1, o3), (L + 1 + 1 + 1, o4), (L + 1 + 1, o5), (L + 1, o6)]) → Q9 .next { s with heap := h9, toks := tk9 }) :
    wpC (model PySem.Challenge.rw_tl0019_01.row.prog w) (Ar dp un gd (some [envOfC qual scope L 164 cdv])) (execs ((body.drop 24).take 1) (envOfC qual scope L 164 cdv)) Q9 E9 s :=
  C.mono (ch24 LD X T hdp hun hS hsl hfa hlg1 hnd hB hbs hok hcl F N) (NxD.cont (fun h9 tk9 u9 l'9 news9 f9 n9 => and2k (fun e90 e91 => by subst e90 e91; exact k9 h9 tk9 u9 f9 n9))) (fun _ _ (e : False) => e.elim)
end Mine
end
theorem Mine.fresh_LAW0 : True ∧ True := by
  w_on
  w_top off
  walk1
  all_goals trivial
/-! text LAW0 -/
section
open PySem PySem.W PyProof.Rows PySem.Spec PySem.Calls
namespace Mine
set_option maxRecDepth 100000 in
set_option maxHeartbeats 8000000 in
theorem ch25 {w : World} {loose : List Str} {mean : ExcName → Option Value} {mg mb : Str → Option Value} {dp un : Nat} {gd : Option (List Code)} {fr : Option (List Env)} {B : Heap} {L : Addr} {s : Shared} {qual : Str} {body : List Stmt} {scope : Scope} {cdv : Value} {m : Str → Option Value}
    (LD : LawDef (hd.heap_39 w.params) qual body scope cdv) (X : (hd.heap_39 w.params).In B) (T : Top hd.view_39 loose mean mg mb B) (hdp : dp + 10 < recursionLimit) (hun : un + 100 < cLine)
    
    (F : Fr B L s.heap m) (N : News B L s.heap news) :
    wpAny (model PySem.Challenge.rw_tl0019_01.row.prog w) (Ar dp un gd fr) (execs (body.drop 25) (envOfC qual scope L 164 cdv)) (NxR B L s (fun v news => v = .bool true)) (fun _ _ => False) s := by
  revert X
  k_fill
  intro X
  have hE := LawDef.eq LD (by k_dflt k_is)
  obtain ⟨rfl, rfl, rfl, rfl⟩ := hE
  clear LD
  dsimp only [List.drop, List.take]
  k_steps
  dsimp only
  exact ⟨_, _, _, _, _, rfl, rfl, by assumption, by assumption, rfl⟩
theorem C.at {prog : Program} {w : World} {A : Around} {E : Value → Shared → Prop} {env : Env} {s : Shared} {body : List Stmt} (i n : Nat) {Q : Flow → Shared → Prop}
    (h : wpC (model prog w) A (execs ((body.drop i).take n) env) (fun f s' => match f with | .next => wpC (model prog w) A (execs (body.drop (i + n)) env) Q E s' | f => Q f s') E s) : wpC (model prog w) A (execs (body.drop i) env) Q E s := by
  have e : body.drop i = (body.drop i).take n ++ body.drop (i + n) := by
    rw [← List.drop_drop, List.take_append_drop]
  rw [e]
  exact C.splitC _ _ h
theorem data_ne {B h : Heap} {L a b : Addr} {o o' : Obj} {news : List (Addr × Obj)} (N : News B L h news) (ha : (a, o) ∈ news) (hb : (b, o') ∈ news) (hs : isSeq o = true) {v : Option Value} (hc : o'.data = .cell v) : @Ne Nat b a := fun e => by
  have e1 := (N _ ha).1
  have e2 := (N _ hb).1
  have e' : b = a := e
  dsimp only at e1 e2
  rw [e', e1] at e2
  injection e2 with e2
  unfold isSeq at hs
  rw [e2, hc] at hs
  cases hs
noncomputable def drawsP (sc : List Int) : List Int := ((sc.take 7).map fun k => k.fmod (10 ^ Int.toNat 6)) ++ [3, 6970, 15924, 2913, 6071, 2244, 13900].drop ((sc.take 7).map fun k => k.fmod (10 ^ Int.toNat 6)).length
noncomputable def gP (gl : List Int) (p : Nat) : Nat := (gl.getD p 0).toNat
noncomputable def lgP (gl : List Int) (sg : List Str) (st fa : Int) : Str := lg (gP gl) sg st.toNat (sg.getD st.toNat Str.empty) (fa.toNat * 8)
theorem lt7 : ∀ {k : Nat}, k < 7 → k = 0 ∨ k = 1 ∨ k = 2 ∨ k = 3 ∨ k = 4 ∨ k = 5 ∨ k = 6 := fun {k} => (by decide : ∀ k : Nat, k < 7 → k = 0 ∨ k = 1 ∨ k = 2 ∨ k = 3 ∨ k = 4 ∨ k = 5 ∨ k = 6) k
theorem lt8 : ∀ {k : Nat}, k < 8 → k = 0 ∨ k = 1 ∨ k = 2 ∨ k = 3 ∨ k = 4 ∨ k = 5 ∨ k = 6 ∨ k = 7 := fun {k} => (by decide : ∀ k : Nat, k < 8 → k = 0 ∨ k = 1 ∨ k = 2 ∨ k = 3 ∨ k = 4 ∨ k = 5 ∨ k = 6 ∨ k = 7) k
theorem ch_add {c : Int} {k : Nat} (hc : 0 ≤ c) : (97 + c + (k : Int)).toNat = 97 + c.toNat + k := by
  obtain ⟨n, rfl⟩ := Int.eq_ofNat_of_zero_le hc
  rfl
theorem lead_nat : ∀ m : Nat, ((if (1 : Int) > (m : Int) then (1 : Int) else (m : Int)) - 1).toNat = max m 1 - 1
  | 0 => rfl
  | m + 1 => by
    rw [if_neg (by omega), Nat.max_eq_left (by omega)]
    show (((m : Int) + 1) - 1).toNat = _
    rw [Int.add_sub_cancel]
    rfl
noncomputable def leadN (wy : Nat) (sl : Int) : Nat := ((if 1 > ((wy : Int) + sl - 1).fdiv sl then 1 else ((wy : Int) + sl - 1).fdiv sl) - 1).toNat
noncomputable def meetsB (g : Nat → Nat) (a b p0 : Nat) : List Bool := (List.range 8).map fun j => decide (it g (a * (j + 1)) p0 = it g (b * (j + 1)) p0)
/-- the plain law of the walkers -/
noncomputable def FloydLaw : Prop := ∀ (gl : List Int) (st sl fa c : Int), gl.length = 7 → (∀ g ∈ gl, 0 ≤ g ∧ g < 7) → 0 ≤ st → st < 7 → 1 ≤ sl → sl ≤ 2 → sl + 1 ≤ fa → fa ≤ sl + 3 → 0 ≤ c → c < 50000 →
  ∀ vis p, Path gl st vis p → p ∈ vis → ∃ wy rg : Nat, rout (hitP (lgP gl ((rangeKs 0 7).map (signP c)) st fa)) 7 = (wy, rg) ∧ vis.idxOf p = wy ∧ wy + rg = vis.length ∧ 1 ≤ rg ∧
    (∀ k : Nat, k < 7 → em4 (((rangeKs 0 7).map (signP c)).getD k Str.empty) (lgP gl ((rangeKs 0 7).map (signP c)) st fa) = (vis.drop wy).any fun x => x == (k : Int)) ∧
    (∀ z : Int, 1 ≤ z → z ≤ (rg : Int) → (z * (fa - sl)).fmod (rg : Int) = 0 → (∀ y : Int, 1 ≤ y → y < z → (y * (fa - sl)).fmod (rg : Int) ≠ 0) →
      ∀ i : Nat, i < 8 → LastOk (lgP gl ((rangeKs 0 7).map (signP c)) st fa) sl fa (stopsP (leadN wy sl) z) (meetsB (gP gl) sl.toNat fa.toNat st.toNat) (1 + (i : Int)))
/-- the plain law of the replies -/
noncomputable def SaysLaw : Prop := ∀ x port : Int, 0 ≤ x → x < 1000000 → 0 ≤ port → port < 1000000 → Says (replyS x port) (kindP x) port
end Mine
end
end
theorem Mine.fresh_LAW1 : True ∧ True := by
  w_on
  w_top off
  walk1
  all_goals trivial
/-! text LAW1 -/
section
open PySem PySem.W PyProof.Rows PySem.Spec PySem.Calls
namespace Mine
theorem apart_of {B h : Heap} {L a : Addr} {o o1 o2 o3 o4 o5 o6 : Obj} {news : List (Addr × Obj)} (N : News B L h news) (ha : (a, o) ∈ news) (hs : isSeq o = true) (hsub : ∀ p ∈ [(L + 1 + 1 + 1 + 1 + 1 + 1, o1), (L + 1 + 1 + 1 + 1 + 1, o2), (L + 1 + 1 + 1 + 1, o3), (L + 1 + 1 + 1, o4), (L + 1 + 1, o5), (L + 1, o6)], p ∈ news) (hc : ∀ p ∈ [o1, o2, o3, o4, o5, o6], ∃ v, p.data = .cell v) : (@Ne Nat (L + 1) a ∧ @Ne Nat (L + 1 + 1) a ∧ @Ne Nat (L + 1 + 1 + 1) a ∧ @Ne Nat (L + 1 + 1 + 1 + 1) a ∧ @Ne Nat (L + 1 + 1 + 1 + 1 + 1) a ∧ @Ne Nat (L + 1 + 1 + 1 + 1 + 1 + 1) a) := by
  obtain ⟨v1, e1⟩ := hc o1 (by simp)
  obtain ⟨v2, e2⟩ := hc o2 (by simp)
  obtain ⟨v3, e3⟩ := hc o3 (by simp)
  obtain ⟨v4, e4⟩ := hc o4 (by simp)
  obtain ⟨v5, e5⟩ := hc o5 (by simp)
  obtain ⟨v6, e6⟩ := hc o6 (by simp)
  exact ⟨data_ne N ha (hsub _ (by simp)) hs e6, data_ne N ha (hsub _ (by simp)) hs e5, data_ne N ha (hsub _ (by simp)) hs e4, data_ne N ha (hsub _ (by simp)) hs e3, data_ne N ha (hsub _ (by simp)) hs e2, data_ne N ha (hsub _ (by simp)) hs e1⟩
theorem noIt_cells {L : Addr} {o1 o2 o3 o4 o5 o6 : Obj} (hc : ∀ p ∈ [o1, o2, o3, o4, o5, o6], ∃ v, p.data = .cell v) : ∀ p ∈ [(L + 1 + 1 + 1 + 1 + 1 + 1, o1), (L + 1 + 1 + 1 + 1 + 1, o2), (L + 1 + 1 + 1 + 1, o3), (L + 1 + 1 + 1, o4), (L + 1 + 1, o5), (L + 1, o6)], NoIt [] p := fun p hp => by
  left
  have : p.2 ∈ [o1, o2, o3, o4, o5, o6] := by
    simp only [List.mem_cons, List.not_mem_nil, or_false] at hp
    rcases hp with rfl | rfl | rfl | rfl | rfl | rfl <;> simp
  obtain ⟨v, e⟩ := hc _ this
  exact notIt_cell e
theorem cells_of {o1 o2 o3 o4 o5 o6 : Obj} {v1 v2 v3 v4 v5 v6 : Option Value} (d1 : o1.data = .cell v1) (d2 : o2.data = .cell v2) (d3 : o3.data = .cell v3) (d4 : o4.data = .cell v4) (d5 : o5.data = .cell v5) (d6 : o6.data = .cell v6) : ∀ p ∈ [o1, o2, o3, o4, o5, o6], ∃ v, p.data = .cell v := fun p hp => by
  simp only [List.mem_cons, List.not_mem_nil, or_false] at hp
  rcases hp with rfl | rfl | rfl | rfl | rfl | rfl
  · exact ⟨_, d1⟩
  · exact ⟨_, d2⟩
  · exact ⟨_, d3⟩
  · exact ⟨_, d4⟩
  · exact ⟨_, d5⟩
  · exact ⟨_, d6⟩
theorem drop_d {α : Type} {a b c d : α} {r : List α} : ∀ p ∈ a :: b :: c :: r, p ∈ a :: b :: c :: d :: r := fun p hp => by
  simp only [List.mem_cons] at hp ⊢
  rcases hp with h | h | h | h
  · exact .inl h
  · exact .inr (.inl h)
  · exact .inr (.inr (.inl h))
  · exact .inr (.inr (.inr (.inr h)))
theorem rev3 {α : Type} {a b c : α} {r : List α} : ∀ p ∈ c :: b :: a :: r, p ∈ a :: b :: c :: r := fun p hp => by
  simp only [List.mem_cons] at hp ⊢
  rcases hp with h | h | h | h
  · exact .inr (.inr (.inl h))
  · exact .inr (.inl h)
  · exact .inl h
  · exact .inr (.inr (.inr h))
theorem draws_len (sc : List Int) : (drawsP sc).length = 7 := by
  unfold drawsP
  rw [List.length_append, List.length_drop]
  have : ((sc.take 7).map fun k => k.fmod (10 ^ Int.toNat 6)).length ≤ 7 := by simp; omega
  have e : ([3, 6970, 15924, 2913, 6071, 2244, 13900] : List Int).length = 7 := rfl
  rw [e]; omega
theorem draws_in (sc : List Int) : ∀ d ∈ drawsP sc, 0 ≤ d ∧ d < 1000000 := by
  intro d hd
  unfold drawsP at hd
  rcases List.mem_append.mp hd with h | h
  · obtain ⟨x, _, rfl⟩ := List.mem_map.mp h
    have e : (10 : Int) ^ Int.toNat 6 = 1000000 := by decide
    rw [e]
    exact ⟨Int.fmod_nonneg_of_pos _ (by decide), Int.fmod_lt_of_pos _ (by decide)⟩
  · have h2 := List.mem_of_mem_drop h
    simp only [List.mem_cons, List.not_mem_nil, or_false] at h2
    rcases h2 with rfl | rfl | rfl | rfl | rfl | rfl | rfl <;> decide
theorem sum_in : ∀ (l : List Int), (∀ d ∈ l, 0 ≤ d ∧ d < 1000000) → 0 ≤ l.sum ∧ l.sum ≤ 999999 * l.length
  | [], _ => by simp
  | a :: l, h => by
    have h1 := h a (.head _)
    have h2 := sum_in l fun d hd => h d (.tail _ hd)
    rw [List.sum_cons, List.length_cons]
    omega
theorem rangeKs_at {f : Int → Str} {k : Nat} (hk : k < 7) : ((rangeKs 0 7).map f).getD k Str.empty = f (k : Int) := by
  have := lt7 hk
  rcases this with rfl | rfl | rfl | rfl | rfl | rfl | rfl <;> rfl
theorem goal_at {ks : List Int} {k : Nat} (hk : k < 7) : ((List.range 7).map (goalP ks)).getD k 0 = goalP ks k := by
  have := lt7 hk
  rcases this with rfl | rfl | rfl | rfl | rfl | rfl | rfl <;> rfl
theorem goal_in {ks : List Int} {k : Nat} (hk : k < 7) : 0 ≤ goalP ks k ∧ goalP ks k < 7 := by
  unfold goalP
  split
  · exact ⟨Int.fmod_nonneg_of_pos _ (by decide), Int.fmod_lt_of_pos _ (by decide)⟩
  · omega
theorem sign_facts {c : Int} (h0 : 0 ≤ c) (h1 : c < 50000) {k : Nat} (hk : k < 7) : (signP c (k : Int)).length = 1 ∧ PyData.strOk (signP c (k : Int)) = true ∧ NoDot (signP c (k : Int)) ∧ ∃ q, signP c (k : Int) = ⟨#[q]⟩ ∧ ¬ q = 32 ∧ ¬ q = 9 := by
  refine ⟨rfl, ?_, ?_, _, rfl, by omega, by omega⟩
  · show (#[(97 + c + (k : Int)).toNat] : Array Nat).all (· < 0x110000) = true
    simp; omega
  · intro x hx
    have : x ∈ [(97 + c + (k : Int)).toNat] := hx
    rw [List.mem_singleton.mp this]; omega
theorem noDot_append {x y : Str} (hx : NoDot x) (hy : NoDot y) : NoDot (x ++ y) := fun c hc => by
  have : c ∈ x.cps.toList ++ y.cps.toList := by
    have e : (x ++ y).cps.toList = x.cps.toList ++ y.cps.toList := by show (x.cps ++ y.cps).toList = _; simp
    rw [← e]; exact hc
  exact (List.mem_append.mp this).elim (hx c) (hy c)
theorem noDot_lg {g : Nat → Nat} {sg : List Str} {st : Nat} {L0 : Str} (hg : ∀ p, p < 7 → g p < 7) (hst : st < 7) (hsl : ∀ k : Nat, k < 7 → NoDot (sg.getD k Str.empty)) (h0 : NoDot L0) : ∀ n, NoDot (lg g sg st L0 n)
  | 0 => h0
  | n + 1 => noDot_append (noDot_lg hg hst hsl h0 n) (hsl _ (it_lt hg hst (n + 1)))
theorem weight_vis : ∀ (l : List Int), (∀ x ∈ l, 0 ≤ x ∧ x < 7) → PyData.weightAll (l.map .int) ≤ 4 * l.length
  | [], _ => by simp [PyData.weightAll]
  | a :: l, h => by
    have h1 := h a (.head _)
    have h2 := weight_vis l fun d hd => h d (.tail _ hd)
    have h3 : PyData.weight (.int a) ≤ 3 := by
      obtain ⟨n, rfl⟩ := Int.eq_ofNat_of_zero_le h1.1
      rcases lt7 (Int.ofNat_lt.mp h1.2) with rfl | rfl | rfl | rfl | rfl | rfl | rfl <;> decide
    simp only [List.map_cons, PyData.weightAll, List.length_cons]
    omega
theorem lay_vis {l : List Int} (h : ∀ x ∈ l, 0 ≤ x ∧ x < 7) (hl : l.length ≤ 7) : PyData.layable0 (.list (l.map .int)) = true := by
  have h1 := ke_shaped_ints l
  unfold SeqAt.shaped at h1
  unfold PyData.layable0
  rw [h1, Bool.true_and]
  refine decide_eq_true ?_
  have h2 := weight_vis l h
  show PyData.weightAll (l.map .int) ≤ 2 ^ 20
  omega
theorem bools_of : ∀ (l : List Bool), LSm.BoolsAre (l.map Value.bool) l
  | [] => .nil
  | b :: l => .cons b (bools_of l)
theorem lead_list {wy : Nat} {sl : Int} : (leadS wy sl).cps.toList = List.replicate (leadN wy sl) 32 := by
  unfold leadS leadN
  rw [sp_eq']
  exact mul_list 32 _
end Mine
end
theorem Mine.fresh_LAW : True ∧ True := by
  w_on
  w_top off
  walk1
  all_goals trivial
/-! text LAW -/
section
open PySem PySem.W PyProof.Rows PySem.Spec PySem.Calls
namespace Mine
theorem cat6 {a b c d e f r : Prop} (h : a ∧ b ∧ c ∧ d ∧ e ∧ f) (q : r) : a ∧ b ∧ c ∧ d ∧ e ∧ f ∧ r := ⟨h.1, h.2.1, h.2.2.1, h.2.2.2.1, h.2.2.2.2.1, h.2.2.2.2.2, q⟩
/-- kept from omega's eyes -/
noncomputable def Hide (p : Prop) : Prop := p
set_option maxRecDepth 100000 in
set_option maxHeartbeats 8000000 in
theorem law_body {w : World} {loose : List Str} {mean : ExcName → Option Value} {mg mb : Str → Option Value} {dp un : Nat} {gd : Option (List Code)} {B : Heap} {L : Addr} {s : Shared} {qual : Str} {body : List Stmt} {scope : Scope} {cdv : Value} {lref : Addr} {vs : List Value} {sc : List Int} {o1 o2 o3 o4 o5 o6 : Obj} {Q : Flow → Shared → Prop} {E : Value → Shared → Prop}
    (HS : SaysLaw) (HF : FloydLaw) (LD : LawDef (hd.heap_39 w.params) qual body scope cdv) (X : (hd.heap_39 w.params).In B) (T : Top hd.view_39 loose mean mg mb B) (hdp : dp + 30 < recursionLimit) (hun : un + 200 < cLine)
    (hcond : ¬((63 : Nat) : Int) < ((sc.length : Nat) : Int)) (hlay : (PyData.list (List.map PyData.int sc)).layable0 = true) (hIL : B.IsList lref vs.toArray) (hIA : IntsAre vs sc) (d1 : o1.data = .cell none) (d2 : o2.data = .cell none) (d3 : o3.data = .cell none) (d4 : o4.data = .cell none) (d5 : o5.data = .cell none) (d6 : o6.data = .cell none)
    (F : Fr B L s.heap (fun y => List.lookup y [(Str.ofString "script", .ref lref)])) (N : News B L s.heap [(L + 1 + 1 + 1 + 1 + 1 + 1, o1), (L + 1 + 1 + 1 + 1 + 1, o2), (L + 1 + 1 + 1 + 1, o3), (L + 1 + 1 + 1, o4), (L + 1 + 1, o5), (L + 1, o6)])
    (hQ : ∀ h' tk' m, Fr B L h' m → Q (.ret (.bool true)) { s with heap := h', toks := tk' }) :
    wpC (model PySem.Challenge.rw_tl0019_01.row.prog w) (Ar dp un gd (some [envOfC qual scope L 164 cdv])) (execs body (envOfC qual scope L 164 cdv)) Q E s := by
  have hd' : dp + 10 < recursionLimit := by omega
  have hu' : un + 100 < cLine := by omega
  show wpC _ _ (execs (body.drop 0) _) _ _ _
  refine C.at 0 1 (C.of (ch0k LD X T hd' hu' hcond hlay hIL hIA d1 d2 d3 d4 d5 d6 F N ?_))
  intro h' tk' D ys n o6' F1 N1 hI e6
  clear F N d6
  dsimp only
  have hc1 := cells_of d1 d2 d3 d4 d5 e6
  refine C.at 1 1 (C.of (ch1k LD X T hd' hu' hI (by simp; omega) (apart_of N1 (.head _) rfl (fun p hp => .tail _ hp) hc1) e6 F1 N1 ?_))
  intro h' tk' D ys n o6 F2 N2 hA hI d6
  clear F1 N1 e6 hc1
  dsimp only
  have hI : IntsAre ys (drawsP sc) := hI
  have hks := draws_len sc
  have hall := draws_in sc
  refine C.at 2 1 (C.of (ch2k LD X T hd' hu' hI hks hall hA d5 d6 F2 N2 ?_))
  intro h' tk' o5 u5 F1 N1 d5
  clear F2 N2
  dsimp only
  have hsum := sum_in (drawsP sc) hall
  rw [hks] at hsum
  generalize hks' : drawsP sc = ks at *
  generalize htot : ks.sum = tot at *
  have h0 : 0 ≤ tot := hsum.1
  have h1 : tot < 7000000 := by omega
  refine C.at 3 1 (C.of (ch3k LD X T hd' hu' h0 h1 hA d4 d5 F1 N1 ?_))
  intro h' tk' o4 tst u4 F2 N2 d4
  clear F1 N1
  dsimp only
  have hc0 : 0 ≤ tot.fmod 50000 := Int.fmod_nonneg_of_pos _ (by decide)
  have hc1 : tot.fmod 50000 < 50000 := Int.fmod_lt_of_pos _ (by decide)
  refine C.at 4 1 (C.of (ch4k LD X T hd' hu' h0 h1 hc0 hc1 hA d3 d5 F2 N2 ?_))
  intro h' tk' S zs o3 F1 N1 hS hSD hZ d3
  clear F2 N2
  dsimp only
  have hf0 : 0 ≤ tot.fmod 200000 := Int.fmod_nonneg_of_pos _ (by decide)
  have hf1 : tot.fmod 200000 < 200000 := Int.fmod_lt_of_pos _ (by decide)
  have hs0 : 0 ≤ (tot.fdiv 7).fmod 7 := Int.fmod_nonneg_of_pos _ (by decide)
  have hs1 : (tot.fdiv 7).fmod 7 < 7 := Int.fmod_lt_of_pos _ (by decide)
  have hl0 : 0 ≤ (tot.fdiv 49).fmod 2 := Int.fmod_nonneg_of_pos _ (by decide)
  have hl1 : (tot.fdiv 49).fmod 2 < 2 := Int.fmod_lt_of_pos _ (by decide)
  have hq0 : 0 ≤ (tot.fdiv 98).fmod 3 := Int.fmod_nonneg_of_pos _ (by decide)
  have hq1 : (tot.fdiv 98).fmod 3 < 3 := Int.fmod_lt_of_pos _ (by decide)
  unfold signsP at hZ
  refine C.at 5 1 (C.of (ch5k LD X T hd' hu' hI hks hall hf0 hf1 (cat6 hS (cat6 hA hSD)) d4 d6 F1 N1 ?_))
  intro h' tk' R rs F2 N2 hR6 hRS hRD hR
  clear F1 N1
  dsimp only
  refine C.at 6 1 (C.of (ch6k LD X T hd' hu' (cat6 hR6 (cat6 hS (cat6 hA ⟨hRS, hRD, hSD⟩))) F2 N2 ?_))
  intro h' tk' G F1 N1 hG6 hG3
  clear F2 N2
  dsimp only
  have hcs := cells_of d1 d2 d3 d4 d5 d6
  have hsgl : ((rangeKs 0 7).map (signP (tot.fmod 50000))).length = 7 := rfl
  have hsg1 : ∀ k : Nat, k < 7 → (((rangeKs 0 7).map (signP (tot.fmod 50000))).getD k Str.empty).length = 1 ∧ PyData.strOk (((rangeKs 0 7).map (signP (tot.fmod 50000))).getD k Str.empty) = true ∧ NoDot (((rangeKs 0 7).map (signP (tot.fmod 50000))).getD k Str.empty) ∧ ∃ q, ((rangeKs 0 7).map (signP (tot.fmod 50000))).getD k Str.empty = ⟨#[q]⟩ ∧ ¬ q = 32 ∧ ¬ q = 9 := fun k hk => by
    rw [rangeKs_at hk]; exact sign_facts hc0 hc1 hk
  have hsay : ∀ k : Nat, k < 7 → Says ((repliesP ks (tot.fmod 200000)).getD k Str.empty) (kindP (ks.getD k 0)) (tot.fmod 200000 + (ks.getD k 0).fmod 7) := fun k hk => by
    unfold repliesP
    rw [rangeKs_at hk, Int.toNat_natCast]
    have hx := getD_in (k := (k : Int)) hks hall (by omega) (by omega)
    rw [Int.toNat_natCast] at hx
    have hp := port_in (x := ks.getD k 0) hf0 hf1
    exact HS _ _ hx.1 hx.2 hp.1 hp.2
  have hrl : (repliesP ks (tot.fmod 200000)).length = 7 := rfl
  refine C.at 7 1 (ch7k LD X T hd' hu' hI hks hall hf0 hf1 hZ hsgl (fun k hk => ⟨(hsg1 k hk).1, (hsg1 k hk).2.1⟩) hR hrl hsay (fun p hp => by obtain ⟨v, e⟩ := hcs p hp; exact notIt_cell e) ⟨hG6, hG3⟩ d3 d4 d6 F1 N1 ?_)
  intro h' tk' u gs nG' F2 N2 hG
  clear hA hS hSD hR6 hRS hRD hG6 hG3
  clear F1 N1
  dsimp only
  have N3 := cutTo _ N2 drop_d
  clear N2
  refine C.at 8 1 (C.of (ch8k LD X T hd' hu' F2 N3 ?_))
  intro h' tk' u V tp F1 N1 hV
  clear F2 N3
  dsimp only
  have hgll : ((List.range 7).map (goalP ks)).length = 7 := rfl
  have hglin : ∀ g ∈ (List.range 7).map (goalP ks), 0 ≤ g ∧ g < 7 := fun g hg => by
    obtain ⟨k, hk, rfl⟩ := List.mem_map.mp hg
    exact goal_in (List.mem_range.mp hk)
  refine C.at 9 1 (C.of (ch9k LD X T hd' hu' hG hgll hglin ⟨hs0, hs1⟩ hV F1 N1 ?_))
  intro h' tk' u vis p tp vv nv F2 N2 hvis hP hpv
  clear F1 N1
  dsimp only
  refine C.at 10 5 (C.of (ch10k LD X T hd' hu' h0 h1 hf0 hf1 hs0 hs1 hZ hsgl d3 d4 d5 F2 N2 ?_))
  intro h' tk' u M T1 T2 t1 t2 t3 t4 t5 t6 t7 F1 N1 hM
  clear F2 N2
  dsimp only
  have hin := hP.in7 hgll hglin ⟨hs0, hs1⟩
  have hvl := hP.len hgll hglin ⟨hs0, hs1⟩
  have hcl := noIt_cells (L := L) hcs
  generalize hst : (tot.fdiv 7).fmod 7 = st at *
  generalize hfi : tot.fmod 200000 = fi at *
  generalize hsl : 1 + (tot.fdiv 49).fmod 2 = sl at *
  generalize hfa : sl + 1 + (tot.fdiv 98).fmod 3 = fa at *
  generalize hcc : tot.fmod 50000 = c at *
  generalize hgl : (List.range 7).map (goalP ks) = gl at *
  have hs1' : 1 ≤ sl := by omega
  have hs2' : sl ≤ 2 := by omega
  have hf1' : sl + 1 ≤ fa := by omega
  have hf3' : fa ≤ sl + 3 := by omega
  replace hsl : Hide _ := hsl
  replace hfa : Hide _ := hfa
  have hg : ∀ p, p < 7 → gP gl p < 7 ∧ ((gP gl p : Nat) : Int) = goalP ks p := fun p hp => by
    have e : gl.getD p 0 = goalP ks p := by rw [← hgl]; exact goal_at hp
    have b := goal_in (ks := ks) hp
    unfold gP
    rw [e]; omega
  have hp0 : st.toNat < 7 := by omega
  have N3 := cutTo _ N1 rev3
  clear N1
  rw [show fi + st = fi + ((st.toNat : Nat) : Int) from by omega] at N3
  have hnl : ∀ p ∈ (V, listOf vv.toArray nv) :: (G, listOf gs.toArray nG') :: [(R, LCg.lst rs), (S, LCg.lst zs), (L + 1 + 1 + 1 + 1 + 1 + 1, o1), (L + 1 + 1 + 1 + 1 + 1, o2), (L + 1 + 1 + 1 + 1, o3), (L + 1 + 1 + 1, o4), (L + 1 + 1, o5), (L + 1, o6)], NoIt [] p := noIt_cons (.inl rfl) (noIt_cons (.inl rfl) (noIt_cons (.inl rfl) (noIt_cons (.inl rfl) hcl)))
  refine C.at 15 1 (ch15k LD X T hd' hu' hR hrl hf0 hf1 hsay hg hp0 (by omega) (by omega) (by omega) (by omega) d3 d4 hZ hsgl (fun k hk => (hsg1 k hk).1) (hsg1 _ hp0).1 hM hnl F1 N3 ?_)
  intro h' tk' u T1 T2 tl nM F2 N2
  clear F1 N3
  dsimp only
  have hgg : ∀ p, p < 7 → gP gl p < 7 := fun p q => (hg p q).1
  have hlen := lg_len (L0 := ((rangeKs 0 7).map (signP c)).getD st.toNat Str.empty) hgg hp0 (fun k hk => (hsg1 k hk).1) (fa.toNat * 8)
  rw [(hsg1 _ hp0).1] at hlen
  have hnd := noDot_lg (L0 := ((rangeKs 0 7).map (signP c)).getD st.toNat Str.empty) hgg hp0 (fun k hk => (hsg1 k hk).2.2.1) (hsg1 _ hp0).2.2.1 (fa.toNat * 8)
  obtain ⟨wy, rg, hro, hwy, hwr, hr1, hem, hz⟩ := HF gl st sl fa c hgll hglin hs0 hs1 (by omega) (by omega) (by omega) (by omega) hc0 hc1 vis p hP hpv
  have hlg : lg (gP gl) ((rangeKs 0 7).map (signP c)) st.toNat (((rangeKs 0 7).map (signP c)).getD st.toNat Str.empty) (fa.toNat * 8) = lgP gl ((rangeKs 0 7).map (signP c)) st fa := rfl
  rw [hlg] at F2 hlen hnd
  generalize lgP gl ((rangeKs 0 7).map (signP c)) st fa = lgS at *
  have hL0 : 10 ≤ lgS.length := by omega
  have hL1 : lgS.length ≤ 100 := by omega
  refine C.at 16 1 (C.of (ch16k LD X T hd' hu' F2 N2 ?_))
  intro h' tk' u t1 t2 F1 N1
  clear F2 N2
  dsimp only
  refine C.at 17 1 (ch17k LD X T hd' hu' hL0 hL1 hnd hnl F1 N1 ?_)
  intro h' tk' u tw tr F2 N2
  clear F1 N1
  rw [hro] at F2
  dsimp only at F2
  dsimp only
  refine C.at 18 1 (C.of (ch18k LD X T hd' hu' hvis hpv (lay_vis hin.2.1 hvl) hvl hwy hwr F2 N2 ?_))
  intro h' tk' u F1 N1
  clear F2 N2
  dsimp only
  have hnl2 := noIt_cons (fix := []) (a := M) (o := listOf (meetsP (gP gl) sl.toNat fa.toNat st.toNat 8).toArray nM) (.inl rfl) hnl
  refine C.at 19 1 (ch19k LD X T hd' hu' hvis hvl (by omega) hZ hsgl (fun k hk => ⟨(hsg1 k hk).1, (hsg1 k hk).2.2.1⟩) (by omega) d3 hem hnl2 F1 N1 ?_)
  intro h' tk' u F2 N2
  clear F1 N1
  dsimp only
  have q2 := fun {a : Addr} {o : Obj} (ha : (a, o) ∈ (M, listOf (meetsP (gP gl) sl.toNat fa.toNat st.toNat 8).toArray nM) :: (V, listOf vv.toArray nv) :: (G, listOf gs.toArray nG') :: [(R, LCg.lst rs), (S, LCg.lst zs), (L + 1 + 1 + 1 + 1 + 1 + 1, o1), (L + 1 + 1 + 1 + 1 + 1, o2), (L + 1 + 1 + 1 + 1, o3), (L + 1 + 1 + 1, o4), (L + 1 + 1, o5), (L + 1, o6)]) (hs : isSeq o = true) => data_ne N2 ha (.tail _ (.tail _ (.tail _ (.tail _ (.tail _ (.tail _ (.head _))))))) hs d2
  have q1 := fun {a : Addr} {o : Obj} (ha : (a, o) ∈ (M, listOf (meetsP (gP gl) sl.toNat fa.toNat st.toNat 8).toArray nM) :: (V, listOf vv.toArray nv) :: (G, listOf gs.toArray nG') :: [(R, LCg.lst rs), (S, LCg.lst zs), (L + 1 + 1 + 1 + 1 + 1 + 1, o1), (L + 1 + 1 + 1 + 1 + 1, o2), (L + 1 + 1 + 1 + 1, o3), (L + 1 + 1 + 1, o4), (L + 1 + 1, o5), (L + 1, o6)]) (hs : isSeq o = true) => data_ne N2 ha (.tail _ (.tail _ (.tail _ (.tail _ (.tail _ (.head _)))))) hs d1
  have hap2 : Hide _ := And.intro (q2 (.head _) rfl) (And.intro (q2 (.tail _ (.head _)) rfl) (And.intro (q2 (.tail _ (.tail _ (.head _))) rfl) (And.intro (q2 (.tail _ (.tail _ (.tail _ (.head _)))) rfl) (q2 (.tail _ (.tail _ (.tail _ (.tail _ (.head _))))) rfl))))
  have hap1 : Hide _ := And.intro (q1 (.head _) rfl) (And.intro (q1 (.tail _ (.head _)) rfl) (And.intro (q1 (.tail _ (.tail _ (.head _))) rfl) (And.intro (q1 (.tail _ (.tail _ (.tail _ (.head _)))) rfl) (q1 (.tail _ (.tail _ (.tail _ (.tail _ (.head _))))) rfl))))
  clear q1 q2
  refine C.at 20 1 (C.of (ch20k LD X T hd' hu' hap2 d2 F2 N2 ?_))
  intro h' tk' u o2 tz F1 N1 d2
  clear F2 N2
  dsimp only
  refine C.at 21 1 (C.of (ch21k LD X T hd' hu' hap2 hr1 (by omega) (by omega) (by omega) ⟨by omega, by omega⟩ ⟨by omega, by omega⟩ d2 F1 N1 ?_))
  intro h' tk' u o2 z tz F2 N2 d2 hz1 hzr hz0 hzm
  clear F1 N1
  dsimp only
  have hfd : 0 ≤ ((wy : Int) + sl - 1).fdiv sl ∧ ((wy : Int) + sl - 1).fdiv sl ≤ 8 := by
    rcases (by omega : sl = 1 ∨ sl = 2) with e | e
    · rw [e, Int.fdiv_one]; omega
    · rw [e, Int.fdiv_eq_ediv_of_nonneg _ (by omega)]; omega
  refine C.at 22 1 (C.of (ch22k LD X T hd' hu' hap1 (by omega) ⟨by omega, by omega⟩ hfd.1 hfd.2 d1 F2 N2 ?_))
  intro h' tk' u o1 tld F1 N1 d1
  clear F2 N2
  dsimp only
  have hll : leadN wy sl ≤ 10 := by unfold leadN; split <;> omega
  have hldl : (leadS wy sl).length ≤ 10 := by rw [← len_list, lead_list, List.length_replicate]; exact hll
  obtain ⟨q, hq, hq1, hq2⟩ := (hsg1 0 (by omega)).2.2.2
  refine C.at 23 1 (C.of (ch23k LD X T hdp hun hZ hsgl (hsg1 0 (by omega)).1 hq hq1 hq2 hll lead_list hldl hz1 (by omega) d1 d2 d3 F1 N1 ?_))
  intro h' tk' u P ps F2 N2 hps
  clear F1 N1
  dsimp only
  have hnl3 := noIt_cells (L := L) (cells_of d1 d2 d3 d4 d5 d6)
  have hmb : LSm.BoolsAre (meetsP (gP gl) sl.toNat fa.toNat st.toNat 8) (meetsB (gP gl) sl.toNat fa.toNat st.toNat) := by
    unfold meetsP meetsB
    have := bools_of ((List.range 8).map fun j => decide (it (gP gl) (sl.toNat * (j + 1)) st.toNat = it (gP gl) (fa.toNat * (j + 1)) st.toNat))
    rw [List.map_map] at this
    exact this
  refine C.at 24 1 (ch24k LD X T hd' hu' hps ⟨by omega, by omega⟩ ⟨by omega, by omega⟩ hL1 hnd hmb rfl (hz z hz1 hzr hz0 hzm) (noIt_cons (.inl rfl) (noIt_cons (.inl rfl) (noIt_cons (.inl rfl) (noIt_cons (.inl rfl) (noIt_cons (.inl rfl) hnl3))))) F2 N2 ?_)
  intro h' tk' u F1 N1
  clear F2 N2
  dsimp only
  refine C.of (wpAny_mono (ch25 LD X T hd' hu' F1 N1) ?_ (fun _ _ (e : False) => e.elim))
  rintro f s' ⟨v, h', tk', m, news, rfl, rfl, F2, N2, rfl⟩
  exact hQ h' tk' m F2
end Mine
end
theorem Mine.fresh_LAWX : True ∧ True := by
  w_on
  w_top off
  walk1
  all_goals trivial
/-! text LAWX -/
section
open PySem PySem.W PyProof.Rows PySem.Spec PySem.Calls
namespace Mine
theorem lawDef_of {K : Frag} {qual : Str} {body : List Stmt} {scope : Scope} {cdv oc dV kV doc pm ct : Value} {od an : Option Addr} {name : Str} {params : Arguments} {osl : Array (Option Value)}
    (e : K.lookup 164 = some ⟨oc, od, .func (fnOf name qual params body scope dV kV doc pm an cdv ct), osl⟩) : LawDef K qual body scope cdv := ⟨_, _, _, _, _, _, _, _, _, _, _, e⟩
set_option maxRecDepth 100000 in
set_option maxHeartbeats 8000000 in
theorem law_core {w : World} {loose : List Str} {mean : ExcName → Option Value} {mg mb : Str → Option Value} {s : Shared} {Q E : Value → Shared → Prop} {qual : Str} {body : List Stmt} {scope : Scope} {cdv : Value} {lref : Addr} {vs : List Value} {sc : List Int}
    (HS : SaysLaw) (HF : FloydLaw) (LD : LawDef (hd.heap_39 w.params) qual body scope cdv) (X : (hd.heap_39 w.params).In s.heap) (T : Top hd.view_39 loose mean mg mb s.heap)
    (hcond : ¬((63 : Nat) : Int) < ((sc.length : Nat) : Int)) (hlay : (PyData.list (List.map PyData.int sc)).layable0 = true) (hIL : s.heap.IsList lref vs.toArray) (hIA : IntsAre vs sc)
    (hQ : ∀ h' tk', s.heap.StaysIn h' → Q (.bool true) { s with heap := h', toks := tk' }) :
    wpC (model PySem.Challenge.rw_tl0019_01.row.prog w) callerA (call (.ref 164) [.ref lref]) Q E s := by
  revert X
  k_fill
  intro X
  have hE := LawDef.eq LD (by k_dflt k_is)
  obtain ⟨rfl, rfl, rfl, rfl⟩ := hE
  refine' enterL (binds := [(Str.ofString "script", .ref lref)]) X T ?ho ?hcd ?hr ?hb ?hkd ?hnd ?_ ?c2 ?c3 ?c4
  (case ho => k_dflt k_is); (case hcd => k_dflt k_is); (case hr => decide); (case hb => exact BindsTo.of_eq rfl); (case hkd => (intro n x hx; cases List.mem_singleton.mp hx; exact .inl rfl)); (case hnd => decide +kernel); (case c2 => exact rfl); (case c3 => exact rfl); (case c4 => exact rfl)
  intro L h₁ tk cells eL F N Ce
  obtain ⟨o1, o2, o3, o4, o5, o6, rfl, d1, d2, d3, d4, d5, d6⟩ := PyProof.Rows.kc_six Ce
  have F' : Fr s.heap L h₁ (fun y => List.lookup y [(Str.ofString "script", .ref lref)]) := by
    rw [← lookup_if]
    exact F
  refine law_body HS HF LD X T (by decide) (by decide) hcond hlay hIL hIA d1 d2 d3 d4 d5 d6 F' N ?_
  intro h' tk' m F2
  exact hQ h' tk' F2.keep
set_option maxRecDepth 100000 in
set_option maxHeartbeats 8000000 in
theorem law_x (HS : SaysLaw) (HF : FloydLaw) : PySem.Challenge.rw_tl0019_01.Holds := hd (by rfl) (by rfl) (by rfl) (by
  k_fill
  intro w s₀ s₁ mg mb G Y fa o pm cd doc dV kV ho hd' hcd hD hmg hg args vals as hpre hlay hrd hwl hlo
  have KX := kIn_of Y
  refine Ground.open G ?_
  intro T B D TE TW
  have efa := mg_of KX T.g (n := Str.ofString "law") (v := .ref 164) (by k_is)
  have e2 : fa = 164 := by
    rw [efa] at hmg
    injection hmg with hmg
    injection hmg with hmg
    exact hmg.symm
  subst e2
  wrow_args hpre hlay hrd hwl hlo
  clear hmg hD hd' hcd ho B D TE TW G Y
  refine' law_core HS HF ?LD KX T (by assumption) (by assumption) (by assumption) (by assumption) ?_
  (case LD => (refine' lawDef_of ?z7L; (case z7L => k_dflt k_is)))
  intro h' tk' st
  refine GoodW.toG ⟨.inl ⟨.bool true, .bool true, [], rfl, fun cls => rfl, ?_, ?_, fun _ => ⟨List.nodup_nil, fun a ha => by cases ha⟩⟩, st, rfl, hg⟩
  · exact ReadsW.bool _
  · first | wrow_post | exact postW_of (by wrow_shape) (by wtm_val) (by w_fin))
end Mine
end
theorem Mine.fresh_FD : True ∧ True := by
  w_on
  w_top off
  walk1
  all_goals trivial
/-! text FD -/
section
namespace Mine
/-! the plain law of the walkers, over places told by number -/
noncomputable def rho (mu la i : Nat) : Nat := if i < mu + la then i else mu + (i - mu) % la
noncomputable def canon (mu la n : Nat) : List Nat := (List.range n).map (rho mu la)
noncomputable def em2L (u v got : List Nat) : Bool := u.isPrefixOf got && v.isSuffixOf got && decide (u.length + v.length ≤ got.length)
noncomputable def hitL (l : List Nat) (i j : Nat) : Bool := em2L (l.take i) (l.drop j) (l.take (l.length - (j - i)))
noncomputable def updL (hit : Nat → Nat → Bool) (wr : Nat × Nat) (i j : Nat) : Nat × Nat := if wr.2 = 0 ∧ hit i j = true then (i, j - i) else wr
noncomputable def rinL (hit : Nat → Nat → Bool) (j : Nat) (wr : Nat × Nat) : Nat → Nat × Nat
  | 0 => wr
  | n + 1 => updL hit (rinL hit j wr n) n j
noncomputable def routL (hit : Nat → Nat → Bool) : Nat → Nat × Nat
  | 0 => (0, 0)
  | n + 1 => rinL hit (n + 1) (routL hit n) (n + 1)
/-- ceil(mu / sl), at least one, less one -/
noncomputable def leadL (mu sl : Nat) : Nat := max ((mu + sl - 1) / sl) 1 - 1
noncomputable def stopL (ll z t : Nat) : Bool := (List.range 8).any fun k => z * (ll / z + (k + 1)) == t
noncomputable def lastL (l : List Nat) (mu la sl fa z t : Nat) : Bool :=
  let a := sl * t
  let b := fa * t
  let due := stopL (leadL mu sl) z t
  decide (a ≤ b) && decide (b ≤ l.length) && decide (b + 1 ≤ l.length + a) && (decide (rho mu la a = rho mu la b) == due) &&
  (em2L (l.drop b) [] (l.drop a) == due) && (em2L (l.take a) (l.drop b) (l.take (l.length - (b - a))) == due) &&
  (em2L (l.take a) (l.drop b) (l.take (l.length - (b - a) - 1)) == false) && (em2L (l.take a) (l.drop b) l == true)
noncomputable def chk (mu la sl d : Nat) : Bool :=
  let fa := sl + d
  let l := canon mu la (1 + fa * 8)
  (routL (hitL l) 7 == (mu, la)) && ((List.range (mu + la)).all fun m => decide (2 ≤ l.count m) == decide (mu ≤ m)) &&
  ((List.range (la + 1)).all fun z => z == 0 || (z * d) % la != 0 || ((List.range z).any fun y => y != 0 && (y * d) % la == 0) || ((List.range 8).all fun i => lastL l mu la sl fa z (i + 1)))
noncomputable def allChk : Bool := (List.range 7).all fun mu => (List.range 8).all fun la => la == 0 || decide (7 < mu + la) || ((List.range 3).all fun sl => sl == 0 || ((List.range 4).all fun d => d == 0 || chk mu la sl d))
theorem chk_all : allChk = true := by decide +kernel
end Mine
end
theorem Mine.fresh_FE : True ∧ True := by
  w_on
  w_top off
  walk1
  all_goals trivial
/-! text FE -/
section
open PySem PySem.W PyProof.Rows PySem.Spec PySem.Calls
open PySem.Builtin PySem.Builtin.Str PySem.StrLaws
namespace Mine
theorem takeS_list (x : PySem.Str) (j : Nat) : (takeS x j).cps.toList = x.cps.toList.take j := by unfold takeS; simp
theorem dropS_list (x : PySem.Str) (j : Nat) : (dropS x j).cps.toList = x.cps.toList.drop j := by unfold dropS; simp
theorem bool_iff {a b : Bool} (h : a = true ↔ b = true) : a = b := by cases a <;> cases b <;> simp_all
theorem starts_iff {u got : PySem.Str} : Txt.startswith got u = true ↔ u.cps.toList <+: got.cps.toList := by
  unfold Txt.startswith
  rw [subAt_eq, List.drop_zero, Bool.and_eq_true, decide_eq_true_iff, beq_iff_eq, List.prefix_iff_eq_take, len_list]
  constructor
  · exact fun h => h.2.symm
  · intro h
    refine ⟨?_, h.symm⟩
    have := congrArg List.length h
    rw [List.length_take, len_list, len_list] at this
    omega
theorem ends_iff {v got : PySem.Str} : Txt.endswith got v = true ↔ v.cps.toList <:+ got.cps.toList := by
  unfold Txt.endswith
  rw [subAt_eq, Bool.and_eq_true, decide_eq_true_iff, beq_iff_eq, List.suffix_iff_eq_drop, len_list, len_list]
  have e : 0 + v.length ≤ got.length → (List.drop (got.length - v.length) got.cps.toList).take v.length = List.drop (got.length - v.length) got.cps.toList := fun h => by
    refine List.take_of_length_le ?_
    rw [List.length_drop, len_list]; omega
  constructor
  · exact fun h => h.2.symm.trans (e h.1)
  · intro h
    have h1 : 0 + v.length ≤ got.length := by
      have := congrArg List.length h
      rw [List.length_drop, len_list, len_list] at this
      omega
    exact ⟨h1, (e h1).trans h.symm⟩
theorem em2_list (u v got : PySem.Str) : em2 u v got = em2L u.cps.toList v.cps.toList got.cps.toList := by
  unfold em2 em2L
  rw [len_list, len_list, len_list]
  congr 1
  congr 1
  · exact bool_iff (starts_iff.trans List.isPrefixOf_iff_prefix.symm)
  · exact bool_iff (ends_iff.trans List.isSuffixOf_iff_suffix.symm)
theorem em2L_map {f : Nat → Nat} (hf : ∀ a b, f a = f b → a = b) (u v got : List Nat) : em2L (u.map f) (v.map f) (got.map f) = em2L u v got := by
  unfold em2L
  simp only [List.length_map]
  congr 1
  congr 1
  · refine bool_iff ?_
    rw [List.isPrefixOf_iff_prefix, List.isPrefixOf_iff_prefix, List.prefix_iff_eq_take, List.prefix_iff_eq_take, List.length_map, ← List.map_take]
    exact List.map_inj_right hf
  · refine bool_iff ?_
    rw [List.isSuffixOf_iff_suffix, List.isSuffixOf_iff_suffix, List.suffix_iff_eq_drop, List.suffix_iff_eq_drop, List.length_map, List.length_map, ← List.map_drop]
    exact List.map_inj_right hf
theorem hit_list {lg : PySem.Str} {C : List Nat} {f : Nat → Nat} (hf : ∀ a b, f a = f b → a = b) (e : lg.cps.toList = C.map f) (i j : Nat) : hitP lg i j = hitL C i j := by
  unfold hitP hitL
  rw [em2_list, takeS_list, dropS_list, takeS_list, e, ← len_list, e, List.length_map, ← List.map_take, ← List.map_drop, ← List.map_take, em2L_map hf]
theorem rin_eq (hit : Nat → Nat → Bool) (j : Nat) (wr : Nat × Nat) : ∀ n, rin hit j wr n = rinL hit j wr n
  | 0 => rfl
  | n + 1 => by show upd hit (rin hit j wr n) n j = updL hit (rinL hit j wr n) n j; rw [rin_eq hit j wr n]; rfl
theorem rout_eq (hit : Nat → Nat → Bool) : ∀ n, rout hit n = routL hit n
  | 0 => rfl
  | n + 1 => by show rin hit (n + 1) (rout hit n) (n + 1) = rinL hit (n + 1) (routL hit n) (n + 1); rw [rin_eq, rout_eq hit n]
/-! a letter that comes twice -/
theorem at_one {x : PySem.Str} {q i : Nat} : At x ⟨#[q]⟩ x.length i ↔ x.cps.toList[i]? = some q := subAt_one x q i
theorem count_two {q : Nat} : ∀ {l : List Nat}, 2 ≤ l.count q ↔ ∃ i j : Nat, i < j ∧ l[i]? = some q ∧ l[j]? = some q
  | [] => by simp
  | a :: l => by
    rw [List.count_cons]
    by_cases h : a = q
    · subst h
      simp only [beq_self_eq_true, if_true]
      constructor
      · intro h2
        have h3 : 0 < l.count a := by omega
        obtain ⟨j, hj, e⟩ := List.getElem_of_mem (List.count_pos_iff.mp h3)
        exact ⟨0, j + 1, by omega, rfl, by rw [List.getElem?_cons_succ, List.getElem?_eq_getElem hj, e]⟩
      · rintro ⟨i, j, hij, _, hj⟩
        cases j with
        | zero => omega
        | succ j =>
          rw [List.getElem?_cons_succ] at hj
          have := List.count_pos_iff.mpr (List.mem_of_getElem? hj)
          omega
    · rw [if_neg (by simpa using h)]
      rw [Nat.add_zero, count_two (l := l)]
      constructor
      · rintro ⟨i, j, h1, h2, h3⟩
        exact ⟨i + 1, j + 1, by omega, h2, h3⟩
      · rintro ⟨i, j, h1, h2, h3⟩
        cases i with
        | zero => rw [List.getElem?_cons_zero] at h2; exact absurd (Option.some.inj h2) h
        | succ i =>
          cases j with
          | zero => omega
          | succ j => exact ⟨i, j, by omega, h2, h3⟩
theorem find_neg {x : PySem.Str} {q lo : Nat} : findIn x ⟨#[q]⟩ lo x.length < 0 ↔ ∀ i, lo ≤ i → ¬ x.cps.toList[i]? = some q := by
  unfold findIn
  rcases occ_head_span x ⟨#[q]⟩ lo x.length 1 (Nat.le_refl 1) with ⟨e, hn⟩ | ⟨i, r, e, h1, h2, _⟩
  · rw [e]
    exact ⟨fun _ i hi h => hn i hi (at_one.mpr h), fun _ => by decide⟩
  · rw [e]
    dsimp only
    exact ⟨fun h => by omega, fun h => absurd (at_one.mp h2) (h i h1)⟩
theorem find_pos {x : PySem.Str} {q lo : Nat} (h : ¬ findIn x ⟨#[q]⟩ lo x.length < 0) : ∃ i : Nat, findIn x ⟨#[q]⟩ lo x.length = (i : Int) ∧ lo ≤ i ∧ x.cps.toList[i]? = some q ∧ ∀ k, lo ≤ k → k < i → ¬ x.cps.toList[k]? = some q := by
  unfold findIn at h ⊢
  rcases occ_head_span x ⟨#[q]⟩ lo x.length 1 (Nat.le_refl 1) with ⟨e, hn⟩ | ⟨i, r, e, h1, h2, h3⟩
  · rw [e] at h; exact absurd (by decide) h
  · rw [e]
    exact ⟨i, rfl, h1, at_one.mp h2, fun k a b c => h3 k a b (at_one.mpr c)⟩
theorem em4_count {x : PySem.Str} {q : Nat} : em4 ⟨#[q]⟩ x = decide (2 ≤ x.cps.toList.count q) := by
  unfold em4
  by_cases h1 : findIn x ⟨#[q]⟩ 0 x.length < 0
  · rw [if_pos h1]
    refine (decide_eq_false fun h => ?_).symm
    obtain ⟨i, j, _, hi, _⟩ := count_two.mp h
    exact find_neg.mp h1 i (Nat.zero_le _) hi
  · rw [if_neg h1]
    obtain ⟨i, e, _, hi, hmin⟩ := find_pos h1
    rw [e, show ((i : Int) + 1).toNat = i + 1 from by omega]
    by_cases h2 : findIn x ⟨#[q]⟩ (i + 1) x.length < 0
    · rw [if_pos h2]
      refine (decide_eq_false fun h => ?_).symm
      obtain ⟨a, b, hab, ha, hb⟩ := count_two.mp h
      have : i ≤ a := Nat.le_of_not_lt fun q => hmin a (Nat.zero_le _) q ha
      exact find_neg.mp h2 b (by omega) hb
    · rw [if_neg h2]
      obtain ⟨j, _, hj, hj2, _⟩ := find_pos h2
      exact (decide_eq_true (count_two.mpr ⟨i, j, by omega, hi, hj2⟩)).symm
theorem count_map_inj {f : Nat → Nat} (hf : ∀ a b, f a = f b → a = b) (m : Nat) : ∀ l : List Nat, (l.map f).count (f m) = l.count m
  | [] => rfl
  | a :: l => by
    rw [List.map_cons, List.count_cons, List.count_cons, count_map_inj hf m l]
    by_cases h : a = m
    · subst h; simp
    · have h2 : ¬ f a = f m := fun e => h (hf _ _ e)
      rw [beq_false_of_ne h, beq_false_of_ne h2]
end Mine
end
theorem Mine.fresh_FF : True ∧ True := by
  w_on
  w_top off
  walk1
  all_goals trivial
/-! text FF -/
section
open PySem PySem.W PyProof.Rows PySem.Spec PySem.Calls
namespace Mine
theorem gP_lt {gl : List Int} (hgl : gl.length = 7) (hg : ∀ g ∈ gl, 0 ≤ g ∧ g < 7) {p : Nat} (hp : p < 7) : gP gl p < 7 ∧ ((gP gl p : Nat) : Int) = gl.getD p 0 := by
  have hk : p < gl.length := by omega
  have e : gl.getD p 0 = gl[p] := by simp [List.getD, hk]
  have h := hg _ (List.getElem_mem hk)
  unfold gP
  rw [e, Int.toNat_of_nonneg h.1]; exact ⟨(Int.toNat_lt h.1).mpr h.2, rfl⟩
theorem path_at {gl : List Int} {st : Int} (hgl : gl.length = 7) (hg : ∀ g ∈ gl, 0 ≤ g ∧ g < 7) (hs : 0 ≤ st ∧ st < 7) {vis : List Int} {p : Int} (h : Path gl st vis p) :
    (∀ i, i < vis.length → vis[i]? = some ((it (gP gl) i st.toNat : Nat) : Int)) ∧ p = ((it (gP gl) vis.length st.toNat : Nat) : Int) := by
  have hlt : ∀ n, it (gP gl) n st.toNat < 7 := it_lt (fun p hp => (gP_lt hgl hg hp).1) (by omega)
  induction h with
  | nil => exact ⟨fun i hi => absurd hi (Nat.not_lt_zero _), by show st = ((st.toNat : Nat) : Int); omega⟩
  | @snoc vis p _ _ ih =>
    obtain ⟨h1, h2⟩ := ih
    refine ⟨fun i hi => ?_, ?_⟩
    · rw [List.length_append, List.length_singleton] at hi
      by_cases h : i < vis.length
      · rw [List.getElem?_append_left h]; exact h1 i h
      · have e : i = vis.length := by omega
        rw [e, List.getElem?_append_right (Nat.le_refl _), Nat.sub_self, ← h2]; rfl
    · rw [List.length_append, List.length_singleton]
      show _ = ((gP gl (it (gP gl) vis.length st.toNat) : Nat) : Int)
      rw [(gP_lt hgl hg (hlt _)).2, h2, Int.toNat_natCast]
theorem lg_list {g : Nat → Nat} {c : Int} {st : Nat} (hc : 0 ≤ c) (hg : ∀ p, p < 7 → g p < 7) (hst : st < 7) : ∀ m, (lg g ((rangeKs 0 7).map (signP c)) st (((rangeKs 0 7).map (signP c)).getD st Str.empty) m).cps.toList = (List.range (m + 1)).map fun i => 97 + c.toNat + it g i st
  | 0 => by
    show ((((rangeKs 0 7).map (signP c)).getD st Str.empty)).cps.toList = _
    rw [rangeKs_at hst]
    show [(97 + c + (st : Int)).toNat] = [97 + c.toNat + st]
    rw [ch_add hc]
  | m + 1 => by
    have ih := lg_list hc hg hst m
    have e : (lg g ((rangeKs 0 7).map (signP c)) st (((rangeKs 0 7).map (signP c)).getD st Str.empty) (m + 1)).cps.toList = (lg g ((rangeKs 0 7).map (signP c)) st (((rangeKs 0 7).map (signP c)).getD st Str.empty) m).cps.toList ++ (((rangeKs 0 7).map (signP c)).getD (it g (m + 1) st) Str.empty).cps.toList := by
      show ((lg g ((rangeKs 0 7).map (signP c)) st (((rangeKs 0 7).map (signP c)).getD st Str.empty) m).cps ++ (((rangeKs 0 7).map (signP c)).getD (it g (m + 1) st) Str.empty).cps).toList = _
      simp
    rw [e, ih, rangeKs_at (it_lt hg hst (m + 1)), List.range_succ (n := m + 1), List.map_append]
    congr 1
    show [(97 + c + ((it g (m + 1) st : Nat) : Int)).toNat] = [97 + c.toNat + it g (m + 1) st]
    rw [ch_add hc]
section
variable {x : Nat → Nat} {mu la : Nat}
theorem per_all (h : ∀ k, x (mu + k + la) = x (mu + k)) (hla : 1 ≤ la) : ∀ k, x (mu + k) = x (mu + k % la) := by
  intro k
  induction k using Nat.strongRecOn with
  | ind k ih =>
    by_cases hk : k < la
    · rw [Nat.mod_eq_of_lt hk]
    · have e1 := h (k - la)
      rw [show mu + (k - la) + la = mu + k from by omega] at e1
      rw [e1, ih (k - la) (by omega), Nat.mod_eq_sub_mod (a := k) (by omega)]
theorem rho_eq (h : ∀ k, x (mu + k + la) = x (mu + k)) (hla : 1 ≤ la) (i : Nat) : x i = x (rho mu la i) := by
  unfold rho
  by_cases hi : i < mu + la
  · rw [if_pos hi]
  · rw [if_neg hi]
    have := per_all h hla (i - mu)
    rw [show mu + (i - mu) = i from by omega] at this
    exact this
theorem rho_lt (hla : 1 ≤ la) (i : Nat) : rho mu la i < mu + la := by
  unfold rho
  split
  · assumption
  · have := Nat.mod_lt (i - mu) (by omega : la > 0)
    omega
end
theorem chk_at {mu la sl d : Nat} (h1 : 1 ≤ la) (h2 : mu + la ≤ 7) (h3 : 1 ≤ sl) (h4 : sl ≤ 2) (h5 : 1 ≤ d) (h6 : d ≤ 3) : chk mu la sl d = true := by
  have h := chk_all
  unfold allChk at h
  have a1 := List.all_eq_true.mp h mu (List.mem_range.mpr (by omega))
  have a2 := List.all_eq_true.mp a1 la (List.mem_range.mpr (by omega))
  rw [beq_false_of_ne (by omega : la ≠ 0), Bool.false_or, decide_eq_false (by omega : ¬ 7 < mu + la), Bool.false_or] at a2
  have a3 := List.all_eq_true.mp a2 sl (List.mem_range.mpr (by omega))
  rw [beq_false_of_ne (by omega : sl ≠ 0), Bool.false_or] at a3
  have a4 := List.all_eq_true.mp a3 d (List.mem_range.mpr (by omega))
  rw [beq_false_of_ne (by omega : d ≠ 0), Bool.false_or] at a4
  exact a4
theorem lead_eq {mu : Nat} {sl : Int} (h0 : 1 ≤ sl) (h1 : sl ≤ 2) : leadN mu sl = leadL mu sl.toNat := by
  unfold leadN leadL
  rcases (by omega : sl = 1 ∨ sl = 2) with rfl | rfl
  · rw [show ((mu : Int) + 1 - 1).fdiv 1 = (((mu + 1 - 1) / 1 : Nat) : Int) from by rw [Int.fdiv_one, Nat.div_one, Int.add_sub_cancel, Nat.add_sub_cancel]]
    exact lead_nat _
  · rw [show ((mu : Int) + 2 - 1).fdiv 2 = (((mu + 2 - 1) / 2 : Nat) : Int) from by
      rw [Int.fdiv_eq_ediv_of_nonneg _ (by decide), show (mu : Int) + 2 - 1 = ((mu + 1 : Nat) : Int) from by rw [Int.add_sub_assoc]; rfl]
      rfl]
    exact lead_nat _
theorem any_congr' {α : Type} {p q : α → Bool} : ∀ {l : List α}, (∀ a ∈ l, p a = q a) → l.any p = l.any q
  | [], _ => rfl
  | a :: l, h => by rw [List.any_cons, List.any_cons, h a (.head _), any_congr' fun b hb => h b (.tail _ hb)]
theorem stop_eq {ll zn t : Nat} (hz : 1 ≤ zn) : ((stopsP ll (zn : Int)).any fun x => x == ((t : Nat) : Int)) = stopL ll zn t := by
  unfold stopsP stopL rangeKs
  rw [List.any_map, List.any_map]
  refine any_congr' fun k _ => ?_
  show ((zn : Int) * (((ll : Nat) : Int).fdiv (zn : Int) + (1 + (k : Int))) == (t : Int)) = (zn * (ll / zn + (k + 1)) == t)
  have e : (zn : Int) * (((ll : Nat) : Int).fdiv (zn : Int) + (1 + (k : Int))) = ((zn * (ll / zn + (k + 1)) : Nat) : Int) := by
    rw [Int.fdiv_eq_ediv_of_nonneg _ (by omega), ← Int.natCast_ediv, Int.natCast_mul, Int.natCast_add, Int.natCast_add]
    congr 1
    omega
  rw [e]
  by_cases h : zn * (ll / zn + (k + 1)) = t
  · rw [h]; simp
  · rw [beq_false_of_ne h, beq_false_of_ne (fun q => h (by exact_mod_cast q))]
end Mine
end
theorem Mine.fresh_FG : True ∧ True := by
  w_on
  w_top off
  walk1
  all_goals trivial
/-! text FG -/
section
open PySem PySem.W PyProof.Rows PySem.Spec PySem.Calls
namespace Mine
set_option maxHeartbeats 1000000 in
theorem floyd_law : FloydLaw := by
  intro gl st sl fa c hgl hg hs0 hs1 hl0 hl1 hf0 hf1 hc0 hc1 vis p hP hpv
  have hgg : ∀ p, p < 7 → gP gl p < 7 := fun p hp => (gP_lt hgl hg hp).1
  have hp0 : st.toNat < 7 := by omega
  obtain ⟨hat, hpn⟩ := path_at hgl hg ⟨hs0, hs1⟩ hP
  have hlen := hP.len hgl hg ⟨hs0, hs1⟩
  have hnd := (hP.in7 hgl hg ⟨hs0, hs1⟩).2.2
  obtain ⟨x, hx⟩ : ∃ x : Nat → Nat, x = fun i => it (gP gl) i st.toNat := ⟨_, rfl⟩
  have hxi : ∀ i, it (gP gl) i st.toNat = x i := fun i => by rw [hx]
  have hxl : ∀ i, x i < 7 := fun i => by rw [hx]; exact it_lt hgg hp0 i
  have hxs : ∀ i, x (i + 1) = gP gl (x i) := fun i => by rw [hx]; rfl
  have hat' : ∀ i, i < vis.length → vis[i]? = some ((x i : Nat) : Int) := fun i hi => by rw [hat i hi, hxi]
  rw [hxi] at hpn
  have hwl : vis.idxOf p < vis.length := List.idxOf_lt_length_iff.mpr hpv
  have hwx : x (vis.idxOf p) = x vis.length := by
    have e1 := hat' _ hwl
    rw [List.getElem?_eq_getElem hwl, List.getElem_idxOf] at e1
    have e2 : p = ((x (vis.idxOf p) : Nat) : Int) := Option.some.inj e1
    generalize vis.idxOf p = q at *
    omega
  generalize hmu : vis.idxOf p = mu at *
  obtain ⟨la, hla⟩ : ∃ la, mu + la = vis.length := ⟨vis.length - mu, by omega⟩
  have hla1 : 1 ≤ la := by omega
  have hper : ∀ k, x (mu + k + la) = x (mu + k) := by
    intro k
    induction k with
    | zero => rw [Nat.add_zero, hla, hwx]
    | succ k ih =>
      rw [show mu + (k + 1) + la = mu + k + la + 1 from by omega, hxs, ih, ← hxs]
      rfl
  have hrho := fun i => rho_eq hper hla1 i
  have hrl := fun i => rho_lt (mu := mu) hla1 i
  have hinj : ∀ i j, i < mu + la → j < mu + la → x i = x j → i = j := fun i j hi hj e => by
    rw [hla] at hi hj
    exact (List.getElem?_inj hi hnd).mp (by rw [hat' i hi, hat' j hj, e])
  -- the letters
  obtain ⟨f, hfd⟩ : ∃ f : Nat → Nat, f = fun k => if k < mu + la then 97 + c.toNat + x k else 5000000 + k := ⟨_, rfl⟩
  have hfi : ∀ a b, f a = f b → a = b := fun a b e => by
    rw [hfd] at e
    dsimp only at e
    have ha := hxl a
    have hb := hxl b
    split at e <;> split at e
    · exact hinj a b (by assumption) (by assumption) (by omega)
    · omega
    · omega
    · omega
  have hlist : (lgP gl ((rangeKs 0 7).map (signP c)) st fa).cps.toList = (canon mu la (1 + fa.toNat * 8)).map f := by
    unfold lgP canon
    rw [lg_list hc0 hgg hp0, List.map_map, show 1 + fa.toNat * 8 = fa.toNat * 8 + 1 from Nat.add_comm _ _]
    refine List.map_congr_left fun i _ => ?_
    show 97 + c.toNat + it (gP gl) i st.toNat = f (rho mu la i)
    rw [hxi, hrho i, hfd]
    dsimp only
    rw [if_pos (hrl i)]
  generalize lgP gl ((rangeKs 0 7).map (signP c)) st fa = lgS at *
  have hCl : (canon mu la (1 + fa.toNat * 8)).length = 1 + fa.toNat * 8 := by unfold canon; simp
  have hlS : lgS.length = 1 + fa.toNat * 8 := by rw [← len_list, hlist, List.length_map, hCl]
  obtain ⟨d, hd⟩ : ∃ d : Nat, fa.toNat = sl.toNat + d := Nat.exists_eq_add_of_le (Int.toNat_le_toNat (by omega))
  have hchk := chk_at (mu := mu) (la := la) (sl := sl.toNat) (d := d) hla1 (by omega) (by omega) (by omega) (by omega) (by omega)
  unfold chk at hchk
  rw [← hd] at hchk
  dsimp only at hchk
  generalize canon mu la (1 + fa.toNat * 8) = C at *
  rw [Bool.and_eq_true, Bool.and_eq_true] at hchk
  obtain ⟨⟨c1, c2⟩, c3⟩ := hchk
  have hhit : hitP lgS = hitL C := funext fun i => funext fun j => hit_list hfi hlist i j
  refine ⟨mu, la, ?_, rfl, hla, hla1, fun k hk => ?_, fun z hz1 hz2 hz3 hz4 i hi => ?_⟩
  · rw [hhit, rout_eq]; exact eq_of_beq c1
  · rw [rangeKs_at hk]
    have es : signP c (k : Int) = ⟨#[97 + c.toNat + k]⟩ := by
      unfold signP
      rw [ch_add (by assumption)]
    rw [es, em4_count, hlist]
    by_cases hin : ∃ m, m < mu + la ∧ x m = k
    · obtain ⟨m, hm, hmk⟩ := hin
      have ef : 97 + c.toNat + k = f m := by rw [hfd]; dsimp only; rw [if_pos hm, hmk]
      rw [ef, count_map_inj hfi]
      have e2 := eq_of_beq (List.all_eq_true.mp c2 m (List.mem_range.mpr hm))
      rw [e2]
      refine bool_iff ?_
      rw [decide_eq_true_iff, List.any_eq_true]
      constructor
      · intro h
        refine ⟨(k : Int), ?_, by simp⟩
        rw [List.mem_iff_getElem?]
        refine ⟨m - mu, ?_⟩
        rw [List.getElem?_drop, show mu + (m - mu) = m from by omega, hat' m (by omega), hmk]
      · rintro ⟨y, hy, e⟩
        obtain ⟨j, hj⟩ := List.mem_iff_getElem?.mp hy
        rw [List.getElem?_drop] at hj
        have hjl : mu + j < vis.length := by
          rcases Nat.lt_or_ge (mu + j) vis.length with h | h
          · exact h
          · rw [List.getElem?_eq_none h] at hj; cases hj
        rw [hat' _ hjl] at hj
        have e1 := Option.some.inj hj
        have e3 := eq_of_beq e
        have : m = mu + j := hinj m (mu + j) hm (by omega) (by omega)
        omega
    · have h0 : (C.map f).count (97 + c.toNat + k) = 0 := by
        rw [List.count_eq_zero]
        intro hm
        obtain ⟨m, _, e⟩ := List.mem_map.mp hm
        rw [hfd] at e
        dsimp only at e
        split at e
        · exact hin ⟨m, by assumption, by omega⟩
        · omega
      rw [h0]
      refine Eq.symm ?_
      show _ = false
      rw [List.any_eq_false]
      intro y hy e
      obtain ⟨j, hj⟩ := List.mem_iff_getElem?.mp hy
      rw [List.getElem?_drop] at hj
      have hjl : mu + j < vis.length := by
        rcases Nat.lt_or_ge (mu + j) vis.length with h | h
        · exact h
        · rw [List.getElem?_eq_none h] at hj; cases hj
      rw [hat' _ hjl] at hj
      have e1 := Option.some.inj hj
      have e3 := eq_of_beq e
      exact hin ⟨mu + j, by omega, by omega⟩
  · obtain ⟨zn, rfl⟩ := Int.eq_ofNat_of_zero_le (show 0 ≤ z from by omega)
    have hd2 : fa - sl = ((d : Nat) : Int) := by omega
    have hmod : ∀ y : Nat, ((y : Int) * (fa - sl)).fmod (la : Int) = ((y * d % la : Nat) : Int) := fun y => by
      rw [hd2, Int.fmod_eq_emod_of_nonneg _ (by omega), ← Int.natCast_mul, ← Int.natCast_emod]
    have g1 : zn * d % la = 0 := by
      have := hz3
      rw [hmod] at this
      omega
    have c4 := List.all_eq_true.mp c3 zn (List.mem_range.mpr (by omega))
    rw [beq_false_of_ne (by omega : zn ≠ 0), Bool.false_or, g1] at c4
    have g2 : ((List.range zn).any fun y => y != 0 && (y * d) % la == 0) = false := by
      rw [List.any_eq_false]
      intro y hy e
      rw [Bool.and_eq_true] at e
      obtain ⟨e1, e2⟩ := e
      have hy' := List.mem_range.mp hy
      have hy0 : y ≠ 0 := by simpa using e1
      refine hz4 (y : Int) (by omega) (by omega) ?_
      rw [hmod, eq_of_beq e2]; rfl
    rw [g2] at c4
    have c5 : ((List.range 8).all fun i => lastL C mu la sl.toNat fa.toNat zn (i + 1)) = true := c4
    have c6 := List.all_eq_true.mp c5 i (List.mem_range.mpr hi)
    unfold lastL at c6
    dsimp only at c6
    simp only [Bool.and_eq_true, decide_eq_true_iff] at c6
    obtain ⟨⟨⟨⟨⟨⟨⟨k1, k2⟩, k3⟩, k4⟩, k5⟩, k6⟩, k7⟩, k8⟩ := c6
    rw [hCl] at k2 k3
    have ea : sl * (1 + (i : Int)) = ((sl.toNat * (i + 1) : Nat) : Int) := by
      rw [Int.natCast_mul, show ((sl.toNat : Nat) : Int) = sl from by omega, show ((i + 1 : Nat) : Int) = 1 + (i : Int) from by omega]
    have eb : fa * (1 + (i : Int)) = ((fa.toNat * (i + 1) : Nat) : Int) := by
      rw [Int.natCast_mul, show ((fa.toNat : Nat) : Int) = fa from by omega, show ((i + 1 : Nat) : Int) = 1 + (i : Int) from by omega]
    have et : (1 + (i : Int)) = ((i + 1 : Nat) : Int) := by omega
    have edue : ((stopsP (leadN mu sl) (zn : Int)).any fun x => x == ((i + 1 : Nat) : Int)) = stopL (leadL mu sl.toNat) zn (i + 1) := by
      rw [lead_eq hl0 hl1]; exact stop_eq (by omega)
    generalize hA : sl.toNat * (i + 1) = a at *
    generalize hB : fa.toNat * (i + 1) = b at *
    have s1 : Txt.slice lgS none (some (a : Int)) = takeS lgS a := by rw [slice_to (by omega) (by omega), Int.toNat_natCast]
    have s2 : Txt.slice lgS (some (b : Int)) none = dropS lgS b := by rw [slice_from (by omega) (by omega), Int.toNat_natCast]
    have s3 : Txt.slice lgS (some (a : Int)) none = dropS lgS a := by rw [slice_from (by omega) (by omega), Int.toNat_natCast]
    have s4 : Txt.slice lgS none (some ((lgS.length : Int) - ((b : Int) - (a : Int)))) = takeS lgS (lgS.length - (b - a)) := by
      rw [slice_to (by omega) (by omega)]
      exact congrArg (takeS lgS) (sub3 (by assumption))
    have s5 : Txt.slice lgS none (some ((lgS.length : Int) - ((b : Int) - (a : Int)) - 1)) = takeS lgS (lgS.length - (b - a) - 1) := by
      rw [slice_to (by omega) (by omega)]
      exact congrArg (takeS lgS) (sub4 (by assumption))
    have hCS : C.length = lgS.length := by rw [hCl, hlS]
    unfold LastOk
    rw [ea, eb, et, edue, s1, s2, s3, s4, s5]
    refine ⟨by omega, by omega, by omega, by omega, ?_, ?_, ?_, ?_, ?_⟩
    · rw [← eq_of_beq k4, show (((i + 1 : Nat) : Int) - 1).toNat = i from by omega]
      have e1 : (meetsB (gP gl) sl.toNat fa.toNat st.toNat).getD i false = decide (it (gP gl) (sl.toNat * (i + 1)) st.toNat = it (gP gl) (fa.toNat * (i + 1)) st.toNat) := by
        unfold meetsB
        rw [List.getD_eq_getElem?_getD, List.getElem?_map, List.getElem?_range hi, Option.map_some, Option.getD_some]
      rw [e1, hA, hB, hxi, hxi]
      refine bool_iff ?_
      rw [decide_eq_true_iff, decide_eq_true_iff, hrho a, hrho b]
      exact ⟨fun e => hinj _ _ (hrl a) (hrl b) e, fun e => by rw [e]⟩
    · rw [em2_list, dropS_list, dropS_list, hlist, ← List.map_drop, ← List.map_drop]
      exact (em2L_map hfi _ [] _).trans (eq_of_beq k5)
    · rw [em2_list, takeS_list, dropS_list, takeS_list, hlist, ← List.map_drop, ← List.map_take, ← List.map_take, em2L_map hfi, ← hCS]
      exact eq_of_beq k6
    · rw [em2_list, takeS_list, dropS_list, takeS_list, hlist, ← List.map_drop, ← List.map_take, ← List.map_take, em2L_map hfi, ← hCS]
      exact eq_of_beq k7
    · rw [em2_list, takeS_list, dropS_list, hlist, ← List.map_drop, ← List.map_take, em2L_map hfi]
      exact eq_of_beq k8
end Mine
end
theorem Mine.fresh_SY : True ∧ True := by
  w_on
  w_top off
  walk1
  all_goals trivial
/-! text SY -/
section
open PySem PySem.W PyProof.Rows PySem.Spec PySem.Calls PySem.NumText
namespace Mine
theorem blank_no {c : Nat} (h : 48 ≤ c) : blank c = false := blank_of (by omega)
theorem core_pre {pre E : List Nat} (hpre : pre = [] ∨ pre = [43] ∨ pre = [9]) (hE : ∀ c ∈ E, 48 ≤ c ∧ c < 128) (hne : E ≠ []) :
    sign ((pre ++ E).dropWhile blank) = (false, E) ∧ core (pre ++ E) = E := by
  obtain ⟨a, r, rfl⟩ : ∃ a r, E = a :: r := by cases E with | nil => exact absurd rfl hne | cons a r => exact ⟨a, r, rfl⟩
  have ha := hE a (.head _)
  have e1 : (a :: r).dropWhile blank = a :: r := dropWhile_of (by omega)
  have e2 : sign ((pre ++ a :: r).dropWhile blank) = (false, a :: r) := by
    rcases hpre with rfl | rfl | rfl
    · show sign ((a :: r).dropWhile blank) = _
      rw [e1]; exact sign_of (by omega) (by omega)
    · show sign ((43 :: a :: r).dropWhile blank) = _
      rw [dropWhile_of (by omega)]; rfl
    · show sign ((9 :: a :: r).dropWhile blank) = _
      rw [List.dropWhile_cons, show blank 9 = true from rfl, if_pos rfl, e1]; exact sign_of (by omega) (by omega)
  refine ⟨e2, ?_⟩
  unfold core
  rw [e2]
  show ((a :: r).reverse.dropWhile blank).reverse = a :: r
  have h3 : (a :: r).reverse.dropWhile blank = (a :: r).reverse := by
    have hr : ∀ c ∈ (a :: r).reverse, 48 ≤ c := fun c hc => (hE c (List.mem_reverse.mp hc)).1
    generalize (a :: r).reverse = z at *
    cases z with
    | nil => rfl
    | cons b z => exact dropWhile_of (by have := hr b (.head _); omega)
  rw [h3, List.reverse_reverse]
theorem read_pre {x : Str} {pre E : List Nat} (hx : x.cps.toList = pre ++ E) (hpre : pre = [] ∨ pre = [43] ∨ pre = [9]) (hE : ∀ c ∈ E, 48 ≤ c ∧ c < 128) (hne : E ≠ []) :
    numTextOf x = x.cps.toList ∧ numSeenOf x = x.cps.toList ∧ PySem.intText? x = (match digits? 10 E with | some ds => if ds.size ≤ 4300 then some (worth false ds) else none | none => none) := by
  have hall : ∀ c ∈ x.cps.toList, c < 128 ∧ c ≠ 0 := fun c hc => by
    rw [hx] at hc
    rcases List.mem_append.mp hc with h | h
    · rcases hpre with rfl | rfl | rfl
      · cases h
      · rw [List.mem_singleton.mp h]; omega
      · rw [List.mem_singleton.mp h]; omega
    · have := hE c h; omega
  have e1 : numTextOf x = x.cps.toList := by
    refine if_pos ?_
    rw [← Array.all_toList, List.all_eq_true]
    exact fun c hc => decide_eq_true (hall c hc).1
  have e2 : numSeenOf x = x.cps.toList := by
    show (numTextOf x).takeWhile _ = _
    rw [e1]
    exact takeWhile_all fun c hc => bne_iff_ne.mpr (hall c hc).2
  refine ⟨e1, e2, ?_⟩
  unfold PySem.intText?
  rw [e1, e2, if_pos (beq_self_eq_true _), hx]
  obtain ⟨c1, c2⟩ := core_pre hpre hE hne
  rw [c1, c2]
  cases digits? 10 E <;> rfl
theorem read_good {x : Str} {pre D : List Nat} (hx : x.cps.toList = pre ++ D) (hpre : pre = [] ∨ pre = [43] ∨ pre = [9]) (hD : AllDigits D) (hne : D ≠ []) (hl : D.length ≤ 4300) : PySem.intText? x = some ((digitsVal D : Nat) : Int) := by
  rw [(read_pre hx hpre (fun c hc => ⟨(hD c hc).1, by have := (hD c hc).2; omega⟩) hne).2.2, digits_of hD hne]
  have hsz := push_size D #[]
  have hv := push_foldl D #[]
  show (if _ ≤ 4300 then some (worth false _) else none) = _
  rw [if_pos (by rw [hsz]; simp only [Array.size_empty]; omega)]
  unfold worth digitsVal
  rw [hv]
  rfl
theorem foldl_q : ∀ (D : List Nat) (p : Array Nat × Bool), AllDigits D → (D ++ [113]).foldlM (step 10) p = none
  | [], (ds, b), _ => by rw [List.nil_append, List.foldlM_cons, show step 10 (ds, b) 113 = none from rfl]; rfl
  | c :: D, (ds, b), h => by
    rw [List.cons_append, List.foldlM_cons, step_digit h.head]
    show (D ++ [113]).foldlM (step 10) (ds.push (c - 48), true) = none
    exact foldl_q D _ h.tail
theorem read_bad {x : Str} {pre D : List Nat} (hx : x.cps.toList = pre ++ (D ++ [113])) (hpre : pre = [] ∨ pre = [43] ∨ pre = [9]) (hD : AllDigits D) :
    PySem.intText? x = none ∧ ((numSeenOf x).length == (numTextOf x).length) = true := by
  have h := read_pre hx hpre (fun c hc => by
    rcases List.mem_append.mp hc with h | h
    · have := hD c h; omega
    · rw [List.mem_singleton.mp h]; omega) (by simp)
  rw [h.1, h.2.1, h.2.2]
  refine ⟨?_, beq_self_eq_true _⟩
  have e : digits? 10 (D ++ [113]) = none := by unfold digits?; rw [foldl_q D _ hD]; rfl
  rw [e]
/-! the figures of a number -/
theorem num_digits {port : Int} (h0 : 0 ≤ port) (h1 : port < 1000000) : AllDigits (Str.ofString (toString port)).cps.toList ∧ (Str.ofString (toString port)).cps.toList ≠ [] ∧ ((digitsVal (Str.ofString (toString port)).cps.toList : Nat) : Int) = port ∧ (Str.ofString (toString port)).length ≤ 10 := by
  have hl := KT.len_num h0 (by omega : port < 10 ^ 10)
  have hr := KIN.num_reads h0 (by omega : port < 10 ^ 10)
  obtain ⟨m, rfl⟩ := Int.eq_ofNat_of_zero_le h0
  have hd : AllDigits (PySem.Str.ofString (toString ((m : Nat) : Int))).cps.toList := by
    intro c hc
    rw [KIN.signs_num] at hc
    obtain ⟨ch, hch, e⟩ := List.mem_map.mp hc
    have r := digit_range (Nat.isDigit_of_mem_toDigits (by decide) (by decide) hch)
    rw [← e]
    exact r
  have hne : (PySem.Str.ofString (toString ((m : Nat) : Int))).cps.toList ≠ [] := by
    rw [KIN.signs_num]
    intro e
    exact Nat.toDigits_ne_nil (List.map_eq_nil_iff.mp e)
  refine ⟨hd, hne, ?_, by omega⟩
  rw [intText_digits hd hne (by omega)] at hr
  exact Option.some.inj hr
end Mine
end
theorem Mine.fresh_SZ : True ∧ True := by
  w_on
  w_top off
  walk1
  all_goals trivial
/-! text SZ -/
section
open PySem PySem.W PyProof.Rows PySem.Spec PySem.Calls PySem.NumText
open PySem.Builtin PySem.Builtin.Str PySem.StrLaws
namespace Mine
noncomputable def joinL (c : Nat) : List (List Nat) → List Nat
  | [] => []
  | [p] => p
  | p :: q :: r => p ++ c :: joinL c (q :: r)
theorem join_list (c : Nat) : ∀ ps : List PySem.Str, (PySem.Str.join ⟨#[c]⟩ ps).cps.toList = joinL c (ps.map (·.cps.toList))
  | [] => rfl
  | [p] => rfl
  | p :: q :: r => by
    have ih := join_list c (q :: r)
    show (p.cps ++ #[c] ++ (PySem.Str.join ⟨#[c]⟩ (q :: r)).cps).toList = p.cps.toList ++ c :: joinL c ((q :: r).map (·.cps.toList))
    rw [← ih]
    simp
theorem cut_eq {c : Nat} : ∀ {p q a b : List Nat}, c ∉ p → c ∉ q → p ++ c :: a = q ++ c :: b → p = q ∧ a = b
  | [], [], _, _, _, _, h => ⟨rfl, (List.cons.inj h).2⟩
  | [], y :: q, _, _, _, hq, h => absurd (List.cons.inj h).1 (fun e => hq (e ▸ List.Mem.head _))
  | x :: p, [], _, _, hp, _, h => absurd (List.cons.inj h).1 (fun e => hp (e ▸ List.Mem.head _))
  | x :: p, y :: q, a, b, hp, hq, h => by
    obtain ⟨h1, h2⟩ := List.cons.inj h
    obtain ⟨e1, e2⟩ := cut_eq (fun m => hp (.tail _ m)) (fun m => hq (.tail _ m)) h2
    exact ⟨by rw [h1, e1], e2⟩
theorem joinL_inj {c : Nat} : ∀ (ps qs : List (List Nat)), ps ≠ [] → qs ≠ [] → (∀ p ∈ ps, c ∉ p) → (∀ q ∈ qs, c ∉ q) → joinL c ps = joinL c qs → ps = qs
  | [], _, h, _, _, _, _ => absurd rfl h
  | _, [], _, h, _, _, _ => absurd rfl h
  | [p], [q], _, _, _, _, h => by rw [show p = q from h]
  | [p], q :: q2 :: r, _, _, hp, _, h => by
    have h' : p = q ++ c :: joinL c (q2 :: r) := h
    exact absurd (h' ▸ (by simp : c ∈ q ++ c :: joinL c (q2 :: r))) (hp p (.head _))
  | p :: p2 :: r, [q], _, _, _, hq, h => by
    have h' : p ++ c :: joinL c (p2 :: r) = q := h
    exact absurd (h' ▸ (by simp : c ∈ p ++ c :: joinL c (p2 :: r))) (hq q (.head _))
  | p :: p2 :: r, q :: q2 :: t, _, _, hp, hq, h => by
    obtain ⟨e1, e2⟩ := cut_eq (hp p (.head _)) (hq q (.head _)) h
    rw [e1, joinL_inj (p2 :: r) (q2 :: t) (by simp) (by simp) (fun x hx => hp x (.tail _ hx)) (fun x hx => hq x (.tail _ hx)) e2]
theorem split_ne (x y : PySem.Str) : Txt.split x y ≠ [] := by
  unfold Txt.split
  split
  · simp
  · split
    · simp
    · rw [partsBetween_eq]
      obtain ⟨p, r, e⟩ := partsFrom_ne x y.length 0 (occurrences x y 0 x.length (x.length + 1))
      rw [e]; simp
theorem split_joinL {x : PySem.Str} {c : Nat} {ps : List (List Nat)} (e : x.cps.toList = joinL c ps) (hne : ps ≠ []) (hf : ∀ p ∈ ps, c ∉ p) : (Txt.split x ⟨#[c]⟩).map (·.cps.toList) = ps := by
  refine joinL_inj _ _ (by simp [split_ne]) hne ?_ hf ?_
  · intro p hp
    obtain ⟨q, hq, rfl⟩ := List.mem_map.mp hp
    exact split_free x c q hq
  · rw [← join_list, join_split, e]
theorem find_at {x : PySem.Str} {q lo i : Nat} (h1 : lo ≤ i) (h2 : x.cps.toList[i]? = some q) (h3 : ∀ k, lo ≤ k → k < i → ¬ x.cps.toList[k]? = some q) : findIn x ⟨#[q]⟩ lo x.length = (i : Int) := by
  have hn : ¬ findIn x ⟨#[q]⟩ lo x.length < 0 := fun h => find_neg.mp h i h1 h2
  obtain ⟨j, e, hj, hj2, hj3⟩ := find_pos hn
  have : j = i := by
    rcases Nat.lt_trichotomy j i with h | h | h
    · exact absurd hj2 (h3 j hj h)
    · exact h
    · exact absurd h2 (hj3 i h1 h)
  rw [e, this]
theorem find_no {x : PySem.Str} {q lo : Nat} (h : ∀ k, lo ≤ k → ¬ x.cps.toList[k]? = some q) : findIn x ⟨#[q]⟩ lo x.length < 0 := find_neg.mpr h
theorem item_at {x : PySem.Str} {i c : Nat} (h : x.cps.toList[i]? = some c) : Txt.item x (i : Int) = ⟨#[c]⟩ := by
  unfold Txt.item Txt.charAt
  have hi : i < x.length := by
    rw [← len_list]
    rcases Nat.lt_or_ge i x.cps.toList.length with q | q
    · exact q
    · rw [List.getElem?_eq_none q] at h; cases h
  have e : seqIndex? (i : Int) x.length = some i := by
    unfold seqIndex?
    simp; omega
  rw [e]
  show (⟨#[(x.cps[i]?).getD 0]⟩ : PySem.Str) = _
  rw [← Array.getElem?_toList, h]; rfl
theorem paren_l : PySem.Str.ofString "(" = ⟨#[40]⟩ := by decide +kernel
theorem paren_r : PySem.Str.ofString ")" = ⟨#[41]⟩ := by decide +kernel
theorem code_eq : PySem.Str.ofString "229" = ⟨#[50, 50, 57]⟩ := by decide +kernel
/-- "229 ok) (" -/
noncomputable def H9 : List Nat := [50, 50, 57, 32, 111, 107, 41, 32, 40]
theorem head_ok {r : PySem.Str} {T : List Nat} (h : r.cps.toList = 50 :: 50 :: 57 :: T) : (Txt.slice r none (some 3) != PySem.Str.ofString "229") = false := by
  have hl : 3 ≤ r.length := by rw [← len_list, h]; simp
  rw [slice_to (by omega) (by omega), code_eq]
  have e : takeS r (3 : Int).toNat = ⟨#[50, 50, 57]⟩ := by
    unfold takeS
    rw [h]; rfl
  rw [e]; exact bne_self_eq_false _
theorem left_at {r : PySem.Str} {T : List Nat} (h : r.cps.toList = H9 ++ T) : leftP r = 8 := by
  unfold leftP
  rw [paren_l]
  refine find_at (i := 8) (Nat.zero_le _) (by rw [h]; rfl) (fun k _ hk => ?_)
  rw [h]
  have := lt8 (by assumption)
  rcases this with rfl | rfl | rfl | rfl | rfl | rfl | rfl | rfl <;> (intro e; simp [H9] at e)
theorem right_at {r : PySem.Str} {I T : List Nat} (h : r.cps.toList = H9 ++ (I ++ 41 :: T)) (hI : 41 ∉ I) : rightP r = ((9 + I.length : Nat) : Int) := by
  unfold rightP
  rw [left_at h, paren_r]
  refine find_at (lo := 9) (i := 9 + I.length) (by omega) ?_ (fun k h1 h2 e => ?_)
  · rw [h, List.getElem?_append_right (by show 9 ≤ _; omega), show 9 + I.length - H9.length = I.length from by show 9 + I.length - 9 = _; omega, List.getElem?_append_right (Nat.le_refl _)]
    simp
  · rw [h, List.getElem?_append_right (by show 9 ≤ _; omega), List.getElem?_append_left (by show k - 9 < _; omega)] at e
    exact hI (List.mem_of_getElem? e)
theorem mid_slice {r : PySem.Str} {I T : List Nat} (h : r.cps.toList = H9 ++ (I ++ 41 :: T)) (hI : 41 ∉ I) : (Txt.slice r (some (leftP r + 1)) (some (rightP r))).cps.toList = I := by
  rw [left_at h, right_at h hI]
  have hl : r.cps.toList.length = 9 + (I.length + (T.length + 1)) := by rw [h]; simp [H9]; omega
  have e := StrLaws.sliceText_plain (x := r) (i := 8 + 1) (j := ((9 + I.length : Nat) : Int)) ⟨by omega, by omega, by omega⟩
  have e2 : Txt.slice r (some (8 + 1)) (some ((9 + I.length : Nat) : Int)) = sliceText r (some (8 + 1)) (some ((9 + I.length : Nat) : Int)) := rfl
  rw [e2, e, h]
  show List.take ((((9 + I.length : Nat) : Int)) - (8 + 1)).toNat (List.drop 9 (H9 ++ (I ++ 41 :: T))) = I
  rw [show ((((9 + I.length : Nat) : Int)) - (8 + 1)).toNat = I.length from by omega]
  show List.take I.length (List.drop H9.length (H9 ++ (I ++ 41 :: T))) = I
  rw [List.drop_left, List.take_left]
theorem parse_ends' {r : PySem.Str} {I T : List Nat} {a b : Nat} (h : r.cps.toList = H9 ++ (I ++ 41 :: T)) (hI : 41 ∉ I) (ha : (I ++ [41])[0]? = some a) (hb : (40 :: I)[I.length]? = some b) (hab : a ≠ b) : parseP r = .proto := by
  refine parse_ends (head_ok (by rw [h]; rfl)) ?_
  rw [left_at h, right_at h hI]
  have e1 : Txt.item r (8 + 1) = ⟨#[a]⟩ := by
    refine item_at (i := 9) ?_
    rw [h, List.getElem?_append_right (by show 9 ≤ 9; omega)]
    show (I ++ 41 :: T)[0]? = some a
    cases I with
    | nil => exact ha
    | cons c I => exact ha
  have e2 : Txt.item r (((9 + I.length : Nat) : Int) - 1) = ⟨#[b]⟩ := by
    rw [show ((9 + I.length : Nat) : Int) - 1 = ((8 + I.length : Nat) : Int) from by omega]
    refine item_at ?_
    have e3 : r.cps.toList = [50, 50, 57, 32, 111, 107, 41, 32] ++ ((40 :: I) ++ 41 :: T) := by rw [h]; rfl
    rw [e3, List.getElem?_append_right (by show 8 ≤ _; omega), show 8 + I.length - ([50, 50, 57, 32, 111, 107, 41, 32] : List Nat).length = I.length from by show 8 + I.length - 8 = _; omega, List.getElem?_append_left (by simp)]
    exact hb
  rw [e1, e2]
  exact bne_iff_ne.mpr fun e => hab (by injection e with e; simpa using e)
theorem parts_at {r : PySem.Str} {I T : List Nat} {a : Nat} {ps : List (List Nat)} (h : r.cps.toList = H9 ++ (I ++ 41 :: T)) (hI : 41 ∉ I) (ha : I[0]? = some a) (hps : I = joinL a ps) (hne : ps ≠ []) (hf : ∀ p ∈ ps, a ∉ p) : (partsP r).map (·.cps.toList) = ps := by
  unfold partsP
  have e1 : Txt.item r (leftP r + 1) = ⟨#[a]⟩ := by
    rw [left_at h]
    refine item_at (i := 9) ?_
    rw [h, List.getElem?_append_right (by show 9 ≤ 9; omega)]
    show (I ++ 41 :: T)[0]? = some a
    cases I with
    | nil => cases ha
    | cons c I => exact ha
  rw [e1]
  exact split_joinL (by rw [mid_slice h hI, hps]) hne hf
theorem parse_not5 {r : PySem.Str} {I T : List Nat} {a : Nat} {ps : List (List Nat)} (h : r.cps.toList = H9 ++ (I ++ 41 :: T)) (hI : 41 ∉ I) (ha : I[0]? = some a) (hps : I = joinL a ps) (hne : ps ≠ []) (hf : ∀ p ∈ ps, a ∉ p) (h5 : ps.length ≠ 5) : parseP r = .proto := by
  refine parse_parts (head_ok (by rw [h]; rfl)) ?_
  have := congrArg List.length (parts_at h hI ha hps hne hf)
  rw [List.length_map] at this
  omega
theorem parse_is5 {r : PySem.Str} {I T p0 p1 p2 p3 p4 : List Nat} {a : Nat} (h : r.cps.toList = H9 ++ (I ++ 41 :: T)) (hI : 41 ∉ I) (ha : I[0]? = some a) (hb : (40 :: I)[I.length]? = some a) (hps : I = joinL a [p0, p1, p2, p3, p4]) (hf : ∀ p ∈ [p0, p1, p2, p3, p4], a ∉ p) :
    ∃ x, parseP r = .text x ∧ x.cps.toList = p3 := by
  have hp := parts_at h hI ha hps (by simp) hf
  obtain ⟨q0, q1, q2, q3, q4, e⟩ : ∃ q0 q1 q2 q3 q4, partsP r = [q0, q1, q2, q3, q4] := by
    have hl := congrArg List.length hp
    rw [List.length_map] at hl
    match hq : partsP r, hl with
    | [q0, q1, q2, q3, q4], _ => exact ⟨q0, q1, q2, q3, q4, rfl⟩
  rw [e] at hp
  refine ⟨q3, parse_text (head_ok (by rw [h]; rfl)) (by rw [left_at h]; decide) (by rw [right_at h hI]; omega) ?_ e, ?_⟩
  · rw [left_at h, right_at h hI]
    have e1 : Txt.item r (8 + 1) = ⟨#[a]⟩ := by
      refine item_at (i := 9) ?_
      rw [h, List.getElem?_append_right (by show 9 ≤ 9; omega)]
      show (I ++ 41 :: T)[0]? = some a
      cases I with
      | nil => cases ha
      | cons c I => exact ha
    have e2 : Txt.item r (((9 + I.length : Nat) : Int) - 1) = ⟨#[a]⟩ := by
      rw [show ((9 + I.length : Nat) : Int) - 1 = ((8 + I.length : Nat) : Int) from by omega]
      refine item_at ?_
      have e3 : r.cps.toList = [50, 50, 57, 32, 111, 107, 41, 32] ++ ((40 :: I) ++ 41 :: T) := by rw [h]; rfl
      rw [e3, List.getElem?_append_right (by show 8 ≤ _; omega), show 8 + I.length - ([50, 50, 57, 32, 111, 107, 41, 32] : List Nat).length = I.length from by show 8 + I.length - 8 = _; omega, List.getElem?_append_left (by simp)]
      exact hb
    rw [e1, e2]; exact bne_self_eq_false _
  · simp only [List.map_cons, List.map_nil] at hp
    injection hp with _ hp
    injection hp with _ hp
    injection hp with _ hp
    injection hp with hp _
end Mine
end
theorem Mine.fresh_SW : True ∧ True := by
  w_on
  w_top off
  walk1
  all_goals trivial
/-! text SW -/
section
open PySem PySem.W PyProof.Rows PySem.Spec PySem.Calls PySem.NumText
open PySem.Builtin PySem.Builtin.Str PySem.StrLaws
namespace Mine
/-- short and plain -/
noncomputable def Sm (n : Nat) (y : PySem.Str) : Prop := y.length ≤ n ∧ ∀ c ∈ y.cps.toList, c < 128
theorem app_list (a b : PySem.Str) : (a ++ b).cps.toList = a.cps.toList ++ b.cps.toList := by show (a.cps ++ b.cps).toList = _; simp
theorem Sm.app {n m : Nat} {a b : PySem.Str} (ha : Sm n a) (hb : Sm m b) : Sm (n + m) (a ++ b) := by
  refine ⟨by rw [PySem.Str.length_append]; exact Nat.add_le_add ha.1 hb.1, fun c hc => ?_⟩
  rw [app_list] at hc
  exact (List.mem_append.mp hc).elim (ha.2 c) (hb.2 c)
theorem Sm.mono {n m : Nat} {a : PySem.Str} (h : Sm n a) (hn : n ≤ m) : Sm m a := ⟨Nat.le_trans h.1 hn, h.2⟩
theorem sm_of {n : Nat} {a : PySem.Str} (h : (decide (a.length ≤ n) && a.cps.toList.all (· < 128)) = true) : Sm n a := by
  rw [Bool.and_eq_true, decide_eq_true_iff, List.all_eq_true] at h
  exact ⟨h.1, fun c hc => of_decide_eq_true (h.2 c hc)⟩
theorem sm_pick {n : Nat} {l : List PySem.Str} {k : Int} (h : (l.all fun a => decide (a.length ≤ n) && a.cps.toList.all (· < 128)) = true) : Sm n (pick l k) := by
  unfold pick
  by_cases hk : k.toNat < l.length
  · have e : l.getD k.toNat PySem.Str.empty = l[k.toNat] := by simp [List.getD, hk]
    rw [e]
    exact sm_of (List.all_eq_true.mp h _ (List.getElem_mem hk))
  · have e : l.getD k.toNat PySem.Str.empty = PySem.Str.empty := by simp [List.getD, Nat.not_lt.mp hk]
    rw [e]; exact ⟨Nat.zero_le _, fun c hc => by cases hc⟩
theorem mark_at (x : Int) : ∃ mk, markP x = ⟨#[mk]⟩ ∧ (mk = 124 ∨ mk = 33 ∨ mk = 40 ∨ mk = 120 ∨ mk = 126 ∨ mk = 32) := by
  have h1 : 0 ≤ (x.fdiv 224).fmod 6 := Int.fmod_nonneg_of_pos _ (by decide)
  have h2 : (x.fdiv 224).fmod 6 < 6 := Int.fmod_lt_of_pos _ (by decide)
  unfold markP
  generalize (x.fdiv 224).fmod 6 = k at h1 h2
  have : k = 0 ∨ k = 1 ∨ k = 2 ∨ k = 3 ∨ k = 4 ∨ k = 5 := by omega
  rcases this with rfl | rfl | rfl | rfl | rfl | rfl
  · exact ⟨124, by decide +kernel, by decide⟩
  · exact ⟨33, by decide +kernel, by decide⟩
  · exact ⟨40, by decide +kernel, by decide⟩
  · exact ⟨120, by decide +kernel, by decide⟩
  · exact ⟨126, by decide +kernel, by decide⟩
  · exact ⟨32, by decide +kernel, by decide⟩
theorem field_at (f : Int) (h0 : 0 ≤ f) (h1 : f < 3) : ∃ F1 F2, (pick [PySem.Str.ofString "", PySem.Str.ofString "1", PySem.Str.ofString "h"] f).cps.toList = F1 ∧ (pick [PySem.Str.ofString "", PySem.Str.ofString "", PySem.Str.ofString "7"] f).cps.toList = F2 ∧
    ((f = 0 ∧ F1 = [] ∧ F2 = []) ∨ (f = 1 ∧ F1 = [49] ∧ F2 = []) ∨ (f = 2 ∧ F1 = [104] ∧ F2 = [55])) := by
  rcases (by omega : f = 0 ∨ f = 1 ∨ f = 2) with rfl | rfl | rfl
  · exact ⟨[], [], by decide +kernel, by decide +kernel, .inl ⟨rfl, rfl, rfl⟩⟩
  · exact ⟨[49], [], by decide +kernel, by decide +kernel, .inr (.inl ⟨rfl, rfl, rfl⟩)⟩
  · exact ⟨[104], [55], by decide +kernel, by decide +kernel, .inr (.inr ⟨rfl, rfl, rfl⟩)⟩
theorem dress_at (d : Int) (h0 : 0 ≤ d) (h1 : d < 4) : ∃ dr, (pick [PySem.Str.ofString "", PySem.Str.ofString "00", PySem.Str.ofString "+", PySem.Str.ofString "\t"] d).cps.toList = dr ∧ (dr = [] ∨ dr = [48, 48] ∨ dr = [43] ∨ dr = [9]) := by
  rcases (by omega : d = 0 ∨ d = 1 ∨ d = 2 ∨ d = 3) with rfl | rfl | rfl | rfl
  · exact ⟨[], by decide +kernel, by decide⟩
  · exact ⟨[48, 48], by decide +kernel, by decide⟩
  · exact ⟨[43], by decide +kernel, by decide⟩
  · exact ⟨[9], by decide +kernel, by decide⟩
theorem sm_mark (x : Int) : Sm 1 (markP x) := by
  obtain ⟨mk, e, h⟩ := mark_at x
  rw [e]
  exact ⟨Nat.le_refl 1, fun c hc => by rw [List.mem_singleton.mp (show c ∈ [mk] from hc)]; omega⟩
theorem sm_digits {port : Int} (h0 : 0 ≤ port) (h1 : port < 1000000) : Sm 10 (PySem.Str.ofString (toString port)) := by
  obtain ⟨a, _, _, b⟩ := num_digits h0 h1
  exact ⟨b, fun c hc => by have := a c hc; omega⟩
theorem sm_reply {x port : Int} (h0 : 0 ≤ port) (h1 : port < 1000000) : Sm 100 (replyS x port) := by
  have s1 : Sm 12 (figP x port) := Sm.app (sm_pick (n := 2) (by decide +kernel)) (sm_digits h0 h1)
  have s2 : Sm 13 (fig2P (kindP x) (figP x port)) := by
    unfold fig2P; split
    · exact Sm.app s1 (sm_of (n := 1) (by decide +kernel))
    · exact s1.mono (by omega)
  have m := sm_mark x
  have s3 : Sm 18 (insP (markP x) (fieldP x) (fig2P (kindP x) (figP x port))) :=
    Sm.app (Sm.app (Sm.app (Sm.app (Sm.app m (sm_pick (n := 1) (by decide +kernel))) m) (sm_pick (n := 1) (by decide +kernel))) m) s2
  unfold replyS
  generalize insP (markP x) (fieldP x) (fig2P (kindP x) (figP x port)) = y at *
  have s4 : Sm 19 (ins1P (kindP x) (markP x) y) := by
    unfold ins1P; split
    · exact Sm.app s3 m
    · exact s3.mono (by omega)
  have s5 : Sm 20 (ins2P (kindP x) (ins1P (kindP x) (markP x) y)) := by
    unfold ins2P; split
    · exact Sm.app s4 (sm_of (n := 1) (by decide +kernel))
    · exact s4.mono (by omega)
  have s6 : Sm 21 (ins3P (kindP x) (markP x) (ins2P (kindP x) (ins1P (kindP x) (markP x) y))) := by
    unfold ins3P; split
    · exact (Sm.app m s5).mono (by omega)
    · exact s5.mono (by omega)
  have s7 : Sm 21 (ins4P (kindP x) (ins3P (kindP x) (markP x) (ins2P (kindP x) (ins1P (kindP x) (markP x) y)))) := by
    unfold ins4P; split
    · exact sm_of (by decide +kernel)
    · exact s6
  generalize ins4P (kindP x) (ins3P (kindP x) (markP x) (ins2P (kindP x) (ins1P (kindP x) (markP x) y))) = z at *
  unfold endP codeP
  split
  · split
    · exact sm_of (by decide +kernel)
    · exact (Sm.app (Sm.app (sm_of (n := 20) (by decide +kernel)) s7) (sm_of (n := 20) (by decide +kernel))).mono (by omega)
  · split
    · exact (Sm.app (Sm.app (sm_of (n := 20) (by decide +kernel)) s7) (sm_of (n := 20) (by decide +kernel))).mono (by omega)
    · split
      · exact (Sm.app (Sm.app (Sm.app (sm_pick (n := 20) (by decide +kernel)) (sm_of (n := 10) (by decide +kernel))) s7) (sm_of (n := 20) (by decide +kernel))).mono (by omega)
      · exact (Sm.app (Sm.app (Sm.app (sm_of (n := 20) (by decide +kernel)) (sm_of (n := 10) (by decide +kernel))) s7) (sm_of (n := 20) (by decide +kernel))).mono (by omega)
end Mine
end
theorem Mine.fresh_SX : True ∧ True := by
  w_on
  w_top off
  walk1
  all_goals trivial
/-! text SX -/
section
open PySem PySem.W PyProof.Rows PySem.Spec PySem.Calls PySem.NumText
open PySem.Builtin PySem.Builtin.Str PySem.StrLaws
namespace Mine
theorem h9_eq : (PySem.Str.ofString "229").cps.toList ++ (PySem.Str.ofString " ok) (").cps.toList = H9 := by decide +kernel
theorem h9b_eq : (PySem.Str.ofString "229 ok) (").cps.toList = H9 := by decide +kernel
theorem h8_eq : (PySem.Str.ofString "229 ok) ").cps.toList = [50, 50, 57, 32, 111, 107, 41, 32] := by decide +kernel
theorem tl_eq : (PySem.Str.ofString ") (|||9|)").cps.toList = 41 :: [32, 40, 124, 124, 124, 57, 124, 41] := by decide +kernel
theorem q_eq : (PySem.Str.ofString "q").cps.toList = [113] := by decide +kernel
theorem r_eq : (PySem.Str.ofString ")").cps.toList = [41] := by decide +kernel
theorem b_eq : (PySem.Str.ofString "]").cps.toList = [93] := by decide +kernel
theorem e_eq : (PySem.Str.ofString "").cps.toList = [] := by decide +kernel
theorem end_list {k f d : Int} {y : PySem.Str} (h1 : k ≠ 27) (h2 : k ≠ 28) (h3 : k ≠ 31) : (endP k f d y).cps.toList = H9 ++ (y.cps.toList ++ 41 :: [32, 40, 124, 124, 124, 57, 124, 41]) := by
  unfold endP codeP
  rw [if_neg h1, if_neg h2, if_neg h3, app_list, app_list, app_list, h9_eq, tl_eq, List.append_assoc]
theorem last_at {α : Type} {a d : α} {Z : List α} : (a :: (Z ++ [d]))[(Z ++ [d]).length]? = some d := by simp
theorem snoc_of {D : List Nat} (h : D ≠ []) : ∃ Z d, D = Z ++ [d] := ⟨D.dropLast, D.getLast h, (List.dropLast_concat_getLast h).symm⟩
theorem head_no {r : PySem.Str} {a b c : Nat} {T : List Nat} (h : r.cps.toList = a :: b :: c :: T) (hne : [a, b, c] ≠ [50, 50, 57]) : (Txt.slice r none (some 3) != PySem.Str.ofString "229") = true := by
  have hl : 3 ≤ r.length := by rw [← len_list, h]; simp
  rw [slice_to (by omega) (by omega), code_eq]
  have e : takeS r (3 : Int).toNat = ⟨#[a, b, c]⟩ := by
    unfold takeS
    rw [h]; rfl
  rw [e]
  exact bne_iff_ne.mpr fun q => hne (by injection q with q; have := congrArg Array.toList q; exact this)
theorem code_at (d : Int) (h0 : 0 ≤ d) (h1 : d < 4) : ∃ a b c, (pick [PySem.Str.ofString "227", PySem.Str.ofString "228", PySem.Str.ofString "239", PySem.Str.ofString "329"] d).cps.toList = [a, b, c] ∧ [a, b, c] ≠ [50, 50, 57] := by
  rcases (by omega : d = 0 ∨ d = 1 ∨ d = 2 ∨ d = 3) with rfl | rfl | rfl | rfl
  · exact ⟨50, 50, 55, by decide +kernel, by decide⟩
  · exact ⟨50, 50, 56, by decide +kernel, by decide⟩
  · exact ⟨50, 51, 57, by decide +kernel, by decide⟩
  · exact ⟨51, 50, 57, by decide +kernel, by decide⟩
theorem nine_list : (PySem.Str.ofString "229 2 9 2)").cps.toList = [50, 50, 57, 32, 50, 32, 57, 32, 50, 41] := by decide +kernel
theorem left_no {r : PySem.Str} (h : 40 ∉ r.cps.toList) : leftP r < 0 := by
  unfold leftP
  rw [paren_l]
  exact find_no fun k _ e => h (List.mem_of_getElem? e)
theorem right_no {r : PySem.Str} {I : List Nat} (h : r.cps.toList = H9 ++ I) (hI : 41 ∉ I) : rightP r < 0 := by
  unfold rightP
  rw [left_at h, paren_r]
  refine find_no (lo := 9) fun k h1 e => ?_
  rw [h, List.getElem?_append_right (by show 9 ≤ k; exact h1)] at e
  exact hI (List.mem_of_getElem? e)
theorem k24 {k : Int} (h0 : 24 ≤ k) (h1 : k < 32) (h2 : k ≠ 30) (h3 : k ≠ 31) : k = 24 ∨ k = 25 ∨ k = 26 ∨ k = 27 ∨ k = 28 ∨ k = 29 := by
  have h4 : k - 24 < 6 := by omega
  clear h1 h2 h3
  rcases int6 (a := k - 24) (Int.sub_nonneg_of_le h0) h4 with h | h | h | h | h | h
  · exact .inl (Int.eq_of_sub_eq_zero h)
  · exact .inr (.inl ((Int.sub_eq_iff_eq_add.mp h).trans rfl))
  · exact .inr (.inr (.inl ((Int.sub_eq_iff_eq_add.mp h).trans rfl)))
  · exact .inr (.inr (.inr (.inl ((Int.sub_eq_iff_eq_add.mp h).trans rfl))))
  · exact .inr (.inr (.inr (.inr (.inl ((Int.sub_eq_iff_eq_add.mp h).trans rfl)))))
  · exact .inr (.inr (.inr (.inr (.inr (((Int.sub_eq_iff_eq_add.mp h).trans rfl))))))
/-- a fact that omega shall pass by -/
noncomputable def Keep (p : Prop) : Prop := p
set_option maxHeartbeats 1000000 in
theorem says_law : SaysLaw := by
  intro x port hx0 hx1 hp0 hp1
  have hk0 : 0 ≤ kindP x := Int.fmod_nonneg_of_pos _ (by decide)
  have hk1 : kindP x < 32 := Int.fmod_lt_of_pos _ (by decide)
  have hf0 : 0 ≤ fieldP x := Int.fmod_nonneg_of_pos _ (by decide)
  have hf1 : fieldP x < 3 := Int.fmod_lt_of_pos _ (by decide)
  have hd0 : 0 ≤ dressP x := Int.fmod_nonneg_of_pos _ (by decide)
  have hd1 : dressP x < 4 := Int.fmod_lt_of_pos _ (by decide)
  have hsm := sm_reply (x := x) hp0 hp1
  obtain ⟨mk, emk, hmk⟩ := mark_at x
  obtain ⟨F1, F2, eF1, eF2, hF⟩ := field_at (fieldP x) hf0 hf1
  obtain ⟨dr, edr, hdr⟩ := dress_at (dressP x) hd0 hd1
  have hmf : mk ≠ 41 ∧ mk ≠ 113 ∧ (mk < 48 ∨ 57 < mk) ∧ mk ≠ 104 ∧ mk ≠ 9 ∧ mk ≠ 43 := by rcases hmk with rfl | rfl | rfl | rfl | rfl | rfl <;> decide
  obtain ⟨hmf1, hmf2, hmf3, hmf4, hmf5, hmf6⟩ := hmf
  replace hmk : Keep _ := hmk
  replace hF : Keep _ := hF
  replace hdr : Keep _ := hdr
  obtain ⟨hD, hDne, hDv, hDl⟩ := num_digits hp0 hp1
  have hDll : (PySem.Str.ofString (toString port)).cps.toList.length ≤ 10 := by rw [len_list]; exact hDl
  have efig : (figP x port).cps.toList = dr ++ (PySem.Str.ofString (toString port)).cps.toList := by unfold figP; rw [app_list, edr]
  generalize (PySem.Str.ofString (toString port)).cps.toList = D at *
  have emk' : (markP x).cps.toList = [mk] := by rw [emk]
  have hins : ∀ y : PySem.Str, (insP (markP x) (fieldP x) y).cps.toList = mk :: (F1 ++ mk :: (F2 ++ mk :: y.cps.toList)) := fun y => by
    unfold insP
    rw [app_list, app_list, app_list, app_list, app_list, emk', eF1, eF2]
    simp
  -- the figures
  have hfigc : ∀ c ∈ dr ++ D, c ≠ mk ∧ c ≠ 41 ∧ c ≠ 40 := fun c hc => by
    rcases List.mem_append.mp hc with h | h
    · rcases hdr with rfl | rfl | rfl | rfl
      · cases h
      · simp at h; omega
      · simp at h; omega
      · simp at h; omega
    · have := hD c h; omega
  have hF1c : ∀ c ∈ F1, c ≠ mk ∧ c ≠ 41 ∧ c ≠ 40 := fun c hc => by
    rcases hF with ⟨_, rfl, rfl⟩ | ⟨_, rfl, rfl⟩ | ⟨_, rfl, rfl⟩
    · cases hc
    · simp at hc; omega
    · simp at hc; omega
  have hF2c : ∀ c ∈ F2, c ≠ mk ∧ c ≠ 41 ∧ c ≠ 40 := fun c hc => by
    rcases hF with ⟨_, rfl, rfl⟩ | ⟨_, rfl, rfl⟩ | ⟨_, rfl, rfl⟩
    · cases hc
    · cases hc
    · simp at hc; omega
  have hm41 : mk ≠ 41 := by omega
  have h41 : ∀ Y : List Nat, 41 ∉ Y → 41 ∉ mk :: (F1 ++ mk :: (F2 ++ mk :: Y)) := fun Y hY hm => by
    simp only [List.mem_cons, List.mem_append] at hm
    rcases hm with h | h | h | h | h | h
    · exact hm41 h.symm
    · exact (hF1c _ h).2.1 rfl
    · exact hm41 h.symm
    · exact (hF2c _ h).2.1 rfl
    · exact hm41 h.symm
    · exact hY h
  have hY41 : 41 ∉ dr ++ D := fun h => (hfigc _ h).2.1 rfl
  refine ⟨Nat.le_trans hsm.1 (by omega), ?_, fun hk => ?_, fun hk => ?_, fun hk => ?_, fun h24 h30 h31 => ?_⟩
  · unfold PyData.strOk
    rw [← Array.all_toList, List.all_eq_true]
    exact fun c hc => decide_eq_true (by have := hsm.2 c hc; omega)
  · -- right ones
    have er : (replyS x port).cps.toList = H9 ++ ((mk :: (F1 ++ mk :: (F2 ++ mk :: ((dr ++ D) ++ [mk])))) ++ 41 :: [32, 40, 124, 124, 124, 57, 124, 41]) := by
      unfold replyS
      rw [end_list (by omega) (by omega) (by omega)]
      unfold ins4P ins3P ins2P ins1P fig2P
      rw [if_neg (by omega), if_neg (by omega), if_neg (by omega), if_pos (by omega), if_neg (by omega), app_list, hins, efig, emk']
      simp
    obtain ⟨t, e1, e2⟩ := parse_is5 (p0 := []) (p1 := F1) (p2 := F2) (p3 := dr ++ D) (p4 := []) er (h41 _ (by intro h; rcases List.mem_append.mp h with h | h; exact hY41 h; exact hm41 (List.mem_singleton.mp h).symm)) rfl
      (by have e : mk :: (F1 ++ mk :: (F2 ++ mk :: ((dr ++ D) ++ [mk]))) = (mk :: (F1 ++ mk :: (F2 ++ mk :: (dr ++ D)))) ++ [mk] := by simp
          rw [e]; exact last_at)
      (by simp [joinL])
      (by intro p hp h
          simp only [List.mem_cons, List.not_mem_nil, or_false] at hp
          rcases hp with rfl | rfl | rfl | rfl | rfl
          · cases h
          · exact (hF1c _ h).1 rfl
          · exact (hF2c _ h).1 rfl
          · exact (hfigc _ h).1 rfl
          · cases h)
    have hlt : t.length ≤ 500 := by
      rw [← len_list, e2, List.length_append]
      rcases hdr with rfl | rfl | rfl | rfl <;> simp <;> omega
    refine ⟨t, e1, hlt, ?_⟩
    rcases hdr with rfl | rfl | rfl | rfl
    · rw [read_good e2 (.inl rfl) hD hDne (by omega), hDv]
    · have hD2 : AllDigits (48 :: 48 :: D) := fun c hc => by
        rcases List.mem_cons.mp hc with rfl | hc
        · omega
        rcases List.mem_cons.mp hc with rfl | hc
        · omega
        · exact hD c hc
      have e3 : t.cps.toList = [] ++ (48 :: 48 :: D) := e2
      rw [read_good e3 (.inl rfl) hD2 (by simp) (by simp; omega)]
      show some ((digitsVal D : Nat) : Int) = _
      rw [hDv]
    · rw [read_good e2 (.inr (.inl rfl)) hD hDne (by omega), hDv]
    · rw [read_good e2 (.inr (.inr rfl)) hD hDne (by omega), hDv]
  · -- a letter behind the figures
    have hq41 : 41 ∉ (dr ++ D) ++ [113] := fun h => by
      rcases List.mem_append.mp h with h | h
      · exact hY41 h
      · simp at h
    have er : (replyS x port).cps.toList = H9 ++ ((mk :: (F1 ++ mk :: (F2 ++ mk :: (((dr ++ D) ++ [113]) ++ [mk])))) ++ 41 :: [32, 40, 124, 124, 124, 57, 124, 41]) := by
      unfold replyS
      rw [end_list (by omega) (by omega) (by omega)]
      unfold ins4P ins3P ins2P ins1P fig2P
      rw [if_neg (by omega), if_neg (by omega), if_neg (by omega), if_pos (by omega), if_pos hk, app_list, hins, app_list, efig, emk', q_eq]
      simp
    obtain ⟨t, e1, e2⟩ := parse_is5 (p0 := []) (p1 := F1) (p2 := F2) (p3 := (dr ++ D) ++ [113]) (p4 := []) er (h41 _ (by intro h; rcases List.mem_append.mp h with h | h; exact hq41 h; exact hm41 (List.mem_singleton.mp h).symm)) rfl
      (by have e : mk :: (F1 ++ mk :: (F2 ++ mk :: (((dr ++ D) ++ [113]) ++ [mk]))) = (mk :: (F1 ++ mk :: (F2 ++ mk :: ((dr ++ D) ++ [113])))) ++ [mk] := by simp
          rw [e]; exact last_at)
      (by simp [joinL])
      (by intro p hp h
          simp only [List.mem_cons, List.not_mem_nil, or_false] at hp
          rcases hp with rfl | rfl | rfl | rfl | rfl
          · cases h
          · exact (hF1c _ h).1 rfl
          · exact (hF2c _ h).1 rfl
          · rcases List.mem_append.mp h with h | h
            · exact (hfigc _ h).1 rfl
            · simp at h; omega
          · cases h)
    have hlt : t.length ≤ 20 := by
      rw [← len_list, e2, List.length_append, List.length_append]
      rcases hdr with rfl | rfl | rfl | rfl <;> simp <;> omega
    have hrep : (reprText t).length ≤ sizeLine := by
      refine Nat.le_trans (reprText_len t fun c hc => ?_) (by rw [sizeLine_eq]; omega)
      rw [e2] at hc
      rcases List.mem_append.mp hc with h | h
      · rcases List.mem_append.mp h with h | h
        · rcases hdr with rfl | rfl | rfl | rfl
          · cases h
          · simp at h; omega
          · simp at h; omega
          · simp at h; omega
        · have := hD c h; omega
      · simp at h; omega
    refine ⟨t, e1, by omega, ?_⟩
    rcases hdr with rfl | rfl | rfl | rfl
    · obtain ⟨a, b⟩ := read_bad (pre := []) (D := D) e2 (.inl rfl) hD
      exact ⟨a, b, hrep⟩
    · have hD2 : AllDigits (48 :: 48 :: D) := fun c hc => by
        rcases List.mem_cons.mp hc with rfl | hc
        · omega
        rcases List.mem_cons.mp hc with rfl | hc
        · omega
        · exact hD c hc
      have e3 : t.cps.toList = [] ++ ((48 :: 48 :: D) ++ [113]) := e2
      obtain ⟨a, b⟩ := read_bad e3 (.inl rfl) hD2
      exact ⟨a, b, hrep⟩
    · have e3 : t.cps.toList = [43] ++ (D ++ [113]) := by rw [e2]; simp
      obtain ⟨a, b⟩ := read_bad e3 (.inr (.inl rfl)) hD
      exact ⟨a, b, hrep⟩
    · have e3 : t.cps.toList = [9] ++ (D ++ [113]) := by rw [e2]; simp
      obtain ⟨a, b⟩ := read_bad e3 (.inr (.inr rfl)) hD
      exact ⟨a, b, hrep⟩
  · -- another code
    obtain ⟨a, b, c, e, hne⟩ := code_at (dressP x) hd0 hd1
    refine parse_reply (head_no (a := a) (b := b) (c := c) (T := ((PySem.Str.ofString " ok) (").cps.toList ++ ((ins4P (kindP x) (ins3P (kindP x) (markP x) (ins2P (kindP x) (ins1P (kindP x) (markP x) (insP (markP x) (fieldP x) (fig2P (kindP x) (figP x port))))))).cps.toList ++ (PySem.Str.ofString ") (|||9|)").cps.toList))) ?_ hne)
    · unfold replyS endP codeP
      rw [if_neg (by omega), if_neg (by omega), if_pos hk, app_list, app_list, app_list, e]
      simp
  · -- refused as it was made
    have hends : ∀ (I : List Nat) (b : Nat), (replyS x port).cps.toList = H9 ++ ((mk :: (I ++ [b])) ++ 41 :: [32, 40, 124, 124, 124, 57, 124, 41]) → 41 ∉ mk :: (I ++ [b]) → mk ≠ b → parseP (replyS x port) = .proto := fun I b er h hne =>
      parse_ends' er h (a := mk) (b := b) rfl (by
        have e : mk :: (I ++ [b]) = (mk :: I) ++ [b] := rfl
        rw [e]; exact last_at) hne
    rcases k24 (k := kindP x) (by omega) hk1 (by omega) (by omega) with hk | hk | hk | hk | hk | hk
    · obtain ⟨Z, d, hZ⟩ := snoc_of hDne
      have hdd := hD d (by rw [hZ]; simp)
      have hY := h41 _ hY41
      rw [hZ] at hY
      have e0 : mk :: (F1 ++ mk :: (F2 ++ mk :: (dr ++ (Z ++ [d])))) = mk :: ((F1 ++ mk :: (F2 ++ mk :: (dr ++ Z))) ++ [d]) := by simp
      rw [e0] at hY
      refine hends _ d ?_ hY (by omega)
      unfold replyS
      rw [end_list (by omega) (by omega) (by omega)]
      unfold ins4P ins3P ins2P ins1P fig2P
      rw [if_neg (by omega), if_neg (by omega), if_neg (by omega), if_neg (by omega), if_neg (by omega), hins, efig, hZ]
      simp
    · have hY := h41 ((dr ++ D) ++ [mk] ++ [113]) (by
        intro h
        rcases List.mem_append.mp h with h | h
        · rcases List.mem_append.mp h with h | h
          · exact hY41 h
          · exact hm41 (List.mem_singleton.mp h).symm
        · simp at h)
      have e0 : mk :: (F1 ++ mk :: (F2 ++ mk :: ((dr ++ D) ++ [mk] ++ [113]))) = mk :: ((F1 ++ mk :: (F2 ++ mk :: ((dr ++ D) ++ [mk]))) ++ [113]) := by simp
      rw [e0] at hY
      refine hends _ 113 ?_ hY (by omega)
      unfold replyS
      rw [end_list (by omega) (by omega) (by omega)]
      unfold ins4P ins3P ins2P ins1P fig2P
      rw [if_neg (by omega), if_neg (by omega), if_pos hk, if_pos (by omega), if_neg (by omega), app_list, app_list, hins, efig, emk', q_eq]
      simp
    · have hY := h41 ((dr ++ D) ++ [mk]) (by
        intro h
        rcases List.mem_append.mp h with h | h
        · exact hY41 h
        · exact hm41 (List.mem_singleton.mp h).symm)
      have er : (replyS x port).cps.toList = H9 ++ ((mk :: (mk :: (F1 ++ mk :: (F2 ++ mk :: ((dr ++ D) ++ [mk]))))) ++ 41 :: [32, 40, 124, 124, 124, 57, 124, 41]) := by
        unfold replyS
        rw [end_list (by omega) (by omega) (by omega)]
        unfold ins4P ins3P ins2P ins1P fig2P
        rw [if_neg (by omega), if_pos hk, if_neg (by omega), if_pos (by omega), if_neg (by omega), app_list, app_list, hins, efig, emk']
        simp
      refine parse_not5 (ps := [[], [], F1, F2, dr ++ D, []]) er (fun h => by
        rcases List.mem_cons.mp h with h | h
        · exact hm41 h.symm
        · exact hY h) rfl (by simp [joinL]) (by simp) ?_ (by simp)
      intro p hp h
      simp only [List.mem_cons, List.not_mem_nil, or_false] at hp
      rcases hp with rfl | rfl | rfl | rfl | rfl | rfl
      · cases h
      · cases h
      · exact (hF1c _ h).1 rfl
      · exact (hF2c _ h).1 rfl
      · exact (hfigc _ h).1 rfl
      · cases h
    · -- no opening bracket
      by_cases hf : fieldP x = 1
      · have er : (replyS x port).cps.toList = [50, 50, 57, 32, 50, 32, 57, 32, 50, 41] := by
          unfold replyS endP
          rw [if_pos hk, if_pos hf, nine_list]
        exact parse_left (head_ok (by rw [er])) (left_no (by rw [er]; decide))
      · have er : (replyS x port).cps.toList = [50, 50, 57, 32, 111, 107, 41, 32] ++ ((mk :: (F1 ++ mk :: (F2 ++ mk :: ((dr ++ D) ++ [mk])))) ++ [41]) := by
          unfold replyS endP
          rw [if_pos hk, if_neg hf]
          unfold ins4P ins3P ins2P ins1P fig2P
          rw [if_neg (by omega), if_neg (by omega), if_neg (by omega), if_pos (by omega), if_neg (by omega), app_list, app_list, app_list, hins, efig, emk', h8_eq, r_eq]
          simp
        by_cases h40 : mk = 40
        · subst h40
          rcases hF with ⟨_, rfl, rfl⟩ | ⟨q, _, _⟩ | ⟨_, rfl, rfl⟩
          · have er2 : (replyS x port).cps.toList = H9 ++ ((40 :: 40 :: ((dr ++ D) ++ [40])) ++ 41 :: []) := by rw [er]; rfl
            refine parse_not5 (ps := [[], [], dr ++ D, []]) er2 (fun h => by
              simp only [List.mem_cons, List.mem_append, List.not_mem_nil, or_false] at h
              rcases h with h | h | h | h
              · omega
              · omega
              · exact hY41 (List.mem_append.mpr h)
              · omega) rfl (by simp [joinL]) (by simp) ?_ (by simp)
            intro p hp h
            simp only [List.mem_cons, List.not_mem_nil, or_false] at hp
            rcases hp with rfl | rfl | rfl | rfl
            · cases h
            · cases h
            · exact (hfigc _ h).1 rfl
            · cases h
          · exact absurd q hf
          · have er2 : (replyS x port).cps.toList = H9 ++ (((104 :: 40 :: 55 :: 40 :: (dr ++ D)) ++ [40]) ++ 41 :: []) := by rw [er]; simp [H9]
            refine parse_ends' er2 (fun h => ?_) (a := 104) (b := 40) rfl last_at (by decide)
            simp only [List.mem_cons, List.mem_append, List.not_mem_nil, or_false] at h
            rcases h with (h | h | h | h | h) | h
            · omega
            · omega
            · omega
            · omega
            · exact hY41 (List.mem_append.mpr h)
            · omega
        · refine parse_left (head_ok (by rw [er]; rfl)) (left_no ?_)
          rw [er]
          intro h
          simp only [List.mem_cons, List.mem_append, List.not_mem_nil, or_false] at h
          rcases h with h | (h | h | h | h | h | h | h) | h
          · omega
          · omega
          · exact (hF1c _ h).2.2 rfl
          · omega
          · exact (hF2c _ h).2.2 rfl
          · omega
          · exact (hfigc _ (List.mem_append.mpr h)).2.2 rfl
          · omega
          · omega
    · -- no closing bracket
      have er : (replyS x port).cps.toList = H9 ++ ((mk :: (F1 ++ mk :: (F2 ++ mk :: ((dr ++ D) ++ [mk])))) ++ [93]) := by
        unfold replyS endP
        rw [if_neg (by omega), if_pos hk]
        unfold ins4P ins3P ins2P ins1P fig2P
        rw [if_neg (by omega), if_neg (by omega), if_neg (by omega), if_pos (by omega), if_neg (by omega), app_list, app_list, app_list, hins, efig, emk', h9b_eq, b_eq]
        simp
      refine parse_right (head_ok (by rw [er]; rfl)) (right_no er fun h => ?_)
      rcases List.mem_append.mp h with h | h
      · exact h41 ((dr ++ D) ++ [mk]) (by
          intro h
          rcases List.mem_append.mp h with h | h
          · exact hY41 h
          · exact hm41 (List.mem_singleton.mp h).symm) h
      · simp at h
    · -- nothing between the brackets
      have er : (replyS x port).cps.toList = H9 ++ (([] : List Nat) ++ 41 :: [32, 40, 124, 124, 124, 57, 124, 41]) := by
        unfold replyS
        rw [end_list (by omega) (by omega) (by omega)]
        unfold ins4P
        rw [if_pos hk, e_eq]
      exact parse_ends' er (by simp) (a := 41) (b := 40) rfl rfl (by decide)
end Mine
end
end
theorem PySem.Challenge.cw_tl0019_01_holds : PySem.Challenge.rw_tl0019_01.Holds := by
  exact Mine.law_x Mine.says_law Mine.floyd_law
