import PyProof.Rows.All
import Wide.All
import OpenK.AllK
import Wide.FinOn
import PySem.Challenge.RW_xc0042_01

set_option Elab.async false

section SLpart
open PySem PySem.W PyProof.Rows
namespace Mine
open Sem (wp)

/-- what a clean stack does not hold: a built-in that keeps a bytearray's memory -/
def keepsBytes (id : String) : Bool :=
  PySem.Builtin.Bytes.decodersThatHold.contains id || (["bytearray.__contains__", "bytearray.__mod__", "bytearray.__rmod__", "_struct.pack_into.held", "bytearray.find.held"] : List String).contains id
def okCode : Code → Bool
  | .builtin id _ => !keepsBytes id
  | _ => true
def CleanL (l : List (Code × Pos)) : Prop := ∀ x ∈ l, okCode x.1 = true
structure Clean (Γ : Ctx) : Prop where
  code : okCode Γ.code = true
  below : CleanL Γ.below
theorem Clean.push {Γ : Ctx} (h : Clean Γ) (p : Pos) : CleanL ((Γ.code, p) :: Γ.below) := fun x hx => by
  rcases List.mem_cons.mp hx with rfl | hx
  · exact h.code
  · exact h.below x hx

def wpS {α : Type} (M : Model) (A : Around) (t : Sem α) (Q : α → Shared → Prop) (E : Value → Shared → Prop) (s : Shared) : Prop :=
  ∀ Γ p, Γ.In A → Clean Γ → wp M Γ t (fun a _ s' => Q a s') (fun e _ s' => E e s') p s
def codeS (M : Model) (A : Around) (c : Code) (R : Result → Shared → Prop) (s : Shared) : Prop :=
  ∀ Γ p, Γ.code = c → Γ.Below A → CleanL Γ.below → wpCode M Γ R p s

section
variable {α β : Type} {M : Model} {A : Around} {E : Value → Shared → Prop} {s : Shared}
theorem wpS_of_any {t : Sem α} {Q : α → Shared → Prop} (h : wpAny M A t Q E s) : wpS M A t Q E s := fun Γ p hΓ _ => h Γ p hΓ
theorem codeS_of_any {c : Code} {R : Result → Shared → Prop} (h : codeAny M A c R s) : codeS M A c R s := fun Γ p hc hΓ _ => h Γ p hc hΓ
theorem wpS_pure {a : α} {Q : α → Shared → Prop} (h : Q a s) : wpS M A (pure a) Q E s := fun _ _ _ _ => h
theorem wpS_mono {t : Sem α} {Q Q' : α → Shared → Prop} {E' : Value → Shared → Prop} (h : wpS M A t Q E s) (hQ : ∀ a s, Q a s → Q' a s) (hE : ∀ e s, E e s → E' e s) : wpS M A t Q' E' s :=
  fun Γ p hΓ hc => Sem.wp_mono M Γ t (fun a _ s => hQ a s) (fun e _ s => hE e s) p s (h Γ p hΓ hc)
theorem wpS_bind {m : Sem α} {f : α → Sem β} {Q : β → Shared → Prop} (h : wpS M A m (fun a s' => wpS M A (f a) Q E s') E s) : wpS M A (m >>= f) Q E s := fun Γ p hΓ hc => by
  rw [Sem.wp_bind']
  exact Sem.wp_mono M Γ m (fun a p' s' h' => h' Γ p' hΓ hc) (fun _ _ _ h' => h') p s (h Γ p hΓ hc)
theorem wpS_bindA {m : Sem α} {f : α → Sem β} {Q : β → Shared → Prop} (h : wpAny M A m (fun a s' => wpS M A (f a) Q E s') E s) : wpS M A (m >>= f) Q E s := wpS_bind (wpS_of_any h)
theorem wpS_holding {vs : List Value} {m : Sem α} {Q : α → Shared → Prop} (h : wpS M A m Q E s) : wpS M A (holding vs m) Q E s := fun Γ p hΓ hc => by rw [Sem.wp_holding]; exact h Γ p hΓ hc
theorem wpS_keep {vs : List Value} {m : Sem α} {Q : α → Shared → Prop} (h : wpS M A m Q E s) : wpS M A (m.keep vs) Q E s := fun Γ p hΓ hc => by rw [Sem.wp_keep]; exact h Γ p hΓ hc
theorem wpS_onRaise {m : Sem α} {k : Value → Sem Unit} {Q : α → Shared → Prop}
    (h : wpS M A m Q (fun e s' => wpAny M A (k e) (fun _ s'' => E e s'') E s') s) : wpS M A (m.onRaise k) Q E s := fun Γ p hΓ hc => by
  rw [Sem.wp_onRaise]
  exact Sem.wp_mono M Γ m (fun _ _ _ h' => h') (fun e p' s' h' => h' Γ p' hΓ) p s (h Γ p hΓ hc)
theorem wpS_of_eq {t t' : Sem α} {Q : α → Shared → Prop} (e : t = t') (h : wpS M A t' Q E s) : wpS M A t Q E s := e ▸ h
theorem codeS_mono {c : Code} {R R' : Result → Shared → Prop} (h : codeS M A c R s) (hR : ∀ r s, R r s → R' r s) : codeS M A c R' s :=
  fun Γ p hc hΓ hl => wpCode_mono hR (h Γ p hc hΓ hl)
theorem wpS_run {c : Code} {h : Option Value} {Q : Flow → Shared → Prop}
    (hc : codeS M (A.mark h) c (fun r s' => match r with | .ok f => Q f s' | .error e => E e s') s) (hnb : h ≠ some byPass := by intro x; cases x) :
    wpS M A (run c h) Q E s :=
  fun Γ p hΓ hl => by rw [Sem.wp_run]; exact hc _ p rfl (hΓ.enter c h p hnb) (hl.push p)
theorem wpS_runValue {c : Code} {Q : Value → Shared → Prop}
    (hc : codeS M A c (fun r s' => match r with | .ok (.ret v) => Q v s' | .ok _ => False | .error e => E e s') s) :
    wpS M A (runValue c) Q E s := fun Γ p hΓ hl => by rw [Sem.wp_runValue]; exact hc _ p rfl (hΓ.enter c none p (by intro x; cases x)) (hl.push p)
theorem wpS_call {f : Value} {pos : List Value} {kw : List (Str × Value)} {Q : Value → Shared → Prop}
    (hc : codeS M A (.call f ⟨pos, kw⟩) (fun r s' => match r with | .ok (.ret v) => Q v s' | .ok _ => False | .error e => E e s') s) :
    wpS M A (call f pos kw) Q E s := wpS_runValue hc
theorem codeS_of_tree {c : Code} {R : Result → Shared → Prop} (hok : okCode c = true)
    (h : wpS M (A.under c) (M.den c) (fun fin s' => match fin with | .done f => R (.ok f) s' | .again c' => c'.quiet = true ∧ codeS M A c' R s')
      (fun e s' => R (.error e) s') s) : codeS M A c R s := fun Γ p hc hΓ hl => by
  rw [wpCode_iff_wp, hc]
  refine Sem.wp_mono M Γ _ (fun fin p' s' h' => ?_) (fun _ _ _ h' => h') p s (h Γ p (hc ▸ hΓ.in) ⟨hc ▸ hok, hl⟩)
  cases fin with
  | done f => exact h'
  | again c' => exact ⟨h'.1, h'.2 (Γ.goto c') p' rfl (hΓ.goto c') hl⟩
/-- no frame of a clean stack keeps a bytearray's memory -/
theorem exported_false {Γ : Ctx} {a : Addr} {Q : Bool → Shared → Prop} {p : Pos} (hc : Clean Γ) (h : Q false s) :
    wp M Γ (PySem.Builtin.Bytes.exported (.ref a)) (fun b _ s' => Q b s') (fun e _ s' => E e s') p s := by
  unfold PySem.Builtin.Bytes.exported
  show Q (((Γ.code, p) :: Γ.below).any _) s
  rw [List.any_eq_false.mpr]
  · exact h
  intro x hx
  have hk := hc.push p x hx
  obtain ⟨c, q⟩ := x
  cases c with
  | builtin id as =>
    have hk' : keepsBytes id = false := by simpa [okCode] using hk
    unfold keepsBytes at hk'
    simp only [Bool.or_eq_false_iff, List.contains_cons, List.contains_nil, beq_eq_false_iff_ne, ne_eq] at hk'
    obtain ⟨h1, h2, h3, h4, h5, h6, _⟩ := hk'
    obtain ⟨ps, kw⟩ := as
    split <;> first | simp_all | (rename_i e; cases e; simp_all)
  | _ => split <;> first | simp_all | (rename_i e; cases e)
end
end Mine
end SLpart

section SKpart
open PySem PySem.W PyProof.Rows
namespace Mine
open Sem (wp)

section
variable {α β : Type} {M : Model} {A : Around} {E : Value → Shared → Prop} {s : Shared} {env : Env}
theorem wpS_execs_nil {Q : Flow → Shared → Prop} (h : Q .next s) : wpS M A (execs [] env) Q E s := fun _ _ _ _ => h
theorem wpS_execs_cons {st rest} {Q : Flow → Shared → Prop}
    (h : wpS M A (exec st env) (fun f s' => match f with | .next => wpS M A (execs rest env) Q E s' | f => Q f s') E s) :
    wpS M A (execs (st :: rest) env) Q E s := fun Γ p hΓ hc => by
  rw [execs_cons, Sem.wp_bind']
  refine Sem.wp_mono M Γ _ (fun f p' s' h' => ?_) (fun _ _ _ h' => h') _ _ (h Γ p hΓ hc)
  cases f <;> first | exact h' Γ p' hΓ hc | exact h'
/-- a statement that asks nothing of the stack: the library's walk does it -/
theorem wpS_plain {st rest} {Q : Flow → Shared → Prop}
    (h : wpAny M A (exec st env) (fun f s' => match f with | .next => wpS M A (execs rest env) Q E s' | f => Q f s') E s) :
    wpS M A (execs (st :: rest) env) Q E s := wpS_execs_cons (wpS_of_any h)
theorem wpS_If {test body orelse pos} {Q : Flow → Shared → Prop}
    (h : wpAny M A (isTrue test env (eval test env))
      (fun b s₂ => if b then wpS M A (execs body env) Q E s₂ else wpS M A (execs orelse env) Q E s₂) E s) :
    wpS M A (exec (.If test body orelse pos) env) Q E s := by
  rw [exec_If]
  refine wpS_bindA (wpAny_standAt (wpS_bindA (wpAny_mono h (fun b s₂ h₂ => ?_) fun _ _ x => x)))
  cases b <;> exact h₂
theorem wpS_Assign_Name {x pos' value pos} {Q : Flow → Shared → Prop}
    (h : wpS M A (eval value env) (fun v s₁ => wpAny M A (storeName env x v) (fun _ => Q .next) E s₁) E s)
    (hs : swapsWith value (some (.Name x pos')) pos.line env = pure false := by rfl) :
    wpS M A (exec (.Assign [.Name x pos'] value pos) env) Q E s := by
  rw [exec_Assign_Name env x pos' value pos hs]
  refine wpS_bindA (wpAny_standAt (wpS_bind (wpS_mono h (fun v s₁ h₁ => ?_) fun _ _ x => x)))
  exact wpS_of_any (wpAny_bind (wpAny_standAt (wpAny_bind (wpAny_mono (wpAny_bindName h₁) (fun _ _ x => wpAny_pure x) fun _ _ x => x))))
theorem wpS_Expr {e pos} {Q : Flow → Shared → Prop} (h : wpS M A (eval e env) (fun v s' => match v with | .ref _ => False | _ => Q .next s') E s)
    (hi : interactive env = false := by rfl) (hs : swapsWith e none pos.line env = pure false := by rfl) :
    wpS M A (exec (.Expr e pos) env) Q E s := by
  rw [exec_Expr env e pos hi hs]
  refine wpS_bindA (wpAny_standAt (wpS_bind (wpS_mono h (fun v s' h' => ?_) fun _ _ x => x)))
  have hv : ∀ a, v ≠ .ref a := fun a hva => by subst hva; exact h'
  rw [dropValue_plain hv]
  refine wpS_pure ?_
  cases v <;> first | exact h' | exact (hv _ rfl).elim
theorem wpS_Return_some {e pos} {Q : Flow → Shared → Prop} (h : wpS M A (eval e env) (fun v => Q (.ret v)) E s) :
    wpS M A (exec (.Return (some e) pos) env) Q E s := by
  rw [exec_Return_some]
  exact wpS_bindA (wpAny_standAt (wpS_bind (wpS_mono h (fun v s' h' => wpS_pure h') fun _ _ x => x)))

theorem wpS_runOwn {c : Code} {h : Option Value} {Q : Flow → Shared → Prop}
    (hc : codeS M (A.mark h) c (fun r s' => match r with | .ok f => Q f s' | .error e => cameBackBy M A env E e s') s) (hnb : h ≠ some byPass := by intro x; cases x) :
    wpS M A (runOwn c env h) Q E s := by
  unfold runOwn
  exact wpS_onRaise (wpS_run hc hnb)
theorem wpS_noted {m : Sem α} {Q : α → Shared → Prop} (h : wpS M A m Q (notedBy M A env E) s) : wpS M A (m.onRaise fun x => do noteFrame x env; theTreesLotGoes x) Q E s :=
  wpS_onRaise (wpS_mono h (fun _ _ q => q) fun _ _ hx => wpAny_bind (wpAny_mono hx (fun _ _ e => wpAny_theTreesLotGoes e) fun _ _ e => e))

theorem codeS_loop' {c : Code} {R : Result → Shared → Prop} (hok : okCode c = true) (hq : c.quiet = true) (I : Nat → Shared → Prop)
    (turn : ∀ n s, I n s → wpS M (A.under c) (M.den c)
      (fun fin s' => match fin with
        | .done f => R (.ok f) s'
        | .again c' => (c' = c ∧ ∃ m, m < n ∧ I m s') ∨ (c'.quiet = true ∧ codeS M A c' R s')) (fun e s' => R (.error e) s') s)
    (n : Nat) (h : I n s) : codeS M A c R s := by
  induction n using Nat.strongRecOn generalizing s with
  | ind n ih =>
    refine codeS_of_tree hok (wpS_mono (turn n s h) (fun fin s' hf => ?_) fun _ _ h' => h')
    cases fin with
    | done f => exact hf
    | again c' =>
      rcases hf with ⟨rfl, m, hm, hI⟩ | hf
      · exact ⟨hq, ih m hm hI⟩
      · exact hf
end

section
variable {prog : Program} {w : World} {A : Around} {E : Value → Shared → Prop} {R : Result → Shared → Prop} {s : Shared} {env : Env}
/-- the error's road out of a loop's turn -/
abbrev upBy (prog : Program) (w : World) (A : Around) (env : Env) (R : Result → Shared → Prop) : Value → Shared → Prop := notedBy (model prog w) A env fun e s' => R (.error e) s'

theorem codeS_while {test body} (I : Nat → Shared → Prop)
    (turn : ∀ n s, I n s →
      wpAny (model prog w) A (isTrue test env (eval test env)) (fun b s₂ =>
        if b then wpS (model prog w) A (execs body env) (fun f s₃ => match f with
            | .next | .cont => ∃ m, m < n ∧ I m s₃
            | .brk => R (.ok .next) s₃
            | .ret v => R (.ok (.ret v)) s₃) (upBy prog w A env R) s₂
        else R (.ok .next) s₂)
        (upBy prog w A env R) s)
    (n : Nat) (h : I n s) : codeS (model prog w) A (.whileLoop test body [] env) R s := by
  refine codeS_loop' rfl rfl I (fun n s hI => ?_) n h
  show wpS _ A ((whileTurn test body [] env).onRaise (fun x => do noteFrame x env; theTreesLotGoes x)) _ _ s
  refine wpS_noted ?_
  simp only [whileTurn]
  refine wpS_bindA (wpAny_mono (turn n s hI) (fun b s₂ h₂ => ?_) fun _ _ h' => h')
  cases b with
  | false =>
    simp only [Bool.false_eq_true, if_false] at h₂ ⊢
    exact wpS_bindA (wpAny_execs_nil (wpS_pure h₂))
  | true =>
    simp only [if_true] at h₂ ⊢
    refine wpS_bind (wpS_mono h₂ (fun f s₃ h₃ => ?_) fun _ _ h' => h')
    cases f with
    | next => exact wpS_pure (.inl ⟨rfl, h₃⟩)
    | cont => exact wpS_pure (.inl ⟨rfl, h₃⟩)
    | brk => exact wpS_pure h₃
    | ret v => exact wpS_pure h₃
theorem wpS_While {test body pos} {Q : Flow → Shared → Prop}
    (h : codeS (model prog w) A (.whileLoop test body [] env) (fun r s' => match r with | .ok f => Q f s' | .error e => cameBackBy (model prog w) A env E e s') s) :
    wpS (model prog w) A (exec (.While test body [] pos) env) Q E s := by
  rw [exec_While]; exact wpS_bindA (wpAny_standAt (wpS_runOwn h))

theorem codeS_for {target it body} (I : Nat → Shared → Prop)
    (turn : ∀ n s, I n s → wpAny (model prog w) A (pyNext it) (fun r s₁ => match r with
      | none => R (.ok .next) s₁
      | some v => wpAny (model prog w) A (letOwnedTupleGo target it v) (fun _ s₁' =>
          wpAny (model prog w) A (assign target env v) (fun _ s₂ => wpS (model prog w) A (execs body env) (fun f s₃ => match f with
            | .next | .cont => ∃ m, m < n ∧ I m s₃
            | .brk => R (.ok .next) s₃
            | .ret v => R (.ok (.ret v)) s₃) (upBy prog w A env R) s₂) (upBy prog w A env R) s₁') (upBy prog w A env R) s₁) (upBy prog w A env R) s)
    (n : Nat) (h : I n s) : codeS (model prog w) A (.forLoop target it body [] env) R s := by
  refine codeS_loop' rfl rfl I (fun n s hI => ?_) n h
  show wpS _ A ((forTurn target it body [] env).onRaise (fun x => do noteFrame x env; theTreesLotGoes x)) _ _ s
  refine wpS_noted ?_
  simp only [forTurn]
  refine wpS_bindA (wpAny_standAt (wpS_bindA (wpAny_onRaise (wpAny_mono (turn n s hI) (fun r s₁ h₁ => ?_) fun _ _ h' => wpAny_standAt h'))))
  cases r with
  | none => exact wpS_pure (.inr ⟨rfl, codeS_of_any (codeAny_block (wpAny_execs_nil h₁))⟩)
  | some v =>
    refine wpS_bindA (wpAny_mono h₁ (fun _ s₁' h₁' => ?_) fun _ _ h' => h')
    refine wpS_bindA (wpAny_mono h₁' (fun _ s₂ h₂ => wpS_bind (wpS_mono h₂ (fun f s₃ h₃ => ?_) fun _ _ h' => h')) fun _ _ h' => h')
    cases f with
    | next => exact wpS_pure (.inl ⟨rfl, h₃⟩)
    | cont => exact wpS_pure (.inl ⟨rfl, h₃⟩)
    | brk => exact wpS_pure h₃
    | ret v => exact wpS_pure h₃
theorem wpS_For {target iter body pos} {Q : Flow → Shared → Prop}
    (h : wpAny (model prog w) A (eval iter env) (fun x s₁ => wpAny (model prog w) A (pyIter x) (fun it s₂ =>
      codeS (model prog w) A (.forLoop target it body [] env) (fun r s' => match r with | .ok f => Q f s' | .error e => cameBackBy (model prog w) A env E e s') s₂) E s₁) E s)
    (hs : ∀ x, foldedSetIterable iter env x = pure x := by intro _; rfl) :
    wpS (model prog w) A (exec (.For target iter body [] pos) env) Q E s := by
  rw [exec_For]
  refine wpS_bindA (wpAny_standAt (wpS_bindA (wpAny_mono h (fun x s₁ h₁ => wpS_bindA (wpAny_of_eq (hs x) (wpS_bindA (wpAny_standAt (wpS_bindA (wpAny_holding
    (wpAny_mono h₁ (fun it s₂ h₂ => wpS_runOwn h₂) fun _ _ h' => h'))))))) fun _ _ h' => h')))

theorem codeS_func {body}
    (h : wpS (model prog w) (A.deeper env) (execs body env) (fun f s' => R (.ok (.ret (match f with | .ret v => v | _ => .none))) s')
      (fun e s' => wpAny (model prog w) (A.deeper env) (leaving env e) (fun _ s'' => R (.error e) s'') (fun e' s'' => R (.error e') s'') s') s) :
    codeS (model prog w) A (.func body env) R s := by
  refine codeS_of_tree rfl ?_
  show wpS _ (A.deeper env) (do point; match ← (execs body env).onRaise (leaving env) with | .ret v => ret v | _ => ret .none) _ _ s
  refine wpS_bindA (wpAny_point (wpS_bind (wpS_onRaise (wpS_mono h (fun f s' h' => ?_) fun _ _ h' => h'))))
  cases f <;> exact wpS_pure h'

theorem codeS_call_function {a : Addr} {args : Args} {o : Obj} {fd : FuncData} {body : List Stmt} (hroom : A.depth < recursionLimit)
    (ho : s.heap.get? a = some o)
    (hd' : o.data = .func fd) (hco : fd.scope.isCoroutine = false) (hgen : fd.scope.isGenerator = false) (hbody : fd.body = .stmts body) (hcd : s.heap.CodeRec fd.code fd.qualname)
    (h : wpAny (model prog w) A.in1 (bindArgs fd args) (fun binds s₁ =>
      wpAny (model prog w) A.in1 (newFunctionEnv fd.scope fd.globals fd.closure binds (fd.qualname ++ ".<locals>.") (some a) fd.code none fd.builtins)
        (fun env s₂ => s₂.heap.NoLimit ∧ codeS (model prog w) A (.func body env) R s₂) (fun e s' => R (.error e) s') s₁) (fun e s' => R (.error e) s') s) :
    codeS (model prog w) A (.call (.ref a) args) R s := by
  refine codeS_of_tree rfl ?_
  show wpS _ A.in1 (callAny (.ref a) args) _ _ s
  refine wpS_of_any ?_
  simp only [callAny]
  refine wpAny_bind (wpAny_load ho ?_)
  obtain ⟨c, oc, vs, tq, hc, hoc, hdc, hq⟩ := hcd
  simp only [hd', callFunction, hco, hgen, hbody, hc]
  rw [hc] at h
  refine wpAny_bind (m := field (.ref c) 1) (wpAny_field hoc hdc hq (wpAny_bind (wpAny_pure ?_)))
  exact wpAny_bind (wpAny_mono h (fun binds s₁ h₁ => wpAny_bind (wpAny_mono h₁ (fun env s₂ h₂ => wpAny_bind (wpAny_enterFrame h₂.1 hroom
    (wpAny_pure (And.intro rfl h₂.2)))) fun _ _ h' => h')) fun _ _ h' => h')

theorem codeS_call_def {a : Addr} {o : Obj} {fd : FuncData} {body : List Stmt} {args : Args} {binds : List (Str × Value)}
    (hroom : A.depth < recursionLimit) (ho : s.heap.get? a = some o) (hdata : o.data = .func fd) (hlim : s.heap.NoLimit) (hcd : s.heap.CodeRec fd.code fd.qualname)
    (hbody : fd.body = .stmts body) (hbind : BindsTo s fd args binds)
    (hcell : ∀ x ∈ fd.scope.names, x.2 ≠ .cell) (hloc : ∀ x ∈ binds, fd.scope.names.lookup x.1 = some .local)
    (h : ∀ h₀, h₀.Ns s.heap.objs.size (fun x => binds.reverse.lookup x) → (∀ b o, s.heap.get? b = some o → h₀.get? b = some o) →
      wpS (model prog w) (A.deeper (callEnv fd s.heap.objs.size a)) (execs body (callEnv fd s.heap.objs.size a)) (fun f s' => R (.ok (.ret (match f with | .ret v => v | _ => .none))) s')
        (fun e s' => wpAny (model prog w) (A.deeper (callEnv fd s.heap.objs.size a)) (leaving (callEnv fd s.heap.objs.size a) e) (fun _ s'' => R (.error e) s'') (fun e' s'' => R (.error e') s'') s')
        { s with heap := h₀, toks := s.toks + binds.length })
    (hco : fd.scope.isCoroutine = false := by rfl) (hgen : fd.scope.isGenerator = false := by rfl) (hk : fd.scope.kind = .function := by rfl) :
    codeS (model prog w) A (.call (.ref a) args) R s := by
  refine codeS_call_function hroom ho hdata hco hgen hbody hcd (hbind _ _ _ _ ?_)
  refine wpAny_newFunctionEnv hcell hloc (fun h₀ hns₀ hsb₀ => ⟨hlim.fresh _ hsb₀, codeS_func (h h₀ hns₀ fun b o e => ?_)⟩) hk
  exact hsb₀.extBut b o (Nat.ne_of_lt (Heap.lt_size e)) (Heap.get?_push_of_some _ e)

section
variable {A₀ : Around} {K : Frag} {L : Addr} {h₀ base : Heap} {m mg mb : Str → Option Value} {news : List (Addr × Obj)} {p : Program} {loose : List Str} {mean : ExcName → Option Value}
/-- a def of the text's is entered, on a clean stack -/
theorem codeS_def {outer : List Env} {name qual : Str} {params : Arguments} {body : List Stmt} {scope : Scope} {dV kV doc pm cdv ct oc : Value} {an od : Option Addr} {osl : Array (Option Value)} {f : Addr} {args : Args} {binds : List (Str × Value)}
    (B : Below A₀ base outer h₀) (F : Fr h₀ L s.heap m) (X₀ : K.In h₀) (N : News h₀ L s.heap news) (T : Top p loose mean mg mb h₀) (hA : A.frames = some (env :: outer)) (hf : env.frame = some L) (hke : env.scope.kind = .function)
    (ho : K.lookup f = some ⟨oc, od, .func (fnOf name qual params body scope dV kV doc pm an cdv ct), osl⟩) (hcd : codeIn K cdv qual = true) (hroom : A.depth < recursionLimit)
    (hbind : BindsTo s (fnOf name qual params body scope dV kV doc pm an cdv ct) args binds) (hloc : ∀ y ∈ binds, scope.names.lookup y.1 = some .local)
    (h : ∀ g L' h₁, Fr h₀ L g m → Fr g L' h₁ (fun y => binds.reverse.lookup y) → News g L' h₁ news → Below A base (env :: outer) g → K.In g → Top p loose mean mg mb g →
      wpS (model prog w) (A.deeper (envOf qual scope L' f cdv)) (execs body (envOf qual scope L' f cdv))
        (fun fl s' => LeaveK h₀ L m g R (match fl with | .ret v => v | _ => .none) s')
        (fun e s' => wpAny (model prog w) (A.deeper (envOf qual scope L' f cdv)) (leaving (envOf qual scope L' f cdv) e) (fun _ s'' => R (.error e) s'') (fun e' s'' => R (.error e') s'') s')
        { s with heap := h₁, toks := s.toks + binds.length })
    (hco : scope.isCoroutine = false) (hgen : scope.isGenerator = false) (hk : scope.kind = .function)
    (hcell : ∀ x ∈ scope.names, x.2 ≠ .cell) : codeS (model prog w) A (.call (.ref f) args) R s := by
  obtain ⟨FG, BG, st, lv⟩ := groundX (R := R) B F N hA hf hke
  have X := X₀.keeps F.keep
  refine codeS_call_def (fd := fnOf name qual params body scope dV kV doc pm an cdv ct) (body := body) (binds := binds) hroom (X _ _ ho) rfl (T.nolimit.keeps F.keep) (codeRec_of X hcd) rfl hbind hcell hloc (fun h₁ hns hk₁ => ?_) hco hgen hk
  exact wpS_mono (h _ s.heap.objs.size h₁ FG ⟨hns, fun b o e => hk₁ b o (of_hideAll _ e), Nat.le_of_eq (hideAll_size _ _)⟩
    (fun p hp => ⟨hk₁ _ _ (N p hp).1, Nat.ne_of_lt (Heap.lt_size (N p hp).1), hideAll_none _ (List.mem_map_of_mem hp)⟩) BG (X₀.keeps st) (T.keeps st)) (fun fl s' hl => lv _ _ hl) fun _ _ y => y
end

/-- a call of a def by a name, on a clean stack -/
theorem wpS_callWith {pos : Pos} {a : Addr} {o : Obj} {fd : FuncData} {first : List Value} {args : List (Bool × Sem Value)} {Q : Value → Shared → Prop}
    (hplain : args.any (·.1) = false)
    (h : wpAny (model prog w) A (evalArgs (.ref a) true args []) (fun x s₁ => (s₁.heap.get? a = some o ∧ o.data = .func fd) ∧ wpS (model prog w) A (call (.ref a) (first ++ x.pos) x.kw) Q E s₁) E s) :
    wpS (model prog w) A (callWith pos (.ref a) first args []) Q E s := by
  unfold callWith
  refine wpS_bindA (wpAny_holding (wpAny_mono h (fun x s₁ h₁ => wpS_bindA (wpAny_standAt ?_)) fun _ _ x => x))
  have tail : ∀ {t : Sem Value}, wpS (model prog w) A t Q E s₁ → wpS (model prog w) A (t >>= fun r => holding [r] point >>= fun _ => pure r) Q E s₁ :=
    fun ht => wpS_bind (wpS_mono ht (fun r s₂ hr => wpS_of_any (wpAny_bind (wpAny_holding (wpAny_point (wpAny_pure hr))))) fun _ _ x => x)
  simp only [hplain, List.any_nil, Bool.or_false]
  refine wpS_bindA (m := keeperOf (.ref a)) ?_
  unfold keeperOf
  refine wpAny_bind (wpAny_load h₁.1.1 ?_)
  rw [h₁.1.2]
  refine wpAny_pure ?_
  dsimp only
  split
  · exact tail h₁.2
  · refine tail ?_
    unfold callMarked
    exact wpS_keep h₁.2
end
end Mine
end SKpart

section BA0part
open PySem PySem.W PyProof.Rows
set_option maxRecDepth 100000
namespace Mine
open Sem (wp)
namespace F
theorem ba_mro : mroOf (.type "bytearray") = pure [.type "bytearray", .type "object"] := by rw [mroOf_type]; kernel_rfl
theorem ba_lookup_new : typeLookup (.type "bytearray") "__new__" = pure (some (.builtin "bytearray.__new__")) := by rw [typeLookup_type, builtinLookup_eq_fast]; kernel_rfl
theorem ba_slot_init : Slot "bytearray" "__init__" "bytearray.__init__" :=
  .of (owner := "bytearray") (n := "__init__") (by rw [typeLookup_type, builtinLookup_eq_fast]; kernel_rfl) (by decide +kernel) (by decide +kernel) (by decide +kernel)
    (by first | exact .inl (by decide +kernel) | exact .inr (by decide +kernel)) (by rw [isSubtype_type]; kernel_rfl)
theorem ba_sub : isSubtype (.type "bytearray") (.type "bytearray") = pure true := by rw [isSubtype_type]; kernel_rfl
theorem ba_called : TypeCalled "bytearray" "bytearray.__new__" "bytearray.__init__" :=
  ⟨by decide +kernel, by decide +kernel, ⟨_, _, ba_mro⟩, madeBy_type ba_mro ba_lookup_new (by decide +kernel), by decide +kernel, ba_sub, ba_slot_init⟩
theorem ba_typeCall : checkTypeCall "bytearray" ⟨[], []⟩ = pure () := by kernel_rfl
theorem ba_newCall : checkBuiltinCall "bytearray.__new__" ⟨[.type "bytearray"], []⟩ = pure () := by kernel_rfl
theorem ba_entry_new : entryFor table "bytearray.__new__" = some Builtin.«list.__new__» := entryFor_alias (id' := "list.__new__") (by rw [fastTable_eq_tree]; kernel_rfl) (by decide +kernel) (by decide +kernel) (by rw [fastTable_eq_tree]; kernel_rfl)
theorem ba_entry_init : entryFor table "bytearray.__init__" = some Builtin.«bytearray.__init__» := entryFor_of_tree (by kernel_rfl)
theorem ba_entry_append : entryFor table "bytearray.append" = some Builtin.«bytearray.append» := entryFor_of_tree (by kernel_rfl)
theorem ba_ok_init (as : Args) : okCode (.builtin "bytearray.__init__" as) = true := by show (!keepsBytes "bytearray.__init__") = true; decide +kernel
theorem ba_ok_append (as : Args) : okCode (.builtin "bytearray.append" as) = true := by show (!keepsBytes "bytearray.append") = true; decide +kernel
theorem ba_args_init (a : Value) : argsOk "bytearray.__init__" ⟨[a], []⟩ := by unfold argsOk; kernel_rfl
theorem ba_args_append (a b : Value) : argsOk "bytearray.append" ⟨[a, b], []⟩ := by unfold argsOk; kernel_rfl
theorem ba_plain_new : plainId "bytearray.__new__" = true := by decide +kernel
theorem ba_plain_init : plainId "bytearray.__init__" = true := by decide +kernel
theorem ba_plain_append : plainId "bytearray.append" = true := by decide +kernel
end F
section
variable {prog : Program} {w : World} {A : Around} {E : Value → Shared → Prop} {R : Result → Shared → Prop} {s : Shared}
theorem codeS_builtin {id : String} {args : Args} {b : Builtin} (hok : okCode (.builtin id args) = true) (hb : entryFor table id = some b)
    (h : wpS (model prog w) (A.under (.builtin id args)) (b args)
      (fun fin s' => match fin with | .done f => R (.ok f) s' | .again c' => c'.quiet = true ∧ codeS (model prog w) A c' R s') (fun e s' => R (.error e) s') s) :
    codeS (model prog w) A (.builtin id args) R s := by
  refine codeS_of_tree hok ?_
  show wpS _ _ (match entryFor table id with | some b => b args | none => unsupported ((withoutEnding? id "#data").getD id)) _ _ s
  rw [hb]; exact h
theorem codeS_call_builtin {id : String} {args : Args} {b : Builtin} (hok : okCode (.builtin id args) = true) (hq : plainId id = true) (hb : entryFor table id = some b)
    (h : wpAny (model prog w) A.in1 (checkBuiltinCall id args) (fun _ s₁ => wpS (model prog w) A.in1 (b args)
      (fun fin s' => match fin with | .done f => R (.ok f) s' | .again c' => c'.quiet = true ∧ codeS (model prog w) A c' R s') (fun e s' => R (.error e) s') s₁)
      (fun e s' => R (.error e) s') s) : codeS (model prog w) A (.call (.builtin id) args) R s := by
  refine codeS_of_tree rfl ?_
  show wpS _ A.in1 (do checkBuiltinCall id args; again (.builtin id args)) _ _ s
  refine wpS_bindA (wpAny_mono h (fun _ s₁ h₁ => wpS_pure (And.intro (plainId_quiet hq _) (codeS_builtin hok hb ?_))) fun _ _ h' => h')
  rw [Around.under_plainId hq args]
  exact h₁
theorem wpS_exported {a : Addr} {Q : Bool → Shared → Prop} (h : Q false s) : wpS (model prog w) A (Builtin.Bytes.exported (.ref a)) Q E s := fun _ _ _ hc => exported_false hc h
theorem ba_type (x : Addr) (b : Array UInt8) (n : Nat) (h : s.heap.get? x = some { cls := .type "bytearray", data := .bytearray b n }) : s.TypeIs (.ref x) "bytearray" := ⟨_, h, rfl⟩

theorem code_ba_new {Q₁ : Value → Shared → Prop}
    (h : Q₁ (.ref s.heap.objs.size) { s with heap := s.heap.push { cls := .type "bytearray", data := .bytearray #[] } }) :
    codeAny (model prog w) A (.call (.builtin "bytearray.__new__") ⟨[.type "bytearray"], []⟩) (wants Q₁ E) s := by
  refine codeAny_of_tree ?_
  show wpAny _ A.in1 (do checkBuiltinCall "bytearray.__new__" ⟨[.type "bytearray"], []⟩; again (.builtin "bytearray.__new__" ⟨[.type "bytearray"], []⟩)) _ _ s
  refine wpAny_bind (wpAny_of_eq F.ba_newCall (wpAny_pure ⟨plainId_quiet F.ba_plain_new _, codeAny_builtin_stack F.ba_entry_new rfl fun p st => ?_⟩))
  rw [Around.under_plainId F.ba_plain_new _]
  have hsub := F.ba_sub
  have hown : ("bytearray.__new__".splitOn ".__new__").headD "" = "bytearray" := by simp +decide [String.splitOn, String.splitOnAux]
  obtain ⟨hp, g, d, tk, os⟩ := s
  simp only [hown]
  wp_walk
  exact h
end

section
variable {prog : Program} {w : World} {A : Around} {E : Value → Shared → Prop} {s : Shared} {h₀ : Heap} {L : Addr} {m : Str → Option Value} {news : List (Addr × Obj)}

theorem ba_init_bind : Builtin.Bytes.bindOptional "bytearray.__init__" "bytearray" ["source", "encoding", "errors"] [] [] = pure [none, none, none] := by kernel_rfl
theorem ba_release : typeLookup (.type "bytearray") "__release_buffer__" = pure (some (.builtin "bytearray.__release_buffer__")) := by rw [typeLookup_type, builtinLookup_eq_fast]; kernel_rfl

theorem ba_rel_ends : ("bytearray.__release_buffer__".endsWith ("." ++ "__release_buffer__")) = true := by decide +kernel
theorem ba_rel_drop : "bytearray.__release_buffer__".dropRight ("__release_buffer__".length + 1) = "bytearray" := by decide +kernel
theorem ba_ownRelease {x : Value} {Q : Bool → Shared → Prop} (hT : s.TypeIs x "bytearray") (h : Q false s) : wpAny (model prog w) A (Builtin.Bytes.ownRelease x) Q E s := by
  unfold Builtin.Bytes.ownRelease Builtin.Bytes.slotIsOwn
  refine wpAny_bind (wpAny_bind (wpAny_specialOf hT ba_release ?_))
  dsimp only
  rw [ba_rel_ends, ba_rel_drop]
  simp only [Bool.not_true, Bool.false_eq_true, if_false]
  exact wpAny_isInstance hT F.ba_sub (wpAny_pure h)
theorem ba_notExported {a : Addr} {b : Array UInt8} {Q : Bool → Shared → Prop} (hg : s.heap.get? a = some { cls := .type "bytearray", data := .bytearray b }) (h : Q false s) :
    wpS (model prog w) A (Builtin.Bytes.exported (.ref a) <||> (do return (← Builtin.Bytes.exportsOf (.ref a)) > 0)) Q E s := by
  show wpS _ _ (do let x ← Builtin.Bytes.exported (.ref a); match toBool x with | true => pure x | false => (do return (← Builtin.Bytes.exportsOf (.ref a)) > 0)) _ _ _
  refine wpS_bind (wpS_exported (wpS_of_any ?_))
  show wpAny _ _ (do return decide ((← Builtin.Bytes.exportsOf (.ref a)) > 0)) _ _ _
  unfold Builtin.Bytes.exportsOf
  exact wpAny_bind (wpAny_bind (wpAny_load hg (wpAny_pure (wpAny_pure h))))
theorem ba_write {a : Addr} {b : Array UInt8} {f : Array UInt8 → Array UInt8} {Q : Unit → Shared → Prop} (hg : s.heap.get? a = some { cls := .type "bytearray", data := .bytearray b }) (hz : (f b).size ≤ sizeLine)
    (h : Q () { s with heap := s.heap.update a (Obj.mapBytearray f) }) : wpAny (model prog w) A (Builtin.Bytes.write (.ref a) f) Q E s := by
  show wpAny _ _ (updateBytearray a f) _ _ _
  unfold updateBytearray
  refine wpAny_bind (wpAny_load hg ?_)
  show wpAny _ _ (update a (Obj.mapBytearray f) >>= fun _ => lookBehind a) _ _ _
  refine wpAny_bind (wpAny_update hg ?_)
  refine wpAny_lookBehind (Heap.get?_update_self (Obj.mapBytearray f) hg rfl) ?_ h
  show (if (f b).size > sizeLine then some "bytearray:memory" else none) = none
  rw [if_neg (Nat.not_lt.mpr hz)]
/-- the empty bytearray is made -/
theorem new_ba {Q : Value → Shared → Prop} 
    (h : ∀ h', (∀ b o, s.heap.get? b = some o → h'.get? b = some o) → h'.get? s.heap.objs.size = some { cls := .type "bytearray", data := .bytearray #[] } → Q (.ref s.heap.objs.size) { s with heap := h' }) :
    wpS (model prog w) A (call (.type "bytearray") []) Q E s := by
  refine wpS_call (codeS_of_tree rfl ?_)
  show wpS _ _ (callAny (.type "bytearray") _) _ _ _
  refine wpS_pure ⟨Code.quiet_builtin _ (by decide +kernel), codeS_builtin (by decide +kernel) F.entry_type_call ?_⟩
  rw [Around.under_plain (weight_type_call_type "bytearray" [] []) rfl]
  have h1 := F.ba_called.notType
  have h2 := F.ba_called.canCreate
  have h3 := F.ba_called.made
  unfold Builtin.«type.__call__»
  simp only [F.ba_mro, F.ba_typeCall, h3, pure_bind, h1, h2, Bool.false_eq_true, if_false, List.isEmpty_cons]
  refine wpS_bindA (wpAny_holding (wpAny_call (code_ba_new ?_)))
  try dsimp only
  have hg : (s.heap.push { cls := .type "bytearray", data := .bytearray #[] }).get? s.heap.objs.size = some { cls := .type "bytearray", data := .bytearray #[] } := Heap.get?_push_size _ rfl
  have hT : ({ s with heap := s.heap.push { cls := .type "bytearray", data := .bytearray #[] } } : Shared).TypeIs (.ref s.heap.objs.size) "bytearray" := ⟨_, hg, rfl⟩
  refine wpS_bindA (wpAny_isInstance hT F.ba_sub ?_)
  simp only [Bool.not_true, Bool.false_eq_true, if_false]
  refine wpS_bind (wpS_holding ?_)
  unfold callSpecial?
  refine wpS_bindA (wpAny_specialOf hT F.ba_slot_init.lookup ?_)
  dsimp only
  refine wpS_holding ?_
  rw [F.ba_slot_init.bind]
  refine wpS_bindA (wpAny_pure ?_)
  refine wpS_bind (wpS_mono (Q := fun v s' => v = .none ∧ ∃ h', s' = { s with heap := h' } ∧ (∀ b o, s.heap.get? b = some o → h'.get? b = some o) ∧ h'.get? s.heap.objs.size = some { cls := .type "bytearray", data := .bytearray #[] }) (E := E) ?_ (fun v s' hv => ?_) fun _ _ x => x)
  · refine wpS_call (codeS_call_builtin (F.ba_ok_init _) F.ba_plain_init F.ba_entry_init ?_)
    refine F.ba_slot_init.check _ _ _ _ _ _ _ _ hT (F.ba_args_init _) ?_
    unfold Builtin.«bytearray.__init__»
    dsimp only [List.append_nil]
    refine wpS_bindA (ba_ownRelease hT ?_)
    refine wpS_of_eq (if_neg Bool.false_ne_true) ?_
    refine wpS_bindA (wpAny_of_eq ba_init_bind ?_)
    refine wpS_bindA (wpAny_of_eq (a := ()) rfl ?_)
    refine wpS_bindA (wpAny_of_eq (a := ()) rfl ?_)
    refine wpS_bind (ba_notExported hg ?_)
    refine wpS_of_eq (if_neg Bool.false_ne_true) ?_
    refine wpS_bindA (ba_write hg (by decide) ?_)
    dsimp only
    refine wpS_of_any (wpAny_bind (wpAny_of_eq (a := ()) rfl ?_))
    refine wpAny_pure ⟨rfl, _, rfl, fun b o e => ?_, Heap.get?_update_self (Obj.mapBytearray fun _ => #[]) hg rfl⟩
    exact (Heap.get?_update_other _ _ (Nat.ne_of_gt (Heap.lt_size e))).trans (Heap.get?_push_of_some _ e)
  · obtain ⟨rfl, h', rfl, k1, k2⟩ := hv
    refine wpS_pure ?_
    dsimp only
    exact wpS_pure (h h' k1 k2)

theorem ba_slot_append : Slot "bytearray" "append" "bytearray.append" :=
  .of (owner := "bytearray") (n := "append") (by rw [typeLookup_type, builtinLookup_eq_fast]; kernel_rfl) (by decide +kernel) (by decide +kernel) (by decide +kernel)
    (by first | exact .inl (by decide +kernel) | exact .inr (by decide +kernel)) (by rw [isSubtype_type]; kernel_rfl)

/-- a byte is laid at a bytearray's end -/
theorem append_ba {a : Addr} {b : Array UInt8} {c : Int} {t : Tok} {Q : Value → Shared → Prop} (hg : s.heap.get? a = some { cls := .type "bytearray", data := .bytearray b }) (h0 : 0 ≤ c) (h1 : c < 256) (hz : b.size < sizeLine)
    (h : Q .none { s with heap := s.heap.update a (Obj.mapBytearray (·.push c.toNat.toUInt8)) }) :
    wpS (model prog w) A (call (.builtin "bytearray.append") [.ref a, .int c t]) Q E s := by
  have hT : s.TypeIs (.ref a) "bytearray" := ⟨_, hg, rfl⟩
  refine wpS_call (codeS_call_builtin (F.ba_ok_append _) F.ba_plain_append F.ba_entry_append ?_)
  refine ba_slot_append.check _ _ _ _ _ _ _ _ hT (F.ba_args_append _ _) ?_
  unfold Builtin.«bytearray.append»
  refine wpS_bindA (wpAny_of_eq (a := (.ref a, .int c t)) rfl ?_)
  dsimp only
  refine wpS_bindA ?_
  · unfold Builtin.Bytes.byteValue
    refine wpAny_bind (wpAny_of_eq (rfl : asIndex (.int c t) = pure c) ?_)
    refine bm_if_false (by simp only [Bool.or_eq_false_iff, decide_eq_false_iff_not]; omega) ?_
    refine wpAny_pure ?_
    unfold Builtin.Bytes.checkResize
    refine wpS_bind (wpS_bind (ba_notExported hg ?_))
    refine wpS_of_eq (if_neg Bool.false_ne_true) (wpS_pure ?_)
    refine wpS_of_any (wpAny_bind (ba_write hg ?_ (wpAny_pure ?_)))
    · rw [Array.size_push]; exact hz
    · exact h
end
end Mine
end BA0part

section BBpart
open PySem PySem.W PyProof.Rows
set_option maxRecDepth 100000
namespace Mine
namespace F
theorem ba_no_bytes : typeLookup (.type "bytearray") "__bytes__" = pure none := by rw [typeLookup_type, builtinLookup_eq_fast]; kernel_rfl
theorem ba_no_index : typeLookup (.type "bytearray") "__index__" = pure none := by rw [typeLookup_type, builtinLookup_eq_fast]; kernel_rfl
theorem ba_buffer : typeLookup (.type "bytearray") "__buffer__" = pure (some (.builtin "bytearray.__buffer__")) := by rw [typeLookup_type, builtinLookup_eq_fast]; kernel_rfl
theorem ba_buf_ends : ("bytearray.__buffer__".endsWith ("." ++ "__buffer__")) = true := by decide +kernel
theorem ba_buf_drop : "bytearray.__buffer__".dropRight ("__buffer__".length + 1) = "bytearray" := by decide +kernel
end F
section
variable {prog : Program} {w : World} {A : Around} {E : Value → Shared → Prop} {s : Shared}
theorem code_bytes_new {a : Addr} {b : Array UInt8} {Q : Value → Shared → Prop} (hg : s.heap.get? a = some { cls := .type "bytearray", data := .bytearray b }) (hz : b.size ≤ sizeLine)
    (h : Q (.bytes b s.toks) { s with toks := s.toks + 1 }) :
    codeAny (model prog w) A (.call (.builtin "bytes.__new__") ⟨[.type "bytes", .ref a], []⟩) (wants Q E) s := by
  refine codeAny_of_tree ?_
  show wpAny _ A.in1 (do checkBuiltinCall "bytes.__new__" ⟨[.type "bytes", .ref a], []⟩; again (.builtin "bytes.__new__" ⟨[.type "bytes", .ref a], []⟩)) _ _ s
  refine wpAny_bind (wpAny_of_eq (_root_.PySem.F.bm_newCall _) (wpAny_pure ⟨plainId_quiet _root_.PySem.F.bm_plain _, codeAny_builtin _root_.PySem.F.bm_entry ?_⟩))
  rw [Around.under_plainId _root_.PySem.F.bm_plain _]
  have hT : s.TypeIs (.ref a) "bytearray" := ⟨_, hg, rfl⟩
  unfold Builtin.«bytes.__new__»
  refine wpAny_bind (wpAny_of_eq (a := true) rfl ?_)
  refine bm_if_false rfl ?_
  refine wpAny_bind (wpAny_of_eq _root_.PySem.F.bm_sub ?_)
  refine bm_if_false rfl ?_
  refine wpAny_bind (wpAny_of_eq (_root_.PySem.F.bm_bind _) ?_)
  refine wpAny_bind (wpAny_of_eq (a := ()) rfl ?_)
  refine wpAny_bind (wpAny_of_eq (a := ()) rfl ?_)
  refine bm_if_false rfl ?_
  refine wpAny_bind (wpAny_specialOf hT F.ba_no_bytes ?_)
  refine wpAny_bind (wpAny_bind ?_)
  show wpAny _ _ (load a >>= _) _ _ _
  refine wpAny_bind (wpAny_load hg ?_)
  refine wpAny_pure (wpAny_pure ?_)
  refine bm_if_false rfl ?_
  refine wpAny_bind (wpAny_specialOf hT F.ba_no_index ?_)
  refine bm_if_true rfl ?_
  first
    | show wpAny _ _ (Builtin.Bytes.buffer? "bytes.__new__" (.ref a) true >>= _) _ _ _
    | (refine wpAny_bind ?_; show wpAny _ _ (Builtin.Bytes.buffer? "bytes.__new__" (.ref a) true >>= _) _ _ _)
  refine wpAny_bind ?_
  unfold Builtin.Bytes.buffer?
  refine wpAny_bind (wpAny_specialOf hT F.ba_buffer ?_)
  try dsimp only
  refine wpAny_bind ?_
  unfold Builtin.Bytes.slotIsOwn
  refine wpAny_bind (wpAny_specialOf hT F.ba_buffer ?_)
  try dsimp only
  rw [F.ba_buf_ends, F.ba_buf_drop]
  refine bm_if_false rfl ?_
  refine wpAny_isInstance hT F.ba_sub ?_
  refine bm_if_false rfl ?_
  refine wpAny_bind (wpAny_specialOf hT F.ba_buffer ?_)
  try dsimp only
  refine wpAny_bind (ba_ownRelease hT ?_)
  refine bm_if_false rfl ?_
  refine wpAny_bind ?_
  unfold Builtin.Bytes.payload Builtin.Bytes.payload?
  refine wpAny_bind (wpAny_bind (wpAny_load hg (wpAny_pure (wpAny_pure (wpAny_pure ?_)))))
  try dsimp only
  refine wpAny_bind (wpAny_rule (wpAny_bind (wpAny_mkBytes ?_ hz)))
  show wpAny _ _ (if (Value.type "bytes" == Value.type "bytes") = true then _ else _) _ _ _
  refine bm_if_true (by decide) ?_
  first
    | exact wpAny_pure h
    | exact wpAny_bind (wpAny_pure (wpAny_pure h))
/-- bytes(a bytearray) -/
theorem bytes_of_ba {a : Addr} {b : Array UInt8} {Q : Value → Shared → Prop} (hg : s.heap.get? a = some { cls := .type "bytearray", data := .bytearray b }) (hz : b.size ≤ sizeLine)
    (h : Q (.bytes b s.toks) { s with toks := s.toks + 1 }) : wpAny (model prog w) A (call (.type "bytes") [.ref a]) Q E s := by
  refine callType_codes (Q₁ := fun obj s₁ => s₁.TypeIs obj "bytes" ∧ Q obj s₁) _root_.PySem.F.bm_called (_root_.PySem.F.bm_typeCall _) _root_.PySem.F.entry_object_init
    (code_bytes_new hg hz ⟨PySem.W.typeIs_bytes _ _ _, h⟩) fun obj s₁ h₁ => ?_
  exact ⟨h₁.1, _root_.PySem.F.args_object_init_2 obj _, object_init_meets _root_.PySem.F.bm_called.init.lookup _root_.PySem.F.bm_called.made (by decide) prog w A.in1 _ s₁ ⟨h₁.1, rfl, h₁.2⟩⟩
end
end Mine
end BBpart

section HdSpart
open PySem PySem.W PyProof.Rows
namespace Mine
open Sem (wp)

/-- the claim's own thread: the stack below the tree is the caller alone, which is clean -/
theorem caller_clean : Clean (⟨.builtin "claim.caller" {}, none, none, [], none⟩ : Ctx) := ⟨by decide +kernel, fun x hx => nomatch hx⟩

theorem thread_ends_S {prog : Program} {w : World} {t : Sem Fin} {s : Shared} {R : Result → Shared → Prop} (hreg : s.asleep)
    (h : wpS (model prog w) callerA t (fun fin s' => ∃ f, fin = .done f ∧ (R (.ok f) s' ∧ leftWithCleanup s'.gens = false)) (fun e s' => R (.error e) s' ∧ leftWithCleanup s'.gens = false) s) :
    ∃ n r s' s'', runN (denote table) prog w n s ⟨t, .builtin "claim.caller" {}, default, []⟩ = .halted (outcomeOf r) s' ∧
      schedN (denote table) prog w n (.single s ⟨t, .builtin "claim.caller" {}, default, []⟩) = .halted (outcomeOf r) s' ∧ s'.forget = s''.forget ∧ R r s'' := by
  have hw : wp (model prog w) ⟨.builtin "claim.caller" {}, none, none, [], none⟩ t
      (Sem.finPost (model prog w) ⟨.builtin "claim.caller" {}, none, none, [], none⟩ fun r s' => R r s' ∧ leftWithCleanup s'.gens = false)
      (fun e _ s' => R (.error e) s' ∧ leftWithCleanup s'.gens = false) default s := by
    refine Sem.wp_mono _ _ t (fun fin p' s' h' => ?_) (fun _ _ _ h' => h') default s (h _ default caller_in caller_clean)
    obtain ⟨f, rfl, hf⟩ := h'
    exact hf
  obtain ⟨n, r, s₁, s₂, hs, hn, hfo, hR⟩ := wp_halts_full (M := model prog w) (R := R) hreg hw
  exact ⟨n, r, s₂, s₁, hn, hs, hfo, hR⟩

theorem callFrom_S {c : ClaimW} {tree : List Value → Sem Fin} {w : World} {s : Shared} {free : Addr → Prop} {gens : Prop} {kept : Heap → Prop} (hz : s.asleep) (hgens : s.gens = #[])
    (hspec : ∀ args, c.pre args = true → WData.layableAll args = true →
      ∀ ord : List DictEntry → List DictEntry, (∀ l, (ord l).Perm l) →
      ∃ vs s₁, layAllW c.records (classAt s.heap) w.params ord args s = some (vs, s₁) ∧
        wpS (model c.prog w) callerA (tree vs) (fun fin s' => ∃ f, fin = .done f ∧ (c.Ends s args vs s₁ (.ok f) s' ∧ s'.os = s.os ∧ AllBare s'.gens ∧ kept s'.heap))
          (fun e s' => c.Ends s args vs s₁ (.error e) s' ∧ s'.os = s.os ∧ AllBare s'.gens ∧ kept s'.heap) s₁) :
    c.CallFrom (fun vs => ⟨tree vs, .builtin "claim.caller" {}, default, []⟩) w free gens kept s := by
  intro args hpre hlay ord hord
  obtain ⟨vs, s₁, hlaid, hcode⟩ := hspec args hpre hlay ord hord
  have hal := layAllW_rest _ _ _ hlaid
  obtain ⟨k, r, s', s'', hrun, hsched, hfo, hcase, hos, hkp⟩ := thread_ends_S (prog := c.prog) (w := w) (t := tree vs) (s := s₁)
    (R := fun r s' => c.Ends s args vs s₁ r s' ∧ s'.os = s.os ∧ kept s'.heap)
    (Shared.asleep_of_life hal.2.2.2 hz)
    (wpS_mono hcode (fun fin s' x => let ⟨f, e, h1, h2, h3, h4⟩ := x; ⟨f, e, ⟨h1, h2, h4⟩, leftWithCleanup_false_of_bare h3⟩)
      (fun e s' x => let ⟨h1, h2, h3, h4⟩ := x; ⟨⟨h1, h2, h4⟩, leftWithCleanup_false_of_bare h3⟩))
  obtain ⟨eh, _, _, eo, _⟩ := Shared.forget_eq hfo
  have hcase := hcase.congr eh
  rw [← eh] at hkp
  rw [← eo] at hos
  have hlife : s'.heap.life = s.heap.life := (runN_life _ _ _ hrun).trans hal.2.2.2
  refine ⟨vs, s₁, hlaid, k, _, s', hsched, ?_, (fun _ i x hx => by rw [hgens] at hx; simp at hx), hkp, by rw [hlife], Shared.rest_eq hos⟩
  rcases hcase with ⟨v, rfl, d1, d2, d3, d4, d5⟩ | ⟨e, ob, cls, rfl, d1, d2, d3, d4, d5⟩
  · exact .inl ⟨v, rfl, d1, d2, d3, fun b o y _ => d4 b o y, d5⟩
  · exact .inr ⟨e, ob, cls, rfl, d1, d2, d3, d4, fun b o y _ => d5 b o y⟩

/-- what is to be shown of the law's call: on a clean stack alone -/
abbrev WalkS (q : Program) (loose : List Str) (XP : (Str → Option Value) → Heap → Prop) (YP : World → Heap → Prop) (r : RowW) (d : DefRec) (kwd : List (Str × Expr)) : Prop :=
  ∀ (w : World) (s₀ s₁ : Shared) (mg mb : Str → Option Value), Ground q loose r.records XP w s₀ mg mb s₁.heap → YP w s₁.heap → ∀ (a : Addr) (o : Obj) (pm cd doc dV kV : Value), s₁.heap.get? a = some o →
    o.data = .func { Calls.docDef d.name d.params d.body d.scope pm cd doc with defaults := dV, kwdefaults := kV } → s₁.heap.CodeRec cd d.name → Dflts mg s₁.heap d.params kwd dV kV → mg d.name = some (.ref a) → s₁.gens = #[] →
    ∀ (args : List WData) (vals : List Value) (as : List Addr), r.claim.pre args = true → WData.layableAll args = true → ReadsAllW r.records (classAt s₀.heap) s₁.heap vals args as → WellAll w.params s₁.heap vals args → (∀ a ∈ as, (a == sysModules) = false) →
      wpS (model r.prog w) callerA (PySem.call (.ref a) vals) (fun v s' => GoodWG r.claim (classAt s₀.heap) (ExcName.means s₀.heap) args s₁ (.ok (.ret v)) s')
        (fun e s' => GoodWG r.claim (classAt s₀.heap) (ExcName.means s₀.heap) args s₁ (.error e) s') s₁

end Mine

namespace Mine.PySem.W
open _root_.PySem _root_.PySem.W PyProof.Rows Mine
/-- the head: as the library's, but the call is walked where it is made -/
theorem holds_open {r : OpenRow} {q : Program} {loose : List Str} {Xt : Shared → Bool} {XP : (Str → Option Value) → Heap → Prop} {α : Type} {Yf : Shared → α} {Ya : World → α} {YP : World → Heap → Prop} {d : DefRec} {kwd : List (Str × Expr)} {N : Nat}
    (left : LeftO r.prog q loose Xt Yf Ya N) (hY : ∀ w s, Yf s = Ya w → YP w s.heap) (hYk : ∀ w h h', YP w h → (∀ b o, h.get? b = some o → h'.get? b = some o) → YP w h')
    (hX : ∀ s, Xt s = true → XP (s.heap.nsMap mainGlobals) s.heap) (hXk : ∀ mg h h', XP mg h → (∀ b o, h.get? b = some o → h'.get? b = some o) → XP mg h')
    (hdef : defOf q r.name = some (d, kwd)) (hp : r.prog.theDef r.name = some (d.params, d.body, d.scope)) (hk : kwWritten? d.params.kwonlyargs d.params.kw_defaults = some kwd) (hRf : ∀ s, Xt s = true → RecFacts r.records s.heap) (hwr : (!r.writes || r.records.isEmpty) = true)
    (k1 : r.wellSaid = true) (ok : (chainsOk q && opensWell r.prog && (frees r.toRowW && r.within.isEmpty)) = true) (hb : r.prog.bare) (hw : r.toRowW.promised)
    (call : WalkS q loose XP YP r.toRowW d kwd) : r.Holds := by
  refine ⟨k1, hw, ?_⟩
  obtain ⟨ok, k5⟩ := Bool.and_eq_true_iff.mp ok
  obtain ⟨hch, o1⟩ := Bool.and_eq_true_iff.mp ok
  obtain ⟨k5, k6⟩ := Bool.and_eq_true_iff.mp k5
  obtain ⟨hsame, hu, ha, hap, hm⟩ := frees_parts k5
  refine ⟨⟨hb, o1, by show r.makers.map _ = []; rw [hm]; rfl⟩, hw.witness, fun w => ⟨(left.behind hX hch w).1, fun s' hs' => ?_⟩⟩
  obtain ⟨s₀, hf, hg0, s, hT, hz, hgens, hg, G00, y⟩ := (left.behind (XP := fun mg h => XP mg h ∧ RecFacts r.records h) (fun s hs => ⟨hX s hs, hRf s hs⟩) hch w).2 s' hs'
  have G0 : Ground q loose [] XP w s (s.heap.nsMap mainGlobals) (s.heap.nsMap builtinsNs) s.heap := ⟨G00.T, G00.B, G00.D, G00.TE, G00.TD, G00.W, G00.X.1, G00.cls, G00.has, G00.apart, G00.once, G00.K⟩
  have RF := G00.X.2
  have pin : ∀ n ∈ (if r.pinned then [r.name] else []), isTheDefsW r.prog s.heap n := fun n hn => by
    obtain rfl : n = r.name := by split at hn <;> simp_all
    exact pinned_of_view hg G0 hdef hp hk
  refine ⟨s₀, hf, hg0, s, hT, pin, RF.1, RF.2.1, ?_⟩
  have hgens : s.gens = #[] := Array.eq_empty_of_size_eq_zero (beq_iff_eq.mp hgens)
  have G : Ground q loose r.records XP w s _ _ s.heap := RF.ground G0
  refine callFrom_S (c := r.toRowW.claim) (tree := fun vs => do match ← nsGet mainNs r.name with
      | some f => do ret (← _root_.PySem.call f vs)
      | none => unsupported "claim.caller:no-such-global") hz hgens fun args hpre hlay ord hord => ?_
  obtain ⟨⟨vs, s₁⟩, hlaid⟩ := Option.isSome_iff_exists.mp (layAllW_isSome (P := w.params) (ord := ord) G.has args r.args s (pre_splitW hpre).1)
  have keeps := layAllW_keeps _ _ _ hlaid
  have hal := layAllW_rest _ _ _ hlaid
  obtain ⟨as, hrd, hin, hold⟩ := reads_layAllW hord _ _ _ hlaid hlay s₁.heap (fun _ _ e => e)
  have L : Laid r.records w s s₁ args vs as := ⟨⟨ord, hord, hlaid⟩, hrd, hin, hold, keeps, hal.1.trans hgens, hal.2.2.1⟩
  have G₁ := G.keeps hXk keeps
  obtain ⟨a, o, pm, cd, doc, dV, kV, h1, h2, h3, h4, h5⟩ := G₁.fn hdef
  have h := call w s s₁ _ _ G₁ (hYk _ _ _ (hY w s y) keeps) a o pm cd doc dV kV h2 h3 h4 h5 (defOf_name hdef ▸ h1) L.gens args vs as hpre hlay L.reads L.well (L.low G.low)
  have hi := ident_freeW hu ha hap
  have hwi : r.toRowW.claim.within = [] := List.isEmpty_iff.mp k6
  have ends : ∀ res s', GoodWG r.toRowW.claim (classAt s.heap) (ExcName.means s.heap) args s₁ res s' → r.toRowW.claim.Ends s args vs s₁ res s' ∧ s'.os = s.os ∧ AllBare s'.gens ∧
      (r.writes = true → namesKept r.toRowW.claim.prog r.keeps s.heap s'.heap ∧ ∀ x ∈ r.toRowW.claim.records, ∀ a, classAt s.heap x.1 = some a → recordClass s'.heap a x.1 (x.2.map (·.1)) = true) := fun res s' g =>
    have z := g.laid (c := r.toRowW.claim) hsame hwi hi L
    ⟨z.1, z.2.1, z.2.2, fun q => ⟨namesKept_of hT hg r.keeps keeps g.2.1.old, noTable hwr q⟩⟩
  refine ⟨vs, s₁, hlaid, wpS_bindA (wpAny_nsGet G₁.T.g ?_)⟩
  rw [h1]
  exact wpS_bind (wpS_mono h (fun v s' g => wpS_pure ⟨_, rfl, ends _ _ g⟩) fun e s' g => ends _ _ g)
end Mine.PySem.W
namespace Mine
set_option maxRecDepth 100000 in
set_option maxHeartbeats 8000000 in
open_top hd for _root_.PySem.Challenge.rw_xc0042_01
end Mine
end HdSpart

section CTpart
open PySem PySem.W PyProof.Rows
namespace Mine

theorem fill_now : (fun (_ : OpenLaw) (_ : Params → Frag) => True) _root_.PySem.Challenge.rw_xc0042_01 hd.heap_39 := by
  k_fill
  trivial

/-- the threshold -/
def Tv (j b : Int) : Int := if 36 * (j + 1) - b < 1 then 1 else if 26 < 36 * (j + 1) - b then 26 else 36 * (j + 1) - b
theorem Tv_lo (j b : Int) : 1 ≤ Tv j b := by unfold Tv; split <;> (try split) <;> omega
theorem Tv_hi (j b : Int) : Tv j b ≤ 26 := by unfold Tv; split <;> (try split) <;> omega

def Ct (w : World) (f : Addr) (news : CbLed) (pre : Prop) (vs : List Value) (R : CbTok → Value) : Prop :=
  ∀ (mean : ExcName → Option Value) (mg mb : Str → Option Value),
    CbClaim _root_.PySem.Challenge.rw_xc0042_01.row.prog w (hd.heap_39 w.params) hd.view_39 (looseW hd.view_39 []) mean mg mb f news [] pre vs R

set_option maxRecDepth 100000 in
set_option maxHeartbeats 8000000 in
theorem T_ct (w : World) (news : CbLed) (j : Int) (tj : CbTok) (b : Int) (tb : CbTok) :
    Ct w 21 news True [.int j tj, .int b tb] (fun t => .int (Tv j b) t) := by
  unfold Ct
  dsimp only [CbClaim, CbLists, CbRet]
  intros
  rename_i hret
  refine wpAny_call ?_
  k_dflt cell_enter
  k_steps
  all_goals (refine cb_retI hret ?_ (by assumption) (by assumption); simp only [decide_eq_true_eq, decide_eq_false_iff_not] at *; unfold Tv; (repeat' split) <;> omega)

/-- T's value, once -/
theorem T_use {w : World} {mean : ExcName → Option Value} {mg mb : Str → Option Value} {dp un : Nat} {gd : Option (List Code)} {cn : Str} {cs : Scope} {a : Addr} {ccd : Value} {cl : List (Str × Addr)} {outer : List Env} {A₀ : Around} {base h₀ : Heap} {L : Addr} {m : Str → Option Value} {s : Shared} {news : List (Addr × Obj)}
    {Q E : Value → Shared → Prop} {j b : Int} {tj tb : Tok} (B : Below A₀ base outer h₀) (F : Fr h₀ L s.heap m) (X : (hd.heap_39 w.params).In h₀) (N : News h₀ L s.heap news) (T : Top hd.view_39 (looseW hd.view_39 []) mean mg mb h₀) (hk : cs.kind = .function)
    (hd : dp + 1 < recursionLimit) (hu : un + 8 < cLine) (hret : ∀ (t : Tok) (h' : Heap) (tk' : Nat), Fr h₀ L h' m → News h₀ L h' news → Q (.int (Tv j b) t) { s with heap := h', toks := tk' }) :
    wpAny (model _root_.PySem.Challenge.rw_xc0042_01.row.prog w) (ktrTop dp un gd cn cs L a ccd cl outer) (call (.ref 21) [.int j tj, .int b tb]) Q E s :=
  T_ct w news j tj b tb mean mg mb dp un gd cn cs a ccd cl outer A₀ base h₀ L m s Q E B F X N T hk trivial hd hu hret
end Mine
end CTpart

section PLpart
open PySem PySem.W PyProof.Rows
namespace Mine

/-- a digit's sign, small -/
def sgn (d : Int) : UInt8 := if d < 26 then (97 + d.toNat).toUInt8 else (22 + d.toNat).toUInt8
/-- the number told, by a purse of turns -/
noncomputable def genL : Nat → Int → Int → Int → List UInt8
  | 0, _, _, _ => []
  | f + 1, N, j, b => if N < Tv j b then [sgn N] else sgn (Tv j b + (N - Tv j b) % (36 - Tv j b)) :: genL f ((N - Tv j b) / (36 - Tv j b)) (j + 1) b
noncomputable def gen (N b : Int) : Array UInt8 := (genL 42 N 0 b).toArray

theorem genL_stop {f : Nat} {N j b : Int} (h : N < Tv j b) : genL (f + 1) N j b = [sgn N] := by simp [genL, h]
theorem genL_go {f : Nat} {N j b : Int} (h : ¬ N < Tv j b) : genL (f + 1) N j b = sgn (Tv j b + (N - Tv j b) % (36 - Tv j b)) :: genL f ((N - Tv j b) / (36 - Tv j b)) (j + 1) b := by simp [genL, h]

/-- what is left after a turn is a tenth -/
theorem left_lt {f : Nat} {N j b : Int} (h : ¬ N < Tv j b) (hN : N < 10 ^ f) : ∃ g, f = g + 1 ∧ 0 ≤ (N - Tv j b) / (36 - Tv j b) ∧ (N - Tv j b) / (36 - Tv j b) < 10 ^ g := by
  have h1 := Tv_lo j b
  have h2 := Tv_hi j b
  cases f with
  | zero => exfalso; simp at hN; omega
  | succ g =>
    refine ⟨g, rfl, Int.ediv_nonneg (by omega) (by omega), ?_⟩
    rw [Int.pow_succ] at hN
    refine Int.ediv_lt_of_lt_mul (by omega) ?_
    have hp : (0 : Int) < 10 ^ g := Int.pow_pos (by decide)
    have h3 : (10 : Int) ^ g * 10 ≤ 10 ^ g * (36 - Tv j b) := Int.mul_le_mul_of_nonneg_left (by omega) (by omega)
    omega

abbrev digitsB : Array UInt8 := #[97, 98, 99, 100, 101, 102, 103, 104, 105, 106, 107, 108, 109, 110, 111, 112, 113, 114, 115, 116, 117, 118, 119, 120, 121, 122, 48, 49, 50, 51, 52, 53, 54, 55, 56, 57]
theorem digit_at {d : Int} (h0 : 0 ≤ d) (h1 : d < 36) : digitsB[d.toNat]? = some (sgn d) := by
  have h : d = 0 ∨ d = 1 ∨ d = 2 ∨ d = 3 ∨ d = 4 ∨ d = 5 ∨ d = 6 ∨ d = 7 ∨ d = 8 ∨ d = 9 ∨ d = 10 ∨ d = 11 ∨ d = 12 ∨ d = 13 ∨ d = 14 ∨ d = 15 ∨ d = 16 ∨ d = 17 ∨ d = 18 ∨ d = 19 ∨ d = 20 ∨ d = 21 ∨ d = 22 ∨ d = 23 ∨ d = 24 ∨ d = 25 ∨ d = 26 ∨ d = 27 ∨ d = 28 ∨ d = 29 ∨ d = 30 ∨ d = 31 ∨ d = 32 ∨ d = 33 ∨ d = 34 ∨ d = 35 := by omega
  rcases h with h | h | h | h | h | h | h | h | h | h | h | h | h | h | h | h | h | h | h | h | h | h | h | h | h | h | h | h | h | h | h | h | h | h | h | h <;> subst h <;> decide +kernel
end Mine
end PLpart

section GNpart
open PySem PySem.W PyProof.Rows
namespace Mine
theorem fill_gn : (fun (_ : OpenLaw) (_ : Params → Frag) => True) _root_.PySem.Challenge.rw_xc0042_01 hd.heap_39 := by
  k_fill
  trivial

section
variable {prog : Program} {w : World} {A : Around} {E : Value → Shared → Prop} {s : Shared} {env : Env}
theorem wpS_CallName {x : Str} {p1 pos : Pos} {args : List Expr} {Q : Value → Shared → Prop}
    (h : wpAny (model prog w) A (eval (.Name x p1) env) (fun f s₁ => wpS (model prog w) A (callWith pos f [] (backTo pos (starEach args env)) []) Q E s₁) E s) :
    wpS (model prog w) A (eval (.Call (.Name x p1) args [] pos) env) Q E s := by
  show wpS _ _ (do callWith pos (← eval (.Name x p1) env) [] (backTo pos (starEach args env)) (backToKw pos [])) _ _ _
  exact wpS_bindA h
theorem wpS_methodCall {o : Expr} {name : Str} {apos pos : Pos} {args : List Expr} {pl : Sem Bool} {Q : Value → Shared → Prop}
    (h : wpAny (model prog w) A (eval o env) (fun ov s₁ => wpAny (model prog w) A (getMethod ov name pl) (fun fx s₂ => wpS (model prog w) A (callWith pos fx.1 fx.2 (backTo pos (starEach args env)) []) Q E s₂) E s₁) E s)
    (he : eval (.Call (.Attribute o name apos) args [] pos) env = (do
      let ov ← eval o env
      standAt apos.atName
      let (f, first) ← holding [ov] (getMethod ov name pl)
      callWith pos f first (backTo pos (starEach args env)) []) := by rfl) :
    wpS (model prog w) A (eval (.Call (.Attribute o name apos) args [] pos) env) Q E s := by
  rw [he]
  refine wpS_bindA (wpAny_mono h (fun ov s₁ h₁ => wpS_bindA (wpAny_standAt (wpS_bindA (wpAny_holding (wpAny_mono h₁ (fun fx s₂ h₂ => ?_) fun _ _ x => x))))) fun _ _ x => x)
  exact h₂
theorem wpS_callWith_builtin {id : String} {first : List Value} {pos : Pos} {x : Sem Value} {rest : List (Bool × Sem Value)} {Q : Value → Shared → Prop} (hplain : rest.any (·.1) = false)
    (h : wpAny (model prog w) A (spliced ((false, x) :: rest)) (fun vs s₁ => wpS (model prog w) A (call (.builtin id) (first ++ vs)) Q E s₁) E s) :
    wpS (model prog w) A (callWith pos (.builtin id) first ((false, x) :: rest) []) Q E s := by
  unfold callWith
  refine wpS_bindA (wpAny_holding (Calls.evalArgs_plain (wpAny_mono h (fun vs s₁ h₁ => ?_) fun _ _ x => x)))
  refine wpS_bindA (wpAny_standAt ?_)
  have hp : (((false, x) :: rest).any (·.1) || ([] : List (Option Str × Sem Value)).any (·.1.isNone)) = false := by simpa using hplain
  simp only [hp]
  refine wpS_bindA (wpAny_pure ?_)
  exact wpS_bind (wpS_mono h₁ (fun r s₂ hr => wpS_of_any (wpAny_bind (wpAny_holding (wpAny_point (wpAny_pure hr))))) fun _ _ x => x)
theorem wpS_callWith_b {id : String} {first : List Value} {pos : Pos} {e : Expr} {rest : List Expr} {Q : Value → Shared → Prop}
    (h : wpAny (model prog w) A (spliced (backTo pos (starEach (e :: rest) env))) (fun vs s₁ => wpS (model prog w) A (call (.builtin id) (first ++ vs)) Q E s₁) E s)
    (he : starEach (e :: rest) env = (false, eval e env) :: starEach rest env := by rfl) (hplain : (backTo pos (starEach rest env)).any (·.1) = false := by rfl) :
    wpS (model prog w) A (callWith pos (.builtin id) first (backTo pos (starEach (e :: rest) env)) []) Q E s := by
  rw [he] at h ⊢
  exact wpS_callWith_builtin hplain h
theorem plainAttrs_ba : PlainAttrs "bytearray" :=
  ⟨⟨"bytearray.__getattribute__", by rw [typeLookup_type, builtinLookup_eq_fast]; kernel_rfl, by decide +kernel⟩, by rw [typeLookup_type, builtinLookup_eq_fast]; kernel_rfl⟩
theorem type_ba_append : typeOf (.builtin "bytearray.append") = pure (.type "method_descriptor") := by show builtinType _ = _; rw [builtinType_eq_fast]; kernel_rfl
theorem wpS_callWith_type0 {T : String} {pos : Pos} {Q : Value → Shared → Prop} (h : wpS (model prog w) A (call (.type T) []) Q E s) :
    wpS (model prog w) A (callWith pos (.type T) [] (backTo pos (starEach [] env)) []) Q E s := by
  unfold callWith
  refine wpS_bindA (wpAny_holding ?_)
  show wpAny _ _ (evalArgs (.type T) true [] []) _ _ _
  refine evalArgs_kw_nil rfl ?_
  refine wpAny_evalAll_nil ?_
  refine wpS_bindA (wpAny_standAt ?_)
  refine wpS_bindA (wpAny_pure ?_)
  exact wpS_bind (wpS_mono h (fun r s₂ hr => wpS_of_any (wpAny_bind (wpAny_holding (wpAny_point (wpAny_pure hr))))) fun _ _ x => x)
end

theorem fr_as {h₀ h : Heap} {L : Addr} {u : Str → Option Value} (ps : List (Str × Value)) (F : Fr h₀ L h u) (hp : ∀ p ∈ ps, u p.1 = some p.2) : ∃ u', Fr h₀ L h (kstB u' ps) := by
  refine ⟨u, ?_⟩
  have e : kstB u ps = u := by
    funext z
    exact kstB_eq hp fun _ => rfl
  rw [e]
  exact F
theorem news_new {h₀ h h' : Heap} {L a : Addr} {m : Str → Option Value} {o : Obj} {news : List (Addr × Obj)} (F : Fr h₀ L h m) (N : News h₀ L h news) (ha : a = h.objs.size) (hk : ∀ b x, h.get? b = some x → h'.get? b = some x) (hg : h'.get? a = some o) :
    Fr h₀ L h' m ∧ News h₀ L h' ((a, o) :: news) ∧ ∀ p ∈ news, p.1 ≠ a := by
  subst ha
  refine ⟨⟨F.ns.keeps hk, fun b x e => hk b x (F.keep b x e), F.above⟩, fun p hp => ?_, fun p hp => Nat.ne_of_lt (Heap.lt_size (N p hp).1)⟩
  rcases List.mem_cons.mp hp with rfl | hp
  · refine ⟨hg, Nat.ne_of_gt F.ns.lt, ?_⟩
    cases hq : h₀.get? h.objs.size with
    | none => rfl
    | some x => exact absurd (Heap.lt_size (F.keep _ _ hq)) (Nat.lt_irrefl _)
  · exact ⟨hk _ _ (N p hp).1, (N p hp).2⟩
abbrev baOf (l : List UInt8) : Obj := { cls := .type "bytearray", data := .bytearray l.toArray }

theorem new_baK {prog : Program} {w : World} {A : Around} {E : Value → Shared → Prop} {s : Shared} {h₀ : Heap} {L : Addr} {m : Str → Option Value} {news : List (Addr × Obj)} {Q : Value → Shared → Prop} (F : Fr h₀ L s.heap m) (N : News h₀ L s.heap news)
    (h : ∀ a h', Fr h₀ L h' m → News h₀ L h' ((a, baOf []) :: news) → (∀ p ∈ news, p.1 ≠ a) → Q (.ref a) { s with heap := h' }) : wpS (model prog w) A (call (.type "bytearray") []) Q E s :=
  new_ba fun h' hk hg => let ⟨F', N', hn⟩ := news_new F N rfl hk hg; h _ h' F' N' hn
theorem append_baK {prog : Program} {w : World} {A : Around} {E : Value → Shared → Prop} {s : Shared} {h₀ : Heap} {L a : Addr} {m : Str → Option Value} {news : List (Addr × Obj)} {l : List UInt8} {c : Int} {t : Tok} {Q : Value → Shared → Prop} (F : Fr h₀ L s.heap m) (N : News h₀ L s.heap ((a, baOf l) :: news)) (hn : ∀ p ∈ news, p.1 ≠ a)
    (h0 : 0 ≤ c) (h1 : c < 256) (hz : l.length < 1000)
    (h : ∀ h', Fr h₀ L h' m → News h₀ L h' ((a, baOf (l ++ [c.toNat.toUInt8])) :: news) → Q .none { s with heap := h' }) : wpS (model prog w) A (call (.builtin "bytearray.append") [.ref a, .int c t]) Q E s := by
  refine append_ba (N _ (.head _)).1 h0 h1 (by rw [List.size_toArray, sizeLine_eq]; omega) ?_
  obtain ⟨F', N'⟩ := news_upd (pre := []) (f := Obj.mapBytearray (·.push c.toNat.toUInt8)) (o' := baOf (l ++ [c.toNat.toUInt8])) F N (fun _ hp => nomatch hp) hn (by show Obj.mk _ _ _ _ = Obj.mk _ _ _ _; simp [Obj.mapBytearray]) rfl
  exact h _ F' N'

theorem method_ba {prog : Program} {w : World} {A : Around} {E : Value → Shared → Prop} {s : Shared} {h₀ : Heap} {L a : Addr} {news : List (Addr × Obj)} {l : List UInt8} {pl : Sem Bool} {Q : Value × List Value → Shared → Prop} (N : News h₀ L s.heap ((a, baOf l) :: news)) (h : Q (.builtin "bytearray.append", [.ref a]) s) :
    wpAny (model prog w) A (getMethod (.ref a) "append" pl) Q E s :=
  getMethod_builtin (T := "bytearray") ⟨_, (N _ (.head _)).1, rfl⟩ plainAttrs_ba ba_slot_append type_ba_append (fun b e => by cases e; exact ⟨_, (N _ (.head _)).1, rfl⟩) h

theorem digit_sub {prog : Program} {w : World} {A : Around} {E : Value → Shared → Prop} {s : Shared} {value slice : Expr} {i : Int} {t ui : Tok} {Q : Value → Shared → Prop} (h0 : 0 ≤ i) (h1 : i < 36) (h : Q (.int ((sgn i).toNat : Int) s.toks) { s with toks := s.toks + 1 })
    (hs : subscripted slice false (.bytes digitsB t) (.int i ui) = operate [.bytes digitsB t, .int i ui] (getItem (.bytes digitsB t) (.int i ui)) := by with_unfolding_all rfl)
    (ht : ∀ r, letTemporaryGo value (.bytes digitsB t) r = pure () := by intro _; with_unfolding_all rfl) :
    wpAny (model prog w) A (subscriptTail value slice (.bytes digitsB t) (.int i ui)) Q E s := by
  have e : digitsB = digitsB.toList.toArray := by simp
  have hd := digit_at h0 h1
  have hl : digitsB.toList.length = 36 := by decide
  have hg : digitsB.toList.getD i.toNat 0 = sgn i := by
    rw [List.getD_eq_getElem?_getD, Array.getElem?_toList, hd]; rfl
  rw [e] at hs ht ⊢
  refine KBy.item_N (by rw [hl]; decide) h0 (by rw [hl]; omega) ?_ hs ht
  rw [hg]
  exact h
theorem sgn_back (d : Int) : ((sgn d).toNat : Int).toNat.toUInt8 = sgn d := by simp
theorem sgn_lo (d : Int) : (0 : Int) ≤ ((sgn d).toNat : Int) := by omega
theorem sgn_hi (d : Int) : ((sgn d).toNat : Int) < 256 := by have := (sgn d).toNat_lt; omega

def CtS (w : World) (f : Addr) (news : CbLed) (pre : Prop) (vs : List Value) (R : CbTok → Value) : Prop :=
  ∀ (mean : ExcName → Option Value) (mg mb : Str → Option Value) (dp un : Nat) (gd : Option (List Code)) (cn : Str) (cs : Scope) (a : Addr) (ccd : Value) (cl : List (Str × Addr)) (outer : List Env) (A₀ : Around) (base h₀ : Heap) (L : Addr) (m : Str → Option Value) (s : Shared) (Q E : Value → Shared → Prop),
    Below A₀ base outer h₀ → Fr h₀ L s.heap m → (hd.heap_39 w.params).In h₀ → News h₀ L s.heap news → Top hd.view_39 (looseW hd.view_39 []) mean mg mb h₀ → cs.kind = .function →
    pre → dp + 5 < recursionLimit → un + 60 < cLine → CbRet h₀ L m news s Q R →
      wpS (model _root_.PySem.Challenge.rw_xc0042_01.row.prog w) (ktrTop dp un gd cn cs L a ccd cl outer) (call (.ref f) vs) Q E s

local macro_rules | `(tactic| walk_at "subscriptTail Name Name bytes int") => `(tactic| (refine digit_sub (by omega) (by omega) ?_))
local macro_rules | `(tactic| walk_at "subscriptTail Name BinOp bytes int") => `(tactic| (refine digit_sub (by omega) (by omega) ?_))
local macro_rules | `(tactic| walk_at "getMethod ref") => `(tactic| (refine method_ba (by assumption) ?_; (try dsimp only)))
local macro_rules | `(tactic| walk_at "call ref") => `(tactic| (k_here; (with_reducible show wpAny _ _ (call (Value.ref _) [Value.int _ _, Value.int _ _]) _ _ _); k_dflt (refine' T_use ?k1 ?k2 ?k3 ?k4 ?k5 ?kK ?kd ?ku ?_; (case k1 => k_asm); (case k2 => k_asm); (case k3 => k_asm); (case k4 => k_asm); (case k5 => k_asm); (case kK => first | exact rfl | assumption); (case kd => ktr_room); (case ku => ktr_units); k_whole; intro t9 h9 tk9 F9 N9; (try dsimp only); (try k_fold))))
set_option maxRecDepth 100000 in
set_option maxHeartbeats 8000000 in
theorem gen_ct (w : World) (news : CbLed) (N : Int) (tN : CbTok) (b : Int) (tb : CbTok) :
    CtS w 28 news (0 ≤ N ∧ N < 10 ^ 41) [.int N tN, .int b tb] (fun t => .bytes (gen N b) t) := by
  unfold CtS
  dsimp only [CbRet]
  intro mean mg mb dp un gd cn cs a ccd cl outer A₀ base h₀ L m s Q E B F X Nw T hk hN hd hu hret
  refine wpS_call ?_
  k_dflt (refine' codeS_def ?k1 ?k2 ?k3 ?k4 ?k5 ?kA ?kF ?kK ?k6 ?k7 ?k8 ?k9 ?kB ?_ ?c2 ?c3 ?c4 ?c5; (case kA => exact rfl); (case kF => exact rfl); (case kK => assumption); (case k1 => k_asm); (case k2 => k_asm); (case k3 => k_asm); (case k4 => k_asm); (case k5 => k_asm); (case k6 => k_is); (case k7 => k_is); (case k8 => ktr_room); (case k9 => exact BindsTo.of_eq rfl); (case c5 => decide); (case kB => exact locs rfl); (case c2 => exact rfl); (case c3 => exact rfl); (case c4 => exact rfl); k_whole)
  intro g' L' h' FG' F' N' B' X' T'
  (try dsimp only)
  obtain ⟨u, F1⟩ := fr_as [(Str.ofString "N", .int N tN), (Str.ofString "bias", .int b tb)] F' (by kst_all)
  clear F'
  dsimp only [kstB] at F1
  refine wpS_execs_cons (wpS_Assign_Name (wpS_CallName ?_))
  k_steps
  (rename Fr g' L' _ _ => F1)
  refine wpS_callWith_type0 (new_baK F1 N' fun ra h1 F2 N2 hne => ?_)
  clear F1 N'
  k_steps
  refine wpS_plain ?_
  k_steps
  (try dsimp only)
  (rename Fr g' L' _ _ => F3)
  (rename News g' L' _ _ => N3)
  refine wpS_execs_cons (wpS_While ?_)
  refine codeS_while (fun f s' => ∃ (M j : Int) (l : List UInt8) (tM tj : Tok) (u : Str → Option Value) (h : Heap) (tk : Nat), s' = { s with heap := h, toks := tk } ∧ 0 ≤ M ∧ M < 10 ^ f ∧ l.length + f = 41 ∧ l ++ genL (f + 1) M j b = genL 42 N 0 b ∧
    Fr g' L' h (kstB u [(Str.ofString "N", .int M tM), (Str.ofString "bias", .int b tb), (Str.ofString "result", .ref ra), (Str.ofString "j", .int j tj)]) ∧ News g' L' h ((ra, baOf l) :: news)) ?_ 41 ?_
  · rintro f s₁ ⟨M, j, l, tM, tj, u, h, tk, rfl, hM0, hMf, hlen, hval, F4, N4⟩
    clear F3
    dsimp only [kstB] at F4
    have ht0 := Tv_lo j b
    have ht1 := Tv_hi j b
    have hd0 : 0 ≤ (M - Tv j b).fmod (36 - Tv j b) := Int.fmod_nonneg_of_pos _ (by omega)
    have hd1 : (M - Tv j b).fmod (36 - Tv j b) < 36 - Tv j b := Int.fmod_lt_of_pos _ (by omega)
    k_steps
    refine wpS_plain ?_
    k_steps
    (try dsimp only)
    refine wpS_execs_cons (wpS_If ?_)
    k_steps
    · refine wpS_execs_cons (wpS_Expr (wpS_methodCall ?_))
      k_steps
      refine wpS_callWith_b ?_
      k_steps
      (rename Fr g' L' _ _ => F5)
      (rename News g' L' _ _ => N5)
      refine append_baK F5 N5 hne (sgn_lo _) (sgn_hi _) (by omega) fun h5 F6 N6 => ?_
      clear F5 N5
      dsimp only
      refine wpS_plain ?_
      k_steps
      refine bytes_of_ba (N6 _ (.head _)).1 (by rw [List.size_toArray, List.length_append, List.length_singleton, sizeLine_eq]; omega) ?_
      refine leaveK_ F6 (news' := news) (fun p hp => N6 p (.tail _ hp)) fun F7 N7 => ?_
      dsimp only
      have hv : (l ++ [((sgn M).toNat : Int).toNat.toUInt8]).toArray = gen N b := by
        rw [sgn_back]
        unfold gen
        rw [← hval, genL_stop (by assumption)]
      rw [hv]
      exact hret _ _ _ F7 N7
    · (try dsimp only)
      refine wpS_execs_nil ?_
      (try dsimp only)
      refine wpS_execs_cons (wpS_Expr (wpS_methodCall ?_))
      k_steps
      refine wpS_callWith_b ?_
      k_steps
      (rename Fr g' L' _ _ => F5)
      (rename News g' L' _ _ => N5)
      refine append_baK F5 N5 hne (sgn_lo _) (sgn_hi _) (by omega) fun h5 F6 N6 => ?_
      clear F5 N5
      dsimp only
      refine wpS_plain ?_
      k_steps
      all_goals (first | (exfalso; omega) | skip)
      dsimp only
      refine wpS_plain ?_
      k_steps
      (try dsimp only)
      refine wpS_execs_nil ?_
      dsimp only
      obtain ⟨g, rfl, hq0, hq1⟩ := left_lt (by assumption) hMf
      (rename Fr g' L' _ _ => F7)
      (rename News g' L' _ _ => N7)
      rw [← Int.fdiv_eq_ediv_of_nonneg _ (show (0 : Int) ≤ 36 - Tv j b by omega)] at hq0 hq1
      obtain ⟨u', F8⟩ := fr_as [(Str.ofString "N", .int ((M - Tv j b).fdiv (36 - Tv j b)) _), (Str.ofString "bias", .int b tb), (Str.ofString "result", .ref ra), (Str.ofString "j", .int (j + 1) _)] F7 (by kst_all)
      refine ⟨g, Nat.lt_succ_self _, _, _, _, _, _, u', _, _, rfl, hq0, hq1, ?_, ?_, F8, N7⟩
      · rw [List.length_append, List.length_singleton]; omega
      · rw [← hval, genL_go (f := g + 1) (N := M) (j := j) (b := b) (by assumption), sgn_back, Int.fdiv_eq_ediv_of_nonneg _ (show (0 : Int) ≤ 36 - Tv j b by omega), Int.fmod_eq_emod_of_nonneg _ (show (0 : Int) ≤ 36 - Tv j b by omega), List.append_assoc]
        rfl
  · obtain ⟨u', F4⟩ := fr_as [(Str.ofString "N", .int N tN), (Str.ofString "bias", .int b tb), (Str.ofString "result", .ref ra), (Str.ofString "j", .int 0 _)] F3 (by kst_all)
    exact ⟨N, 0, [], _, _, u', _, _, rfl, hN.1, hN.2, rfl, rfl, F4, N3⟩
end Mine
end GNpart

section WApart
open PySem PySem.W PyProof.Rows
namespace Mine
/-- the rest of a body, kept from the walk -/
def Stop (P : Prop) : Prop := P
section
variable {prog : Program} {w : World} {M : Model} {A : Around} {E : Value → Shared → Prop} {s : Shared} {env : Env}
theorem any_plain {st rest} {Q : Flow → Shared → Prop}
    (h : wpAny M A (exec st env) (fun f s' => match f with | .next => Stop (wpAny M A (execs rest env) Q E s') | f => Q f s') E s) :
    wpAny M A (execs (st :: rest) env) Q E s := wpAny_execs_cons (wpAny_mono h (fun f s' h' => by cases f <;> exact h') fun _ _ x => x)
theorem any_while {test body pos} {Q : Flow → Shared → Prop} (I : Nat → Shared → Prop)
    (turn : ∀ n s, I n s →
      wpAny (model prog w) A (isTrue test env (eval test env)) (fun b s₂ =>
        if b then wpAny (model prog w) A (execs body env) (fun f s₃ => match f with
            | .next | .cont => ∃ m, m < n ∧ I m s₃
            | .brk => Q .next s₃
            | .ret v => Q (.ret v) s₃) E s₂
        else Q .next s₂) E s)
    (n : Nat) (h : I n s) (hE : PassesOwn (model prog w) A env E := by passes_own) : wpAny (model prog w) A (exec (.While test body [] pos) env) Q E s := by
  refine wpAny_While (codeAny_whileLoop I (fun n s hI => ?_) n h)
  refine wpAny_mono (turn n s hI) (fun b s₂ h₂ => ?_) (fun e s' he => hE e s' he)
  cases b with
  | true =>
    simp only [if_true] at h₂ ⊢
    exact wpAny_mono h₂ (fun f s₃ h₃ => by cases f <;> exact h₃) (fun e s' he => hE e s' he)
  | false =>
    simp only [Bool.false_eq_true, if_false] at h₂ ⊢
    exact wpAny_execs_nil h₂
end
end Mine
end WApart

section WBpart
open PySem PySem.W PyProof.Rows
namespace Mine
section
variable {prog : Program} {w : World} {A : Around} {E : Value → Shared → Prop} {Q : Flow → Shared → Prop} {s : Shared} {env : Env} {h₀ : Heap} {L : Addr} {m : Str → Option Value} {news : List (Addr × Obj)}
/-- what a turn hands on -/
def TurnTo {σ : Type} (h₀ : Heap) (L : Addr) (s : Shared) (news : List (Addr × Obj)) (ps : σ → List (Str × Value)) (P : σ → Prop) (μ : σ → Nat) (Q : Flow → Shared → Prop) (c : σ) (f : Flow) (s₃ : Shared) : Prop :=
  match f with
  | .next | .cont => ∃ (c' : σ) (h' : Heap) (tk' : Nat) (m' : Str → Option Value), s₃ = { s with heap := h', toks := tk' } ∧ Fr h₀ L h' m' ∧ News h₀ L h' news ∧ (∀ p ∈ ps c', m' p.1 = some p.2) ∧ P c' ∧ μ c' < μ c
  | .brk => Q .next s₃
  | .ret v => Q (.ret v) s₃
theorem turn_to {σ : Type} {h₀ : Heap} {L : Addr} {s : Shared} {news : List (Addr × Obj)} {ps : σ → List (Str × Value)} {P : σ → Prop} {μ : σ → Nat} {Q : Flow → Shared → Prop} {c : σ} (c' : σ) {h' : Heap} {tk' : Nat} {m' : Str → Option Value}
    (F : Fr h₀ L h' m') (N : News h₀ L h' news) (hk : ∀ p ∈ ps c', m' p.1 = some p.2) (hp : P c') (hm : μ c' < μ c) : TurnTo h₀ L s news ps P μ Q c .next { s with heap := h', toks := tk' } :=
  ⟨c', h', tk', m', rfl, F, N, hk, hp, hm⟩
theorem any_loop {σ : Type} {test : Expr} {body : List Stmt} {pos : Pos} (ps : σ → List (Str × Value)) (P : σ → Prop) (μ : σ → Nat) (c₀ : σ) (F : Fr h₀ L s.heap m) (N : News h₀ L s.heap news)
    (hk : ∀ p ∈ ps c₀, m p.1 = some p.2) (hp : P c₀)
    (turn : ∀ (c : σ) (u : Str → Option Value) (h : Heap) (tk : Nat), P c → Fr h₀ L h (kstB u (ps c)) → News h₀ L h news →
      wpAny (model prog w) A (isTrue test env (eval test env)) (fun b s₂ =>
        if b then wpAny (model prog w) A (execs body env) (TurnTo h₀ L s news ps P μ Q c) E s₂ else Q .next s₂) E { s with heap := h, toks := tk })
    (hE : PassesOwn (model prog w) A env E := by passes_own) : wpAny (model prog w) A (exec (.While test body [] pos) env) Q E s := by
  have fr : ∀ {h : Heap} {m' : Str → Option Value} {c : σ}, (∀ p ∈ ps c, m' p.1 = some p.2) → Fr h₀ L h m' → Fr h₀ L h (kstB m' (ps c)) := fun hk F => by
    rw [show kstB _ (ps _) = _ from funext fun z => kstB_eq hk fun _ => rfl]; exact F
  refine any_while (fun n s' => ∃ (c : σ) (h : Heap) (tk : Nat) (m' : Str → Option Value), s' = { s with heap := h, toks := tk } ∧ Fr h₀ L h m' ∧ News h₀ L h news ∧ (∀ p ∈ ps c, m' p.1 = some p.2) ∧ P c ∧ μ c = n) ?_ (μ c₀) ⟨c₀, s.heap, s.toks, m, rfl, F, N, hk, hp, rfl⟩ hE
  rintro n s' ⟨c, h, tk, m', rfl, F', N', hk', hp', rfl⟩
  refine wpAny_mono (turn c m' h tk hp' (fr hk' F') N') (fun b s₂ q => ?_) fun _ _ x => x
  cases b with
  | false => exact q
  | true =>
    simp only [if_true] at q ⊢
    refine wpAny_mono q (fun f s₃ q => ?_) fun _ _ x => x
    cases f with
    | next => obtain ⟨c', h', tk', m'', e, F, N, a, b, d⟩ := q; exact ⟨_, d, c', h', tk', m'', e, F, N, a, b, rfl⟩
    | cont => obtain ⟨c', h', tk', m'', e, F, N, a, b, d⟩ := q; exact ⟨_, d, c', h', tk', m'', e, F, N, a, b, rfl⟩
    | brk => exact q
    | ret v => exact q
end
end Mine
end WBpart

section ADpart
open PySem PySem.W PyProof.Rows
namespace Mine
theorem fill_ad : (fun (_ : OpenLaw) (_ : Params → Frag) => True) _root_.PySem.Challenge.rw_xc0042_01 hd.heap_39 := by
  k_fill
  trivial
/-- a def that hands back an int with a property -/
def CtP (w : World) (f : Addr) (news : CbLed) (pre : Prop) (vs : List Value) (P : Int → Prop) : Prop :=
  ∀ (mean : ExcName → Option Value) (mg mb : Str → Option Value) (dp un : Nat) (gd : Option (List Code)) (cn : Str) (cs : Scope) (a : Addr) (ccd : Value) (cl : List (Str × Addr)) (outer : List Env) (A₀ : Around) (base h₀ : Heap) (L : Addr) (m : Str → Option Value) (s : Shared) (Q E : Value → Shared → Prop),
    Below A₀ base outer h₀ → Fr h₀ L s.heap m → (hd.heap_39 w.params).In h₀ → News h₀ L s.heap news → Top hd.view_39 (looseW hd.view_39 []) mean mg mb h₀ → cs.kind = .function →
    pre → dp + 1 < recursionLimit → un + 8 < cLine →
    (∀ (v : Int) (t : Tok) (h' : Heap) (tk' : Nat), P v → Fr h₀ L h' m → News h₀ L h' news → Q (.int v t) { s with heap := h', toks := tk' }) →
      wpAny (model _root_.PySem.Challenge.rw_xc0042_01.row.prog w) (ktrTop dp un gd cn cs L a ccd cl outer) (call (.ref f) vs) Q E s

set_option maxRecDepth 100000 in
set_option maxHeartbeats 8000000 in
theorem adapt_ct (w : World) (news : CbLed) (d : Int) (td : CbTok) (b : Bool) (k : Int) (tk : CbTok) :
    CtP w 35 news (0 ≤ d ∧ 1 ≤ k ∧ k < 1000) [.int d td, .bool b, .int k tk] (fun v => 0 ≤ v) := by
  unfold CtP
  intro mean mg mb dp un gd cn cs a ccd cl outer A₀ base h₀ L m s Q E B F X N T hk hpre hdp hun hret
  obtain ⟨hd0, hk0, hk1⟩ := hpre
  refine wpAny_call ?_
  k_dflt cell_enter
  refine any_plain ?_
  have e7 : 0 ≤ d.fdiv 700 := Int.fdiv_nonneg hd0 (by decide)
  have e7' : 0 ≤ (d.fdiv 700).fdiv k := Int.fdiv_nonneg e7 (by omega)
  have e2 : 0 ≤ d.fdiv 2 := Int.fdiv_nonneg hd0 (by decide)
  have e2' : 0 ≤ (d.fdiv 2).fdiv k := Int.fdiv_nonneg e2 (by omega)
  cases b
  all_goals
    k_steps
    dsimp only
    unfold Stop
    refine any_plain ?_
    k_steps
    dsimp only
    unfold Stop
    refine any_plain ?_
    k_steps
    dsimp only
    unfold Stop
    (rename Fr _ _ _ _ => F3)
    (rename News _ _ _ _ => N3)
    refine any_plain (any_loop (σ := (Int × Int) × Tok × Tok) (fun c => [(Str.ofString "delta", .int c.1.1 c.2.1), (Str.ofString "divisions", .int c.1.2 c.2.2)]) (fun c => 0 ≤ c.1.1 ∧ 0 ≤ c.1.2) (fun c => c.1.1.toNat) ⟨(_, _), _, _⟩ F3 N3 (by kst_all) ?_ ?_)
    · exact ⟨by first | exact Int.add_nonneg e7 e7' | exact Int.add_nonneg e2 e2', Int.le_refl _⟩
    · rintro ⟨⟨D, V⟩, tD, tV⟩ u h tk ⟨hD0, hV0⟩ F4 N4
      clear F3 N3
      dsimp only [kstB] at F4 hD0 hV0
      k_steps
      · have hc' : 455 < D := by omega
        refine turn_to ⟨(_, _), _, _⟩ (by assumption) (by assumption) (by kst_all) ⟨?_, ?_⟩ ?_
        · exact Int.fdiv_nonneg hD0 (by decide)
        · show 0 ≤ V + 36; omega
        · show (D.fdiv 35).toNat < D.toNat
          rw [Int.fdiv_eq_ediv_of_nonneg _ (by decide)]; omega
      · have hc' : ¬ 455 < D := by omega
        dsimp only
        unfold Stop
        k_steps
        refine hret _ _ _ _ ?_ (by assumption) (by assumption)
        exact Int.add_nonneg hV0 (Int.fdiv_nonneg (by omega) (by omega))
end Mine
end ADpart

section DCpart
open PySem PySem.W PyProof.Rows
namespace Mine
theorem fill_dc : (fun (_ : OpenLaw) (_ : Params → Frag) => True) _root_.PySem.Challenge.rw_xc0042_01 hd.heap_39 := by
  k_fill
  trivial

/-- the digit of a sign that stands for one -/
def dgt (c : UInt8) : Int := if 65 ≤ (c.toNat : Int) ∧ (c.toNat : Int) ≤ 90 then (c.toNat : Int) - 65 else (c.toNat : Int) - 22
theorem dgt_up {c : UInt8} (h : 65 ≤ (c.toNat : Int) ∧ (c.toNat : Int) ≤ 90) : dgt c = (c.toNat : Int) - 65 := if_pos h
theorem dgt_lo {c : UInt8} (h : ¬ 65 ≤ (c.toNat : Int)) : dgt c = (c.toNat : Int) - 22 := if_neg fun q => h q.1
def sok (c : UInt8) : Prop := (65 ≤ (c.toNat : Int) ∧ (c.toNat : Int) ≤ 90) ∨ (48 ≤ (c.toNat : Int) ∧ (c.toNat : Int) ≤ 57)
/-- a number read: how many signs, and which -/
noncomputable def decL : List UInt8 → Int → Int → Int → Int → Option (Nat × Int)
  | [], _, _, _, _ => none
  | c :: r, j, b, w, res =>
    if dgt c < Tv j b then some (1, res + dgt c * w)
    else (decL r (j + 1) b (w * (36 - Tv j b)) (res + dgt c * w)).map fun p => (p.1 + 1, p.2)

/-- decode's value: a new pair -/
def CtD (w : World) (f : Addr) (news : CbLed) (pre : Prop) (vs : List Value) (r1 : Int) (r2 : Tok → Value) : Prop :=
  ∀ (mean : ExcName → Option Value) (mg mb : Str → Option Value) (dp un : Nat) (gd : Option (List Code)) (cn : Str) (cs : Scope) (a : Addr) (ccd : Value) (cl : List (Str × Addr)) (outer : List Env) (A₀ : Around) (base h₀ : Heap) (L : Addr) (m : Str → Option Value) (s : Shared) (Q E : Value → Shared → Prop),
    Below A₀ base outer h₀ → Fr h₀ L s.heap m → (hd.heap_39 w.params).In h₀ → News h₀ L s.heap news → Top hd.view_39 (looseW hd.view_39 []) mean mg mb h₀ → cs.kind = .function →
    pre → dp + 5 < recursionLimit → un + 60 < cLine →
    (∀ (D : Addr) (t1 t2 : Tok) (c : Nat) (h' : Heap) (tk : Nat), Fr h₀ L h' m → News h₀ L h' ((D, ({ cls := .type "tuple", data := .seq #[.int r1 t1, r2 t2] c } : Obj)) :: news) → Q (.ref D) { s with heap := h', toks := tk }) →
      wpAny (model _root_.PySem.Challenge.rw_xc0042_01.row.prog w) (ktrTop dp un gd cn cs L a ccd cl outer) (call (.ref f) vs) Q E s

theorem ext_sub {prog : Program} {w : World} {A : Around} {E : Value → Shared → Prop} {s : Shared} {value slice : Expr} {X : List UInt8} {i : Int} {t ui : Tok} {c : UInt8} {r : List UInt8} {Q : Value → Shared → Prop} (h0 : 0 ≤ i) (hc : X.drop i.toNat = c :: r) (hz : X.length < 10000) (h : Q (.int (c.toNat : Int) s.toks) { s with toks := s.toks + 1 })
    (hs : subscripted slice false (.bytes X.toArray t) (.int i ui) = operate [.bytes X.toArray t, .int i ui] (getItem (.bytes X.toArray t) (.int i ui)) := by with_unfolding_all rfl)
    (ht : ∀ r, letTemporaryGo value (.bytes X.toArray t) r = pure () := by intro _; with_unfolding_all rfl) :
    wpAny (model prog w) A (subscriptTail value slice (.bytes X.toArray t) (.int i ui)) Q E s := by
  have hl : i.toNat < X.length := by
    have := congrArg List.length hc
    rw [List.length_drop, List.length_cons] at this
    omega
  have hg : X.getD i.toNat 0 = c := by
    have h1 : X[i.toNat]? = some c := by
      rw [← Nat.add_zero i.toNat, ← List.getElem?_drop, hc]; rfl
    rw [List.getD_eq_getElem?_getD, h1]; rfl
  refine KBy.item_N (Nat.le_trans (Nat.le_of_lt hz) (by decide)) h0 (by omega) ?_ hs ht
  rw [hg]
  exact h

local macro_rules | `(tactic| walk_at "subscriptTail Name Name bytes int") => `(tactic| (k_here; refine ext_sub (by omega) (by assumption) (by assumption) ?_))
local macro_rules | `(tactic| walk_at "call ref") => `(tactic| (k_here; (with_reducible show wpAny _ _ (call (Value.ref _) [Value.int _ _, Value.int _ _]) _ _ _); k_dflt (refine' T_use ?k1 ?k2 ?k3 ?k4 ?k5 ?kK ?kd ?ku ?_; (case k1 => k_asm); (case k2 => k_asm); (case k3 => k_asm); (case k4 => k_asm); (case k5 => k_asm); (case kK => first | exact rfl | assumption); (case kd => ktr_room); (case ku => ktr_units); k_whole; intro t9 h9 tk9 F9 N9; (try dsimp only); (try k_fold))))

theorem decL_cons {c : UInt8} {r : List UInt8} {j b w res : Int} {k : Nat} {n : Int} (h : decL (c :: r) j b w res = some (k, n)) :
    (dgt c < Tv j b ∧ k = 1 ∧ n = res + dgt c * w) ∨ (¬ dgt c < Tv j b ∧ ∃ k', k = k' + 1 ∧ decL r (j + 1) b (w * (36 - Tv j b)) (res + dgt c * w) = some (k', n)) := by
  unfold decL at h
  by_cases h1 : dgt c < Tv j b
  · rw [if_pos h1] at h
    cases h
    exact .inl ⟨h1, rfl, rfl⟩
  · rw [if_neg h1] at h
    refine .inr ⟨h1, ?_⟩
    cases hq : decL r (j + 1) b (w * (36 - Tv j b)) (res + dgt c * w) with
    | none => rw [hq] at h; cases h
    | some p => rw [hq] at h; cases h; exact ⟨_, rfl, rfl⟩
theorem drop_next {X : List UInt8} {i : Int} {c : UInt8} {r : List UInt8} (h0 : 0 ≤ i) (h : X.drop i.toNat = c :: r) : X.drop (i + 1).toNat = r := by
  rw [show (i + 1).toNat = i.toNat + 1 by omega, ← List.drop_drop, h]; rfl
theorem sok_drop {X : List UInt8} {i : Nat} {c : UInt8} {r : List UInt8} (hs : ∀ c ∈ X, sok c) (h : X.drop i = c :: r) : sok c :=
  hs c (List.mem_of_mem_drop (i := i) (by rw [h]; exact List.mem_cons_self))

abbrev pairOf (x y : Value) (c : Nat) : Obj := { cls := .type "tuple", data := .seq #[x, y] c }
theorem pair_end {h₀ h' : Heap} {L D : Addr} {m : Str → Option Value} {news : List (Addr × Obj)} {s : Shared} {Q : Value → Shared → Prop} {x y x' y' : Int} {t1 t2 : Tok} {c tk : Nat}
    (hret : ∀ (D : Addr) (t1 t2 : Tok) (c : Nat) (h' : Heap) (tk : Nat), Fr h₀ L h' m → News h₀ L h' ((D, pairOf (.int x t1) (.int y t2) c) :: news) → Q (.ref D) { s with heap := h', toks := tk })
    (e1 : x' = x) (e2 : y' = y) (F : Fr h₀ L h' m) (N : News h₀ L h' ((D, pairOf (.int x' t1) (.int y' t2) c) :: news)) : Q (.ref D) { s with heap := h', toks := tk } := by
  subst e1; subst e2
  exact hret _ _ _ _ _ _ F N

set_option maxRecDepth 100000 in
set_option maxHeartbeats 8000000 in
theorem dec_ct (w : World) (news : CbLed) (X : List UInt8) (p : Int) (b : Int) (tx tp tb te : CbTok) (k : Nat) (n : Int) :
    CtD w 42 news (0 ≤ p ∧ decL (X.drop p.toNat) 0 b 1 0 = some (k, n) ∧ (∀ c ∈ X, sok c) ∧ X.length < 10000) [.bytes X.toArray tx, .int p tp, .int b tb, .str "strict" te] (p + k) (fun t => .int n t) := by
  unfold CtD
  intro mean mg mb dp un gd cn cs a ccd cl outer A₀ base h₀ L m s Q E B F X' N T hk hpre hdp hun hret
  obtain ⟨hp0, hdec, hsok, hlen⟩ := hpre
  refine wpAny_call ?_
  k_dflt cell_enter
  refine any_plain ?_
  k_steps
  dsimp only
  unfold Stop
  refine any_plain ?_
  k_steps
  dsimp only
  unfold Stop
  refine any_plain ?_
  k_steps
  dsimp only
  unfold Stop
  (rename Fr _ _ _ _ => F3)
  (rename News _ _ _ _ => N3)
  refine any_plain (any_loop (σ := (Int × Int × Int × Int) × Tok × Tok × Tok × Tok)
    (fun c => [(Str.ofString "extended", .bytes X.toArray tx), (Str.ofString "bias", .int b tb), (Str.ofString "errors", .str "strict" te), (Str.ofString "extpos", .int c.1.1 c.2.1), (Str.ofString "j", .int c.1.2.1 c.2.2.1), (Str.ofString "w", .int c.1.2.2.1 c.2.2.2.1), (Str.ofString "result", .int c.1.2.2.2 c.2.2.2.2)])
    (fun c => 0 ≤ c.1.1 ∧ ∃ k', decL (X.drop c.1.1.toNat) c.1.2.1 b c.1.2.2.1 c.1.2.2.2 = some (k', n) ∧ c.1.1 + k' = p + k) (fun c => X.length - c.1.1.toNat) ⟨(_, _, _, _), _, _, _, _⟩ F3 N3 (by kst_all) ?_ ?_)
  · exact ⟨hp0, k, hdec, rfl⟩
  · rintro ⟨⟨q, j, W, res⟩, tq, tj, tW, tr⟩ u h tk ⟨hq0, k', hdec', hk'⟩ F4 N4
    clear F3 N3
    dsimp only [kstB] at F4 hq0 hdec' hk'
    cases hX : X.drop q.toNat with
    | nil => rw [hX] at hdec'; cases hdec'
    | cons c r =>
      rw [hX] at hdec'
      have hc := sok_drop hsok hX
      have hnext := drop_next hq0 hX
      unfold sok at hc
      have hcl : (X.drop q.toNat).length = r.length + 1 := by rw [hX]; rfl
      rw [List.length_drop] at hcl
      have ht0 := Tv_lo j b
      have ht1 := Tv_hi j b
      k_steps
      all_goals (first | (exfalso; omega) | skip)
      all_goals
        have hdg := hdec'
        rcases decL_cons hdec' with ⟨hlt, rfl, rfl⟩ | ⟨hlt, k'', rfl, hnx⟩
        all_goals (first | (rw [dgt_up (c := c) (by omega)] at hlt) | (rw [dgt_lo (c := c) (by omega)] at hlt))
        all_goals (first | (exfalso; omega) | skip)
      all_goals (first
        | (have h9 := hnx)
        | (unfold TurnTo; dsimp only
           refine leaveK_ (by assumption) (by assumption) fun F7 N7 => ?_
           dsimp only
           refine pair_end hret ?_ ?_ F7 N7
           · rw [← hk']; push_cast; omega
           · first | rw [dgt_up (c := c) (by omega)] | rw [dgt_lo (c := c) (by omega)]))
      all_goals
        refine turn_to ⟨(_, _, _, _), _, _, _, _⟩ (by assumption) (by assumption) (by kst_all) ⟨?_, ?_⟩ ?_
      all_goals (first | (show 0 ≤ q + 1; omega) | (show X.length - (q + 1).toNat < X.length - q.toNat; omega) | skip)
      all_goals
        refine ⟨k'', ?_, ?_⟩
        rotate_left
        · show q + 1 + (k'' : Int) = p + k
          rw [← hk']; push_cast; omega
        · dsimp only
          rw [hnext]
          first | (rw [dgt_up (c := c) (by omega)] at hnx; exact hnx) | (rw [dgt_lo (c := c) (by omega)] at hnx; exact hnx)
end Mine
end DCpart

section LAWSpart
open PySem PySem.W PyProof.Rows
namespace Mine
/-- capitals -/
abbrev upB (c : UInt8) : UInt8 := PySem.Builtin.Bytes.toUpper c
abbrev upL (l : List UInt8) : List UInt8 := l.map upB

theorem digits36 {P : Int → Prop} (h : ∀ n : Fin 36, P (n.val : Int)) {d : Int} (h0 : 0 ≤ d) (h1 : d < 36) : P d := by
  have := h ⟨d.toNat, by omega⟩
  rwa [show ((⟨d.toNat, by omega⟩ : Fin 36).val : Int) = d by simp; omega] at this
theorem dgt_up_sgn {d : Int} (h0 : 0 ≤ d) (h1 : d < 36) : dgt (upB (sgn d)) = d :=
  digits36 (P := fun d => dgt (upB (sgn d)) = d) (by decide +kernel) h0 h1
theorem sok_up_sgn {d : Int} (h0 : 0 ≤ d) (h1 : d < 36) : sok (upB (sgn d)) :=
  digits36 (P := fun d => (65 ≤ ((upB (sgn d)).toNat : Int) ∧ ((upB (sgn d)).toNat : Int) ≤ 90) ∨ (48 ≤ ((upB (sgn d)).toNat : Int) ∧ ((upB (sgn d)).toNat : Int) ≤ 57)) (by decide +kernel) h0 h1
theorem sgn_in {d : Int} (h0 : 0 ≤ d) (h1 : d < 36) : sgn d ∈ digitsB.toList :=
  digits36 (P := fun d => sgn d ∈ digitsB.toList) (by decide +kernel) h0 h1

theorem turn_facts {f : Nat} {N j b : Int} (h0 : 0 ≤ N) (hN : N < 10 ^ (f + 1)) (h : ¬ N < Tv j b) :
    0 ≤ (N - Tv j b) / (36 - Tv j b) ∧ (N - Tv j b) / (36 - Tv j b) < 10 ^ f ∧ 0 ≤ Tv j b + (N - Tv j b) % (36 - Tv j b) ∧ Tv j b + (N - Tv j b) % (36 - Tv j b) < 36 ∧ ¬ Tv j b + (N - Tv j b) % (36 - Tv j b) < Tv j b ∧
      Tv j b + (N - Tv j b) % (36 - Tv j b) + (N - Tv j b) / (36 - Tv j b) * (36 - Tv j b) = N := by
  have h1 := Tv_lo j b
  have h2 := Tv_hi j b
  obtain ⟨g, hg, hq0, hq1⟩ := left_lt h hN
  obtain rfl : f = g := by omega
  have hm0 : 0 ≤ (N - Tv j b) % (36 - Tv j b) := Int.emod_nonneg _ (by omega)
  have hm1 : (N - Tv j b) % (36 - Tv j b) < 36 - Tv j b := Int.emod_lt_of_pos _ (by omega)
  have hd := Int.emod_add_mul_ediv (N - Tv j b) (36 - Tv j b)
  have hc : (N - Tv j b) / (36 - Tv j b) * (36 - Tv j b) = (36 - Tv j b) * ((N - Tv j b) / (36 - Tv j b)) := Int.mul_comm _ _
  exact ⟨hq0, hq1, by omega, by omega, by omega, by omega⟩

/-- what is told is read again, whatever follows -/
theorem dec_gen (rest : List UInt8) (b : Int) : ∀ (f : Nat) (N j w res : Int), 0 ≤ N → N < 10 ^ f →
    decL (upL (genL (f + 1) N j b) ++ rest) j b w res = some ((genL (f + 1) N j b).length, res + N * w)
  | f, N, j, w, res, h0, hN => by
    have h2 := Tv_hi j b
    by_cases h : N < Tv j b
    · rw [genL_stop h]
      show decL (upB (sgn N) :: ([] ++ rest)) j b w res = _
      unfold decL
      rw [dgt_up_sgn h0 (by omega), if_pos h]
      rfl
    · rw [genL_go h]
      cases f with
      | zero => exfalso; have := Tv_lo j b; simp at hN; omega
      | succ g =>
        obtain ⟨hq0, hq1, hd0, hd1, hd2, hsum⟩ := turn_facts h0 hN h
        show decL (upB (sgn (Tv j b + (N - Tv j b) % (36 - Tv j b))) :: (upL (genL (g + 1) ((N - Tv j b) / (36 - Tv j b)) (j + 1) b) ++ rest)) j b w res = _
        unfold decL
        rw [dgt_up_sgn hd0 hd1, if_neg hd2, dec_gen rest b g _ _ _ _ hq0 hq1]
        show some (_, _) = some (_, _)
        congr 2
        rw [show ∀ x y : Int, w * (36 - Tv j b) = (36 - Tv j b) * w from fun _ _ => Int.mul_comm _ _]
        · rw [← Int.mul_assoc, Int.add_assoc, ← Int.add_mul, hsum]
        · exact 0
        · exact 0
theorem dec_cut (b : Int) : ∀ (f : Nat) (N j w res : Int), 0 ≤ N → N < 10 ^ f → decL (upL (genL (f + 1) N j b).dropLast) j b w res = none
  | f, N, j, w, res, h0, hN => by
    by_cases h : N < Tv j b
    · rw [genL_stop h]; rfl
    · rw [genL_go h]
      cases f with
      | zero => exfalso; have := Tv_lo j b; simp at hN; omega
      | succ g =>
        obtain ⟨hq0, hq1, hd0, hd1, hd2, hsum⟩ := turn_facts h0 hN h
        have hne : genL (g + 1) ((N - Tv j b) / (36 - Tv j b)) (j + 1) b ≠ [] := by
          unfold genL; split <;> simp
        rw [List.dropLast_cons_of_ne_nil hne]
        show decL (upB (sgn (Tv j b + (N - Tv j b) % (36 - Tv j b))) :: upL (genL (g + 1) ((N - Tv j b) / (36 - Tv j b)) (j + 1) b).dropLast) j b w res = _
        unfold decL
        rw [dgt_up_sgn hd0 hd1, if_neg hd2, dec_cut b g _ _ _ _ hq0 hq1]
        rfl
theorem gen_signs {P : UInt8 → Prop} (hP : ∀ d : Int, 0 ≤ d → d < 36 → P (sgn d)) (b : Int) : ∀ (f : Nat) (N j : Int), 0 ≤ N → N < 10 ^ f → ∀ c ∈ genL (f + 1) N j b, P c
  | f, N, j, h0, hN => by
    have h2 := Tv_hi j b
    by_cases h : N < Tv j b
    · rw [genL_stop h]
      intro c hc
      rw [List.mem_singleton.mp hc]
      exact hP _ h0 (by omega)
    · rw [genL_go h]
      cases f with
      | zero => exfalso; have := Tv_lo j b; simp at hN; omega
      | succ g =>
        obtain ⟨hq0, hq1, hd0, hd1, hd2, hsum⟩ := turn_facts h0 hN h
        intro c hc
        rcases List.mem_cons.mp hc with rfl | hc
        · exact hP _ hd0 hd1
        · exact gen_signs hP b g _ _ hq0 hq1 c hc
theorem gen_len (b : Int) : ∀ (f : Nat) (N j : Int), (genL f N j b).length ≤ f
  | 0, _, _ => Nat.le_refl _
  | f + 1, N, j => by
    unfold genL
    split
    · simp
    · rw [List.length_cons]
      exact Nat.succ_le_succ (gen_len b f _ _)
theorem gen_pos (b : Int) (f : Nat) (N j : Int) : 1 ≤ (genL (f + 1) N j b).length := by
  unfold genL
  split <;> simp
theorem gen_mono (b : Int) : ∀ (f : Nat) (N M j : Int), N ≤ M → (genL (f + 1) N j b).length ≤ (genL (f + 1) M j b).length
  | f, N, M, j, h => by
    have h1 := Tv_lo j b
    have h2 := Tv_hi j b
    by_cases hN : N < Tv j b
    · rw [genL_stop hN]
      exact gen_pos b f M j
    · have hM : ¬ M < Tv j b := by omega
      rw [genL_go hN, genL_go hM, List.length_cons, List.length_cons]
      cases f with
      | zero => exact Nat.le_refl _
      | succ g => exact Nat.succ_le_succ (gen_mono b g _ _ _ (Int.ediv_le_ediv (by omega) (by omega)))

-- the laws of whole numbers
section
variable {N M b : Int}
theorem gen_list : (gen N b).toList = genL 42 N 0 b := by simp [gen]
theorem law_read (h0 : 0 ≤ N) (h1 : N < 10 ^ 41) (rest : List UInt8) : decL (upL (gen N b).toList ++ rest) 0 b 1 0 = some ((gen N b).toList.length, N) := by
  rw [gen_list, dec_gen rest b 41 N 0 1 0 h0 h1, Int.mul_one, Int.zero_add]
theorem law_read' (h0 : 0 ≤ N) (h1 : N < 10 ^ 41) : decL (upL (gen N b).toList) 0 b 1 0 = some ((gen N b).toList.length, N) := by
  have := law_read (b := b) h0 h1 []
  rwa [List.append_nil] at this
theorem law_cut (h0 : 0 ≤ N) (h1 : N < 10 ^ 41) : decL (upL (gen N b).toList.dropLast) 0 b 1 0 = none := by
  rw [gen_list]; exact dec_cut b 41 N 0 1 0 h0 h1
theorem law_sok (h0 : 0 ≤ N) (h1 : N < 10 ^ 41) : ∀ c ∈ upL (gen N b).toList, sok c := by
  intro c hc
  obtain ⟨d, hd, rfl⟩ := List.mem_map.mp hc
  rw [gen_list] at hd
  exact gen_signs (P := fun c => sok (upB c)) (fun d h0 h1 => sok_up_sgn h0 h1) b 41 N 0 h0 h1 d hd
theorem law_signs (h0 : 0 ≤ N) (h1 : N < 10 ^ 41) : ∀ c ∈ (gen N b).toList, c ∈ digitsB.toList := by
  rw [gen_list]
  exact gen_signs (fun d h0 h1 => sgn_in h0 h1) b 41 N 0 h0 h1
theorem law_len : (gen N b).toList.length ≤ 42 := by rw [gen_list]; exact gen_len b 42 N 0
theorem law_pos : 1 ≤ (gen N b).toList.length := by rw [gen_list]; exact gen_pos b 41 N 0
theorem law_mono (h : N ≤ M) : (gen N b).toList.length ≤ (gen M b).toList.length := by
  rw [gen_list, gen_list]; exact gen_mono b 41 N M 0 h
/-- no number's telling starts another's -/
theorem law_prefix (h0 : 0 ≤ N) (h1 : N < 10 ^ 41) (h2 : 0 ≤ M) (h3 : M < 10 ^ 41) (h : (gen M b).toList.take (gen N b).toList.length = (gen N b).toList) : N = M := by
  have e : (gen M b).toList = (gen N b).toList ++ (gen M b).toList.drop (gen N b).toList.length := by
    conv => lhs; rw [← List.take_append_drop (gen N b).toList.length (gen M b).toList]
    rw [h]
  have hM := law_read' (b := b) h2 h3
  rw [e, show upL ((gen N b).toList ++ (gen M b).toList.drop (gen N b).toList.length) = upL (gen N b).toList ++ upL ((gen M b).toList.drop (gen N b).toList.length) from List.map_append, law_read h0 h1] at hM
  exact (Prod.mk.inj (Option.some.inj hM)).2
end
end Mine
end LAWSpart

section EX1part
open PySem PySem.W PyProof.Rows
namespace Mine
open Sem (wp)
/-- since `H` nothing of it moved but the frames' slots -/
structure Since (fs : List Addr) (H h : Heap) : Prop where
  other : ∀ b o, H.get? b = some o → b ∉ fs → h.get? b = some o
  slots : ∀ b o, H.get? b = some o → ∃ sl, h.get? b = some { o with slots := sl }
theorem Since.refl (fs : List Addr) (H : Heap) : Since fs H H := ⟨fun _ _ e _ => e, fun _ o e => ⟨o.slots, e⟩⟩
theorem Since.keeps {fs : List Addr} {H h h' : Heap} (x : Since fs H h) (k : ∀ b o, h.get? b = some o → h'.get? b = some o) : Since fs H h' :=
  ⟨fun b o e m => k _ _ (x.other b o e m), fun b o e => let ⟨sl, q⟩ := x.slots b o e; ⟨sl, k _ _ q⟩⟩
theorem Since.less {fs : List Addr} {G H h : Heap} (x : Since fs H h) (k : ∀ b o, G.get? b = some o → H.get? b = some o) : Since fs G h :=
  ⟨fun b o e m => x.other b o (k _ _ e) m, fun b o e => x.slots b o (k _ _ e)⟩
theorem Since.fewer {fs fs' : List Addr} {H h : Heap} (x : Since fs H h) (k : ∀ b ∈ fs, b ∈ fs' ∨ H.get? b = none) : Since fs' H h :=
  ⟨fun b o e m => x.other b o e fun q => (k b q).elim m (fun n => by rw [n] at e; cases e), x.slots⟩
theorem Since.upTo {fs : List Addr} {H h : Heap} (x : Since fs H h) : H.UpToSlots h := fun b o e _ => x.slots b o e

/-- an exception on its way -/
structure ExcSt (fs : List Addr) (H h : Heap) (e : Addr) (cls : Value) (vs : Array Value) (fl : Value) : Prop where
  since : Since fs H h
  new : H.get? e = none
  exc : ∃ oe, h.get? e = some oe ∧ oe.cls = cls ∧ oe.data = .fields vs
  tb : ∃ T ot ts, vs[1]? = some (.ref T) ∧ H.get? T = none ∧ T ≠ e ∧ h.get? T = some ot ∧ ot.data = .fields ts ∧ ts[3]? = some fl

section
variable {M : Model} {A : Around} {E : Value → Shared → Prop} {s : Shared}
theorem not_frame {base : Heap} {l : List Env} {h : Heap} {b : Addr} {o : Obj} {vs : Array Value} (hl : h.FunFrames base l) (ho : h.get? b = some o) (hd : o.data = .fields vs) : b ∉ l.filterMap (·.frame) := fun hm => by
  obtain ⟨_, o', ho', hnf⟩ := hl.mem hm
  rw [ho] at ho'
  cases ho'
  exact hnf vs hd

/-- a traceback's entry is made -/
theorem entry_x {base : Heap} {env : Env} {outer : List Env} {L e : Addr} {oe : Obj} {vs : Array Value} {head : Value} {hadNext : Bool} {H : Heap} {Q : Unit → Shared → Prop}
    (hfr : A.frames = some (env :: outer)) (hl : s.heap.FunFrames base (env :: outer)) (hf : env.frame = some L)
    (he : s.heap.get? e = some oe) (hd : oe.data = .fields vs) (hsz : 1 < vs.size) (hS : Since ((env :: outer).filterMap (·.frame)) H s.heap) (hen : H.get? e = none)
    (h : ∀ h' T, ExcSt ((env :: outer).filterMap (·.frame)) H h' e oe.cls (vs.setIfInBounds 1 (.ref T)) (rawInt L) → h'.FunFrames base (env :: outer) → Q () { s with heap := h' }) :
    wpAny M A (do let a ← frameOf env; let pl ← entryPlaceOf L hadNext; let b ← EntryCells.newEntry head a .none (rawInt L) .none pl; setField (.ref e) 1 b) Q E s := by
  have hene := not_frame hl he hd
  refine wpAny_bind (wpAny_frameOf_fun hfr hl hf fun h₁ hs₁ => ?_)
  refine wpAny_bind (wpAny_entryPlaceOf fun pl hpl => ?_)
  unfold EntryCells.newEntry newFields
  refine wpAny_bind (wpAny_newObj_type ?_ (hpl.sizeOk5 _ _ _ _ _))
  have he₁ : h₁.get? e = some oe := (hs₁.2.1 e hene).trans he
  generalize hT : ({ cls := .type "traceback", dict := none, data := .fields ([head, .ref L, .none, rawInt L, .none] ++ (if pl.isEmpty then List.replicate 6 Value.none else pl)).toArray } : Obj) = tb
  have he₂ := Heap.get?_push_of_some (h := h₁) tb he₁
  refine wpAny_setField he₂ hd hsz (h _ h₁.objs.size ?_ ?_)
  all_goals
    have hTe : h₁.objs.size ≠ e := Nat.ne_of_gt (Heap.lt_size he₁)
    have hd₃ := Obj.data_mapFields hd (·.setIfInBounds 1 (Value.ref h₁.objs.size))
    have keep : ∀ b o, b ≠ e → h₁.get? b = some o → ((h₁.push tb).update e (Obj.mapFields (·.setIfInBounds 1 (Value.ref h₁.objs.size)))).get? b = some o := fun b o hb hg =>
      (Heap.get?_update_other _ _ (Ne.symm hb)).trans (Heap.get?_push_of_some _ hg)
    have ne_e : ∀ b o, H.get? b = some o → b ≠ e := fun b o hb q => by rw [q, hen] at hb; cases hb
  · refine ⟨⟨fun b o hb hm => ?_, fun b o hb => ?_⟩, hen, ⟨_, Heap.get?_update_self _ he₂ (Obj.isFreed_of_fields hd₃), Obj.cls_mapFields _ _, hd₃⟩, h₁.objs.size, tb, _, by simp [hsz], ?_, hTe, ?_, by rw [← hT], ?_⟩
    · exact keep b o (ne_e b o hb) ((hs₁.2.1 b hm).trans (hS.other b o hb hm))
    · obtain ⟨sl, q⟩ := hS.slots b o hb
      obtain ⟨sl', q'⟩ := hs₁.2.2 b _ q
      exact ⟨sl', keep b _ (ne_e b o hb) q'⟩
    · cases q : H.get? h₁.objs.size with
      | none => rfl
      | some o =>
        obtain ⟨sl, q1⟩ := hS.slots _ o q
        have := Heap.lt_size q1
        rw [hs₁.1] at this
        exact absurd this (Nat.lt_irrefl _)
    · rw [Heap.get?_update_other _ _ (Ne.symm hTe)]
      exact Heap.get?_push_size h₁ (by rw [← hT]; rfl)
    · simp
  · refine hl.of_keeps fun b o hb hnf => ?_
    have hbe : b ≠ e := fun q => by rw [q, he] at hb; cases hb; exact hnf vs hd
    obtain ⟨sl, q⟩ := hs₁.2.2 b o hb
    exact ⟨_, keep b _ hbe q, rfl⟩

/-- the first mark -/
theorem note_first {base : Heap} {env : Env} {outer : List Env} {L e : Addr} {oe : Obj} {vs : Array Value} {H : Heap} {Q : Unit → Shared → Prop}
    (hfr : A.frames = some (env :: outer)) (hl : s.heap.FunFrames base (env :: outer)) (hf : env.frame = some L)
    (he : s.heap.get? e = some oe) (hd : oe.data = .fields vs) (h1 : vs[1]? = some .none) (hS : Since ((env :: outer).filterMap (·.frame)) H s.heap) (hen : H.get? e = none)
    (h : ∀ h' T, ExcSt ((env :: outer).filterMap (·.frame)) H h' e oe.cls (vs.setIfInBounds 1 (.ref T)) (rawInt L) → h'.FunFrames base (env :: outer) → Q () { s with heap := h' }) :
    wpAny M A (noteFrame (.ref e) env) Q E s := by
  unfold noteFrame
  simp only [hf]
  refine wpAny_bind (wpAny_field he hd h1 ?_)
  rw [if_neg (by decide)]
  exact entry_x hfr hl hf he hd (Array.getElem?_eq_some_iff.mp h1).1 hS hen h

/-- the flight's mark goes -/
theorem land_x {base : Heap} {l : List Env} {fs : List Addr} {e : Addr} {cls fl : Value} {vs : Array Value} {H : Heap} {Q : Unit → Shared → Prop}
    (X : ExcSt fs H s.heap e cls vs fl) (hl : s.heap.FunFrames base l)
    (h : ∀ h', ExcSt fs H h' e cls vs .none → h'.FunFrames base l → Q () { s with heap := h' }) : wpAny M A (setFlight (.ref e) none) Q E s := by
  obtain ⟨hS, hen, ⟨oe, he, hc, hd⟩, T, ot, ts, h1, hTn, hTe, hT, hdT, h3⟩ := X
  have hsz : 3 < ts.size := (Array.getElem?_eq_some_iff.mp h3).1
  refine wpAny_setFlight_none he hd h1 hT hdT hsz (h _ ?_ ?_)
  · have other : ∀ b, b ≠ T → (s.heap.update T (Obj.mapFields (·.setIfInBounds 3 Value.none))).get? b = s.heap.get? b := fun b hb => Heap.get?_update_other _ _ (Ne.symm hb)
    have nT : ∀ b o, H.get? b = some o → b ≠ T := fun b o hb q => by rw [q, hTn] at hb; cases hb
    exact ⟨⟨fun b o hb hm => (other b (nT b o hb)).trans (hS.other b o hb hm), fun b o hb => let ⟨sl, q⟩ := hS.slots b o hb; ⟨sl, (other b (nT b o hb)).trans q⟩⟩, hen, ⟨oe, (other e (Ne.symm hTe)).trans he, hc, hd⟩, T, _, _, h1, hTn, hTe,
      Heap.get?_update_self _ hT (Obj.isFreed_of_fields (Obj.data_mapFields hdT _)), Obj.data_mapFields hdT _, by simp [hsz]⟩
  · refine hl.of_keeps fun b o hb hnf => ?_
    have hbe : b ≠ T := fun q => by rw [q, hT] at hb; cases hb; exact hnf ts hdT
    exact ⟨o, (Heap.get?_update_other _ _ (Ne.symm hbe)).trans hb, rfl⟩

/-- a next mark, in an outer frame -/
theorem note_next {base : Heap} {env : Env} {outer : List Env} {L e : Addr} {cls : Value} {vs : Array Value} {H : Heap} {Q : Unit → Shared → Prop}
    (hfr : A.frames = some (env :: outer)) (hl : s.heap.FunFrames base (env :: outer)) (hf : env.frame = some L)
    (X : ExcSt ((env :: outer).filterMap (·.frame)) H s.heap e cls vs .none)
    (h : ∀ h' T, ExcSt ((env :: outer).filterMap (·.frame)) H h' e cls (vs.setIfInBounds 1 (.ref T)) (rawInt L) → h'.FunFrames base (env :: outer) → Q () { s with heap := h' }) :
    wpAny M A (noteFrame (.ref e) env) Q E s := by
  obtain ⟨hS, hen, ⟨oe, he, hc, hd⟩, T, ot, ts, h1, hTn, hTe, hT, hdT, h3⟩ := X
  have hsz : 3 < ts.size := (Array.getElem?_eq_some_iff.mp h3).1
  subst hc
  unfold noteFrame
  simp only [hf]
  refine wpAny_bind (wpAny_field he hd h1 ?_)
  rw [if_pos (show (Value.ref T != Value.none) = true from by simp)]
  refine wpAny_bind (wpAny_field hT hdT h3 ?_)
  rw [if_neg (show ¬ ((Value.none == rawInt L) = true) from by simp [rawInt])]
  refine wpAny_bind (wpAny_setField hT hdT hsz ?_)
  have other : ∀ b, b ≠ T → (s.heap.update T (Obj.mapFields (·.setIfInBounds 3 Value.none))).get? b = s.heap.get? b := fun b hb => Heap.get?_update_other _ _ (Ne.symm hb)
  have nT : ∀ b o, H.get? b = some o → b ≠ T := fun b o hb q => by rw [q, hTn] at hb; cases hb
  refine entry_x hfr (hl.of_keeps fun b o hb hnf => ?_) hf ((other e (Ne.symm hTe)).trans he) hd (Array.getElem?_eq_some_iff.mp h1).1
    ⟨fun b o hb hm => (other b (nT b o hb)).trans (hS.other b o hb hm), fun b o hb => let ⟨sl, q⟩ := hS.slots b o hb; ⟨sl, (other b (nT b o hb)).trans q⟩⟩ hen h
  have hbe : b ≠ T := fun q => by rw [q, hT] at hb; cases hb; exact hnf ts hdT
  exact ⟨o, (other b hbe).trans hb, rfl⟩
end
end Mine
end EX1part

section EX2part
open PySem PySem.W PyProof.Rows
set_option maxRecDepth 100000
namespace Mine
open Sem (wp)
open Builtin

theorem raises_bytes_getitem (b : Array UInt8) (i : Int) (t u : Tok) (hr : Bytes.fitsIndex i = true) (h : (seqIndex? i b.size).bind (b[·]?) = none) :
    Meets («bytes.__getitem__» ⟨[.bytes b t, .int i u], []⟩) (raisesNew "IndexError") := by
  intro prog w A R s hS
  show wpAny _ _ (Bytes.subscript? (.int i u) >>= fun r => _) _ _ s
  refine wpAny_bind ?_
  unfold Bytes.subscript?
  refine wpAny_bind (wpAny_specialOf (typeIs_int s i u) F.slot_int_index.lookup ?_)
  show wpAny _ _ (if (!Bytes.fitsIndex i) = true then _ else pure (some i)) _ _ s
  rw [hr]
  refine wpAny_pure ?_
  show wpAny _ _ (match (seqIndex? i b.size).bind (b[·]?) with | some x => retInt x.toNat | none => _) _ _ s
  rw [h]
  first
    | exact wpAny_bind (wpAny_rule (by exact_raiseError plainExc_IndexError hS.1 hS.2))
    | exact wpAny_bind (wpAny_rule (wpAny_bind (by exact_raiseError plainExc_IndexError hS.1 hS.2)))

theorem ext_out {prog : Program} {w : World} {A : Around} {E : Value → Shared → Prop} {s : Shared} {value slice : Expr} {X : List UInt8} {i : Int} {t ui : Tok} {Q : Value → Shared → Prop} (hA : A.handled = none) (h0 : 0 ≤ i) (hc : X.drop i.toNat = []) (hz : i < 10000)
    (hE : ∀ h' tk e, Heap.NewExc s.heap h' e "IndexError" → E (.ref e) { s with heap := h', toks := tk })
    (hs : subscripted slice false (.bytes X.toArray t) (.int i ui) = operate [.bytes X.toArray t, .int i ui] (getItem (.bytes X.toArray t) (.int i ui)) := by with_unfolding_all rfl) :
    wpAny (model prog w) A (subscriptTail value slice (.bytes X.toArray t) (.int i ui)) Q E s := by
  have hl : X.length ≤ i.toNat := List.drop_eq_nil_iff.mp hc
  refine tail_any (typeIs_bytes s _ t) FB.slot_bytes_getitem.lookup (getItem_meets (typeIs_bytes s _ t) (by decide) FB.slot_bytes_getitem FB.entry_bytes_getitem (FB.args_bytes_getitem_2 _ _) (raises_bytes_getitem _ i t ui ?_ ?_) ⟨hA, hE⟩) hs
  · simp only [Bytes.fitsIndex, Bool.and_eq_true, decide_eq_true_eq]; omega
  · have : seqIndex? i X.toArray.size = none := by
      have hn : ¬ i < 0 := by omega
      have hm : ¬ i < (X.length : Int) := by omega
      simp [seqIndex?, hn, hm]
    rw [this]; rfl
end Mine
end EX2part

section EX3part
open PySem PySem.W PyProof.Rows
set_option maxRecDepth 100000
set_option linter.unusedVariables false
namespace Mine
theorem x_ty : typeOf (.builtin "UnicodeDecodeError.reason") = pure (.type "member_descriptor") := by show builtinType _ = _; rw [builtinType_eq_fast]; kernel_rfl
theorem x_lk : typeLookup (.type "UnicodeDecodeError") "reason" = pure (some (.builtin "UnicodeDecodeError.reason")) := by rw [typeLookup_type, builtinLookup_eq_fast]; kernel_rfl
theorem x_ga : Slot "UnicodeDecodeError" "__getattribute__" "BaseException.__getattribute__" := .of (owner := "BaseException") (n := "__getattribute__") (by rw [typeLookup_type, builtinLookup_eq_fast]; kernel_rfl) (by decide +kernel) (by decide +kernel) (by decide +kernel)
    (by first | exact .inl (by decide +kernel) | exact .inr (by decide +kernel)) (by rw [isSubtype_type]; kernel_rfl)
theorem x_ent : entryFor table "UnicodeDecodeError.reason" = some Builtin.«UnicodeDecodeError.reason» := entryFor_of_tree (by kernel_rfl)
theorem x_owner : (".".intercalate ("UnicodeDecodeError.reason".cutAt '.').dropLast) = "UnicodeDecodeError" := by
  have e0 : "UnicodeDecodeError.reason".cutAt '.' = ["UnicodeDecodeError", "reason"] := by first | rfl | decide +kernel
  rw [e0]; decide +kernel
theorem x_sub : isSubtype (.type "UnicodeDecodeError") (.type "UnicodeDecodeError") = pure true := by rw [isSubtype_type]; kernel_rfl
theorem udeN : ExcNewFacts "UnicodeDecodeError" "UnicodeDecodeError.__new__" where
  ends := by decide +kernel
  owner := by decide +kernel
  entry := entryFor_alias (id' := "BaseException.__new__") (by rw [fastTable_eq_tree]; kernel_rfl) (by first | rfl | decide +kernel) (by decide +kernel) (by rw [fastTable_eq_tree]; kernel_rfl)
  sub := by rw [isSubtype_type]; kernel_rfl
  notAttr := by rw [isSubtype_type]; kernel_rfl
  notName := by rw [isSubtype_type]; kernel_rfl
  made := by kernel_rfl
theorem x_notType : (Value.type "UnicodeDecodeError" == Value.type "type") = false := by decide +kernel
theorem x_canMake : ((Manifest.find? "UnicodeDecodeError").bind fun x => List.findSome? (fun t => (Manifest.find? t).bind fun b =>
    if b.noNew = true then some true else if (b.attrs.any fun x => x.fst == "__new__") = true then some false else none) x.mro).getD false = false := by kernel_rfl
theorem x_noVector (args : Args) : checkTypeCall "UnicodeDecodeError" args = pure () := by kernel_rfl
theorem x_mro : ∃ m, mroOf (.type "UnicodeDecodeError") = pure m ∧ m.isEmpty = false := ⟨[.type "UnicodeDecodeError", .type "UnicodeError", .type "ValueError", .type "Exception", .type "BaseException", .type "object"], by rw [mroOf_type]; kernel_rfl, rfl⟩
theorem x_madeBy : Bind.madeBy (.type "UnicodeDecodeError") = pure (some "UnicodeDecodeError.__new__") := by kernel_rfl
theorem x_quiet : ("UnicodeDecodeError.__new__").startsWith "lifetime." = false := by decide +kernel
theorem x_newOk (rest : List Value) : checkBuiltinCall "UnicodeDecodeError.__new__" ⟨.type "UnicodeDecodeError" :: rest, []⟩ = pure () := by kernel_rfl
theorem x_init : Slot "UnicodeDecodeError" "__init__" "UnicodeDecodeError.__init__" := .of (owner := "UnicodeDecodeError") (n := "__init__") (by rw [typeLookup_type, builtinLookup_eq_fast]; kernel_rfl) (by decide +kernel) (by decide +kernel) (by decide +kernel)
    (by first | exact .inl (by decide +kernel) | exact .inr (by decide +kernel)) (by rw [isSubtype_type]; kernel_rfl)
theorem x_initEntry : entryFor table "UnicodeDecodeError.__init__" = some Builtin.«UnicodeDecodeError.__init__» := entryFor_of_tree (by kernel_rfl)
theorem x_initArgs (a b c d e f : Value) : argsOk "UnicodeDecodeError.__init__" ⟨[a, b, c, d, e, f], []⟩ := by unfold argsOk; kernel_rfl
theorem x_isExc : isSubtype (.type "UnicodeDecodeError") (.type "BaseException") = pure true := by rw [isSubtype_type]; kernel_rfl
theorem x_meta : (Value.type ((Manifest.find? "UnicodeDecodeError").elim "type" fun x => x.metatype) == Value.type "type") = true := by kernel_rfl
theorem x_notTuple : isSubtype (.type ((Manifest.find? "UnicodeDecodeError").elim "type" fun x => x.metatype)) (.type "tuple") = pure false := by
  rw [show ((Manifest.find? "UnicodeDecodeError").elim "type" fun x => x.metatype) = "type" from by kernel_rfl, isSubtype_type]; kernel_rfl
theorem x_boot : bootBuiltins (Str.ofString "UnicodeDecodeError") = some (.type "UnicodeDecodeError") := by kernel_rfl
theorem x_unchain : entryFor table "proto.unchain" = some Builtin.«proto.unchain» := entryFor_of_tree (by kernel_rfl)
open Builtin Builtin.UnicodeEncodeError
abbrev UObj (vs : Array Value) : Obj := { cls := .type "UnicodeDecodeError", data := .fields vs }
section
variable {M : Model} {A : Around} {E : Value → Shared → Prop} {s : Shared}
theorem members_0 {e : Addr} {vs : Array Value} {Q : Members → Shared → Prop} (he : s.heap.get? e = some (UObj vs)) (hx : (vs.extract 6).toList = []) (h : Q {} s) : wpAny M A (members (.ref e)) Q E s := by
  unfold members
  refine wpAny_bind (wpAny_fieldsOf he rfl ?_)
  rw [hx]
  exact wpAny_pure h
theorem members_5 {e : Addr} {vs : Array Value} {a b r : Value} {i j : Int} {ti tj : Tok} {Q : Members → Shared → Prop} (he : s.heap.get? e = some (UObj vs)) (hx : (vs.extract 6).toList = [a, b, .int i ti, .int j tj, r]) (h : Q { encoding := a, object := b, start := i, stop := j, reason := r } s) : wpAny M A (members (.ref e)) Q E s := by
  unfold members
  refine wpAny_bind (wpAny_fieldsOf he rfl ?_)
  rw [hx]
  exact wpAny_pure h
theorem setMembers_at {e : Addr} {vs : Array Value} {m : Members} {Q : Unit → Shared → Prop} (he : s.heap.get? e = some (UObj vs)) (hz : vs.size ≤ 100)
    (h : ∀ h', h'.get? e = some (UObj (vs.extract 0 6 ++ #[m.encoding, m.object, rawInt m.start, rawInt m.stop, m.reason])) → (∀ b o, b ≠ e → s.heap.get? b = some o → h'.get? b = some o) → Q () { s with heap := h' }) :
    wpAny M A (setMembers (.ref e) m) Q E s := by
  unfold setMembers
  refine wpAny_updateFields he rfl (h _ (Heap.get?_update_self _ he rfl) fun b o hb ho => (Heap.get?_update_other _ _ (Ne.symm hb)).trans ho) ?_
  rw [Array.size_append, Array.size_extract, sizeLine_eq]
  simp
  omega
theorem setField_at {e : Addr} {vs : Array Value} {i : Nat} {x : Value} {Q : Unit → Shared → Prop} (he : s.heap.get? e = some (UObj vs)) (hz : i < vs.size)
    (h : ∀ h', h'.get? e = some (UObj (vs.setIfInBounds i x)) → (∀ b o, b ≠ e → s.heap.get? b = some o → h'.get? b = some o) → Q () { s with heap := h' }) :
    wpAny M A (setField (.ref e) i x) Q E s :=
  wpAny_setField he rfl hz (h _ (Heap.get?_update_self _ he rfl) fun b o hb ho => (Heap.get?_update_other _ _ (Ne.symm hb)).trans ho)
theorem letGo_1 {v : Value} {Q : Unit → Shared → Prop} (h : Q () s) : wpAny M A (letGo [v]) Q E s := by
  unfold letGo
  exact wpAny_bind (wpAny_holding (wpAny_point (wpAny_pure h)))
end

theorem size_arg {M : Model} {A : Around} {E : Value → Shared → Prop} {s : Shared} {id : String} {i : Int} {t : Tok} {Q : Int → Shared → Prop} (hi : -(2 ^ 63) ≤ i ∧ i < 2 ^ 63) (h : Q i s) : wpAny M A (sizeArgument id (.int i t)) Q E s := by
  unfold sizeArgument
  refine wpAny_bind (wpAny_of_eq (a := i) rfl ?_)
  have hn : (decide (i < -(2 ^ 63 : Int)) || decide (i ≥ 2 ^ 63)) = false := by
    rw [Bool.or_eq_false_iff]; constructor <;> rw [decide_eq_false_iff_not] <;> omega
  rw [hn]
  exact wpAny_pure h
abbrev V0 (t : Addr) : Array Value := #[.ref t, .none, .none, .none, .bool false, .none]
abbrev V5 (t : Addr) (a b : Value) (i j : Int) (r : Value) : Array Value := #[.ref t, .none, .none, .none, .bool false, .none, a, b, rawInt i, rawInt j, r]
section
variable {prog : Program} {w : World} {A : Around} {E : Value → Shared → Prop}
/-- __init__ lays the five members -/
theorem init_ude {s : Shared} {e t0 : Addr} {enc reason : Str} {X : Array UInt8} {tx te ti tj tr : Tok} {i j : Int} {Q : Fin → Shared → Prop}
    (he : s.heap.get? e = some (UObj #[.ref t0, .none, .none, .none, .bool false, .none])) (hi : -(2 ^ 63) ≤ i ∧ i < 2 ^ 63) (hj : -(2 ^ 63) ≤ j ∧ j < 2 ^ 63)
    (h : ∀ h' t, h'.get? e = some (UObj #[.ref t, .none, .none, .none, .bool false, .none, .str enc te, .bytes X tx, rawInt i, rawInt j, .str reason tr]) → (∀ b o, b ≠ e → s.heap.get? b = some o → h'.get? b = some o) → Q (.done (.ret .none)) { s with heap := h' }) :
    wpAny (model prog w) A (Builtin.«UnicodeDecodeError.__init__» ⟨[.ref e, .str enc te, .bytes X tx, .int i ti, .int j tj, .str reason tr], []⟩) Q E s := by
  unfold Builtin.«UnicodeDecodeError.__init__»
  dsimp only
  refine wpAny_bind ?_
  unfold beginInit
  dsimp only
  rw [if_neg (by decide)]
  refine wpAny_bind (wpAny_field he rfl (x := .ref t0) rfl ?_)
  refine wpAny_bind (wpAny_newTuple ?_)
  refine wpAny_bind (setField_at (Heap.get?_push_of_some _ he) (by show 0 < 6; decide) fun h1 e1 k1 => ?_)
  refine wpAny_bind (letGo_1 ?_)
  rw [if_pos (by decide)]
  have e1' : h1.get? e = some (UObj (V0 s.heap.objs.size)) := e1
  clear e1
  generalize s.heap.objs.size = t1 at e1'
  refine wpAny_bind ?_
  refine members_0 (vs := V0 t1) (by exact e1') rfl ?_
  refine wpAny_bind ?_
  refine setMembers_at (vs := V0 t1) (by exact e1') (by show 6 ≤ 100; decide) fun h2 e2 k2 => ?_
  replace e2 : h2.get? e = some (UObj (V5 t1 unset unset 0 0 unset)) := e2
  refine wpAny_bind (letGo_1 ?_)
  refine wpAny_bind ?_
  refine members_5 (vs := V5 t1 unset unset 0 0 unset) (by exact e2) rfl ?_
  refine wpAny_bind ?_
  refine setMembers_at (vs := V5 t1 unset unset 0 0 unset) (by exact e2) (by show 11 ≤ 100; decide) fun h3 e3 k3 => ?_
  replace e3 : h3.get? e = some (UObj (V5 t1 unset unset 0 0 unset)) := e3
  refine wpAny_bind (letGo_1 ?_)
  refine wpAny_bind ?_
  refine members_5 (vs := V5 t1 unset unset 0 0 unset) (by exact e3) rfl ?_
  refine wpAny_bind ?_
  refine setMembers_at (vs := V5 t1 unset unset 0 0 unset) (by exact e3) (by show 11 ≤ 100; decide) fun h4 e4 k4 => ?_
  replace e4 : h4.get? e = some (UObj (V5 t1 unset unset 0 0 unset)) := e4
  refine wpAny_bind (letGo_1 ?_)
  rw [if_neg (by simp)]
  refine wpAny_pure ?_
  dsimp only
  refine wpAny_bind (wpAny_of_eq (a := ()) rfl ?_)
  refine wpAny_bind ?_
  unfold initRange
  refine wpAny_bind (size_arg hi ?_)
  refine wpAny_bind ?_
  refine members_5 (vs := V5 t1 unset unset 0 0 unset) (by exact e4) rfl ?_
  refine wpAny_bind ?_
  refine setMembers_at (vs := V5 t1 unset unset 0 0 unset) (by exact e4) (by show 11 ≤ 100; decide) fun h5 e5 k5 => ?_
  replace e5 : h5.get? e = some (UObj (V5 t1 unset unset i 0 unset)) := e5
  refine wpAny_bind (size_arg hj ?_)
  refine wpAny_bind ?_
  refine members_5 (vs := V5 t1 unset unset i 0 unset) (by exact e5) rfl ?_
  refine setMembers_at (vs := V5 t1 unset unset i 0 unset) (by exact e5) (by show 11 ≤ 100; decide) fun h6 e6 k6 => ?_
  replace e6 : h6.get? e = some (UObj (V5 t1 unset unset i j unset)) := e6
  refine wpAny_bind (wpAny_of_eq (a := ()) rfl ?_)
  refine wpAny_bind (wpAny_of_eq (a := some X) rfl ?_)
  rw [if_pos (show (some X).isSome = true from rfl)]
  refine wpAny_bind (wpAny_pure ?_)
  rw [if_pos (show (!isUnset (Value.bytes X tx)) = true from rfl)]
  refine wpAny_bind (wpAny_pure ?_)
  rw [if_neg (show ¬ (isUnset (Value.bytes X tx) = true) from Bool.false_ne_true)]
  refine wpAny_bind ?_
  refine members_5 (vs := V5 t1 unset unset i j unset) (by exact e6) rfl ?_
  refine wpAny_bind ?_
  refine setMembers_at (vs := V5 t1 unset unset i j unset) (by exact e6) (by show 11 ≤ 100; decide) fun h7 e7 k7 => ?_
  refine wpAny_pure (h _ t1 e7 fun b o hb ho => k7 b o hb (k6 b o hb (k5 b o hb (k4 b o hb (k3 b o hb (k2 b o hb (k1 b o hb (Heap.get?_push_of_some _ ho))))))))
end
end Mine
end EX3part

section EX4part
open PySem PySem.W PyProof.Rows
set_option maxRecDepth 100000
set_option linter.unusedVariables false
namespace Mine
open Sem (wp)
open Builtin

structure UdeMade (h h' : Heap) (e : Addr) (enc : Value) (obj : Value) (i j : Int) (r : Value) : Prop where
  keeps : ∀ b o, h.get? b = some o → h'.get? b = some o
  new : h.get? e = none
  there : ∃ t, h'.get? e = some (UObj #[.ref t, .none, .none, .none, .bool false, .none, enc, obj, rawInt i, rawInt j, r])

section
variable {prog : Program} {w : World} {A : Around} {E : Value → Shared → Prop}
theorem typeCall_ude {hp : Heap} {g : Array GenState} {d : Drawn} {tk : Nat} {os : OsState} {enc reason : Str} {X : Array UInt8} {tx te ti tj tr : Tok} {i j : Int} {Q : PySem.Fin → Shared → Prop}
    (hi : -(2 ^ 63) ≤ i ∧ i < 2 ^ 63) (hj : -(2 ^ 63) ≤ j ∧ j < 2 ^ 63)
    (h : ∀ h' e, UdeMade hp h' e (.str enc te) (.bytes X tx) i j (.str reason tr) → Q (.done (.ret (.ref e))) ⟨h', g, d, tk, os⟩) :
    wpAny (model prog w) A (Builtin.«type.__call__» ⟨[.type "UnicodeDecodeError", .str enc te, .bytes X tx, .int i ti, .int j tj, .str reason tr], []⟩) Q E ⟨hp, g, d, tk, os⟩ := by
  have hnt := x_notType
  have hcan := x_canMake
  have hchk := x_noVector ⟨[.str enc te, .bytes X tx, .int i ti, .int j tj, .str reason tr], []⟩
  obtain ⟨m, hmro, hne⟩ := x_mro
  have hmade := x_madeBy
  wp_walk
  refine codeAny_call_builtin_code (Code.quiet_builtin _ x_quiet) (wpAny_of_eq (x_newOk _) ?_)
  refine codeAny_exc_new udeN ?_ (by show 5 ≤ sizeLine; rw [sizeLine_eq]; decide)
  show wpAny _ _ _ _ _ _
  have hget : ((hp.push { cls := .type "tuple", data := .seq [.str enc te, .bytes X tx, .int i ti, .int j tj, .str reason tr].toArray }).push
      { cls := .type "UnicodeDecodeError", data := .fields #[.ref hp.objs.size, .none, .none, .none, .bool false, .none] }).get? (hp.objs.size + 1) = some
      (UObj #[.ref hp.objs.size, .none, .none, .none, .bool false, .none]) := by heap_get
  refine wpAny_bind (wpAny_isInstance ⟨_, hget, rfl⟩ udeN.sub ?_)
  wp_step
  refine wpAny_bind (wpAny_holding (wpAny_callSpecial?_slot ⟨_, hget, rfl⟩ x_init (wpAny_call_entry x_init ⟨_, hget, rfl⟩ x_initEntry (init_ude hget hi hj fun h' t e k => ?_) (x_initArgs _ _ _ _ _ _))))
  refine ⟨_, rfl, ?_⟩
  wp_walk
  refine h _ _ ⟨fun b o hb => ?_, Heap.get?_none_of_le (Nat.le_succ _), t, e⟩
  exact k b o (Nat.ne_of_lt (Nat.lt_succ_of_lt (Heap.lt_size hb))) (Heap.get?_push_of_some _ (Heap.get?_push_of_some _ hb))
theorem call_ude {s : Shared} {enc reason : Str} {X : Array UInt8} {tx te ti tj tr : Tok} {i j : Int} {Q : Value → Shared → Prop}
    (hi : -(2 ^ 63) ≤ i ∧ i < 2 ^ 63) (hj : -(2 ^ 63) ≤ j ∧ j < 2 ^ 63)
    (h : ∀ h' e, UdeMade s.heap h' e (.str enc te) (.bytes X tx) i j (.str reason tr) → Q (.ref e) { s with heap := h' }) :
    wpAny (model prog w) A (call (.type "UnicodeDecodeError") [.str enc te, .bytes X tx, .int i ti, .int j tj, .str reason tr]) Q E s := by
  obtain ⟨hp, g, d, tk, os⟩ := s
  refine wpAny_call (codeAny_of_tree ?_)
  show wpAny _ _ (again (.builtin "type.__call__" ⟨[.type "UnicodeDecodeError", .str enc te, .bytes X tx, .int i ti, .int j tj, .str reason tr], []⟩)) _ _ _
  exact wpAny_pure ⟨Code.quiet_builtin _ (by decide +kernel), codeAny_builtin entry_typeCall (typeCall_ude hi hj fun h' e hm => h h' e hm)⟩

/-- the chain of contexts is looked through: the one handled has none -/
theorem unchain_none {s : Shared} {h0 : Addr} {o : Obj} {vs : Array Value} {v : Value} {Q : Value → Shared → Prop} (ho : s.heap.get? h0 = some o) (hd : o.data = .fields vs) (h2 : vs[2]? = some .none) (h : Q .none s) :
    wpAny (model prog w) A (runValue (.builtin "proto.unchain" ⟨[v, .ref h0, .ref h0, .bool false], []⟩)) Q E s := by
  refine wpAny_runValue (codeAny_builtin x_unchain ?_)
  unfold Builtin.«proto.unchain»
  dsimp only
  refine wpAny_bind (wpAny_field ho hd h2 ?_)
  rw [if_pos (by decide)]
  exact wpAny_pure h

/-- a new exception is raised while another is handled -/
theorem raiseNew_on {α : Type} {s : Shared} {e h0 : Addr} {o oe : Obj} {vs ws : Array Value} {Q : α → Shared → Prop} (hA : A.handled = some (.ref h0)) (hne : h0 ≠ e) (ho : s.heap.get? h0 = some o) (hd : o.data = .fields vs) (h2 : vs[2]? = some .none)
    (he : s.heap.get? e = some oe) (hde : oe.data = .fields ws) (hz : 2 < ws.size)
    (h : E (.ref e) { s with heap := s.heap.update e (Obj.mapFields (·.setIfInBounds 2 (.ref h0))) }) : wpAny (model prog w) A (raiseNew (.ref e) : Sem α) Q E s := by
  unfold raiseNew
  refine wpAny_bind (wpAny_handled ?_)
  rw [hA]
  dsimp only
  have hb : (Value.ref h0 != Value.ref e) = true := by
    rw [bne_iff_ne]
    intro q
    cases q
    exact hne rfl
  rw [if_pos hb]
  refine wpAny_bind (wpAny_holding (unchain_none ho hd h2 ?_))
  exact wpAny_bind (wpAny_setField he hde hz (wpAny_throw h))

/-- raise UnicodeDecodeError(..) in a clause that handles another -/
theorem raise_ude {s : Shared} {env : Env} {h0 : Addr} {o : Obj} {ws : Array Value} {x : Str} {np cpos pos : Pos} {args : List Expr} {Q : Flow → Shared → Prop}
    (hA : A.handled = some (.ref h0)) (hplain : (backTo cpos (starEach args env)).any (·.1) = false)
    (h : wpAny (model prog w) A (eval (.Name x np) env) (fun f s₁ => f = .type "UnicodeDecodeError" ∧ wpAny (model prog w) A (evalArgs (.type "UnicodeDecodeError") true (backTo cpos (starEach args env)) [])
      (fun a s₂ => ∃ enc reason X tx te ti tj tr i j, a = ⟨[.str enc te, .bytes X tx, .int i ti, .int j tj, .str reason tr], []⟩ ∧ (-(2 ^ 63) ≤ i ∧ i < 2 ^ 63) ∧ (-(2 ^ 63) ≤ j ∧ j < 2 ^ 63) ∧ s₂.heap.get? h0 = some o ∧ o.data = .fields ws ∧ ws[2]? = some .none ∧
        ∀ h' e t, (∀ b o, s₂.heap.get? b = some o → h'.get? b = some o) → s₂.heap.get? e = none → h'.get? e = some (UObj #[.ref t, .none, .ref h0, .none, .bool false, .none, .str enc te, .bytes X tx, rawInt i, rawInt j, .str reason tr]) → E (.ref e) { s₂ with heap := h' }) E s₁) E s) :
    wpAny (model prog w) A (exec (.Raise (some (.Call (.Name x np) args [] cpos)) none pos) env) Q E s := by
  rw [arm_exec_Raise]
  simp only [evalOpt, Option.map]
  refine wpAny_bind (wpAny_standAt ?_)
  unfold raiseStmt
  refine wpAny_bind (wpAny_bind (wpAny_Call_ofName (wpAny_mono h (fun f s₁ h₁ => ?_) fun _ _ x => x)))
  obtain ⟨rfl, h₁⟩ := h₁
  refine callWith_excType hplain (wpAny_mono h₁ (fun a s₂ h₂ => ?_) fun _ _ x => x)
  obtain ⟨enc, reason, X, tx, te, ti, tj, tr, i, j, rfl, hi, hj, ho, hd, h2, hk⟩ := h₂
  refine call_ude hi hj fun h' e hm => ?_
  obtain ⟨t, he⟩ := hm.there
  refine wpAny_bind (wpAny_standAt (wpAny_pure ?_))
  have hsub := x_isExc
  have hmeta := x_meta
  have ho' := hm.keeps _ _ ho
  have hne : h0 ≠ e := fun q => by rw [q, hm.new] at ho; cases ho
  obtain ⟨hp, g, d, tk, os⟩ := s₂
  have he' : ({ heap := h', gens := g, drawn := d, toks := tk, os := os } : Shared).heap.get? e = some (UObj #[.ref t, .none, .none, .none, .bool false, .none, .str enc te, .bytes X tx, rawInt i, rawInt j, .str reason tr]) := he
  repeat (first | refine wpAny_loadPart he ?_ | wp_step)
  refine raiseNew_on hA hne ho' hd h2 he rfl (by show 2 < 11; decide) (hk _ e t (fun b o hb => ?_) hm.new (Heap.get?_update_self _ he rfl))
  exact (Heap.get?_update_other _ _ (fun q => by rw [← q, hm.new] at hb; cases hb)).trans (hm.keeps b o hb)
end
end Mine
end EX4part

section EX5part
open PySem PySem.W PyProof.Rows
set_option maxRecDepth 100000
set_option linter.unusedVariables false
namespace Mine
open Sem (wp)
open Builtin Builtin.UnicodeEncodeError
theorem x_mset : Slot "member_descriptor" "__set__" "member_descriptor.__set__" :=
  .of (owner := "member_descriptor") (n := "__set__") (by rw [typeLookup_type, builtinLookup_eq_fast]; kernel_rfl) (by decide +kernel) (by decide +kernel) (by decide +kernel)
    (by first | exact .inl (by decide +kernel) | exact .inr (by decide +kernel)) (by rw [isSubtype_type]; kernel_rfl)
section
variable {prog : Program} {w : World} {A : Around} {E : Value → Shared → Prop} {h : Heap} {g : Array GenState} {d : Drawn} {t : Nat} {os : OsState} {a : Addr} {o : Obj} {vs : Array Value}
/-- what an exception holds as its reason -/
structure HasReason (vs : Array Value) (r : Str) (tr : Tok) : Prop where
  own : ∃ a b i ti j tj, (vs.extract 6).toList = [a, b, .int i ti, .int j tj, .str r tr]

theorem reason_b {s : Shared} {r : Str} {tr : Tok} {Q : PySem.Fin → Shared → Prop} (hx : s.heap.get? a = some o) (hd : o.data = .fields vs) (hr : HasReason vs r tr) (hq : Q (.done (.ret (.str r tr))) s) :
    wpAny (model prog w) A (Builtin.«UnicodeDecodeError.reason» ⟨[.ref a], []⟩) Q E s := by
  obtain ⟨x, y, i, ti, j, tj, hr⟩ := hr
  unfold Builtin.«UnicodeDecodeError.reason» objectGet
  dsimp only
  refine wpAny_bind ?_
  unfold members
  refine wpAny_bind (wpAny_fieldsOf hx hd ?_)
  rw [hr]
  refine wpAny_pure ?_
  exact wpAny_pure hq

theorem reason_get {R : Result → Shared → Prop} {r : Str} {tr : Tok} (hx : h.get? a = some o) (hc : o.cls = .type "UnicodeDecodeError") (hd : o.data = .fields vs) (hr : HasReason vs r tr) (hq : R (.ok (.ret (.str r tr))) ⟨h, g, d, t, os⟩) :
    codeAny (model prog w) A (.call (.builtin "member_descriptor.__get__") ⟨[.builtin "UnicodeDecodeError.reason", .ref a, .type "UnicodeDecodeError"], []⟩) R ⟨h, g, d, t, os⟩ := by
  have hT : (⟨h, g, d, t, os⟩ : Shared).TypeIs (.ref a) "UnicodeDecodeError" := ⟨_, hx, hc⟩
  have hT5 : (⟨h, g, d, t, os⟩ : Shared).TypeIs (.builtin "UnicodeDecodeError.reason") "member_descriptor" := x_ty
  have f8 : isSubtype (.type "UnicodeDecodeError") (.type (".".intercalate ("UnicodeDecodeError.reason".cutAt '.').dropLast)) = pure true := by rw [x_owner]; exact x_sub
  refine codeAny_call_builtin KF.slot_mem.plain KF.entry_mem (KF.slot_mem.check _ _ _ _ _ _ _ _ hT5 (KF.args_mem _ _ _) ?_)
  repeat (any_goals (first | assumption | wp_step))
  refine ⟨Code.quiet_builtin _ (by decide +kernel), codeAny_builtin x_ent ?_⟩
  exact reason_b hx hd hr hq

theorem reason_entry {tk : Tok} {Q : PySem.Fin → Shared → Prop} {r : Str} {tr : Tok} (hx : h.get? a = some o) (hc : o.cls = .type "UnicodeDecodeError") (hd : o.data = .fields vs) (hr : HasReason vs r tr) (hq : Q (.done (.ret (.str r tr))) ⟨h, g, d, t, os⟩) :
    wpAny (model prog w) A (Builtin.«object.__getattribute__» ⟨[.ref a, .str "reason" tk], []⟩) Q E ⟨h, g, d, t, os⟩ := by
  have hT : (⟨h, g, d, t, os⟩ : Shared).TypeIs (.ref a) "UnicodeDecodeError" := ⟨_, hx, hc⟩
  have hT5 : (⟨h, g, d, t, os⟩ : Shared).TypeIs (.builtin "UnicodeDecodeError.reason") "member_descriptor" := x_ty
  have f4 := x_lk
  have f5 := x_ty
  have f6 := KF.slot_mem.lookup
  have f7 := x_mset.lookup
  repeat (any_goals (first | assumption | wp_step))
  refine reason_get hx hc hd hr ?_
  repeat (any_goals (first | assumption | wp_step))
theorem reason_by {tk : Tok} {fill expr : Bool} {Q : Value → Shared → Prop} {r : Str} {tr : Tok} (hx : h.get? a = some o) (hc : o.cls = .type "UnicodeDecodeError") (hd : o.data = .fields vs) (hr : HasReason vs r tr)
    (hq : Q (.str r tr) ⟨h, g, d, t, os⟩) : wpAny (model prog w) A (getAttrBy (.ref a) (.str "reason" tk) fill expr) Q E ⟨h, g, d, t, os⟩ := by
  have hT : (⟨h, g, d, t, os⟩ : Shared).TypeIs (.ref a) "UnicodeDecodeError" := ⟨_, hx, hc⟩
  have f2 := x_ga.lookup
  have f3 := x_ga.bind (.ref a)
  have hx0 : (expr && onTheHeap (Value.builtin "BaseException.__getattribute__")) = false := by cases expr <;> rfl
  repeat (any_goals (first | assumption | wp_step))
  refine codeAny_call_builtin x_ga.plain F.entry_bexc_ga (x_ga.check _ _ _ _ _ _ _ _ (show (⟨h, g, d, t, os⟩ : Shared).TypeIs (.ref a) "UnicodeDecodeError" from ⟨_, hx, hc⟩) (F.args_bexc_ga _ _) (reason_entry hx hc hd hr ?_))
  repeat (any_goals (first | assumption | wp_step))
theorem reason_attr {expr : Bool} {r : Str} {tr : Tok} {Q : Value → Shared → Prop} (hx : h.get? a = some o) (hc : o.cls = .type "UnicodeDecodeError") (hd : o.data = .fields vs) (hr : HasReason vs r tr)
    (hq : Q (.str r tr) ⟨h, g, d, t + 1, os⟩) : wpAny (model prog w) A (getAttr (.ref a) "reason" expr) Q E ⟨h, g, d, t, os⟩ := by
  unfold getAttr
  repeat (any_goals (first | assumption | with_reducible apply reason_by hx hc hd hr | wp_step))
end
end Mine
end EX5part

section EX6part
open PySem PySem.W PyProof.Rows
set_option maxRecDepth 100000
set_option linter.unusedVariables false
namespace Mine
open Sem (wp)

abbrev fsOf (l : List Env) : List Addr := l.filterMap (·.frame)

theorem reason_set {vs : Array Value} {r : Str} {tr : Tok} {x : Value} (h : HasReason vs r tr) : HasReason (vs.setIfInBounds 1 x) r tr := by
  obtain ⟨a, b, i, ti, j, tj, h⟩ := h
  refine ⟨a, b, i, ti, j, tj, ?_⟩
  rw [← h]
  congr 1
  apply Array.ext_getElem?
  intro k
  rw [Array.getElem?_extract, Array.getElem?_extract, Array.size_setIfInBounds]
  split
  · rw [Array.getElem?_setIfInBounds_ne (by omega)]
  · rfl

section
variable {A₀ : Around} {base g H h : Heap} {outer : List Env} {L a : Addr} {m : Str → Option Value} {name : Str} {scope : Scope} {cd : Value}
theorem not_in_ground (F : Fr g L H m) : g.get? L = none := kts_self F
theorem ground_of (K : Below A₀ base outer g) (F : Fr g L H m) (S : Since (fsOf (envOf name scope L a cd :: outer)) H h) :
    ∃ g', KtsTurn (fsOf outer) g g' ∧ Fr g' L h m ∧ Below A₀ base outer g' :=
  kts_ground (name := name) (scope := scope) (a := a) (cd := cd) (B := hideAll H (fsOf (envOf name scope L a cd :: outer))) K F (fun b o e nm => hideAll_get _ e nm)
    (fun b o e => S.other b o (of_hideAll _ e) fun q => by rw [hideAll_none _ q] at e; cases e) S.upTo
theorem since_frames {l : List Env} (hl : H.FunFrames base l) (S : Since (fsOf l) H h) : h.FunFrames base l :=
  hl.of_keeps fun b o e _ => let ⟨sl, q⟩ := S.slots b o e; ⟨_, q, rfl⟩
end

section
variable {prog : Program} {w : World} {A₀ : Around} {E : Value → Shared → Prop} {s' : Shared} {base g H : Heap} {outer : List Env} {L a e : Addr} {m : Str → Option Value} {name : Str} {scope : Scope} {cd : Value}
  {n : Str} {b₀ : Stmt} {suite : List Stmt} {pos np : Pos} {rest : List ExceptHandler} {Q : Flow → Shared → Prop} {news : List (Addr × Obj)} {KF : Frag}
  {p : Program} {loose : List Str} {mean : ExcName → Option Value} {mg mb : Str → Option Value} {x : Str} {X T' : String}

theorem news_since (N : News g L H news) (K : Below A₀ base outer g) {h g' : Heap} (T : KtsTurn (fsOf outer) g g') (S : Since (fsOf (envOf name scope L a cd :: outer)) H h) : News g' L h news := fun q hq => by
  refine ⟨S.other _ _ (N q hq).1 fun hm => ?_, (N q hq).2.1, T.none_ _ (N q hq).2.2⟩
  rcases kts_mem hm with z | z
  · exact (N q hq).2.1 z
  · obtain ⟨_, o, ho, _⟩ := K.frames.mem z
    rw [(N q hq).2.2] at ho; cases ho

/-- raised in this very try -/
theorem caught_new (hx : Heap.NewExc H s'.heap e X) (F : Fr g L H m) (N : News g L H news) (K : Below A₀ base outer g) (XB : KF.In base) (TB : Top p loose mean mg mb base)
    (ex : nsIn KF mainGlobals x = some none) (hv : bootBuiltins x = some (.type T')) (hn' : x ≠ "__name__")
    (hexc : isSubtype (.type T') (.type "BaseException") = pure true) (hnt : isSubtype (.type ((Manifest.find? T').elim "type" fun y => y.metatype)) (.type "tuple") = pure false) (hsub : isSubtype (.type X) (.type T') = pure true)
    (k : ∀ h' g' vs, KtsTurn (fsOf outer) g g' → Fr g' L h' m → News g' L h' news → Below A₀ base outer g' → KF.In g' → Top p loose mean mg mb g' →
      ExcSt (fsOf (envOf name scope L a cd :: outer)) H h' e (.type X) vs .none → vs[2]? = some .none → h'.FunFrames base (envOf name scope L a cd :: outer) →
      wpAny (model prog w) ((A₀.deeper (envOf name scope L a cd)).mark (some (.ref e))) (execs (b₀ :: suite) (envOf name scope L a cd)) Q E { s' with heap := h' })
    (hk : scope.kind = .function := by rfl) (hx' : (envOf name scope L a cd).kindOf x = some .globalImplicit := by rfl) (hd : (x == ("__debug__" : Str)) = false := by decide)
    (hE : PassesOwnAt (model prog w) ((A₀.deeper (envOf name scope L a cd)).mark (some (.ref e))) (A₀.deeper (envOf name scope L a cd)) (envOf name scope L a cd) E := by passes_own) :
    wpAny (model prog w) (A₀.deeper (envOf name scope L a cd)) (noteFrame (.ref e) (envOf name scope L a cd))
      (fun _ s₂ => wpAny (model prog w) (A₀.deeper (envOf name scope L a cd)) (setFlight (.ref e) none) (fun _ s₃ =>
        wpAny (model prog w) (A₀.deeper (envOf name scope L a cd)) (handleBy (.ref e) (envOf name scope L a cd) (.ExceptHandler (some (.Name x np)) none (b₀ :: suite) pos :: rest)) Q E s₃) E s₂) E s' := by
  have K' := K.push (name := name) (a := a) (cd := cd) F hk
  obtain ⟨ob, tp, he, hcls, hdat⟩ := hx.there
  refine note_first (H := H) K'.stack (K'.frames.of_keeps fun b o hb _ => ⟨o, hx.keeps b o hb, rfl⟩) rfl he hdat rfl ((Since.refl _ H).keeps hx.keeps) hx.new fun h1 T X1 fr1 => ?_
  rw [hcls] at X1
  refine land_x X1 fr1 fun h2 X2 fr2 => ?_
  obtain ⟨g2, T2, F2, K2⟩ := ground_of K F X2.since
  obtain ⟨oe, hoe, hoc, hod⟩ := X2.exc
  refine wpAny_handleBy_builtin (X := X) (T := T') (b := true) hexc hnt hsub (name_B F2 (XB.keeps K2.stays) (topRead_of (TB.keeps K2.stays)) ex hv hn' ⟨rfl, ⟨oe, hoe, hoc⟩, ?_⟩ hk hx' hd)
  rw [if_pos rfl]
  refine land_x X2 fr2 fun h3 X3 fr3 => ?_
  obtain ⟨g3, T3, F3, K3⟩ := ground_of K F X3.since
  exact wpAny_passesOwnAt hE (k h3 g3 _ T3 F3 (news_since N K T3 X3.since) K3 (XB.keeps K3.stays) (TB.keeps K3.stays) X3 (by rw [Array.getElem?_setIfInBounds_ne (by decide)]; rfl) fr3)

/-- came out of a call made in this try, caught by a name -/
theorem caught_as {G : Heap} {vs : Array Value} {r : Str} {tr : Tok} (XS : ExcSt (fsOf (envOf name scope L a cd :: outer)) G s'.heap e (.type X) vs .none) (hr : HasReason vs r tr) (F : Fr g L G m) (N : News g L G news) (K : Below A₀ base outer g) (XB : KF.In base) (TB : Top p loose mean mg mb base)
    (ex : nsIn KF mainGlobals x = some none) (hv : bootBuiltins x = some (.type T')) (hn' : x ≠ "__name__")
    (hexc : isSubtype (.type T') (.type "BaseException") = pure true) (hnt : isSubtype (.type ((Manifest.find? T').elim "type" fun y => y.metatype)) (.type "tuple") = pure false) (hsub : isSubtype (.type X) (.type T') = pure true)
    (k : ∀ h' g' tk oe ws, KtsTurn (fsOf outer) g g' → Fr g' L h' (fun y => if y = n then some (.ref e) else m y) → News g' L h' ((e, oe) :: news) → Below A₀ base outer g' → KF.In g' → Top p loose mean mg mb g' →
      oe.cls = .type X → oe.data = .fields ws → HasReason ws r tr →
      wpAny (model prog w) ((A₀.deeper (envOf name scope L a cd)).mark (some (.ref e))) (execs (b₀ :: suite) (envOf name scope L a cd))
        (fun f s₄ => wpAny (model prog w) (A₀.deeper (envOf name scope L a cd)) (do bindName (envOf name scope L a cd) n .none; unbindBehindTheSuite (envOf name scope L a cd) n pos) (fun _ s₅ => Q f s₅) E s₄)
        (AsSuiteRaised (model prog w) ((A₀.deeper (envOf name scope L a cd)).mark (some (.ref e))) (envOf name scope L a cd) n pos (notedBy (model prog w) ((A₀.deeper (envOf name scope L a cd)).mark (some (.ref e))) (envOf name scope L a cd) (cameBackBy (model prog w) (A₀.deeper (envOf name scope L a cd)) (envOf name scope L a cd) E)))
        { s' with heap := h', toks := tk })
    (hk : scope.kind = .function := by rfl) (hlo : (envOf name scope L a cd).kindOf n = some .local := by rfl) (hx' : (envOf name scope L a cd).kindOf x = some .globalImplicit := by rfl) (hd : (x == ("__debug__" : Str)) = false := by decide) :
    wpAny (model prog w) (A₀.deeper (envOf name scope L a cd)) (noteFrame (.ref e) (envOf name scope L a cd))
      (fun _ s₂ => wpAny (model prog w) (A₀.deeper (envOf name scope L a cd)) (setFlight (.ref e) none) (fun _ s₃ =>
        wpAny (model prog w) (A₀.deeper (envOf name scope L a cd)) (handleBy (.ref e) (envOf name scope L a cd) (.ExceptHandler (some (.Name x np)) (some n) (b₀ :: suite) pos :: rest)) Q E s₃) E s₂) E s' := by
  have K' := K.push (name := name) (a := a) (cd := cd) F hk
  refine note_next K'.stack (since_frames K'.frames XS.since) rfl XS fun h1 T X1 fr1 => ?_
  have hr1 := reason_set (x := .ref T) hr
  refine land_x X1 fr1 fun h2 X2 fr2 => ?_
  obtain ⟨g2, T2, F2, K2⟩ := ground_of K F X2.since
  obtain ⟨oe, hoe, hoc, hod⟩ := X2.exc
  refine wpAny_handleBy_builtin_as (X := X) (T := T') (b := true) hexc hnt hsub (name_B F2 (XB.keeps K2.stays) (topRead_of (TB.keeps K2.stays)) ex hv hn' ⟨rfl, ⟨oe, hoe, hoc⟩, ?_⟩ hk hx' hd)
  rw [if_pos rfl]
  refine land_x X2 fr2 fun h3 X3 fr3 => ?_
  obtain ⟨g3, T3, F3, K3⟩ := ground_of K F X3.since
  obtain ⟨oe, hoe, hoc, hod⟩ := X3.exc
  have N3 := news_since N K T3 X3.since
  have heL : e ≠ L := fun q => by
    obtain ⟨oL, es, ep, hL, _⟩ := F.ns
    rw [← q, X3.new] at hL; cases hL
  have heg : g3.get? e = none := T3.none_ _ (kts_none F.keep X3.new)
  have N4 : News g3 L h3 ((e, oe) :: news) := fun q hq => by
    rcases List.mem_cons.mp hq with rfl | hq
    · exact ⟨hoe, heL, heg⟩
    · exact N3 q hq
  refine stN F3 N4 (fun h4 F4 N5 => ?_) hk hlo
  exact k h4 g3 _ oe _ T3 F4 N5 K3 (XB.keeps K3.stays) (TB.keeps K3.stays) hoc hod hr1
end
end Mine
end EX6part

section EX7part
open PySem PySem.W PyProof.Rows
set_option linter.unusedVariables false
namespace Mine
theorem leave_x {M : Model} {A : Around} {E : Value → Shared → Prop} {s : Shared} {base h₀ g' H h5 : Heap} {l : List Env} {L L' a e : Addr} {m m' : Str → Option Value} {name : Str} {scope : Scope} {cd : Value} {news : List (Addr × Obj)} {Q : Unit → Shared → Prop} {vs : Array Value} {r : Str} {tr : Tok} {cls : Value} {oe : Obj}
    (FG : Fr h₀ L g' m) (F4 : Fr g' L' H m') (N4 : News g' L' H news) (K : Below A base l g')
    (S : Since (fsOf (envOf name scope L' a cd :: l)) H h5) (fr5 : h5.FunFrames base (envOf name scope L' a cd :: l))
    (k : ∀ b o, h5.get? b = some o → s.heap.get? b = some o) (hn : h5.get? e = none) (he : s.heap.get? e = some oe) (hc : oe.cls = cls) (hd : oe.data = .fields vs) (h1 : vs[1]? = some .none) (hr : HasReason vs r tr)
    (hq : ∀ G ws h', Fr h₀ L G m → News h₀ L G news → ExcSt (fsOf l) G h' e cls ws .none → HasReason ws r tr → Q () { s with heap := h' }) :
    wpAny M (A.deeper (envOf name scope L' a cd)) (leaving (envOf name scope L' a cd) (.ref e)) Q E s := by
  subst hc
  have gG : ∀ b o, g'.get? b = some o → (hideAll H [L']).get? b = some o := fun b o q => hideAll_get _ (F4.keep b o q) fun hm => by
    rw [List.mem_singleton.mp hm, kts_self F4] at q; cases q
  have SG : Since (fsOf (envOf name scope L' a cd :: l)) (hideAll H [L']) s.heap := (S.keeps k).less fun b o q => of_hideAll _ q
  have hen : (hideAll H [L']).get? e = none := by
    cases q : (hideAll H [L']).get? e with
    | none => rfl
    | some o =>
      obtain ⟨sl, q'⟩ := S.slots _ _ (of_hideAll _ q)
      rw [hn] at q'; cases q'
  have FG' : Fr h₀ L (hideAll H [L']) m := by
    obtain ⟨oL, es, ep, hL, r⟩ := FG.ns
    exact ⟨⟨oL, es, ep, gG _ _ hL, r⟩, fun b o q => gG _ _ (FG.keep b o q), FG.above⟩
  have NG : News h₀ L (hideAll H [L']) news := fun p hp => by
    obtain ⟨n1, n2, n3⟩ := N4 p hp
    refine ⟨hideAll_get _ n1 fun hm => n2 (List.mem_singleton.mp hm), fun q => ?_, ?_⟩
    · obtain ⟨oL, es, ep, hL, _⟩ := FG.ns
      rw [q, hL] at n3; cases n3
    · cases q : h₀.get? p.1 with
      | none => rfl
      | some o => have := FG.keep _ _ q; rw [n3] at this; cases this
  unfold leaving
  refine wpAny_bind (note_first (H := hideAll H [L']) (Around.frames_deeper K.stack) (fr5.of_keeps fun b o q _ => ⟨o, k b o q, rfl⟩) rfl he hd h1 SG hen fun h6 T X6 fr6 => ?_)
  refine land_x X6 fr6 fun h7 X7 fr7 => ?_
  refine hq _ _ h7 FG' NG ⟨X7.since.fewer fun b hb => ?_, X7.new, X7.exc, X7.tb⟩ (reason_set hr)
  rcases List.mem_cons.mp (show b ∈ L' :: fsOf l from hb) with rfl | hb
  · exact .inr (hideAll_none _ (List.mem_singleton.mpr rfl))
  · exact .inl hb
end Mine
end EX7part

section DRpart
open PySem PySem.W PyProof.Rows
namespace Mine
theorem fill_dr : (fun (_ : OpenLaw) (_ : Params → Frag) => True) _root_.PySem.Challenge.rw_xc0042_01 hd.heap_39 := by
  k_fill
  trivial

/-- a def called by the law, that may look at the stack: a new pair -/
def CtX (w : World) (f : Addr) (news : CbLed) (pre : Prop) (vs : List Value) (r1 : Int) (r2 : Value) : Prop :=
  ∀ (mean : ExcName → Option Value) (mg mb : Str → Option Value) (dp un : Nat) (gd : Option (List Code)) (cn : Str) (cs : Scope) (a : Addr) (ccd : Value) (A₀ : Around) (base h₀ : Heap) (L : Addr) (m : Str → Option Value) (s : Shared) (Q E : Value → Shared → Prop),
    Below A₀ base [] h₀ → Fr h₀ L s.heap m → (hd.heap_39 w.params).In h₀ → News h₀ L s.heap news → Top hd.view_39 (looseW hd.view_39 []) mean mg mb h₀ → cs.kind = .function →
    (hd.heap_39 w.params).In base → Top hd.view_39 (looseW hd.view_39 []) mean mg mb base →
    pre → dp + 5 < recursionLimit → un + 60 < cLine →
    (∀ (D : Addr) (t1 : Tok) (c : Nat) (h' : Heap) (tk : Nat), Fr h₀ L h' m → News h₀ L h' ((D, pairOf (.int r1 t1) r2 c) :: news) → Q (.ref D) { s with heap := h', toks := tk }) →
      wpAny (model _root_.PySem.Challenge.rw_xc0042_01.row.prog w) (ktrTop dp un gd cn cs L a ccd [] []) (call (.ref f) vs) Q E s

theorem decL_none {c : UInt8} {r : List UInt8} {j b w res : Int} (h : decL (c :: r) j b w res = none) :
    ¬ dgt c < Tv j b ∧ decL r (j + 1) b (w * (36 - Tv j b)) (res + dgt c * w) = none := by
  unfold decL at h
  by_cases h1 : dgt c < Tv j b
  · rw [if_pos h1] at h
    cases h
  · rw [if_neg h1] at h
    exact ⟨h1, Option.map_eq_none_iff.mp h⟩
theorem pair_endX {h₀ h' : Heap} {L D : Addr} {m : Str → Option Value} {news : List (Addr × Obj)} {s : Shared} {Q : Value → Shared → Prop} {x x' : Int} {y : Value} {t1 : Tok} {c tk : Nat}
    (hret : ∀ (D : Addr) (t1 : Tok) (c : Nat) (h' : Heap) (tk : Nat), Fr h₀ L h' m → News h₀ L h' ((D, pairOf (.int x t1) y c) :: news) → Q (.ref D) { s with heap := h', toks := tk })
    (e1 : x' = x) (F : Fr h₀ L h' m) (N : News h₀ L h' ((D, pairOf (.int x' t1) y c) :: news)) : Q (.ref D) { s with heap := h', toks := tk } := by
  subst e1
  exact hret _ _ _ _ _ F N

local macro_rules | `(tactic| walk_at "subscriptTail Name Name bytes int") => `(tactic| (k_here; first | refine ext_sub (by omega) (by assumption) (by assumption) ?_ | (refine ext_out rfl (by omega) (by assumption) (by omega) ?_; intro h1 tk1 e1 hx1; (try dsimp only))))
local macro_rules | `(tactic| walk_at "call ref") => `(tactic| (k_here; (with_reducible show wpAny _ _ (call (Value.ref _) [Value.int _ _, Value.int _ _]) _ _ _); k_dflt (refine' T_use ?k1 ?k2 ?k3 ?k4 ?k5 ?kK ?kd ?ku ?_; (case k1 => k_asm); (case k2 => k_asm); (case k3 => k_asm); (case k4 => k_asm); (case k5 => k_asm); (case kK => first | exact rfl | assumption); (case kd => ktr_room); (case ku => ktr_units); k_whole; intro t9 h9 tk9 F9 N9; (try dsimp only); (try k_fold))))
local macro_rules | `(tactic| walk_at "noteFrame ref") => `(tactic| (k_here; (with_reducible rename Heap.NewExc _ _ _ _ => hxN); refine caught_new (T' := "IndexError") hxN (by assumption) (by assumption) (by assumption) (by assumption) (by assumption) (by kernel_rfl) PyProof.Rows.Boot.«IndexError» (by decide) PySem.F.isExc_IndexError PySem.F.notTuple_IndexError (by rw [isSubtype_type]; kernel_rfl) ?_; intro h5 g5 vs5 T5 F5 N5 K5 X5 P5 XS5 hv5 fr5; (try dsimp only)))

set_option maxRecDepth 100000 in
set_option maxHeartbeats 8000000 in
theorem cut_ct (w : World) (news : CbLed) (X : List UInt8) (b : Int) (tx tp tb te : CbTok) :
    CtX w 42 news (decL X 0 b 1 0 = none ∧ (∀ c ∈ X, sok c) ∧ X.length < 5000) [.bytes X.toArray tx, .int 0 tp, .int b tb, .str "replace" te] (X.length + 1) .none := by
  unfold CtX
  intro mean mg mb dp un gd cn cs a ccd A₀ base h₀ L m s Q E B F X' N T hk XB TB hpre hdp hun hret
  obtain ⟨hdec, hsok, hlen⟩ := hpre
  have hlen' : X.length < 10000 := by omega
  refine wpAny_call ?_
  k_dflt (refine' code_defS0 ?k1 ?k2 ?k3 ?k4 ?k5 ?kA ?k6 ?k7 ?k8 ?k9 ?kB ?_ ?kK ?c2 ?c3 ?c4 ?c5; (case kA => exact rfl); (case kK => assumption); (case k1 => k_asm); (case k2 => k_asm); (case k3 => k_asm); (case k4 => k_asm); (case k5 => k_asm); (case k6 => k_is); (case k7 => k_is); (case k8 => ktr_room); (case k9 => exact BindsTo.of_eq rfl); (case c5 => decide); (case kB => exact locs rfl); (case c2 => exact rfl); (case c3 => exact rfl); (case c4 => exact rfl); k_whole)
  intro g' L' h' FG' F' N' B' X'' T' D'
  (try dsimp only)
  refine any_plain ?_
  k_steps
  dsimp only
  unfold Stop
  refine any_plain ?_
  k_steps
  dsimp only
  unfold Stop
  refine any_plain ?_
  k_steps
  dsimp only
  unfold Stop
  (rename Fr _ _ _ _ => F3)
  (rename News _ _ _ _ => N3)
  refine any_plain (any_loop (σ := (Int × Int × Int × Int) × Tok × Tok × Tok × Tok)
    (fun c => [(Str.ofString "extended", .bytes X.toArray tx), (Str.ofString "bias", .int b tb), (Str.ofString "errors", .str "replace" te), (Str.ofString "extpos", .int c.1.1 c.2.1), (Str.ofString "j", .int c.1.2.1 c.2.2.1), (Str.ofString "w", .int c.1.2.2.1 c.2.2.2.1), (Str.ofString "result", .int c.1.2.2.2 c.2.2.2.2)])
    (fun c => 0 ≤ c.1.1 ∧ c.1.1 ≤ X.length ∧ decL (X.drop c.1.1.toNat) c.1.2.1 b c.1.2.2.1 c.1.2.2.2 = none) (fun c => X.length - c.1.1.toNat) ⟨(_, _, _, _), _, _, _, _⟩ F3 N3 (by kst_all) ?_ ?_)
  · exact ⟨Int.le_refl _, by show (0 : Int) ≤ _; omega, hdec⟩
  · rintro ⟨⟨q, j, W, res⟩, tq, tj, tW, tr⟩ u h tk ⟨hq0, hq1, hdec'⟩ F4 N4
    clear F3 N3
    dsimp only [kstB] at F4 hq0 hq1 hdec'
    have ht0 := Tv_lo j b
    have ht1 := Tv_hi j b
    cases hX : X.drop q.toNat with
    | nil =>
      have hcl : X.length ≤ q.toNat := List.drop_eq_nil_iff.mp hX
      have hqe : q = X.length := by omega
      k_steps
      unfold TurnTo
      dsimp only
      refine leaveS0_ (by assumption) (by assumption) (by assumption) fun F7 N7 => ?_
      dsimp only
      exact pair_endX hret (by rw [hqe]) F7 N7
    | cons c r =>
      rw [hX] at hdec'
      obtain ⟨hlt, hnx⟩ := decL_none hdec'
      have hc := sok_drop hsok hX
      have hnext := drop_next hq0 hX
      unfold sok at hc
      have hcl : (X.drop q.toNat).length = r.length + 1 := by rw [hX]; rfl
      rw [List.length_drop] at hcl
      k_steps
      all_goals (first | (exfalso; omega) | skip)
      all_goals (first | (rw [dgt_up (c := c) (by omega)] at hlt hnx) | (rw [dgt_lo (c := c) (by omega)] at hlt hnx))
      all_goals (first | (exfalso; omega) | skip)
      all_goals
        refine turn_to ⟨(_, _, _, _), _, _, _, _⟩ (by assumption) (by assumption) (by kst_all) ⟨?_, ?_, ?_⟩ ?_
      all_goals (first | (show 0 ≤ q + 1; omega) | (show X.length - (q + 1).toNat < X.length - q.toNat; omega) | (show q + 1 ≤ (X.length : Int); omega) | skip)
      all_goals
        dsimp only
        rw [hnext]
        exact hnx
end Mine
end DRpart

section DSpart
local macro_rules | `(tactic| walk_at "none here") => `(tactic| fail)
open PySem PySem.W PyProof.Rows
namespace Mine
theorem fill_ds : (fun (_ : OpenLaw) (_ : Params → Frag) => True) _root_.PySem.Challenge.rw_xc0042_01 hd.heap_39 := by
  k_fill
  trivial

/-- decode that raises -/
def CtR (w : World) (f : Addr) (news : CbLed) (pre : Prop) (vs : List Value) (r : Str) : Prop :=
  ∀ (mean : ExcName → Option Value) (mg mb : Str → Option Value) (dp un : Nat) (gd : Option (List Code)) (cn : Str) (cs : Scope) (a : Addr) (ccd : Value) (cl : List (Str × Addr)) (outer : List Env) (A₀ : Around) (base h₀ : Heap) (L : Addr) (m : Str → Option Value) (s : Shared) (Q E : Value → Shared → Prop),
    Below A₀ base outer h₀ → Fr h₀ L s.heap m → (hd.heap_39 w.params).In h₀ → News h₀ L s.heap news → Top hd.view_39 (looseW hd.view_39 []) mean mg mb h₀ → cs.kind = .function →
    (hd.heap_39 w.params).In base → Top hd.view_39 (looseW hd.view_39 []) mean mg mb base →
    pre → dp + 5 < recursionLimit → un + 60 < cLine →
    (∀ (G : Heap) (e : Addr) (ws : Array Value) (tr : Tok) (h' : Heap) (tk : Nat), Fr h₀ L G m → News h₀ L G news → ExcSt (fsOf (envX cn cs L a ccd cl :: outer)) G h' e (.type "UnicodeDecodeError") ws .none → HasReason ws r tr → E (.ref e) { s with heap := h', toks := tk }) →
      wpAny (model _root_.PySem.Challenge.rw_xc0042_01.row.prog w) (ktrTop dp un gd cn cs L a ccd cl outer) (call (.ref f) vs) Q E s

theorem evalArgs_b {prog : Program} {w : World} {A : Around} {E : Value → Shared → Prop} {s : Shared} {f : Value} {pos : Pos} {env : Env} {e : Expr} {rest : List Expr} {Q : Args → Shared → Prop}
    (h : wpAny (model prog w) A (spliced (backTo pos (starEach (e :: rest) env))) (fun vs s₁ => Q ⟨vs, []⟩ s₁) E s) (he : starEach (e :: rest) env = (false, eval e env) :: starEach rest env := by rfl) :
    wpAny (model prog w) A (evalArgs f true (backTo pos (starEach (e :: rest) env)) []) Q E s := by
  rw [he] at h ⊢
  exact Calls.evalArgs_plain h
local macro_rules | `(tactic| walk_at "subscriptTail Name Name bytes int") => `(tactic| (k_here; first | refine ext_sub (by omega) (by assumption) (by assumption) ?_ | (refine ext_out rfl (by omega) (by assumption) (by omega) ?_; intro h1 tk1 e1 hx1; (try dsimp only))))
local macro_rules | `(tactic| walk_at "call ref") => `(tactic| (k_here; (with_reducible show wpAny _ _ (call (Value.ref _) [Value.int _ _, Value.int _ _]) _ _ _); k_dflt (refine' T_use ?k1 ?k2 ?k3 ?k4 ?k5 ?kK ?kd ?ku ?_; (case k1 => k_asm); (case k2 => k_asm); (case k3 => k_asm); (case k4 => k_asm); (case k5 => k_asm); (case kK => first | exact rfl | assumption); (case kd => ktr_room); (case ku => ktr_units); k_whole; intro t9 h9 tk9 F9 N9; (try dsimp only); (try k_fold))))
local macro_rules | `(tactic| walk_at "noteFrame ref") => `(tactic| (k_here; (with_reducible rename Heap.NewExc _ _ _ _ => hxN); refine caught_new (T' := "IndexError") hxN (by assumption) (by assumption) (by assumption) (by assumption) (by assumption) (by kernel_rfl) PyProof.Rows.Boot.«IndexError» (by decide) PySem.F.isExc_IndexError PySem.F.notTuple_IndexError (by rw [isSubtype_type]; kernel_rfl) ?_; intro h5 g5 vs5 T5 F5 N5 K5 X5 P5 XS5 hv5 fr5; (try dsimp only)))

set_option maxRecDepth 100000 in
set_option maxHeartbeats 8000000 in
theorem strict_ct (w : World) (news : CbLed) (X : List UInt8) (b : Int) (tx tp tb te : CbTok) :
    CtR w 42 news (decL X 0 b 1 0 = none ∧ (∀ c ∈ X, sok c) ∧ X.length < 5000) [.bytes X.toArray tx, .int 0 tp, .int b tb, .str "strict" te] "incomplete punycode string" := by
  unfold CtR
  intro mean mg mb dp un gd cn cs a ccd cl outer A₀ base h₀ L m s Q E B F X' N T hk XB TB hpre hdp hun hraise
  obtain ⟨hdec, hsok, hlen⟩ := hpre
  have hlen' : X.length < 10000 := by omega
  refine wpAny_call ?_
  k_dflt cell_enter
  refine any_plain ?_
  k_steps
  dsimp only
  unfold Stop
  refine any_plain ?_
  k_steps
  dsimp only
  unfold Stop
  refine any_plain ?_
  k_steps
  dsimp only
  unfold Stop
  (rename Fr h₀ L _ m => FG)
  (rename Fr _ _ _ _ => F3)
  (rename News _ _ _ _ => N3)
  refine any_plain (any_loop (σ := (Int × Int × Int × Int) × Tok × Tok × Tok × Tok)
    (fun c => [(Str.ofString "extended", .bytes X.toArray tx), (Str.ofString "bias", .int b tb), (Str.ofString "errors", .str "strict" te), (Str.ofString "extpos", .int c.1.1 c.2.1), (Str.ofString "j", .int c.1.2.1 c.2.2.1), (Str.ofString "w", .int c.1.2.2.1 c.2.2.2.1), (Str.ofString "result", .int c.1.2.2.2 c.2.2.2.2)])
    (fun c => 0 ≤ c.1.1 ∧ c.1.1 ≤ X.length ∧ decL (X.drop c.1.1.toNat) c.1.2.1 b c.1.2.2.1 c.1.2.2.2 = none) (fun c => X.length - c.1.1.toNat) ⟨(_, _, _, _), _, _, _, _⟩ F3 N3 (by kst_all) ?_ ?_)
  · exact ⟨Int.le_refl _, by show (0 : Int) ≤ _; omega, hdec⟩
  · rintro ⟨⟨q, j, W, res⟩, tq, tj, tW, tr⟩ u h tk ⟨hq0, hq1, hdec'⟩ F4 N4
    clear F3 N3
    dsimp only [kstB] at F4 hq0 hq1 hdec'
    have ht0 := Tv_lo j b
    have ht1 := Tv_hi j b
    cases hX : X.drop q.toNat with
    | nil =>
      have hcl : X.length ≤ q.toNat := List.drop_eq_nil_iff.mp hX
      have hqe : q = X.length := by omega
      k_steps
      (rename ExcSt _ _ _ _ _ _ _ => XS5)
      (rename (_ : Array Value)[2]? = _ => hv5)
      (rename Heap.FunFrames _ _ _ => fr5)
      obtain ⟨oe1, he1, hc1, hd1⟩ := XS5.exc
      obtain ⟨wsx, hwd, hw2⟩ : ∃ ws, oe1.data = .fields ws ∧ ws[2]? = some .none := ⟨_, hd1, hv5⟩
      refine raise_ude (o := oe1) (ws := wsx) rfl rfl ?_
      k_steps
      refine evalArgs_b ?_
      k_steps
      refine leave_x (by assumption) F4 N4 (by assumption) XS5.since fr5 (by assumption) (by assumption) (by assumption) rfl rfl rfl ⟨_, _, _, _, _, _, rfl⟩ fun G ws h9 FG NG XG rG => ?_
      exact hraise G _ ws _ h9 _ FG NG XG rG
    | cons c r =>
      rw [hX] at hdec'
      obtain ⟨hlt, hnx⟩ := decL_none hdec'
      have hc := sok_drop hsok hX
      have hnext := drop_next hq0 hX
      unfold sok at hc
      have hcl : (X.drop q.toNat).length = r.length + 1 := by rw [hX]; rfl
      rw [List.length_drop] at hcl
      k_steps
      all_goals (first | (exfalso; omega) | skip)
      all_goals (first | (rw [dgt_up (c := c) (by omega)] at hlt hnx) | (rw [dgt_lo (c := c) (by omega)] at hlt hnx))
      all_goals (first | (exfalso; omega) | skip)
      all_goals
        refine turn_to ⟨(_, _, _, _), _, _, _, _⟩ (by assumption) (by assumption) (by kst_all) ⟨?_, ?_, ?_⟩ ?_
      all_goals (first | (show 0 ≤ q + 1; omega) | (show X.length - (q + 1).toNat < X.length - q.toNat; omega) | (show q + 1 ≤ (X.length : Int); omega) | skip)
      all_goals
        dsimp only
        rw [hnext]
        exact hnx
end Mine
end DSpart

section LCpart
open PySem PySem.W PyProof.Rows
namespace Mine
theorem fill_lc : (fun (_ : OpenLaw) (_ : Params → Frag) => True) _root_.PySem.Challenge.rw_xc0042_01 hd.heap_39 := by
  k_fill
  trivial

theorem strict_use {w : World} {mean : ExcName → Option Value} {mg mb : Str → Option Value} {dp un : Nat} {gd : Option (List Code)} {cn : Str} {cs : Scope} {a : Addr} {ccd : Value} {cl : List (Str × Addr)} {outer : List Env} {A₀ : Around} {base h₀ : Heap} {L : Addr} {m : Str → Option Value} {s : Shared} {news : List (Addr × Obj)}
    {Q E : Value → Shared → Prop} {X : List UInt8} {b : Int} {tx tp tb te : Tok} (B : Below A₀ base outer h₀) (F : Fr h₀ L s.heap m) (KI : (hd.heap_39 w.params).In h₀) (N : News h₀ L s.heap news) (T : Top hd.view_39 (looseW hd.view_39 []) mean mg mb h₀) (hk : cs.kind = .function)
    (XB : (hd.heap_39 w.params).In base) (TB : Top hd.view_39 (looseW hd.view_39 []) mean mg mb base) (hpre : decL X 0 b 1 0 = none ∧ (∀ c ∈ X, sok c) ∧ X.length < 5000)
    (hd : dp + 5 < recursionLimit) (hu : un + 60 < cLine)
    (hraise : ∀ (G : Heap) (e : Addr) (ws : Array Value) (tr : Tok) (h' : Heap) (tk : Nat), Fr h₀ L G m → News h₀ L G news → ExcSt (fsOf (envX cn cs L a ccd cl :: outer)) G h' e (.type "UnicodeDecodeError") ws .none → HasReason ws "incomplete punycode string" tr → E (.ref e) { s with heap := h', toks := tk }) :
    wpAny (model _root_.PySem.Challenge.rw_xc0042_01.row.prog w) (ktrTop dp un gd cn cs L a ccd cl outer) (call (.ref 42) [.bytes X.toArray tx, .int 0 tp, .int b tb, .str "strict" te]) Q E s :=
  strict_ct w news X b tx tp tb te mean mg mb dp un gd cn cs a ccd cl outer A₀ base h₀ L m s Q E B F KI N T hk XB TB hpre hd hu hraise

/-- _law_cut hands back True -/
def CtL (w : World) (f : Addr) (news : CbLed) (pre : Prop) (vs : List Value) : Prop :=
  ∀ (mean : ExcName → Option Value) (mg mb : Str → Option Value) (dp un : Nat) (gd : Option (List Code)) (cn : Str) (cs : Scope) (a : Addr) (ccd : Value) (A₀ : Around) (base h₀ : Heap) (L : Addr) (m : Str → Option Value) (s : Shared) (Q E : Value → Shared → Prop),
    Below A₀ base [] h₀ → Fr h₀ L s.heap m → (hd.heap_39 w.params).In h₀ → News h₀ L s.heap news → Top hd.view_39 (looseW hd.view_39 []) mean mg mb h₀ → cs.kind = .function →
    (hd.heap_39 w.params).In base → Top hd.view_39 (looseW hd.view_39 []) mean mg mb base →
    pre → dp + 8 < recursionLimit → un + 100 < cLine →
    (∀ (h' : Heap) (tk : Nat), Fr h₀ L h' m → News h₀ L h' news → Q (.bool true) { s with heap := h', toks := tk }) →
      wpAny (model _root_.PySem.Challenge.rw_xc0042_01.row.prog w) (ktrTop dp un gd cn cs L a ccd [] []) (call (.ref f) vs) Q E s

local macro_rules | `(tactic| walk_at "call ref") => `(tactic| (k_here; (with_reducible show wpAny _ _ (call (Value.ref _) [Value.bytes _ _, Value.int _ _, Value.int _ _, Value.str _ _]) _ _ _); k_dflt (refine' strict_use ?k1 ?k2 ?k3 ?k4 ?k5 ?kK ?kXB ?kTB ?kpre ?kd ?ku ?_; (case k1 => k_asm); (case k2 => k_asm); (case k3 => k_asm); (case k4 => k_asm); (case k5 => k_asm); (case kK => first | exact rfl | assumption); (case kXB => assumption); (case kTB => assumption); (case kpre => assumption); (case kd => ktr_room); (case ku => ktr_units); k_whole; intro G9 e9 ws9 tr9 h9 tk9 FG9 NG9 XG9 rG9; (try dsimp only); (try k_fold))))

local macro_rules | `(tactic| walk_at "noteFrame ref") => `(tactic| (k_here; k_dflt (refine' caught_as (T' := "UnicodeDecodeError") ?a1 ?a2 ?a3 ?a4 ?a5 ?a6 ?a7 ?a8 ?a9 ?b1 ?b2 ?b3 ?b4 ?_ ?c1 ?c2 ?c3 ?c4; (case a1 => assumption); (case a2 => assumption); (case a3 => assumption); (case a4 => assumption); (case a5 => assumption); (case a6 => assumption); (case a7 => assumption); (case a8 => kernel_rfl); (case a9 => exact x_boot); (case b1 => decide); (case b2 => exact x_isExc); (case b3 => exact x_notTuple); (case b4 => exact x_sub); (case c1 => rfl); (case c2 => rfl); (case c3 => rfl); (case c4 => decide); intro h5 g5 tk5 oe5 ws5 T5 F5 N5 K5 X5 P5 hc5 hd5 hr5; (try dsimp only))))

theorem reason_attrN {prog : Program} {w : World} {A : Around} {E : Value → Shared → Prop} {s : Shared} {a : Addr} {oe : Obj} {vs : Array Value} {expr : Bool} {r : Str} {tr : Tok} {Q : Value → Shared → Prop} {g : Heap} {L : Addr} {news : List (Addr × Obj)} (N : News g L s.heap ((a, oe) :: news)) (hc : oe.cls = .type "UnicodeDecodeError") (hd : oe.data = .fields vs) (hr : HasReason vs r tr)
    (hq : Q (.str r tr) { s with toks := s.toks + 1 }) : wpAny (model prog w) A (getAttr (.ref a) "reason" expr) Q E s := by
  obtain ⟨h, gg, d, t, os⟩ := s
  exact reason_attr (N _ (.head _)).1 hc hd hr hq
local macro_rules | `(tactic| walk_at "getAttr ref") => `(tactic| (k_here; refine reason_attrN (by assumption) (by assumption) (by assumption) (by assumption) ?_; (try dsimp only)))

set_option maxRecDepth 100000 in
set_option maxHeartbeats 8000000 in
theorem lcut_ct (w : World) (news : CbLed) (X : List UInt8) (b : Int) (tx tb : CbTok) :
    CtL w 49 news (decL X 0 b 1 0 = none ∧ (∀ c ∈ X, sok c) ∧ X.length < 5000) [.bytes X.toArray tx, .int b tb] := by
  unfold CtL
  intro mean mg mb dp un gd cn cs a ccd A₀ base h₀ L m s Q E B F X' N T hk XB TB hpre hdp hun hret
  refine wpAny_call ?_
  k_dflt (refine' code_defS0 ?k1 ?k2 ?k3 ?k4 ?k5 ?kA ?k6 ?k7 ?k8 ?k9 ?kB ?_ ?kK ?c2 ?c3 ?c4 ?c5; (case kA => exact rfl); (case kK => assumption); (case k1 => k_asm); (case k2 => k_asm); (case k3 => k_asm); (case k4 => k_asm); (case k5 => k_asm); (case k6 => k_is); (case k7 => k_is); (case k8 => ktr_room); (case k9 => exact BindsTo.of_eq rfl); (case c5 => decide); (case kB => exact locs rfl); (case c2 => exact rfl); (case c3 => exact rfl); (case c4 => exact rfl); k_whole)
  intro g' L' h' FG' F' N' B' X'' T' D'
  (try dsimp only)
  refine any_plain ?_
  k_steps
  (rename Fr h₀ L _ m => kF)
  (rename News h₀ L _ _ => kN)
  rw [show (Str.ofString "incomplete punycode string" == Str.ofString "incomplete punycode string") = true from beq_self_eq_true _]
  exact hret _ _ kF fun q hq => kN q (.tail _ hq)
end Mine
end LCpart

section LEpart
open PySem PySem.W PyProof.Rows
namespace Mine
/-- how the law ends -/
def LawPost (s : Shared) (L : Addr) (f : Flow) (s' : Shared) : Prop := f = .ret (.bool true) ∧ ∃ h tk m, s' = { s with heap := h, toks := tk } ∧ Fr s.heap L h m
theorem law_post {s : Shared} {L : Addr} {h : Heap} {tk : Nat} {m : Str → Option Value} (F : Fr s.heap L h m) : LawPost s L (.ret (.bool true)) { s with heap := h, toks := tk } := ⟨rfl, h, tk, m, rfl, F⟩
theorem law_enter {prog : Program} {w : World} {s : Shared} {d : DefRec} {a : Addr} {o : Obj} {pm cd doc : Value} {args : List Value} {binds : List (Str × Value)} {R : Result → Shared → Prop}
    (ho : s.heap.get? a = some o) (hd : o.data = .func (Calls.docDef d.name d.params d.body d.scope pm cd doc)) (hlim : s.heap.NoLimit) (hcd : s.heap.CodeRec cd d.name)
    (hbind : BindsTo s (Calls.docDef d.name d.params d.body d.scope pm cd doc) ⟨args, []⟩ binds) (hcell : ∀ x ∈ d.scope.names, x.2 ≠ .cell) (hloc : ∀ x ∈ binds, d.scope.names.lookup x.1 = some .local)
    (hR : ∀ h tk m, Fr s.heap s.heap.objs.size h m → R (.ok (.ret (.bool true))) { s with heap := h, toks := tk })
    (hco : d.scope.isCoroutine = false) (hgen : d.scope.isGenerator = false) (hk : d.scope.kind = .function)
    (h : ∀ h₁, Fr s.heap s.heap.objs.size h₁ (fun x => binds.reverse.lookup x) → News s.heap s.heap.objs.size h₁ [] →
      wpS (model prog w) (callerA.deeper (envOf d.name d.scope s.heap.objs.size a cd)) (execs d.body (envOf d.name d.scope s.heap.objs.size a cd)) (LawPost s s.heap.objs.size) (fun _ _ => False) { s with heap := h₁, toks := s.toks + binds.length }) :
    codeS (model prog w) callerA (.call (.ref a) ⟨args, []⟩) R s := by
  refine codeS_call_def (by decide) ho hd hlim hcd rfl hbind hcell hloc (fun h₁ hns hk₁ => ?_) hco hgen hk
  refine wpS_mono (h h₁ ⟨hns, hk₁, Nat.le_refl _⟩ News.nil) (fun f s' hp => ?_) fun _ _ x => x.elim
  obtain ⟨rfl, h', tk, m, rfl, F⟩ := hp
  exact hR h' tk m F
end Mine
end LEpart

section LCBpart
open PySem PySem.W PyProof.Rows
namespace Mine
abbrev lstO (ys : List Value) : Obj := { cls := .type "list", data := .seq ys.toArray ys.length }
theorem lstO_snoc (ys : List Value) (y : Value) : ({ cls := .type "list", data := .seq (ys.toArray.push y) (ys.length + 1) } : Obj) = lstO (ys ++ [y]) := by
  show ({ cls := .type "list", data := .seq (ys.toArray.push y) (ys.length + 1) } : Obj) = { cls := .type "list", data := .seq (ys ++ [y]).toArray (ys ++ [y]).length }
  rw [List.length_append, List.length_singleton, List.push_toArray]
/-- only the comprehension's own names moved -/
def ButC (C : Addr) (s s' : Shared) : Prop := ∃ h tk m', s' = { s with heap := h, toks := tk } ∧ h.Ns C m' ∧ ∀ b o, b ≠ C → s.heap.get? b = some o → h.get? b = some o
abbrev KeepBut (I : Addr) (h h' : Heap) : Prop := ∀ b o, b ≠ I → h.get? b = some o → h'.get? b = some o

section
variable {prog : Program} {w : World} {A : Around} {E : Value → Shared → Prop} {s : Shared} {env : Env}
/-- the library's comprehension loop, with the target's pair let go by hand -/
theorem compLoop_go {elt target iter : Expr} {ifs : List Expr} {scope : Scope} {pos : Pos} {it acc : Value} {R : Result → Shared → Prop} (I : Nat → Shared → Prop)
    (turn : ∀ n s, I n s → wpAny (model prog w) A (pyNext it) (fun r s₁ => match r with
      | none => R (.ok .next) s₁
      | some v => wpAny (model prog w) A (letOwnedTupleGo target it v) (fun _ s₁' => wpAny (model prog w) A (assign target env v) (fun _ s₂ =>
          wpAny (model prog w) A (forIn ifs true fun c r => if r = true then do let ok ← isTrue c env (eval c env); pure (ForInStep.yield ok) else pure (ForInStep.yield r)) (fun ok s₃ =>
            if ok = true then wpAny (model prog w) A (eval elt env) (fun x s₄ =>
              wpAny (model prog w) A (call (.builtin "list.append") [acc, x]) (fun _ s₅ => ∃ m, m < n ∧ I m s₅) (notedBy (model prog w) A env fun e s' => R (.error e) s') s₄) (notedBy (model prog w) A env fun e s' => R (.error e) s') s₃
            else ∃ m, m < n ∧ I m s₃) (notedBy (model prog w) A env fun e s' => R (.error e) s') s₂) (notedBy (model prog w) A env fun e s' => R (.error e) s') s₁') (notedBy (model prog w) A env fun e s' => R (.error e) s') s₁) (notedBy (model prog w) A env fun e s' => R (.error e) s') s)
    (n : Nat) (h : I n s) :
    codeAny (model prog w) A (.compLoop (.ListComp elt [⟨target, iter, ifs, 0⟩] scope pos) 0 it acc env) R s := by
  refine codeAny_loop rfl I (fun n s hI => ?_) n h
  show wpAny _ A ((compTurn (.ListComp elt [⟨target, iter, ifs, 0⟩] scope pos) 0 it acc env).onRaise (fun x => do noteFrame x env; theTreesLotGoes x)) _ _ s
  refine wpAny_noted ?_
  rw [compTurn_list]
  refine wpAny_bind (wpAny_standAt (wpAny_bind (wpAny_mono (turn n s hI) (fun r s₁ h₁ => ?_) fun _ _ h' => h')))
  cases r with
  | none => exact wpAny_pure h₁
  | some v =>
    refine wpAny_bind (wpAny_mono h₁ (fun _ s₁' h₁' => wpAny_bind (wpAny_mono h₁' (fun _ s₂ h₂ => wpAny_bind (wpAny_mono h₂ (fun ok s₃ h₃ => ?_) fun _ _ h' => h')) fun _ _ h' => h')) fun _ _ h' => h')
    cases ok with
    | false => exact wpAny_pure ⟨rfl, h₃⟩
    | true => exact wpAny_bind (wpAny_bind (wpAny_mono h₃ (fun x s₄ h₄ => wpAny_bind (wpAny_mono h₄ (fun _ s₅ h₅ => wpAny_pure (wpAny_pure ⟨rfl, h₅⟩)) fun _ _ h' => h')) fun _ _ h' => h'))
/-- the turns of a comprehension -/
structure CompTurns (prog : Program) (w : World) (A : Around) (env : Env) (elt target : Expr) (ifs : List Expr) (scope : Scope) (cl : List (Str × Addr)) (I : Addr) (n : Nat) (P : Nat → Value → Prop) (s₂ : Shared) (J : Nat → List Value → Prop) (Q : Value → Shared → Prop) : Prop where
  start : J 0 []
  turn : ∀ i ys v C m₂ h tk, i < n → P i v → J i ys → h.Ns C m₂ → s₂.heap.objs.size < C → KeepBut I s₂.heap h →
    wpAny (model prog w) A (assign target (compEnvC scope cl C env) v) (fun _ s₄ =>
      wpAny (model prog w) A (forIn ifs true fun c r => if r = true then do let ok ← isTrue c (compEnvC scope cl C env) (eval c (compEnvC scope cl C env)); pure (ForInStep.yield ok) else pure (ForInStep.yield r)) (fun ok s₅ =>
        if ok = true then wpAny (model prog w) A (eval elt (compEnvC scope cl C env)) (fun y s₆ => ButC C { s₂ with heap := h, toks := tk } s₆ ∧ J (i + 1) (ys ++ [y])) (fun _ _ => False) s₅
        else ButC C { s₂ with heap := h, toks := tk } s₅ ∧ J (i + 1) ys) (fun _ _ => False) s₄) (fun _ _ => False) { s₂ with heap := h, toks := tk }
  fin : ∀ ys D h tk, J n ys → KeepBut I s₂.heap h → h.get? D = some (lstO ys) → s₂.heap.objs.size ≤ D → Q (.ref D) { s₂ with heap := h, toks := tk }
  small : ∀ i ys, J i ys → ys.length ≤ i

theorem comp_list {elt target iter : Expr} {ifs : List Expr} {scope : Scope} {cl : List (Str × Addr)} {pos : Pos} {Q : Value → Shared → Prop}
    (hclos : closureFor scope env = pure cl) (hcell : ∀ y ∈ scope.names, y.2 ≠ .cell) (hkind : scope.kind = .function)
    (hnames : ∀ y ∈ scope.names, y.2 = .local → scope.names.lookup y.1 = some .local)
    (h : wpAny (model prog w) A (eval iter env) (fun xv s₁ => wpAny (model prog w) A (pyIter xv) (fun it s₂ => ∃ I fp n P St J, it = .ref I ∧ Walks prog w A I fp [I] n P St ∧ n ≤ sizeLine ∧ St 0 s₂.heap ∧ (∀ b ∈ fp, b < s₂.heap.objs.size) ∧
      (∀ i v (s' : Shared) (Q : Unit → Shared → Prop) (E : Value → Shared → Prop), P i v → St (i + 1) s'.heap → Q () s' → wpAny (model prog w) A (letOwnedTupleGo target (.ref I) v) Q E s') ∧
      CompTurns prog w A env elt target ifs scope cl I n P s₂ J Q) E s₁) E s)
    (hs : ∀ x, foldedSetIterable iter env x = pure x := by intro _; rfl) :
    wpAny (model prog w) A (eval (.ListComp elt [⟨target, iter, ifs, 0⟩] scope pos) env) Q E s := by
  rw [eval_ListComp]
  refine wpAny_comprehension_free (use := none) rfl hs hclos hkind hnames (wpAny_mono h (fun xv s₁ h₁ => wpAny_mono h₁ (fun it s₂ h₂ => ?_) fun _ _ e => e) fun _ _ e => e)
  obtain ⟨I, fp, n, P, St, J, rfl, W, hsz, hst, hfp, hgo, T⟩ := h₂
  refine wpAny_newObj_type (wpAny_newFunctionEnv hcell (by intro y hy; simp at hy) (fun h₁ hns₁ hsb₁ => ?_) hkind)
  dsimp only at hns₁ hsb₁ ⊢
  generalize hH2 : s₂.heap.push { cls := .type "list", dict := none, data := .seq ([] : List Value).toArray } = H2 at hns₁ hsb₁ ⊢
  have hC : H2.objs.size = s₂.heap.objs.size + 1 := by rw [← hH2, Heap.size_push]
  have hlt : s₂.heap.objs.size < H2.objs.size := by rw [hC]; exact Nat.lt_succ_self _
  have hDC : s₂.heap.objs.size ≠ H2.objs.size := Nat.ne_of_lt hlt
  have old : ∀ b o, s₂.heap.get? b = some o → h₁.get? b = some o := fun b o e => hsb₁.extBut b o (Nat.ne_of_lt (Nat.lt_trans (Heap.lt_size e) hlt)) (Heap.get?_push_of_some _ (hH2 ▸ Heap.get?_push_of_some _ e))
  have hacc : h₁.get? s₂.heap.objs.size = some (lstO []) := hsb₁.extBut _ _ hDC (Heap.get?_push_of_some _ (hH2 ▸ Heap.get?_push_size _ rfl))
  have hst₁ : St 0 h₁ := W.frame _ _ _ hst fun b _ o e => old b o e
  have hIlt : I < s₂.heap.objs.size := hfp I (W.sub I (List.mem_singleton.mpr rfl))
  have hDf : ∀ b ∈ fp, b ≠ s₂.heap.objs.size := fun b hb => Nat.ne_of_lt (hfp b hb)
  have hCf : ∀ b ∈ fp, b ≠ H2.objs.size := fun b hb => Nat.ne_of_lt (Nat.lt_trans (hfp b hb) hlt)
  generalize hD : s₂.heap.objs.size = D at *
  generalize hCC : H2.objs.size = C at *
  have loop : ∀ s₃ : Shared, s₃ = { s₂ with heap := h₁, toks := s₂.toks + ([] : List (Str × Value)).length } →
      codeAny (model prog w) A (.compLoop (.ListComp elt [⟨target, iter, ifs, 0⟩] scope pos) 0 (.ref I) (.ref D) (compEnvC scope cl C env))
        (compPost (model prog w) A E none Q (.ref D) C) s₃ := by
    rintro s₃ rfl
    refine compLoop_go (fun k s' => ∃ h' tk i ys m', s' = { s₂ with heap := h', toks := tk } ∧ i ≤ n ∧ k = n + 1 - i ∧ J i ys ∧ St i h' ∧ h'.Ns C m' ∧ h'.get? D = some (lstO ys) ∧ KeepBut I s₂.heap h') ?_ (n + 1)
      ⟨h₁, _, 0, [], _, rfl, Nat.zero_le _, rfl, T.start, hst₁, hns₁, hacc, fun b o _ e => old b o e⟩
    rintro k s' ⟨h', tk, i, ys, m', rfl, hi, rfl, hJ, hst', hn', hD', hk'⟩
    by_cases hin : i < n
    · refine W.item i _ _ _ hin hst' fun v h₂ tk₂ hPv hst₂ hk₂ => ?_
      refine hgo i v _ _ _ hPv hst₂ ?_
      have hCI : C ≠ I := Ne.symm (Nat.ne_of_lt (Nat.lt_trans hIlt hlt))
      have hDI : D ≠ I := Ne.symm (Nat.ne_of_lt hIlt)
      have hk₂' : KeepBut I s₂.heap h₂ := fun b o hb e => hk₂ b o (by simpa using hb) (hk' b o hb e)
      have end_ : ∀ (s₅ : Shared) ys', ButC C { s₂ with heap := h₂, toks := tk₂ } s₅ → J (i + 1) ys' → ∀ (hh : Heap), (∀ b o, b ≠ D → s₅.heap.get? b = some o → hh.get? b = some o) → hh.get? D = some (lstO ys') →
          ∃ m, m < n + 1 - i ∧ ∃ h' tk i ys m', ({ s₅ with heap := hh } : Shared) = { s₂ with heap := h', toks := tk } ∧ i ≤ n ∧ m = n + 1 - i ∧ J i ys ∧ St i h' ∧ h'.Ns C m' ∧ h'.get? D = some (lstO ys) ∧ KeepBut I s₂.heap h' := by
        rintro _ ys' ⟨h₅, tk₅, m₅, rfl, hn₅, hk₅⟩ hJ' hh hkD hDhh
        refine ⟨n + 1 - (i + 1), by omega, hh, tk₅, i + 1, ys', _, rfl, hin, rfl, hJ', W.frame _ _ _ (W.frame _ _ _ hst₂ fun b hb o e => hk₅ b o (hCf b hb) e) fun b hb o e => hkD b o (hDf b hb) e, hn₅.at' fun o e => hkD _ _ (Ne.symm hDC) e, hDhh, fun b o hb e => ?_⟩
        have hblt := Heap.lt_size e
        rw [hD] at hblt
        exact hkD b o (Nat.ne_of_lt hblt) (hk₅ b o (Nat.ne_of_lt (Nat.lt_trans hblt hlt)) (hk₂' b o hb e))
      refine wpAny_mono (T.turn i ys v C m' h₂ tk₂ hin hPv hJ (hn'.at' fun o e => hk₂ _ o (by simpa using hCI) e) (by rw [hD]; exact hlt) hk₂') (fun _ s₄ h₄ => wpAny_mono h₄ (fun ok s₅ h₅ => ?_) fun _ _ e => e.elim) fun _ _ e => e.elim
      have hD₂ : h₂.get? D = some (lstO ys) := hk₂ _ _ (by simpa using hDI) hD'
      cases ok with
      | false =>
        simp only [Bool.false_eq_true, if_false] at h₅ ⊢
        obtain ⟨⟨h₅', tk₅, m₅, rfl, hn₅, hk₅⟩, hJ'⟩ := h₅
        exact end_ _ _ ⟨h₅', tk₅, m₅, rfl, hn₅, hk₅⟩ hJ' h₅' (fun _ _ _ e => e) (by
          have := hk₅ D _ hDC hD₂
          exact this)
      | true =>
        simp only [if_true] at h₅ ⊢
        refine wpAny_mono h₅ (fun y s₆ h₆ => ?_) fun _ _ e => e.elim
        obtain ⟨⟨h₆', tk₆, m₆, rfl, hn₆, hk₆⟩, hJ'⟩ := h₆
        have hD₆ := hk₆ D _ hDC hD₂
        refine append_at (hsz := by show ys.toArray.size ≤ sizeLine; rw [List.size_toArray]; exact Nat.le_trans (T.small _ _ hJ) (Nat.le_trans hi hsz)) hD₆ fun h₇ hs₇ hD₇ => ?_
        exact end_ _ _ ⟨h₆', tk₆, m₆, rfl, hn₆, hk₆⟩ hJ' h₇ (fun b o hb e => hs₇.extBut b o hb e) (hD₇.trans (congrArg some (lstO_snoc ys y)))
    · obtain rfl : i = n := Nat.le_antisymm hi (Nat.not_lt.mp hin)
      refine W.done _ _ _ hst' fun h₂ tk₂ hk₂ => ?_
      have hCI : C ≠ I := Ne.symm (Nat.ne_of_lt (Nat.lt_trans hIlt hlt))
      have hDI : D ≠ I := Ne.symm (Nat.ne_of_lt hIlt)
      refine ⟨m', hn'.at' fun o e => hk₂ _ o (by simpa using hCI) e, fun h'' hs'' => T.fin ys D h'' tk₂ hJ (fun b o hb e => ?_) (hs''.extBut _ _ hDC (hk₂ _ _ (by simpa using hDI) hD')) (Nat.le_of_eq hD)⟩
      have hblt := Heap.lt_size e
      rw [hD] at hblt
      exact hs''.extBut b o (Nat.ne_of_lt (Nat.lt_trans hblt hlt)) (hk₂ b o (by simpa using hb) (hk' b o hb e))
  exact codeAny_compStart_list (loop _ rfl) (W.self 0 _ _ _ hst₁ (loop _ rfl))
end
end Mine
end LCBpart

section ABpart
open PySem PySem.W PyProof.Rows
namespace Mine
/-- a script's number, made small -/
def absM (z : Int) : Int := (if z < 0 then -z else z).fmod (10 ^ 40)
theorem absM_lo (z : Int) : 0 ≤ absM z := Int.fmod_nonneg_of_pos _ (by decide)
theorem absM_hi (z : Int) : absM z < 10 ^ 40 := Int.fmod_lt_of_pos _ (by decide)
local macro_rules | `(tactic| walk_at "eval Name") => `(tactic| first
  | refine wpAny_Name (wpAny_loadName_local (by assumption) (by assumption) (by assumption) (by assumption) ?_) (by decide)
  | refine Calls.Name_function_global (by assumption) (by assumption) (Calls.loadGlobal_builtin (by assumption) (by assumption) (by assumption) (by assumption) ?_))
set_option maxHeartbeats 4000000 in
theorem elt_abs {prog : Program} {w : World} {A : Around} {E : Value → Shared → Prop} {s : Shared} {cenv : Env} {m₂ mg mb : Str → Option Value} {z : Int} {tz : Tok} {Q : Value → Shared → Prop} {p1 p2 p3 p4 p5 p6 p7 : Pos} {k1 k2 : Nat}
    (hk : cenv.scope.kind = .function) (hx : cenv.kindOf "number" = some .local) (ha : cenv.kindOf "abs" = some .globalImplicit) (hgl : cenv.globals = mainGlobals) (hbl : cenv.builtins = builtinsNs)
    (hn : s.heap.Ns cenv.locals m₂) (hv : m₂ "number" = some (.int z tz)) (hg : s.heap.Ns mainGlobals mg) (hm : mg "abs" = none) (hb : s.heap.Ns builtinsNs mb) (hbv : mb "abs" = some (.builtin "abs"))
    (h : ∀ t tk, Q (.int (absM z) t) { s with toks := tk }) :
    wpAny (model prog w) A (eval (.BinOp (.Call (.Name "abs" p1) [.Name "number" p2] [] p3) .Mod (.BinOp (.Constant (.int 10) k1 p4) .Pow (.Constant (.int 40) k2 p5) p6) p7) cenv) Q E s := by
  rw [← hgl] at hg
  rw [← hbl] at hb
  k_steps
  exact h _ _

theorem ints_get : ∀ {vs : List Value} {ns : List Int} {i : Nat} {v : Value}, IntsAre vs ns → vs[i]? = some v → ∃ z t, ns[i]? = some z ∧ v = .int z t
  | _, _, 0, _, .cons n t r, h => by cases h; exact ⟨n, t, rfl, rfl⟩
  | _, _, i + 1, _, .cons n t r, h => by
    obtain ⟨z, t', h1, h2⟩ := ints_get (i := i) r (by simpa using h)
    exact ⟨z, t', by simpa using h1, h2⟩
theorem ints_snoc : ∀ {vs : List Value} {ns : List Int} (z : Int) (t : Tok), IntsAre vs ns → IntsAre (vs ++ [.int z t]) (ns ++ [z])
  | _, _, z, t, .nil => .cons z t .nil
  | _, _, z, t, .cons n u r => .cons n u (ints_snoc z t r)
theorem ints_len : ∀ {vs : List Value} {ns : List Int}, IntsAre vs ns → vs.length = ns.length
  | _, _, .nil => rfl
  | _, _, .cons _ _ r => by rw [List.length_cons, List.length_cons, ints_len r]

/-- the turns of the comprehension of numbers -/
theorem numbers_rest {prog : Program} {w : World} {A : Around} {h₀ : Heap} {L : Addr} {m mg mb : Str → Option Value} {env : Env} {scope : Scope} {cl : List (Str × Addr)} {S : List (Addr × Obj) → Prop} {s : Shared} {vs : List Value} {ns : List Int} {news : List (Addr × Obj)} {Fin : List Value → List (Addr × Obj) → Prop} {p1 p2 p3 p4 p5 p6 p7 : Pos} {k1 k2 : Nat}
    (hk : ∀ C, (compEnvC scope cl C env).scope.kind = .function) (hx : ∀ C, (compEnvC scope cl C env).kindOf "number" = some .local) (ha : ∀ C, (compEnvC scope cl C env).kindOf "abs" = some .globalImplicit) (hgl : env.globals = mainGlobals) (hbl : env.builtins = builtinsNs)
    (hg : h₀.Ns mainGlobals mg) (hm : mg "abs" = none) (hb : h₀.Ns builtinsNs mb) (hbv : mb "abs" = some (.builtin "abs")) (hS : S news) (hI : IntsAre vs ns)
    (hF : ∀ ys, IntsAre ys (ns.map absM) → Fin ys news) :
    ∀ (k i : Nat) (ys : List Value), i + k = vs.length → IntsAre ys ((ns.take i).map absM) →
      LCg.CompRest prog w A h₀ L m env (.BinOp (.Call (.Name "abs" p1) [.Name "number" p2] [] p3) .Mod (.BinOp (.Constant (.int 10) k1 p4) .Pow (.Constant (.int 40) k2 p5) p6) p7) "number" scope cl s S (fun i v => vs.toArray[i]? = some v) Fin k i ys news
  | 0, i, ys, he, hy => LCg.CompRest.zero (hF ys (by rwa [List.take_of_length_le (by rw [← ints_len hI]; omega)] at hy))
  | k + 1, i, ys, he, hy => LCg.CompRest.succ fun v I oI C oC D m₂ h tk E' hP hO hv F N off ne => by
    obtain ⟨z, t, hz, rfl⟩ := ints_get hI (by simpa using hP)
    have hC : h.Ns C m₂ := hO.ns (N _ (.tail _ (.head _))).1
    refine elt_abs (s := { s with heap := h, toks := tk }) (hk C) (hx C) (ha C) (by exact hgl) (by exact hbl) hC hv (hg.keeps F.keep) hm (hb.keeps F.keep) hbv fun t' tk' => ?_
    refine LCg.CompEnd.intro F N news (fun p hp => hp) off hS ?_
    refine numbers_rest hk hx ha hgl hbl hg hm hb hbv hS hI hF k (i + 1) _ (by omega) ?_
    rw [List.take_add_one, hz]
    have := ints_snoc (absM z) t' hy
    rwa [show [absM z] = [z].map absM from rfl, ← List.map_append] at this
end Mine
end ABpart

section LFpart
open PySem PySem.W PyProof.Rows
namespace Mine
section
variable {prog : Program} {w : World} {A : Around} {s : Shared} {h₀ : Heap} {L a : Addr} {m : Str → Option Value} {cn : Str} {cs : Scope} {cd : Value} {Q : Flow → Shared → Prop}
abbrev itO (l : Addr) (i : Nat) (o : Obj) : Prop := o.cls = .type "list_iterator" ∧ o.data = .fields #[.ref l, .int i 0]
theorem listIter_of {h : Heap} {I l : Addr} {i : Nat} {o : Obj} (e : h.get? I = some o) (x : itO l i o) : h.IsListIter I l i := ⟨o, e, x.1, x.2⟩
theorem of_listIter {h : Heap} {I l : Addr} {i : Nat} (x : h.IsListIter I l i) : ∃ o, h.get? I = some o ∧ itO l i o := let ⟨o, e, a, b⟩ := x; ⟨o, e, a, b⟩
theorem isList_of {h : Heap} {l : Addr} {ys : List Value} {o : Obj} (e : h.get? l = some o) (hc : o.cls = .type "list") {k : Nat} (hd : o.data = .seq ys.toArray k) : h.IsList l ys.toArray := ⟨o, e, hc, k, hd⟩
/-- no iterator among them -/
def NoIter (led : List (Addr × Obj)) : Prop := ∀ p ∈ led, p.2.cls ≠ .type "list_iterator" ∧ p.2.cls ≠ .type "enumerate"
theorem NoIter.cons {p : Addr × Obj} {led : List (Addr × Obj)} (h1 : p.2.cls ≠ .type "list_iterator" ∧ p.2.cls ≠ .type "enumerate") (h : NoIter led) : NoIter (p :: led) := fun q hq => by
  rcases List.mem_cons.mp hq with rfl | hq
  · exact h1
  · exact h q hq
theorem NoIter.nil : NoIter [] := fun _ hq => nomatch hq

/-- what a turn of a loop over things hands on -/
def NextTo {σ : Type} (h₀ : Heap) (L : Addr) (s : Shared) (own : List (Addr × Obj)) (led : σ → List (Addr × Obj)) (ps : σ → List (Str × Value)) (P : Nat → σ → Prop) (Q : Flow → Shared → Prop) (i : Nat) (f : Flow) (s₃ : Shared) : Prop :=
  match f with
  | .next | .cont => ∃ (c' : σ) (h' : Heap) (tk' : Nat) (m' : Str → Option Value), s₃ = { s with heap := h', toks := tk' } ∧ Fr h₀ L h' m' ∧ News h₀ L h' (own ++ led c') ∧ (∀ p ∈ ps c', m' p.1 = some p.2) ∧ P (i + 1) c'
  | .brk => Q .next s₃
  | .ret v => Q (.ret v) s₃
theorem next_to {σ : Type} {h₀ : Heap} {L : Addr} {s : Shared} {own : List (Addr × Obj)} {led : σ → List (Addr × Obj)} {ps : σ → List (Str × Value)} {P : Nat → σ → Prop} {Q : Flow → Shared → Prop} {i : Nat} (c' : σ) {h' : Heap} {tk' : Nat} {m' : Str → Option Value}
    (F : Fr h₀ L h' m') (N : News h₀ L h' (own ++ led c')) (hk : ∀ p ∈ ps c', m' p.1 = some p.2) (hp : P (i + 1) c') : NextTo h₀ L s own led ps P Q i .next { s with heap := h', toks := tk' } :=
  ⟨c', h', tk', m', rfl, F, N, hk, hp⟩
theorem frB {h : Heap} {ps : List (Str × Value)} {m' : Str → Option Value} (hk : ∀ p ∈ ps, m' p.1 = some p.2) (F : Fr h₀ L h m') : Fr h₀ L h (kstB m' ps) := by
  rw [show kstB m' ps = m' from funext fun z => kstB_eq hk fun _ => rfl]; exact F

/-- a loop over a list, on a clean stack -/
theorem S_list {σ : Type} {target : Expr} {body : List Stmt} {l : Addr} {vs : List Value} {lo : Obj} (led : σ → List (Addr × Obj)) (ps : σ → List (Str × Value)) (P : Nat → σ → Prop) (c₀ : σ)
    (hh : A.handled = none) (hlo : lo.cls = .type "list" ∧ ∃ k, lo.data = .seq vs.toArray k) (hin : ∀ c, (l, lo) ∈ led c) (hno : ∀ i c, P i c → NoIter (led c))
    (hgo : ((∃ elts k pos, target = .Tuple elts k pos) ∧ ∀ (i : Nat) (v : Value), vs[i]? = some v → ∃ T : Addr, v = Value.ref T) ∨ ∀ it v, letOwnedTupleGo target it v = pure ())
    (F : Fr h₀ L s.heap m) (N : News h₀ L s.heap (led c₀)) (hk : ∀ p ∈ ps c₀, m p.1 = some p.2) (hp : P 0 c₀)
    (turn : ∀ i c u h tk v I oi, vs[i]? = some v → P i c → Fr h₀ L h (kstB u (ps c)) → News h₀ L h ((I, oi) :: led c) →
      wpAny (model prog w) A (assign target (envOf cn cs L a cd) v) (fun _ s₂ => wpS (model prog w) A (execs body (envOf cn cs L a cd)) (NextTo h₀ L s [(I, oi)] led ps P Q i) (fun _ _ => False) s₂) (fun _ _ => False) { s with heap := h, toks := tk })
    (fin : ∀ c u h tk, P vs.length c → Fr h₀ L h (kstB u (ps c)) → News h₀ L h (led c) → Q .next { s with heap := h, toks := tk }) :
    wpAny (model prog w) A (pyIter (.ref l)) (fun it s₂ => codeS (model prog w) A (.forLoop target it body [] (envOf cn cs L a cd)) (fun r s' => match r with | .ok f => Q f s' | .error e => cameBackBy (model prog w) A (envOf cn cs L a cd) (fun _ _ => False) e s') s₂) (fun _ _ => False) s := by
  obtain ⟨hlc, lk, hld⟩ := hlo
  have hL0 := (N _ (hin c₀)).1
  refine wpAny_pyIter_list (isList_of hL0 hlc hld) ?_
  have hIL : s.heap.objs.size ≠ L := Nat.ne_of_gt F.ns.lt
  have hI0 : h₀.get? s.heap.objs.size = none := next_is_new F
  generalize hII : s.heap.objs.size = I at *
  refine codeS_for (fun k s' => ∃ (i : Nat) (c : σ) (h : Heap) (tk : Nat) (m' : Str → Option Value) (oi : Obj), s' = { s with heap := h, toks := tk } ∧ i ≤ vs.length ∧ k = vs.length + 1 - i ∧ Fr h₀ L h m' ∧ News h₀ L h ((I, oi) :: led c) ∧ itO l i oi ∧ (∀ p ∈ ps c, m' p.1 = some p.2) ∧ P i c) ?_ (vs.length + 1)
    ⟨0, c₀, _, _, m, ({ cls := .type "list_iterator", data := .fields #[.ref l, .int 0 0] } : Obj), rfl, Nat.zero_le _, rfl, F.push _, fun p hp' => ?_, ⟨rfl, rfl⟩, hk, hp⟩
  · rintro k s' ⟨i, c, h, tk, m', oi, rfl, hi, rfl, F', N', hoi, hk', hp'⟩
    have hl' := isList_of (N' _ (.tail _ (hin c))).1 hlc hld
    have hit := listIter_of (N' _ (.head _)).1 hoi
    have keepF : ∀ {h' : Heap} {m' : Str → Option Value}, Fr h₀ L h m' → (∀ b o, b ≠ I → h.get? b = some o → h'.get? b = some o) → Fr h₀ L h' m' := fun F k =>
      ⟨F.ns.at' fun o e => k L o (Ne.symm hIL) e, fun b o e => k b o (fun q => by rw [q, hI0] at e; cases e) (F.keep b o e), F.above⟩
    have keepN : ∀ {h' : Heap}, (∀ b o, b ≠ I → h.get? b = some o → h'.get? b = some o) → News h₀ L h' (led c) := fun k p hp => by
      refine ⟨k _ _ (fun q => ?_) (N' _ (.tail _ hp)).1, (N' _ (.tail _ hp)).2⟩
      have e := (N' _ (.tail _ hp)).1
      rw [q, (N' _ (.head _)).1] at e
      cases e
      exact (hno i c hp' _ hp).1 hoi.1
    cases hv : vs[i]? with
    | none =>
      have hin' : i = vs.length := Nat.le_antisymm hi (by simpa using hv)
      subst hin'
      exact wpAny_pyNext_list_end hh hit hl' (by simpa using hv) fun h' he' => fin c m' h' tk hp' (frB hk' (keepF F' fun b o hb e => he' b o hb e)) (keepN fun b o hb e => he' b o hb e)
    | some v =>
      have hlt : i < vs.length := (List.getElem?_eq_some_iff.mp hv).1
      refine wpAny_pyNext_list_item hit hl' (by simpa using hv) fun h' hit' hs' => ?_
      have kk : ∀ b o, b ≠ I → h.get? b = some o → h'.get? b = some o := fun b o hb e => hs'.extBut b o hb e
      obtain ⟨oi', hoe', hoi'⟩ := of_listIter hit'
      have N2 : News h₀ L h' ((I, oi') :: led c) := fun p hp => by
        rcases List.mem_cons.mp hp with rfl | hp
        · exact ⟨hoe', hIL, hI0⟩
        · exact keepN kk p hp
      have hbody := turn i c m' h' tk v I oi' hv hp' (frB hk' (keepF F' kk)) N2
      have step : wpAny (model prog w) A (assign target (envOf cn cs L a cd) v) (fun _ s₂ => wpS (model prog w) A (execs body (envOf cn cs L a cd)) (fun f s₃ => match f with
            | .next | .cont => ∃ m, m < vs.length + 1 - i ∧ ∃ (i : Nat) (c : σ) (h : Heap) (tk : Nat) (m' : Str → Option Value) (oi : Obj), s₃ = { s with heap := h, toks := tk } ∧ i ≤ vs.length ∧ m = vs.length + 1 - i ∧ Fr h₀ L h m' ∧ News h₀ L h ((I, oi) :: led c) ∧ itO l i oi ∧ (∀ p ∈ ps c, m' p.1 = some p.2) ∧ P i c
            | .brk => Q .next s₃
            | .ret v => Q (.ret v) s₃) (upBy prog w A (envOf cn cs L a cd) fun r s' => match r with | .ok f => Q f s' | .error e => cameBackBy (model prog w) A (envOf cn cs L a cd) (fun _ _ => False) e s') s₂) (upBy prog w A (envOf cn cs L a cd) fun r s' => match r with | .ok f => Q f s' | .error e => cameBackBy (model prog w) A (envOf cn cs L a cd) (fun _ _ => False) e s') { s with heap := h', toks := tk } := by
        refine wpAny_mono hbody (fun _ s₂ h₂ => wpS_mono h₂ (fun f s₃ h₃ => ?_) fun _ _ (x : False) => x.elim) fun _ _ (x : False) => x.elim
        have up : (∃ (c' : σ) (h' : Heap) (tk' : Nat) (m' : Str → Option Value), s₃ = { s with heap := h', toks := tk' } ∧ Fr h₀ L h' m' ∧ News h₀ L h' ([(I, oi')] ++ led c') ∧ (∀ p ∈ ps c', m' p.1 = some p.2) ∧ P (i + 1) c') →
            ∃ m, m < vs.length + 1 - i ∧ ∃ (i : Nat) (c : σ) (h : Heap) (tk : Nat) (m' : Str → Option Value) (oi : Obj), s₃ = { s with heap := h, toks := tk } ∧ i ≤ vs.length ∧ m = vs.length + 1 - i ∧ Fr h₀ L h m' ∧ News h₀ L h ((I, oi) :: led c) ∧ itO l i oi ∧ (∀ p ∈ ps c, m' p.1 = some p.2) ∧ P i c := by
          rintro ⟨c', h3, tk3, m3, rfl, F3, N3, hk3, hp3⟩
          exact ⟨vs.length + 1 - (i + 1), by omega, i + 1, c', h3, tk3, m3, oi', rfl, hlt, rfl, F3, N3, hoi', hk3, hp3⟩
        cases f with
        | next => exact up h₃
        | cont => exact up h₃
        | brk => exact h₃
        | ret v => exact h₃
      rcases hgo with ⟨⟨elts, kk', pos, rfl⟩, hT⟩ | hgo
      · obtain ⟨T, rfl⟩ := hT i v hv
        exact wpAny_letOwnedTupleGo_listiter hit' step
      · exact wpAny_of_eq (hgo _ _) step
  · rcases List.mem_cons.mp hp' with rfl | hp'
    · exact ⟨by rw [← hII]; exact Heap.get?_push_size _ rfl, hIL, hI0⟩
    · exact ⟨Heap.get?_push_of_some _ (N p hp').1, (N p hp').2⟩

theorem enum_iter {h : Heap} {e it : Addr} {i : Int} {old : Value} {o : Obj} (ho : h.get? e = some o) (x : o = { cls := .type "enumerate", dict := none, data := .fields #[.none, .bool false, .ref it, rawInt i, .none, old], slots := #[] }) : IsEnum h e it i old := by subst x; exact ho

/-- a loop over an enumeration of a list, on a clean stack -/
theorem S_enum {σ : Type} {xi xv : Str} {pi pv pt : Pos} {x1 : Nat} {body : List Stmt} {l e it : Addr} {vs : List Value} {lo : Obj} (led : σ → List (Addr × Obj)) (ps : σ → List (Str × Value)) (P : Nat → σ → Prop) (c₀ : σ)
    (hh : A.handled = none) (hlo : lo.cls = .type "list" ∧ ∃ k, lo.data = .seq vs.toArray k) (hin : ∀ c, (l, lo) ∈ led c) (hno : ∀ i c, P i c → NoIter (led c))
    (hsk : cs.kind = .function) (hxi : (envOf cn cs L a cd).kindOf xi = some .local) (hxv : (envOf cn cs L a cd).kindOf xv = some .local)
    (F : Fr h₀ L s.heap m) (N : News h₀ L s.heap (led c₀)) (hk : ∀ p ∈ ps c₀, m p.1 = some p.2) (hp : P 0 c₀)
    (he : IsEnum s.heap e it 0 .none) (hit : s.heap.IsListIter it l 0) (heL : e ≠ L ∧ h₀.get? e = none) (hiL : it ≠ L ∧ h₀.get? it = none)
    (turn : ∀ i c u h tk ti v oe oi, vs[i]? = some v → P i c → Fr h₀ L h (fun y => if y = xv then some v else if y = xi then some (.int ((i : Nat) : Int) ti) else kstB u (ps c) y) → News h₀ L h ([(e, oe), (it, oi)] ++ led c) →
      wpS (model prog w) A (execs body (envOf cn cs L a cd)) (NextTo h₀ L s [(e, oe), (it, oi)] led ps P Q i) (fun _ _ => False) { s with heap := h, toks := tk })
    (fin : ∀ c u h tk, P vs.length c → Fr h₀ L h (kstB u (ps c)) → News h₀ L h (led c) → Q .next { s with heap := h, toks := tk }) :
    wpAny (model prog w) A (pyIter (.ref e)) (fun it s₂ => codeS (model prog w) A (.forLoop (.Tuple [.Name xi pi, .Name xv pv] x1 pt) it body [] (envOf cn cs L a cd)) (fun r s' => match r with | .ok f => Q f s' | .error e => cameBackBy (model prog w) A (envOf cn cs L a cd) (fun _ _ => False) e s') s₂) (fun _ _ => False) s := by
  obtain ⟨hlc, lk, hld⟩ := hlo
  have hei : e ≠ it := fun q => by
    obtain ⟨o, ho, hc, _⟩ := hit
    rw [← q, he] at ho
    cases ho
    exact absurd (show Value.type "enumerate" = Value.type "list_iterator" from hc) (by decide)
  refine wpAny_pyIter_enum he ?_
  obtain ⟨oi0, hoe0, hoi0⟩ := of_listIter hit
  refine codeS_for (fun k s' => ∃ (i : Nat) (c : σ) (h : Heap) (tk : Nat) (m' : Str → Option Value) (old : Value) (oi : Obj), s' = { s with heap := h, toks := tk } ∧ i ≤ vs.length ∧ k = vs.length + 1 - i ∧ Fr h₀ L h m' ∧ IsEnum h e it ((i : Nat) : Int) old ∧ h.get? it = some oi ∧ itO l i oi ∧ News h₀ L h (led c) ∧ (∀ p ∈ ps c, m' p.1 = some p.2) ∧ P i c) ?_ (vs.length + 1)
    ⟨0, c₀, _, _, m, .none, oi0, rfl, Nat.zero_le _, rfl, F, he, hoe0, hoi0, N, hk, hp⟩
  rintro k s' ⟨i, c, h, tk, m', old, oi, rfl, hi, rfl, F', he', hti, hoi, N', hk', hp'⟩
  have hl' := isList_of (N' _ (hin c)).1 hlc hld
  have hit' := listIter_of hti hoi
  have apart : ∀ p ∈ led c, p.1 ≠ e ∧ p.1 ≠ it := fun p hp => ⟨fun q => by
      have z := (N' p hp).1
      rw [q, he'] at z
      exact (hno i c hp' p hp).2 (by rw [← Option.some.inj z]), fun q => by
      have z := (N' p hp).1
      rw [q, hti] at z
      exact (hno i c hp' p hp).1 (by rw [← Option.some.inj z]; exact hoi.1)⟩
  have keepF : ∀ {h' : Heap}, (∀ b o, b ≠ e → b ≠ it → h.get? b = some o → h'.get? b = some o) → Fr h₀ L h' m' := fun k =>
    ⟨F'.ns.at' fun o q => k L o (Ne.symm heL.1) (Ne.symm hiL.1) q, fun b o q => k b o (fun z => by rw [z, heL.2] at q; cases q) (fun z => by rw [z, hiL.2] at q; cases q) (F'.keep b o q), F'.above⟩
  have keepN : ∀ {h' : Heap}, (∀ b o, b ≠ e → b ≠ it → h.get? b = some o → h'.get? b = some o) → News h₀ L h' (led c) := fun k p hp =>
    ⟨k _ _ (apart p hp).1 (apart p hp).2 (N' p hp).1, (N' p hp).2⟩
  cases hv : vs[i]? with
  | none =>
    have hin' : i = vs.length := Nat.le_antisymm hi (by simpa using hv)
    subst hin'
    exact wpAny_pyNext_enum_end hh he' hit' hl' (by simpa using hv) fun h' hx' => fin c m' h' tk hp' (frB hk' (keepF fun b o _ hb q => hx' b o hb q)) (keepN fun b o _ hb q => hx' b o hb q)
  | some v =>
    have hlt : i < vs.length := (List.getElem?_eq_some_iff.mp hv).1
    have heH : e < h.objs.size := Heap.lt_size he'
    have hiH : it < h.objs.size := Heap.lt_size hti
    refine wpAny_pyNext_enum_item he' hit' hl' (by simpa using hv) hei fun h₁ heo hit₁ ht₁ hz₁ hk₁ => ?_
    refine wpAny_letOwnedTupleGo_enum heo fun h₂ he₂ hs₂ => ?_
    replace hs₂ : Heap.SameBut e h₁ h₂ := hs₂
    have ht₂ : h₂.IsTuple h.objs.size #[.int i tk, v] := ⟨_, (hs₂.2 _ (Nat.ne_of_gt heH)).trans ht₁, rfl, _, rfl⟩
    have hz₂ : h₂.objs.size = h.objs.size + 1 := hs₂.1.trans hz₁
    refine wpAny_assign_Tuple hh ht₂ rfl rfl fun h₃ hx₃ => ?_
    replace hx₃ : Heap.ExtBut h₂.objs.size h₂ h₃ := hx₃
    have up3 : ∀ b o, b < h.objs.size → h₂.get? b = some o → h₃.get? b = some o := fun b o hb q => hx₃ b o (by rw [hz₂]; exact Nat.ne_of_lt (Nat.lt_succ_of_lt hb)) q
    have k3 : ∀ b o, b ≠ e → b ≠ it → h.get? b = some o → h₃.get? b = some o := fun b o h1 h2 q => up3 b o (Heap.lt_size q) (hs₂.extBut b o h1 (hk₁ b o h1 h2 q))
    obtain ⟨oi', hoe', hoi'⟩ := of_listIter hit₁
    have hit3 : h₃.get? it = some oi' := up3 it _ hiH (hs₂.extBut _ _ (Ne.symm hei) hoe')
    have he3 := up3 e _ heH he₂
    have N3 : News h₀ L h₃ ([(e, _), (it, oi')] ++ led c) := fun p hp => by
      rcases List.mem_cons.mp hp with rfl | hp
      · exact ⟨he3, heL⟩
      · rcases List.mem_cons.mp hp with rfl | hp
        · exact ⟨hit3, hiL⟩
        · exact keepN k3 p hp
    have up : ∀ f s₃, NextTo h₀ L s [(e, ({ cls := .type "enumerate", dict := none, data := .fields #[.none, .bool false, .ref it, rawInt (((i : Nat) : Int) + 1), .none, v], slots := #[] } : Obj)), (it, oi')] led ps P Q i f s₃ → (match f with
            | .next | .cont => ∃ m, m < vs.length + 1 - i ∧ ∃ (i : Nat) (c : σ) (h : Heap) (tk : Nat) (m' : Str → Option Value) (old : Value) (oi : Obj), s₃ = { s with heap := h, toks := tk } ∧ i ≤ vs.length ∧ m = vs.length + 1 - i ∧ Fr h₀ L h m' ∧ IsEnum h e it ((i : Nat) : Int) old ∧ h.get? it = some oi ∧ itO l i oi ∧ News h₀ L h (led c) ∧ (∀ p ∈ ps c, m' p.1 = some p.2) ∧ P i c
            | .brk => Q .next s₃
            | .ret v => Q (.ret v) s₃) := by
      intro f s₃ h₃'
      have go : (∃ (c' : σ) (h' : Heap) (tk' : Nat) (m' : Str → Option Value), s₃ = { s with heap := h', toks := tk' } ∧ Fr h₀ L h' m' ∧ News h₀ L h' ([(e, ({ cls := .type "enumerate", dict := none, data := .fields #[.none, .bool false, .ref it, rawInt (((i : Nat) : Int) + 1), .none, v], slots := #[] } : Obj)), (it, oi')] ++ led c') ∧ (∀ p ∈ ps c', m' p.1 = some p.2) ∧ P (i + 1) c') →
          ∃ m, m < vs.length + 1 - i ∧ ∃ (i : Nat) (c : σ) (h : Heap) (tk : Nat) (m' : Str → Option Value) (old : Value) (oi : Obj), s₃ = { s with heap := h, toks := tk } ∧ i ≤ vs.length ∧ m = vs.length + 1 - i ∧ Fr h₀ L h m' ∧ IsEnum h e it ((i : Nat) : Int) old ∧ h.get? it = some oi ∧ itO l i oi ∧ News h₀ L h (led c) ∧ (∀ p ∈ ps c, m' p.1 = some p.2) ∧ P i c := by
        rintro ⟨c', h4, tk4, m4, rfl, F4, N4, hk4, hp4⟩
        refine ⟨vs.length + 1 - (i + 1), by omega, i + 1, c', h4, tk4, m4, v, oi', rfl, hlt, rfl, F4, ?_, (N4 _ (.tail _ (.head _))).1, hoi', fun p hp => N4 p (.tail _ (.tail _ hp)), hk4, hp4⟩
        have : ((i + 1 : Nat) : Int) = (i : Int) + 1 := by push_cast; rfl
        rw [this]
        exact (N4 _ (.head _)).1
      cases f with
      | next => exact go h₃'
      | cont => exact go h₃'
      | brk => exact h₃'
      | ret v => exact h₃'
    show wpAny _ A (do holding [v] (assign (.Name xi pi) (envOf cn cs L a cd) (.int i tk)); do holding [] (assign (.Name xv pv) (envOf cn cs L a cd) v); pure ()) _ _ _
    have hpl : ((envOf cn cs L a cd).scope.kind == .class || ((envOf cn cs L a cd).scope.kind == .module && (envOf cn cs L a cd).locals != (envOf cn cs L a cd).globals)) = false := by
      show (cs.kind == .class || (cs.kind == .module && _)) = false
      rw [hsk]; rfl
    refine wpAny_bind (wpAny_holding (wpAny_assign_Name (stN (keepF k3) N3 (fun h₄ F4 N4 => ?_) hsk hxi)))
    refine wpAny_bind (wpAny_holding (wpAny_assign_Name (stN F4 N4 (fun h₅ F5 N5 => wpAny_pure ?_) hsk hxv)))
    refine wpS_mono (turn i c m' h₅ _ tk v _ oi' hv hp' ?_ N5) (fun f s₃ h₃' => up f s₃ h₃') fun _ _ (x : False) => x.elim
    rw [show kstB m' (ps c) = m' from funext fun z => kstB_eq hk' fun _ => rfl]
    exact F5
end
end Mine
end LFpart

section BRpart
open PySem PySem.W PyProof.Rows
set_option maxRecDepth 100000
namespace Mine
open Builtin
theorem gives_bytes_contains (b : Array UInt8) (i : Int) (t u : Tok) (h0 : 0 ≤ i) (h1 : i < 256) : Gives («bytes.__contains__» ⟨[.bytes b t, .int i u], []⟩) (.val (.bool (b.contains i.toNat.toUInt8))) := by
  refine .of_wp fun M A E s Q hq => ?_
  show wpAny M A (Bytes.containsIn "bytes.__contains__" (.bytes b t) (.int i u) >>= fun r => _) _ E s
  refine wpAny_bind ?_
  unfold Bytes.containsIn
  refine wpAny_bind (wpAny_of_eq (a := .ok i) rfl ?_)
  refine wpAny_bind (wpAny_of_eq KBy.buffer_eq ?_)
  dsimp only
  rw [if_neg (by simp; omega)]
  exact wpAny_pure (wpAny_pure ⟨_, rfl, hq⟩)
theorem notIn_bytes {prog : Program} {w : World} {A : Around} {E : Value → Shared → Prop} {s : Shared} {b : Array UInt8} {i : Int} {t u : Tok} {Q : Value → Shared → Prop} (h0 : 0 ≤ i) (h1 : i < 256)
    (h : Q (.bool (!b.contains i.toNat.toUInt8)) s) : wpAny (model prog w) A (compareOp .NotIn (.int i u) (.bytes b t)) Q E s :=
  notIn_gives (typeIs_bytes s b t) FB.slot_bytes_contains FB.entry_bytes_contains (FB.args_bytes_contains_2 _ _) (gives_bytes_contains b i t u h0 h1) h

theorem slot_upper : Slot "bytes" "upper" "bytes.upper" :=
  .of (owner := "bytes") (n := "upper") (by rw [typeLookup_type, builtinLookup_eq_fast]; kernel_rfl) (by decide +kernel) (by decide +kernel) (by decide +kernel)
    (by first | exact .inl (by decide +kernel) | exact .inr (by decide +kernel)) (by rw [isSubtype_type]; kernel_rfl)
theorem type_upper : typeOf (.builtin "bytes.upper") = pure (.type "method_descriptor") := by show builtinType _ = _; rw [builtinType_eq_fast]; kernel_rfl
theorem entry_upper : entryFor table "bytes.upper" = some Builtin.«bytes.upper» := entryFor_of_tree (by kernel_rfl)
theorem args_upper (a : Value) : argsOk "bytes.upper" ⟨[a], []⟩ := by unfold argsOk; kernel_rfl
theorem slot_join : Slot "bytes" "join" "bytes.join" :=
  .of (owner := "bytes") (n := "join") (by rw [typeLookup_type, builtinLookup_eq_fast]; kernel_rfl) (by decide +kernel) (by decide +kernel) (by decide +kernel)
    (by first | exact .inl (by decide +kernel) | exact .inr (by decide +kernel)) (by rw [isSubtype_type]; kernel_rfl)
theorem type_join : typeOf (.builtin "bytes.join") = pure (.type "method_descriptor") := by show builtinType _ = _; rw [builtinType_eq_fast]; kernel_rfl
theorem entry_join : entryFor table "bytes.join" = some Builtin.«bytes.join» := entryFor_of_tree (by kernel_rfl)
theorem args_join (a b : Value) : argsOk "bytes.join" ⟨[a, b], []⟩ := by unfold argsOk; kernel_rfl

section
variable {prog : Program} {w : World} {A : Around} {E : Value → Shared → Prop} {s : Shared}
theorem method_upper {b : Array UInt8} {t : Tok} {pl : Sem Bool} {Q : Value × List Value → Shared → Prop} (h : Q (.builtin "bytes.upper", [.bytes b t]) s) :
    wpAny (model prog w) A (getMethod (.bytes b t) "upper" pl) Q E s :=
  getMethod_builtin (T := "bytes") (typeIs_bytes s b t) FB.plainAttrs_bytes slot_upper type_upper (fun _ e => nomatch e) h
theorem method_join {b : Array UInt8} {t : Tok} {pl : Sem Bool} {Q : Value × List Value → Shared → Prop} (h : Q (.builtin "bytes.join", [.bytes b t]) s) :
    wpAny (model prog w) A (getMethod (.bytes b t) "join" pl) Q E s :=
  getMethod_builtin (T := "bytes") (typeIs_bytes s b t) FB.plainAttrs_bytes slot_join type_join (fun _ e => nomatch e) h
theorem call_upper {l : List UInt8} {t : Tok} {Q : Value → Shared → Prop} (hz : l.length ≤ sizeLine) (h : Q (.bytes (upL l).toArray s.toks) { s with toks := s.toks + 1 }) :
    wpAny (model prog w) A (call (.builtin "bytes.upper") [.bytes l.toArray t]) Q E s := by
  refine wpAny_call_entry slot_upper (typeIs_bytes s _ t) entry_upper ?_ (args_upper _)
  show wpAny _ _ (Bytes.mappedM .bytes "upper" (·.map Bytes.toUpper) ⟨[.bytes l.toArray t], []⟩) _ _ s
  unfold Bytes.mappedM
  refine wpAny_bind (wpAny_of_eq (a := .bytes l.toArray t) rfl ?_)
  refine wpAny_bind (wpAny_of_eq (a := l.toArray) rfl ?_)
  refine wpAny_bind (wpAny_mkBytes ?_ (by simpa using hz))
  exact wpAny_pure ⟨_, rfl, h⟩
end
end Mine
end BRpart

section BJpart
open PySem PySem.W PyProof.Rows
set_option maxRecDepth 100000
namespace Mine
open Builtin
inductive BytesAre : List Value → List (List UInt8) → Prop
  | nil : BytesAre [] []
  | cons (l : List UInt8) (t : Tok) {vs ls} : BytesAre vs ls → BytesAre (.bytes l.toArray t :: vs) (l :: ls)
theorem BytesAre.snoc {l : List UInt8} {t : Tok} : ∀ {vs ls}, BytesAre vs ls → BytesAre (vs ++ [.bytes l.toArray t]) (ls ++ [l])
  | _, _, .nil => .cons l t .nil
  | _, _, .cons l' t' r => .cons l' t' r.snoc
theorem bytes_mem : ∀ {vs ls} {v : Value}, BytesAre vs ls → v ∈ vs → ∃ l t, v = .bytes l t
  | _, _, _, .cons l t r, h => by
    rcases List.mem_cons.mp h with rfl | h
    · exact ⟨_, _, rfl⟩
    · exact bytes_mem r h
theorem bytes_len : ∀ {vs ls}, BytesAre vs ls → vs.length = ls.length
  | _, _, .nil => rfl
  | _, _, .cons l t r => by rw [List.length_cons, List.length_cons, bytes_len r]
theorem bytes_get : ∀ {vs ls} {i : Nat}, BytesAre vs ls → i < vs.length → ∃ l t, vs[i]? = some (.bytes l.toArray t) ∧ ls[i]? = some l
  | _, _, 0, .cons l t r, _ => ⟨l, t, rfl, rfl⟩
  | _, _, i + 1, .cons l t r, h => by
    obtain ⟨l', t', h1, h2⟩ := bytes_get (i := i) r (by simpa using h)
    exact ⟨l', t', by simpa using h1, by simpa using h2⟩
theorem letGo_1k {M : Model} {A : Around} {E : Value → Shared → Prop} {s : Shared} {v : Value} {keep : List Value} {Q : Unit → Shared → Prop} (h : Q () s) : wpAny M A (letGo [v] keep) Q E s := by
  unfold letGo
  exact wpAny_bind (wpAny_holding (wpAny_point (wpAny_pure h)))
theorem take_eq {id : String} {b : Array UInt8} {t : Tok} : Bytes.takeBufferQuiet? id (.bytes b t) 0 = pure (some (b, none)) := by
  have e : Bytes.takeBuffer? id (.bytes b t) 0 = pure (some (b, none)) := by
    unfold Bytes.takeBuffer?
    rw [KBy.special_eq KBy.look_buffer, KBy.own_buffer]
    simp only [pure_bind]
    rw [if_neg (by decide), show ((0 : Int) == Bytes.fullReadOnly) = false from by decide, KBy.buffer_eq]
    rfl
  unfold Bytes.takeBufferQuiet?
  rw [e]
  rfl
theorem joined_nil : ∀ (ls : List (List UInt8)), Bytes.joined #[] (ls.map (·.toArray)) = ls.flatten.toArray := by
  intro ls
  unfold Bytes.joined
  have key : ∀ (l : List (List UInt8 )) (k : Nat) (out : Array UInt8), ((l.map (·.toArray)).zipIdx k).foldl (fun out (p : Array UInt8 × Nat) => (if p.2 > 0 then out ++ #[] else out) ++ p.1) out = out ++ l.flatten.toArray := by
    intro l
    induction l with
    | nil => intro k out; simp
    | cons x r ih =>
      intro k out
      rw [List.map_cons, List.zipIdx_cons, List.foldl_cons, ih]
      simp
  have := key ls 0 #[]
  simpa using this
theorem sizes_le : ∀ (ls : List (List UInt8)) (a : Nat), (ls.map (·.toArray)).foldl (fun n (x : Array UInt8) => n + x.size) a = a + ls.flatten.length := by
  intro ls
  induction ls with
  | nil => intro a; rfl
  | cons x r ih => intro a; rw [List.map_cons, List.foldl_cons, ih]; simp; omega
section
variable {prog : Program} {w : World} {A : Around} {E : Value → Shared → Prop} {s : Shared}
theorem call_join {l : Addr} {vs : List Value} {ls : List (List UInt8)} {ts : Tok} {Q : Value → Shared → Prop} (hl : s.heap.IsList l vs.toArray) (hb : BytesAre vs ls) (hz : ls.flatten.length ≤ 16777216)
    (h : ∀ t tk, Q (.bytes ls.flatten.toArray t) { s with toks := tk }) : wpAny (model prog w) A (call (.builtin "bytes.join") [.bytes #[] ts, .ref l]) Q E s := by
  refine wpAny_call_entry slot_join (typeIs_bytes s _ ts) entry_join ?_ (args_join _ _)
  show wpAny _ _ (Bytes.joinM .bytes ⟨[.bytes #[] ts, .ref l], []⟩) _ _ s
  obtain ⟨o, ho, hc, n, hd⟩ := id hl
  unfold Bytes.joinM
  refine wpAny_bind (wpAny_of_eq (a := (.bytes #[] ts, .ref l)) rfl ?_)
  dsimp only
  rw [if_pos (show (Bytes.Kind.bytes == Bytes.Kind.bytes) = true from rfl)]
  refine wpAny_bind ?_
  unfold Bytes.joinItems
  refine wpAny_bind (wpAny_typeOf hl.typeIs ?_)
  rw [if_pos (by decide)]
  refine wpAny_pure ?_
  refine wpAny_bind (wpAny_seqItems ho hd ?_)
  dsimp only
  rw [if_pos (show (Bytes.Kind.bytes == Bytes.Kind.bytes) = true from rfl)]
  obtain ⟨vs', hvs⟩ : ∃ v, v = vs := ⟨_, rfl⟩
  obtain ⟨ls', hls⟩ : ∃ v, v = ls := ⟨_, rfl⟩
  have hbs : BytesAre vs' ls' := by rw [hvs, hls]; exact hb
  have hle := bytes_len hbs
  have hd' : o.data = .seq vs'.toArray n := by rw [hvs]; exact hd
  have hz' : ls'.flatten.length ≤ 16777216 := by rw [hls]; exact hz
  have h' : ∀ t tk, Q (.bytes ls'.flatten.toArray t) { s with toks := tk } := by rw [hls]; exact h
  have noHeap : ∀ k, ((vs'.take k).map fun v => (v, (none : Option Value))).any (fun x => x.1.onHeap) = false := fun k => by
    rw [List.any_eq_false]
    intro x hx
    obtain ⟨v, hv, rfl⟩ := List.mem_map.mp hx
    obtain ⟨l', t', rfl⟩ := bytes_mem hbs (List.mem_of_mem_take hv)
    exact Bool.false_ne_true
  have nolets : ∀ (tk : List (Value × Option Value)), (∀ p ∈ tk, p.2 = none) → ∀ (keep : List Value) {s : Shared} {Q : Unit → Shared → Prop}, Q () s → wpAny (model prog w) A.in1 (Bytes.joinLetGo tk keep) Q E s := fun tk => by
    induction tk with
    | nil => intro _ _ _ _ hq; exact wpAny_pure hq
    | cons p r ih =>
      intro hp keep s Q hq
      obtain ⟨x, w'⟩ := p
      obtain rfl : w' = none := hp _ (.head _)
      unfold Bytes.joinLetGo
      refine wpAny_bind (letGo_1k ?_)
      exact ih (fun q hq' => hp q (.tail _ hq')) keep hq
  cases hb
  case' cons b1 t1 vs1 ls1 r => cases r
  case cons.nil =>
    refine wpAny_bind (wpAny_of_eq (a := .type "bytes") rfl ?_)
    rw [if_pos (by decide)]
    refine wpAny_bind (wpAny_rule (wpAny_pure ⟨_, rfl, ?_⟩))
    have := h t1 s.toks
    rw [show ([b1] : List (List UInt8)).flatten = b1 by simp] at this
    exact this
  all_goals
    refine wpAny_bind ?_
    rw [Std.Legacy.Range.forIn_eq_forIn_range']
    rw [← hvs]
    refine wpAny_forIn_list _ (fun xs b s' => s' = s ∧ ∃ k, xs = List.range' k (vs'.length - k) ∧ k ≤ vs'.length ∧ b = (((ls'.take k).map (·.toArray)).toArray, (vs'.take k).map fun v => (v, (none : Option Value)))) _ ?_ ?_ _ _ ⟨rfl, 0, by simp, Nat.zero_le _, rfl⟩
    · rintro x rest _ _ ⟨rfl, k, hx, hk, rfl⟩
      obtain ⟨j, hj⟩ : ∃ j, vs'.length - k = j + 1 := by
        cases hq : vs'.length - k with
        | zero => rw [hq] at hx; cases hx
        | succ j => exact ⟨j, rfl⟩
      rw [hj, List.range'_succ] at hx
      obtain ⟨rfl, rfl⟩ := List.cons.inj hx
      obtain ⟨b1, t1, g1, g2⟩ := bytes_get hbs (show x < vs'.length by omega)
      refine wpAny_bind (wpAny_seqItems ho hd' ?_)
      dsimp only
      have hnh : (Bytes.Kind.bytes == Bytes.Kind.bytearray || ((vs'.take x).map fun v => (v, (none : Option Value))).any fun x => x.1.onHeap) = false := by
        rw [noHeap]; rfl
      rw [hnh, if_neg Bool.false_ne_true]
      have hgd : vs'.toArray.getD x Value.none = .bytes b1.toArray t1 := by simp [g1]
      rw [hgd]
      refine wpAny_bind (wpAny_holding (wpAny_of_eq take_eq ?_))
      dsimp only
      refine wpAny_bind (wpAny_seqItems ho hd' ?_)
      dsimp only
      rw [if_neg (by simp)]
      refine wpAny_pure ⟨rfl, x + 1, by rw [show vs'.length - (x + 1) = j by omega], by omega, ?_⟩
      rw [List.take_add_one, List.take_add_one, g1, g2]
      simp
    · rintro _ _ ⟨rfl, k, hx, hk, rfl⟩
      have hk' : k = vs'.length := by
        cases hq : vs'.length - k with
        | zero => omega
        | succ j => rw [hq] at hx; cases hx
      subst hk'
      rw [List.take_length, hle, List.take_length]
      dsimp only
      refine wpAny_bind (wpAny_of_eq (a := #[]) rfl ?_)
      have q := KBy.tooLong_not hz'
      rw [List.length_flatten] at q
      rw [if_neg (by simp [sizes_le, q])]
      refine wpAny_bind (wpAny_mkBytes ?_ (by rw [joined_nil, sizeLine_eq]; simpa using hz'))
      refine wpAny_bind (wpAny_holding (wpAny_point ?_))
      refine wpAny_bind (nolets _ (fun p hp => by obtain ⟨v, _, rfl⟩ := List.mem_map.mp hp; rfl) _ ?_)
      refine wpAny_pure ⟨_, rfl, ?_⟩
      rw [joined_nil]
      exact h' _ _
end
end Mine
end BJpart

section ROpart
open PySem PySem.W PyProof.Rows
namespace Mine
def biasOf (tot : Int) (i : Nat) : Int := (tot + 37 * ((i : Nat) : Int)).fmod 200
theorem biasOf_lo (tot : Int) (i : Nat) : 0 ≤ biasOf tot i := Int.fmod_nonneg_of_pos _ (by decide)
abbrev triple (n : Int) (b : Int) (told : Array UInt8) (t1 t2 t3 : Tok) (c : Nat) : Obj := { cls := .type "tuple", data := .seq #[.int n t1, .int b t2, .bytes told t3] c }
/-- a row laid down -/
def RowOf (tot : Int) (i : Nat) (n : Int) (v : Value) (ts : List (Addr × Obj)) : Prop :=
  ∃ T t1 t2 t3 c, v = .ref T ∧ (T, triple n (biasOf tot i) (gen n (biasOf tot i)) t1 t2 t3 c) ∈ ts
/-- the rows so far -/
structure RowsOk (tot : Int) (nums : List Int) (i : Nat) (rvs : List Value) (ts : List (Addr × Obj)) : Prop where
  len : rvs.length = i
  row : ∀ j n v, j < i → nums[j]? = some n → rvs[j]? = some v → RowOf tot j n v ts
  noit : NoIter ts
  tup : ∀ p ∈ ts, p.2.cls = .type "tuple"
theorem rows_nil (tot : Int) (nums : List Int) : RowsOk tot nums 0 [] [] := ⟨rfl, fun _ _ _ h => absurd h (Nat.not_lt_zero _), NoIter.nil, fun _ h => nomatch h⟩
theorem rows_snoc {tot : Int} {nums : List Int} {i : Nat} {rvs : List Value} {ts : List (Addr × Obj)} {n : Int} {T : Addr} {t1 t2 t3 : Tok} {c : Nat} (x : RowsOk tot nums i rvs ts) (hn : nums[i]? = some n) :
    RowsOk tot nums (i + 1) (rvs ++ [.ref T]) ((T, triple n (biasOf tot i) (gen n (biasOf tot i)) t1 t2 t3 c) :: ts) := by
  refine ⟨by rw [List.length_append, x.len]; rfl, fun j m v hj hm hv => ?_, NoIter.cons ⟨by show Value.type "tuple" ≠ _; decide, by show Value.type "tuple" ≠ _; decide⟩ x.noit, fun p hp => by
    rcases List.mem_cons.mp hp with rfl | hp
    · rfl
    · exact x.tup p hp⟩
  by_cases hji : j < i
  · rw [List.getElem?_append_left (by rw [x.len]; exact hji)] at hv
    obtain ⟨T', a, b, c', d, e, f⟩ := x.row j m v hji hm hv
    exact ⟨T', a, b, c', d, e, .tail _ f⟩
  · obtain rfl : j = i := by omega
    rw [hn] at hm
    obtain rfl := Option.some.inj hm
    rw [List.getElem?_append_right (by rw [x.len]; exact Nat.le_refl _), x.len, Nat.sub_self] at hv
    cases hv
    exact ⟨T, t1, t2, t3, c, rfl, .head _⟩
theorem append_N {prog : Program} {w : World} {A : Around} {E : Value → Shared → Prop} {s : Shared} {h₀ : Heap} {L : Addr} {m : Str → Option Value} {l : Addr} {vs : List Value} {k : Nat} {v : Value} {pre post : List (Addr × Obj)} {Q : Value → Shared → Prop}
    (F : Fr h₀ L s.heap m) (N : News h₀ L s.heap (pre ++ (l, W.listOf vs.toArray k) :: post)) (h1 : ∀ p ∈ pre, p.1 ≠ l) (h2 : ∀ p ∈ post, p.1 ≠ l) (hz : vs.length ≤ 1000)
    (h : ∀ h' k', Fr h₀ L h' m → News h₀ L h' (pre ++ (l, W.listOf (vs ++ [v]).toArray k') :: post) → Q .none { s with heap := h' }) : wpAny (model prog w) A (call (.builtin "list.append") [.ref l, v]) Q E s := by
  have hm : (l, W.listOf vs.toArray k) ∈ pre ++ (l, W.listOf vs.toArray k) :: post := List.mem_append_right _ (.head _)
  obtain ⟨g1, g2, g3⟩ := N _ hm
  refine append_at (hsz := by show vs.toArray.size ≤ sizeLine; rw [List.size_toArray, sizeLine_eq]; omega) g1 fun h5 hs5 hD5 => ?_
  refine h h5 (k + 1) (F.change hs5 g2 g3) fun p hp => ?_
  have keep : ∀ q ∈ pre ++ (l, W.listOf vs.toArray k) :: post, q.1 ≠ l → h5.get? q.1 = some q.2 ∧ q.1 ≠ L ∧ h₀.get? q.1 = none := fun q hq hn => ⟨hs5.extBut _ _ hn (N q hq).1, (N q hq).2⟩
  rcases List.mem_append.mp hp with hp | hp
  · exact keep p (List.mem_append_left _ hp) (h1 p hp)
  · rcases List.mem_cons.mp hp with rfl | hp
    · refine ⟨?_, g2, g3⟩
      rw [hD5]
      show some (W.listOf (vs.toArray.push v) (k + 1)) = _
      rw [List.push_toArray]
    · exact keep p (List.mem_append_right _ (.tail _ hp)) (h2 p hp)
end Mine
end ROpart

section GUpart
open PySem PySem.W PyProof.Rows
namespace Mine
theorem gen_use {w : World} {mean : ExcName → Option Value} {mg mb : Str → Option Value} {dp un : Nat} {gd : Option (List Code)} {cn : Str} {cs : Scope} {a : Addr} {ccd : Value} {cl : List (Str × Addr)} {outer : List Env} {A₀ : Around} {base h₀ : Heap} {L : Addr} {m : Str → Option Value} {s : Shared} {news : List (Addr × Obj)}
    {Q E : Value → Shared → Prop} {N b : Int} {tN tb : Tok} (B : Below A₀ base outer h₀) (F : Fr h₀ L s.heap m) (X : (hd.heap_39 w.params).In h₀) (Nw : News h₀ L s.heap news) (T : Top hd.view_39 (looseW hd.view_39 []) mean mg mb h₀) (hk : cs.kind = .function)
    (hN : 0 ≤ N ∧ N < 10 ^ 41) (hd : dp + 5 < recursionLimit) (hu : un + 60 < cLine) (hret : ∀ (t : Tok) (h' : Heap) (tk' : Nat), Fr h₀ L h' m → News h₀ L h' news → Q (.bytes (gen N b) t) { s with heap := h', toks := tk' }) :
    wpS (model _root_.PySem.Challenge.rw_xc0042_01.row.prog w) (ktrTop dp un gd cn cs L a ccd cl outer) (call (.ref 28) [.int N tN, .int b tb]) Q E s :=
  gen_ct w news N tN b tb mean mg mb dp un gd cn cs a ccd cl outer A₀ base h₀ L m s Q E B F X Nw T hk hN hd hu hret
theorem dec_use {w : World} {mean : ExcName → Option Value} {mg mb : Str → Option Value} {dp un : Nat} {gd : Option (List Code)} {cn : Str} {cs : Scope} {a : Addr} {ccd : Value} {cl : List (Str × Addr)} {outer : List Env} {A₀ : Around} {base h₀ : Heap} {L : Addr} {m : Str → Option Value} {s : Shared} {news : List (Addr × Obj)}
    {Q E : Value → Shared → Prop} {X : List UInt8} {p b : Int} {tx tp tb te : Tok} {k : Nat} {n : Int} (B : Below A₀ base outer h₀) (F : Fr h₀ L s.heap m) (KI : (hd.heap_39 w.params).In h₀) (Nw : News h₀ L s.heap news) (T : Top hd.view_39 (looseW hd.view_39 []) mean mg mb h₀) (hk : cs.kind = .function)
    (hpre : 0 ≤ p ∧ decL (X.drop p.toNat) 0 b 1 0 = some (k, n) ∧ (∀ c ∈ X, sok c) ∧ X.length < 10000) (hd : dp + 5 < recursionLimit) (hu : un + 60 < cLine)
    (hret : ∀ (D : Addr) (t1 t2 : Tok) (c : Nat) (h' : Heap) (tk : Nat), Fr h₀ L h' m → News h₀ L h' ((D, pairOf (.int (p + k) t1) (.int n t2) c) :: news) → Q (.ref D) { s with heap := h', toks := tk }) :
    wpAny (model _root_.PySem.Challenge.rw_xc0042_01.row.prog w) (ktrTop dp un gd cn cs L a ccd cl outer) (call (.ref 42) [.bytes X.toArray tx, .int p tp, .int b tb, .str "strict" te]) Q E s :=
  dec_ct w news X p b tx tp tb te k n mean mg mb dp un gd cn cs a ccd cl outer A₀ base h₀ L m s Q E B F KI Nw T hk hpre hd hu hret
theorem cut_use {w : World} {mean : ExcName → Option Value} {mg mb : Str → Option Value} {dp un : Nat} {gd : Option (List Code)} {cn : Str} {cs : Scope} {a : Addr} {ccd : Value} {A₀ : Around} {base h₀ : Heap} {L : Addr} {m : Str → Option Value} {s : Shared} {news : List (Addr × Obj)}
    {Q E : Value → Shared → Prop} {X : List UInt8} {b : Int} {tx tp tb te : Tok} (B : Below A₀ base [] h₀) (F : Fr h₀ L s.heap m) (KI : (hd.heap_39 w.params).In h₀) (Nw : News h₀ L s.heap news) (T : Top hd.view_39 (looseW hd.view_39 []) mean mg mb h₀) (hk : cs.kind = .function)
    (XB : (hd.heap_39 w.params).In base) (TB : Top hd.view_39 (looseW hd.view_39 []) mean mg mb base)
    (hpre : decL X 0 b 1 0 = none ∧ (∀ c ∈ X, sok c) ∧ X.length < 5000) (hd : dp + 5 < recursionLimit) (hu : un + 60 < cLine)
    (hret : ∀ (D : Addr) (t1 : Tok) (c : Nat) (h' : Heap) (tk : Nat), Fr h₀ L h' m → News h₀ L h' ((D, pairOf (.int ((X.length : Int) + 1) t1) .none c) :: news) → Q (.ref D) { s with heap := h', toks := tk }) :
    wpAny (model _root_.PySem.Challenge.rw_xc0042_01.row.prog w) (ktrTop dp un gd cn cs L a ccd [] []) (call (.ref 42) [.bytes X.toArray tx, .int 0 tp, .int b tb, .str "replace" te]) Q E s :=
  cut_ct w news X b tx tp tb te mean mg mb dp un gd cn cs a ccd A₀ base h₀ L m s Q E B F KI Nw T hk XB TB hpre hd hu hret
theorem lcut_use {w : World} {mean : ExcName → Option Value} {mg mb : Str → Option Value} {dp un : Nat} {gd : Option (List Code)} {cn : Str} {cs : Scope} {a : Addr} {ccd : Value} {A₀ : Around} {base h₀ : Heap} {L : Addr} {m : Str → Option Value} {s : Shared} {news : List (Addr × Obj)}
    {Q E : Value → Shared → Prop} {X : List UInt8} {b : Int} {tx tb : Tok} (B : Below A₀ base [] h₀) (F : Fr h₀ L s.heap m) (KI : (hd.heap_39 w.params).In h₀) (Nw : News h₀ L s.heap news) (T : Top hd.view_39 (looseW hd.view_39 []) mean mg mb h₀) (hk : cs.kind = .function)
    (XB : (hd.heap_39 w.params).In base) (TB : Top hd.view_39 (looseW hd.view_39 []) mean mg mb base)
    (hpre : decL X 0 b 1 0 = none ∧ (∀ c ∈ X, sok c) ∧ X.length < 5000) (hd : dp + 8 < recursionLimit) (hu : un + 100 < cLine)
    (hret : ∀ (h' : Heap) (tk : Nat), Fr h₀ L h' m → News h₀ L h' news → Q (.bool true) { s with heap := h', toks := tk }) :
    wpAny (model _root_.PySem.Challenge.rw_xc0042_01.row.prog w) (ktrTop dp un gd cn cs L a ccd [] []) (call (.ref 49) [.bytes X.toArray tx, .int b tb]) Q E s :=
  lcut_ct w news X b tx tb mean mg mb dp un gd cn cs a ccd A₀ base h₀ L m s Q E B F KI Nw T hk XB TB hpre hd hu hret
theorem adapt_use {w : World} {mean : ExcName → Option Value} {mg mb : Str → Option Value} {dp un : Nat} {gd : Option (List Code)} {cn : Str} {cs : Scope} {a : Addr} {ccd : Value} {cl : List (Str × Addr)} {outer : List Env} {A₀ : Around} {base h₀ : Heap} {L : Addr} {m : Str → Option Value} {s : Shared} {news : List (Addr × Obj)}
    {Q E : Value → Shared → Prop} {d k : Int} {td tk : Tok} {b : Bool} (B : Below A₀ base outer h₀) (F : Fr h₀ L s.heap m) (KI : (hd.heap_39 w.params).In h₀) (Nw : News h₀ L s.heap news) (T : Top hd.view_39 (looseW hd.view_39 []) mean mg mb h₀) (hk : cs.kind = .function)
    (hpre : 0 ≤ d ∧ 1 ≤ k ∧ k < 1000) (hd : dp + 1 < recursionLimit) (hu : un + 8 < cLine)
    (hret : ∀ (v : Int) (t : Tok) (h' : Heap) (tk' : Nat), 0 ≤ v → Fr h₀ L h' m → News h₀ L h' news → Q (.int v t) { s with heap := h', toks := tk' }) :
    wpAny (model _root_.PySem.Challenge.rw_xc0042_01.row.prog w) (ktrTop dp un gd cn cs L a ccd cl outer) (call (.ref 35) [.int d td, .bool b, .int k tk]) Q E s :=
  adapt_ct w news d td b k tk mean mg mb dp un gd cn cs a ccd cl outer A₀ base h₀ L m s Q E B F KI Nw T hk hpre hd hu hret

theorem news_dropN {h₀ h : Heap} {L : Addr} (n : Nat) {l : List (Addr × Obj)} (N : News h₀ L h l) : News h₀ L h (l.drop n) := fun p hp => N p (List.mem_of_mem_drop hp)
theorem nums_bound {ns : List Int} {i : Nat} {z : Int} (h : (ns.map absM)[i]? = some z) : 0 ≤ z ∧ z < 10 ^ 40 := by
  obtain ⟨y, _, rfl⟩ := List.mem_map.mp (List.mem_of_getElem? h)
  exact ⟨absM_lo y, absM_hi y⟩
section
variable {prog : Program} {w : World} {A : Around} {E : Value → Shared → Prop} {s : Shared} {env : Env}
theorem wpS_callWith_ref {pos : Pos} {h₀ : Heap} {a : Addr} {o : Obj} {fd : FuncData} {e : Expr} {rest : List Expr} {Q : Value → Shared → Prop} (hf : h₀.get? a = some o) (hfd : o.data = .func fd)
    (h : wpAny (model prog w) A (spliced (backTo pos (starEach (e :: rest) env))) (fun vs s₁ => (∀ b o, h₀.get? b = some o → s₁.heap.get? b = some o) ∧ wpS (model prog w) A (call (.ref a) vs) Q E s₁) E s)
    (he : starEach (e :: rest) env = (false, eval e env) :: starEach rest env := by rfl) (hplain : (backTo pos (starEach rest env)).any (·.1) = false := by rfl) :
    wpS (model prog w) A (callWith pos (.ref a) [] (backTo pos (starEach (e :: rest) env)) []) Q E s := by
  rw [he] at h ⊢
  refine wpS_callWith (o := o) (fd := fd) (by show (false || (backTo pos (starEach rest env)).any (·.1)) = false; rw [hplain]; rfl) ?_
  exact Calls.evalArgs_plain (wpAny_mono h (fun vs s₁ h₁ => ⟨⟨h₁.1 _ _ hf, hfd⟩, h₁.2⟩) fun _ _ x => x)
end
end Mine
end GUpart

section SGpart
open PySem PySem.W PyProof.Rows
namespace Mine
theorem signs_comp {prog : Program} {w : World} {A : Around} {E : Value → Shared → Prop} {s : Shared} {env : Env} {h₀ : Heap} {L : Addr} {m : Str → Option Value} {news : List (Addr × Obj)} {scope : Scope} {cl : List (Str × Addr)} {pos p1 p2 p3 p4 p5 : Pos} {kk : Nat} {iter : Expr} {X ds : List UInt8} {t : Tok} {Q : Value → Shared → Prop}
    (hh : A.handled = none) (hclos : closureFor scope env = pure cl) (hcell : ∀ y ∈ scope.names, y.2 ≠ .cell) (hkind : scope.kind = .function)
    (hnames : ∀ y ∈ scope.names, y.2 = .local → scope.names.lookup y.1 = some .local) (hx : scope.names.lookup (Str.ofString "sign") = some NameKind.local)
    (hiter : wpAny (model prog w) A (eval iter env) (fun xv s₁ => xv = .bytes X.toArray t ∧ s₁ = s) E s)
    (F : Fr h₀ L s.heap m) (N : News h₀ L s.heap news) (hX : ∀ c ∈ X, c ∈ ds) (hz : X.length ≤ 1000)
    (hq : ∀ D h tk, Fr h₀ L h m → News h₀ L h ((D, lstO []) :: news) → Q (.ref D) { s with heap := h, toks := tk })
    (hs : ∀ x, foldedSetIterable iter env x = pure x := by intro _; rfl) :
    wpAny (model prog w) A (eval (.ListComp (.Name "sign" p1) [⟨.Name "sign" p2, iter, [.Compare (.Name "sign" p3) [.NotIn] [.Constant (.bytes ds) kk p4] p5], 0⟩] scope pos) env) Q E s := by
  have hloc : ∀ C, (compEnvC scope cl C env).kindOf "sign" = some .local := fun C => lookup_relabel_local hx
  have hkf : ∀ C, (compEnvC scope cl C env).scope.kind = .function := fun C => hkind
  refine comp_list hclos hcell hkind hnames (wpAny_mono hiter (fun xv s₁ h₁ => ?_) fun _ _ e => e) hs
  obtain ⟨rfl, rfl⟩ := h₁
  refine KBw.pyIter_bytes ?_
  have hI0 : h₀.get? s₁.heap.objs.size = none := next_is_new F
  have hIL : s₁.heap.objs.size ≠ L := Nat.ne_of_gt F.ns.lt
  have hIN : ∀ p ∈ news, p.1 ≠ s₁.heap.objs.size := fun p hp => Nat.ne_of_lt (Heap.lt_size (N p hp).1)
  have FI := F.push { cls := .type "bytes_iterator", data := .fields #[.bytes X.toArray t, .int 0 0] }
  have hsz : (s₁.heap.push { cls := .type "bytes_iterator", data := .fields #[.bytes X.toArray t, .int 0 0] }).objs.size = s₁.heap.objs.size + 1 := Heap.size_push ..
  have hge : (s₁.heap.push { cls := .type "bytes_iterator", data := .fields #[.bytes X.toArray t, .int 0 0] }).get? s₁.heap.objs.size = some { cls := .type "bytes_iterator", data := .fields #[.bytes X.toArray t, .int 0 0] } := Heap.get?_push_size _ rfl
  have NI : News h₀ L (s₁.heap.push { cls := .type "bytes_iterator", data := .fields #[.bytes X.toArray t, .int 0 0] }) news := N.grown fun _ _ e => Heap.get?_push_of_some _ e
  generalize s₁.heap.objs.size = I at *
  generalize s₁.heap.push { cls := .type "bytes_iterator", data := .fields #[.bytes X.toArray t, .int 0 0] } = H at *
  refine ⟨I, [I], _, _, _, fun _ ys => ys = [], rfl, KBw.walks hh I X.toArray t, by rw [List.size_toArray, sizeLine_eq]; omega, ⟨_, hge, rfl, rfl⟩, fun b hb => by rw [List.mem_singleton.mp hb]; show I < H.objs.size; omega, fun i v s' Q' E' _ _ hq' => wpAny_pure hq', ?_⟩
  refine ⟨rfl, fun i ys v C m₂ h tk hi hP hJ hn hC hk => ?_, fun ys D h tk hJ hk hD hDs => ?_, fun i ys hJ => by rw [hJ]; exact Nat.zero_le _⟩
  · obtain ⟨c, u, hc, rfl⟩ := hP
    have hcX : c ∈ X := List.mem_of_getElem? (by simpa using hc)
    have hlt := c.toNat_lt
    refine wpAny_assign_Name (wpAny_storeName_local (hloc C) hn (fun h₃ hn₃ hs₃ => ?_) (by simp [compEnvC, relabel, hkind]))
    refine wpAny_tests_one (wpAny_isTrue_Compare1 (wpAny_Name (wpAny_loadName_local (hkf C) (hloc C) hn₃ (by simp; rfl) ?_) (by decide)))
    refine Constant_bytes ?_
    refine notIn_bytes (by omega) (by omega) ?_
    have hb : (!ds.toArray.contains ((c.toNat : Int).toNat.toUInt8)) = false := by
      rw [show ((c.toNat : Int).toNat.toUInt8) = c by simp]
      simp [hX c hcX]
    rw [hb]
    refine wpAny_truthy_bool ?_
    simp only [Bool.false_eq_true, if_false]
    exact ⟨⟨h₃, _, _, rfl, hn₃, fun b o hb e => hs₃.extBut b o hb e⟩, hJ⟩
  · subst hJ
    have hDs' : H.objs.size ≤ D := hDs
    refine hq D h tk ⟨FI.ns.at' fun o e => hk _ o (Ne.symm hIL) e, fun b o e => hk b o (fun q => by rw [q, hI0] at e; cases e) (FI.keep b o e), FI.above⟩ fun p hp => ?_
    have hLt : L < H.objs.size := FI.ns.lt
    rcases List.mem_cons.mp hp with rfl | hp
    · exact ⟨hD, Nat.ne_of_gt (Nat.lt_of_lt_of_le hLt hDs'), Heap.get?_none_of_le (Nat.le_trans FI.above (Nat.le_trans (Nat.le_of_lt hLt) hDs'))⟩
    · exact ⟨hk _ _ (hIN p hp) (NI p hp).1, (NI p hp).2⟩
end Mine
end SGpart

section SL2part
open PySem PySem.W PyProof.Rows
namespace Mine
section
variable {prog : Program} {w : World} {A : Around} {E : Value → Shared → Prop} {s : Shared} {value slice : PySem.Expr} {t : Tok} {h₀ : Heap} {L : Addr} {m : PySem.Str → Option Value} {news : List (Addr × Obj)} {Q : Value → Shared → Prop} {X : List UInt8}
theorem cut_pre {k : Nat} {tk0 : Tok} (hF : Fr h₀ L s.heap m) (hN : News h₀ L s.heap news) (hz : X.length ≤ 10000)
    (h : ∀ h' t' tk, Fr h₀ L h' m → News h₀ L h' news → Q (.bytes (X.take k).toArray t') { s with heap := h', toks := tk })
    (hs : subscripted slice false (.bytes X.toArray t) (.ref s.heap.objs.size) = operate [.ref s.heap.objs.size, .bytes X.toArray t] (getItem (.bytes X.toArray t) (.ref s.heap.objs.size)) := by with_unfolding_all rfl)
    (ht : ∀ r, letTemporaryGo value (.bytes X.toArray t) r = pure () := by intro _; with_unfolding_all rfl) :
    wpAny (model prog w) A (subscriptTail value slice (.bytes X.toArray t) (.ref s.heap.objs.size)) Q E { s with heap := s.heap.push { cls := .type "slice", data := .fields #[.none, .int ((k : Nat) : Int) tk0, .none] } } := by
  refine KBc.slice_K (lo := none) (hi := some ((k : Nat) : Int)) hF hN rfl (by constructor) (by constructor) (by rw [KBw.ints_length, List.size_toArray]; omega) (fun h' t' tk F N _ => ?_) hs ht
  have := h h' t' tk F N
  rw [KBc.picked_eq]
  simp only [Option.elim_none, Option.elim_some, List.drop_zero, Nat.sub_zero, clipAt_nat, List.size_toArray, List.take_length] at *
  rwa [show X.take (min k X.length) = X.take k by rw [← List.take_take, List.take_length]]
theorem cut_last {tk0 : Tok} (hF : Fr h₀ L s.heap m) (hN : News h₀ L s.heap news) (hz : X.length ≤ 10000)
    (h : ∀ h' t' tk, Fr h₀ L h' m → News h₀ L h' news → Q (.bytes X.dropLast.toArray t') { s with heap := h', toks := tk })
    (hs : subscripted slice false (.bytes X.toArray t) (.ref s.heap.objs.size) = operate [.ref s.heap.objs.size, .bytes X.toArray t] (getItem (.bytes X.toArray t) (.ref s.heap.objs.size)) := by with_unfolding_all rfl)
    (ht : ∀ r, letTemporaryGo value (.bytes X.toArray t) r = pure () := by intro _; with_unfolding_all rfl) :
    wpAny (model prog w) A (subscriptTail value slice (.bytes X.toArray t) (.ref s.heap.objs.size)) Q E { s with heap := s.heap.push { cls := .type "slice", data := .fields #[.none, .int (-1) tk0, .none] } } := by
  refine KBc.slice_K (lo := none) (hi := some (-1)) hF hN rfl (by constructor) (by constructor) (by rw [KBw.ints_length, List.size_toArray]; omega) (fun h' t' tk F N _ => ?_) hs ht
  have := h h' t' tk F N
  rw [KBc.picked_eq]
  have hc : clipAt X.length (-1) = X.length - 1 := by
    have e := clipAt_cast X.length (-1)
    rw [if_pos (by decide)] at e
    omega
  simp only [Option.elim_none, Option.elim_some, List.drop_zero, Nat.sub_zero, List.size_toArray, hc] at *
  rwa [List.dropLast_eq_take] at this
end
end Mine
end SL2part

section RCpart
open PySem PySem.W PyProof.Rows
namespace Mine
theorem assign3 {prog : Program} {w : World} {A : Around} {E : Value → Shared → Prop} {s : Shared} {env : Env} {a b c : Str} {pa pb pc tp : Pos} {kk : Nat} {T : Addr} {x y z : Value} {m : Str → Option Value} {Q : Unit → Shared → Prop} (hh : A.handled = none) (ht : s.heap.IsTuple T #[x, y, z])
    (ha : env.kindOf a = some .local) (hb : env.kindOf b = some .local) (hc : env.kindOf c = some .local) (hp : (env.scope.kind == .class || (env.scope.kind == .module && env.locals != env.globals)) = false) (hn : s.heap.Ns env.locals m)
    (h : ∀ (h' : Heap) (tk : Nat), h'.Ns env.locals (fun q => if q = c then some z else if q = b then some y else if q = a then some x else m q) → (∀ q o, q ≠ env.locals → s.heap.get? q = some o → h'.get? q = some o) → Q () { s with heap := h', toks := tk }) :
    wpAny (model prog w) A (assign (.Tuple [.Name a pa, .Name b pb, .Name c pc] kk tp) env (.ref T)) Q E s := by
  refine wpAny_assign_Tuple hh ht rfl rfl fun h₁ he₁ => ?_
  have hL : env.locals ≠ s.heap.objs.size := Nat.ne_of_lt hn.lt
  have hn₁ : h₁.Ns env.locals m := hn.at' fun o e => he₁ _ o hL e
  have up₁ : ∀ c o, s.heap.get? c = some o → h₁.get? c = some o := fun c o e => he₁ c o (Nat.ne_of_lt (Heap.lt_size e)) e
  show wpAny _ _ (assignInOrder [assign (.Name a pa) env, assign (.Name b pb) env, assign (.Name c pc) env] [x, y, z]) _ _ _
  refine assignInOrder_cons (wpAny_assign_Name (wpAny_storeName_local ha hn₁ (fun h₂ hn₂ hs₂ => ?_) hp))
  refine assignInOrder_cons (wpAny_assign_Name (wpAny_storeName_local hb hn₂ (fun h₃ hn₃ hs₃ => ?_) hp))
  refine assignInOrder_cons (wpAny_assign_Name (wpAny_storeName_local hc hn₃ (fun h₄ hn₄ hs₄ => ?_) hp))
  refine assignInOrder_nil ?_
  exact h h₄ _ hn₄ fun q o hq e => hs₄.extBut q o hq (hs₃.extBut q o hq (hs₂.extBut q o hq (up₁ q o e)))

theorem rows_comp {prog : Program} {w : World} {A : Around} {E : Value → Shared → Prop} {s : Shared} {env : Env} {h₀ : Heap} {L : Addr} {m : Str → Option Value} {news : List (Addr × Obj)} {scope : Scope} {cl : List (Str × Addr)} {pos p1 p2 p3 p4 p5 : Pos} {kk : Nat} {iter : Expr} {R : Addr} {rvs : List Value} {rk : Nat} {tolds : List (List UInt8)} {Q : Value → Shared → Prop}
    (hh : A.handled = none) (hclos : closureFor scope env = pure cl) (hcell : ∀ y ∈ scope.names, y.2 ≠ .cell) (hkind : scope.kind = .function)
    (hnames : ∀ y ∈ scope.names, y.2 = .local → scope.names.lookup y.1 = some .local) (hx1 : scope.names.lookup (Str.ofString "number") = some NameKind.local) (hx2 : scope.names.lookup (Str.ofString "bias") = some NameKind.local) (hx3 : scope.names.lookup (Str.ofString "told") = some NameKind.local)
    (hiter : wpAny (model prog w) A (eval iter env) (fun xv s₁ => xv = .ref R ∧ s₁ = s) E s)
    (F : Fr h₀ L s.heap m) (N : News h₀ L s.heap news) (hR : (R, W.listOf rvs.toArray rk) ∈ news) (hl : rvs.length = tolds.length) (hz : rvs.length ≤ 1000)
    (hrows : ∀ (j : Nat) v, rvs[j]? = some v → ∃ T n b l t1 t2 t3 c, v = .ref T ∧ (T, triple n b l.toArray t1 t2 t3 c) ∈ news ∧ tolds[j]? = some l)
    (hq : ∀ D h tk ys, Fr h₀ L h m → News h₀ L h ((D, lstO ys) :: news) → BytesAre ys tolds → Q (.ref D) { s with heap := h, toks := tk })
    (hs : ∀ x, foldedSetIterable iter env x = pure x := by intro _; rfl) :
    wpAny (model prog w) A (eval (.ListComp (.Name "told" p1) [⟨.Tuple [.Name "number" p2, .Name "bias" p3, .Name "told" p4] kk p5, iter, [], 0⟩] scope pos) env) Q E s := by
  have hloc : ∀ C, (compEnvC scope cl C env).kindOf "told" = some .local := fun C => lookup_relabel_local hx3
  have hloc1 : ∀ C, (compEnvC scope cl C env).kindOf "number" = some .local := fun C => lookup_relabel_local hx1
  have hloc2 : ∀ C, (compEnvC scope cl C env).kindOf "bias" = some .local := fun C => lookup_relabel_local hx2
  have hkf : ∀ C, (compEnvC scope cl C env).scope.kind = .function := fun C => hkind
  refine comp_list hclos hcell hkind hnames (wpAny_mono hiter (fun xv s₁ h₁ => ?_) fun _ _ e => e) hs
  obtain ⟨rfl, rfl⟩ := h₁
  have hRl : s₁.heap.IsList R rvs.toArray := isList_of (N _ hR).1 rfl (k := rk) rfl
  have hRlt : R < s₁.heap.objs.size := Heap.lt_size (N _ hR).1
  refine wpAny_pyIter_list hRl ?_
  have hI0 : h₀.get? s₁.heap.objs.size = none := next_is_new F
  have hIL : s₁.heap.objs.size ≠ L := Nat.ne_of_gt F.ns.lt
  have hIN : ∀ p ∈ news, p.1 ≠ s₁.heap.objs.size := fun p hp => Nat.ne_of_lt (Heap.lt_size (N p hp).1)
  have FI := F.push { cls := .type "list_iterator", data := .fields #[.ref R, .int 0 0] }
  have hsz : (s₁.heap.push { cls := .type "list_iterator", data := .fields #[.ref R, .int 0 0] }).objs.size = s₁.heap.objs.size + 1 := Heap.size_push ..
  have hlt1 : s₁.heap.objs.size < (s₁.heap.push { cls := .type "list_iterator", data := .fields #[.ref R, .int 0 0] }).objs.size := by rw [hsz]; exact Nat.lt_succ_self _
  have hlt2 : R < (s₁.heap.push { cls := .type "list_iterator", data := .fields #[.ref R, .int 0 0] }).objs.size := Nat.lt_trans hRlt hlt1
  have hge : (s₁.heap.push { cls := .type "list_iterator", data := .fields #[.ref R, .int 0 0] }).get? s₁.heap.objs.size = some { cls := .type "list_iterator", data := .fields #[.ref R, .int 0 0] } := Heap.get?_push_size _ rfl
  have NI : News h₀ L (s₁.heap.push { cls := .type "list_iterator", data := .fields #[.ref R, .int 0 0] }) news := N.grown fun _ _ e => Heap.get?_push_of_some _ e
  have hRl' := hRl.push { cls := .type "list_iterator", data := .fields #[.ref R, .int 0 0] }
  have hRne : R ≠ s₁.heap.objs.size := Nat.ne_of_lt hRlt
  have W0 := Walks.list (prog := prog) (w := w) (A := A) hh s₁.heap.objs.size R hRne rvs.toArray
  generalize s₁.heap.objs.size = I at *
  generalize s₁.heap.push { cls := .type "list_iterator", data := .fields #[.ref R, .int 0 0] } = H at *
  refine ⟨I, [I, R], _, _, _, fun i ys => BytesAre ys (tolds.take i), rfl, W0, by rw [List.size_toArray, sizeLine_eq]; omega, ⟨⟨_, hge, rfl, rfl⟩, hRl'⟩, fun b hb => ?_, fun i v s' Q' E' hP hS hq' => ?_, ?_⟩
  · show b < H.objs.size
    rcases List.mem_cons.mp hb with rfl | hb
    · exact hlt1
    · rw [List.mem_singleton.mp hb]; exact hlt2
  · obtain ⟨T, n, b, l, t1, t2, t3, c, rfl, _, _⟩ := hrows i v (by simpa using hP)
    exact wpAny_letOwnedTupleGo_listiter hS.1 hq'
  refine ⟨.nil, fun i ys v C m₂ h tk hi hP hJ hn hC hk => ?_, fun ys D h tk hJ hk hD hDs => ?_, fun i ys hJ => ?_⟩
  · obtain ⟨T, n, b, l, t1, t2, t3, c, rfl, hT, htl⟩ := hrows i v (by simpa using hP)
    have hTt : h.IsTuple T #[.int n t1, .int b t2, .bytes l.toArray t3] := ⟨_, hk _ _ (hIN _ hT) (NI _ hT).1, rfl, _, rfl⟩
    refine assign3 (env := compEnvC scope cl C env) hh hTt (hloc1 C) (hloc2 C) (hloc C) (by simp [compEnvC, relabel, hkind]) hn fun h₃ tk₃ hn₃ hs₃ => ?_
    refine wpAny_tests_nil ?_
    simp only [if_true]
    refine wpAny_Name (wpAny_loadName_local (hkf C) (hloc C) hn₃ (by simp; rfl) ?_) (by decide)
    refine ⟨⟨h₃, _, _, rfl, hn₃, hs₃⟩, ?_⟩
    rw [List.take_add_one, htl]
    exact hJ.snoc
  · have hDs' : H.objs.size ≤ D := hDs
    have hLt : L < H.objs.size := FI.ns.lt
    refine hq D h tk ys ⟨FI.ns.at' fun o e => hk _ o (Ne.symm hIL) e, fun b o e => hk b o (fun q => by rw [q, hI0] at e; cases e) (FI.keep b o e), FI.above⟩ (fun p hp => ?_) ?_
    · rcases List.mem_cons.mp hp with rfl | hp
      · exact ⟨hD, Nat.ne_of_gt (Nat.lt_of_lt_of_le hLt hDs'), Heap.get?_none_of_le (Nat.le_trans FI.above (Nat.le_trans (Nat.le_of_lt hLt) hDs'))⟩
      · exact ⟨hk _ _ (hIN p hp) (NI p hp).1, (NI p hp).2⟩
    · rwa [List.size_toArray, hl, List.take_length] at hJ
  · rw [bytes_len hJ, List.length_take]
    exact Nat.min_le_left _ _
end Mine
end RCpart

section TOpart
open PySem PySem.W PyProof.Rows
namespace Mine
/-- what was told for each number -/
noncomputable def toldsOf (tot : Int) (nums : List Int) : List (List UInt8) := nums.zipIdx.map fun p => (gen p.1 (biasOf tot p.2)).toList
theorem tolds_get {tot : Int} {nums : List Int} {j : Nat} {n : Int} (h : nums[j]? = some n) : (toldsOf tot nums)[j]? = some (gen n (biasOf tot j)).toList := by
  unfold toldsOf
  rw [List.getElem?_map, List.getElem?_zipIdx, h]
  simp
theorem tolds_len (tot : Int) (nums : List Int) : (toldsOf tot nums).length = nums.length := by simp [toldsOf]
theorem tolds_short (tot : Int) (nums : List Int) : ∀ l ∈ toldsOf tot nums, l.length ≤ 42 ∧ 1 ≤ l.length := fun l hl => by
  obtain ⟨p, _, rfl⟩ := List.mem_map.mp hl
  exact ⟨law_len, law_pos⟩
theorem flat_le : ∀ (ls : List (List UInt8)), (∀ l ∈ ls, l.length ≤ 42 ∧ 1 ≤ l.length) → ls.flatten.length ≤ 42 * ls.length ∧ ls.length ≤ ls.flatten.length
  | [], _ => ⟨Nat.le_refl _, Nat.le_refl _⟩
  | l :: r, h => by
    obtain ⟨h1, h2⟩ := h l (.head _)
    obtain ⟨h3, h4⟩ := flat_le r fun x hx => h x (.tail _ hx)
    rw [List.flatten_cons, List.length_append, List.length_cons]
    omega
theorem tolds_rows {tot : Int} {nums : List Int} {rvs : List Value} {ts news : List (Addr × Obj)} (x : RowsOk tot nums nums.length rvs ts) (hn : ∀ p ∈ ts, p ∈ news) :
    ∀ (j : Nat) v, rvs[j]? = some v → ∃ T n b l t1 t2 t3 c, v = .ref T ∧ (T, triple n b (List.toArray l) t1 t2 t3 c) ∈ news ∧ (toldsOf tot nums)[j]? = some l := fun j v hv => by
  have hj : j < nums.length := by rw [← x.len]; exact (List.getElem?_eq_some_iff.mp hv).1
  obtain ⟨n, hn'⟩ : ∃ n, nums[j]? = some n := ⟨_, List.getElem?_eq_getElem hj⟩
  obtain ⟨T, t1, t2, t3, c, rfl, hT⟩ := x.row j n v hj hn' hv
  exact ⟨T, n, biasOf tot j, (gen n (biasOf tot j)).toList, t1, t2, t3, c, rfl, hn _ hT, tolds_get hn'⟩
/-- where the i-th telling stands -/
def posOf (ls : List (List UInt8)) (i : Nat) : Nat := (ls.take i).flatten.length
theorem pos_succ {ls : List (List UInt8)} {i : Nat} {l : List UInt8} (h : ls[i]? = some l) : posOf ls (i + 1) = posOf ls i + l.length := by
  unfold posOf
  rw [List.take_add_one, h]
  simp
theorem pos_drop {ls : List (List UInt8)} {i : Nat} {l : List UInt8} (h : ls[i]? = some l) : ls.flatten.drop (posOf ls i) = l ++ (ls.drop (i + 1)).flatten := by
  have hi : i < ls.length := (List.getElem?_eq_some_iff.mp h).1
  have e : ls.flatten = (ls.take i).flatten ++ (ls.drop i).flatten := by rw [← List.flatten_append, List.take_append_drop]
  have e2 : ls.drop i = l :: ls.drop (i + 1) := by
    rw [List.drop_eq_getElem_cons hi]
    rw [List.getElem?_eq_getElem hi] at h
    rw [Option.some.inj h]
  rw [e]
  unfold posOf
  rw [List.drop_left, e2, List.flatten_cons]
theorem read_at {tot : Int} {ns : List Int} {i : Nat} {n : Int} (h : (ns.map absM)[i]? = some n) :
    decL ((upL (toldsOf tot (ns.map absM)).flatten).drop (posOf (toldsOf tot (ns.map absM)) i)) 0 (biasOf tot i) 1 0 = some ((gen n (biasOf tot i)).toList.length, n) := by
  obtain ⟨h0, h1⟩ : 0 ≤ n ∧ n < 10 ^ 40 := nums_bound h
  rw [show (upL (toldsOf tot (ns.map absM)).flatten).drop (posOf (toldsOf tot (ns.map absM)) i) = upL ((toldsOf tot (ns.map absM)).flatten.drop (posOf (toldsOf tot (ns.map absM)) i)) from List.map_drop.symm, pos_drop (tolds_get h)]
  rw [show upL ((gen n (biasOf tot i)).toList ++ ((toldsOf tot (ns.map absM)).drop (i + 1)).flatten) = upL (gen n (biasOf tot i)).toList ++ upL ((toldsOf tot (ns.map absM)).drop (i + 1)).flatten from List.map_append]
  exact law_read h0 (Int.lt_trans h1 (by decide)) _
theorem flat_sok {tot : Int} {ns : List Int} : ∀ c ∈ upL (toldsOf tot (ns.map absM)).flatten, sok c := fun c hc => by
  obtain ⟨d, hd, rfl⟩ := List.mem_map.mp hc
  obtain ⟨l, hl, hdl⟩ := List.mem_flatten.mp hd
  obtain ⟨p, hp, rfl⟩ := List.mem_map.mp hl
  have hp1 : p.1 ∈ ns.map absM := by
    have := List.mem_zipIdx hp
    rw [this.2.2]
    exact List.getElem_mem _
  obtain ⟨y, _, hy⟩ := List.mem_map.mp hp1
  have h0 : 0 ≤ p.1 := by rw [← hy]; exact absM_lo y
  have h1 : p.1 < 10 ^ 41 := by rw [← hy]; exact Int.lt_trans (absM_hi y) (by decide)
  exact law_sok h0 h1 _ (List.mem_map.mpr ⟨d, hdl, rfl⟩)
end Mine
end TOpart

section LNpart
open PySem PySem.W PyProof.Rows
namespace Mine
theorem law_post_dec {s : Shared} {L : Addr} {h : Heap} {tk : Nat} {m : Str → Option Value} {p : Prop} [Decidable p] (hp : p) (F : Fr s.heap L h m) : LawPost s L (.ret (.bool (decide p))) { s with heap := h, toks := tk } := by
  rw [decide_eq_true hp]; exact law_post F
theorem stop_ {P : Prop} (h : Stop P) : P := h
section
variable {prog : Program} {w : World} {A : Around} {E : Value → Shared → Prop} {s : Shared} {env : Env}
/-- a for, its iterable walked alone -/
theorem wpS_ForX {target iter body pos} {Q : Flow → Shared → Prop}
    (h : wpAny (model prog w) A (eval iter env) (fun x s₁ => Stop (wpAny (model prog w) A (pyIter x) (fun it s₂ =>
      codeS (model prog w) A (.forLoop target it body [] env) (fun r s' => match r with | .ok f => Q f s' | .error e => cameBackBy (model prog w) A env E e s') s₂) E s₁)) E s)
    (hs : ∀ x, foldedSetIterable iter env x = pure x := by intro _; rfl) :
    wpS (model prog w) A (exec (.For target iter body [] pos) env) Q E s := wpS_For h hs
theorem assign3K {cn : Str} {cs : Scope} {cd : Value} {h₀ : Heap} {L fa : Addr} {m : Str → Option Value} {news : List (Addr × Obj)} {a b c : Str} {pa pb pc tp : Pos} {kk : Nat} {T : Addr} {x y z : Value} {Q : Unit → Shared → Prop} (hh : A.handled = none) (F : Fr h₀ L s.heap m) (N : News h₀ L s.heap news) (ht : s.heap.IsTuple T #[x, y, z])
    (hsk : cs.kind = .function) (ha : (envOf cn cs L fa cd).kindOf a = some .local) (hb : (envOf cn cs L fa cd).kindOf b = some .local) (hc : (envOf cn cs L fa cd).kindOf c = some .local)
    (h : ∀ (h' : Heap) (tk : Nat), Fr h₀ L h' (fun q => if q = c then some z else if q = b then some y else if q = a then some x else m q) → News h₀ L h' news → Q () { s with heap := h', toks := tk }) :
    wpAny (model prog w) A (assign (.Tuple [.Name a pa, .Name b pb, .Name c pc] kk tp) (envOf cn cs L fa cd) (.ref T)) Q E s := by
  refine assign3 hh ht ha hb hc (by show (cs.kind == .class || (cs.kind == .module && _)) = false; rw [hsk]; rfl) F.ns fun h' tk hn hk => ?_
  exact h h' tk ⟨hn, fun q o e => hk q o (fun hq => absurd (Heap.lt_size e) (by rw [hq]; exact Nat.not_lt.mpr F.above)) (F.keep q o e), F.above⟩ fun p hp => ⟨hk _ _ (N p hp).2.1 (N p hp).1, (N p hp).2⟩
end
section
variable {prog : Program} {w : World} {A : Around} {s : Shared} {h₀ : Heap} {L a : Addr} {m : Str → Option Value} {cn : Str} {cs : Scope} {cd : Value} {Q : Flow → Shared → Prop}
/-- a loop over a list, on a clean stack, its ledger apart from the iterator by its places -/
theorem S_list2 {σ : Type} {target : Expr} {body : List Stmt} {l : Addr} {vs : List Value} {lo : Obj} (led : σ → List (Addr × Obj)) (ps : σ → List (Str × Value)) (P : Nat → σ → Prop) (c₀ : σ)
    (hh : A.handled = none) (hlo : lo.cls = .type "list" ∧ ∃ k, lo.data = .seq vs.toArray k) (hin : ∀ c, (l, lo) ∈ led c) (hne : ∀ i c, P i c → ∀ p ∈ led c, p.1 ≠ s.heap.objs.size)
    (hgo : ((∃ elts k pos, target = .Tuple elts k pos) ∧ ∀ (i : Nat) (v : Value), vs[i]? = some v → ∃ T : Addr, v = Value.ref T) ∨ ∀ it v, letOwnedTupleGo target it v = pure ())
    (F : Fr h₀ L s.heap m) (N : News h₀ L s.heap (led c₀)) (hk : ∀ p ∈ ps c₀, m p.1 = some p.2) (hp : P 0 c₀)
    (turn : ∀ i c u h tk v I oi, vs[i]? = some v → P i c → Fr h₀ L h (kstB u (ps c)) → News h₀ L h ((I, oi) :: led c) →
      wpAny (model prog w) A (assign target (envOf cn cs L a cd) v) (fun _ s₂ => wpS (model prog w) A (execs body (envOf cn cs L a cd)) (NextTo h₀ L s [(I, oi)] led ps P Q i) (fun _ _ => False) s₂) (fun _ _ => False) { s with heap := h, toks := tk })
    (fin : ∀ c u h tk, P vs.length c → Fr h₀ L h (kstB u (ps c)) → News h₀ L h (led c) → Q .next { s with heap := h, toks := tk }) :
    wpAny (model prog w) A (pyIter (.ref l)) (fun it s₂ => codeS (model prog w) A (.forLoop target it body [] (envOf cn cs L a cd)) (fun r s' => match r with | .ok f => Q f s' | .error e => cameBackBy (model prog w) A (envOf cn cs L a cd) (fun _ _ => False) e s') s₂) (fun _ _ => False) s := by
  obtain ⟨hlc, lk, hld⟩ := hlo
  have hL0 := (N _ (hin c₀)).1
  refine wpAny_pyIter_list (isList_of hL0 hlc hld) ?_
  have hIL : s.heap.objs.size ≠ L := Nat.ne_of_gt F.ns.lt
  have hI0 : h₀.get? s.heap.objs.size = none := next_is_new F
  generalize hII : s.heap.objs.size = I at *
  refine codeS_for (fun k s' => ∃ (i : Nat) (c : σ) (h : Heap) (tk : Nat) (m' : Str → Option Value) (oi : Obj), s' = { s with heap := h, toks := tk } ∧ i ≤ vs.length ∧ k = vs.length + 1 - i ∧ Fr h₀ L h m' ∧ News h₀ L h ((I, oi) :: led c) ∧ itO l i oi ∧ (∀ p ∈ ps c, m' p.1 = some p.2) ∧ P i c) ?_ (vs.length + 1)
    ⟨0, c₀, _, _, m, ({ cls := .type "list_iterator", data := .fields #[.ref l, .int 0 0] } : Obj), rfl, Nat.zero_le _, rfl, F.push _, fun p hp' => ?_, ⟨rfl, rfl⟩, hk, hp⟩
  · rintro k s' ⟨i, c, h, tk, m', oi, rfl, hi, rfl, F', N', hoi, hk', hp'⟩
    have hl' := isList_of (N' _ (.tail _ (hin c))).1 hlc hld
    have hit := listIter_of (N' _ (.head _)).1 hoi
    have keepF : ∀ {h' : Heap} {m' : Str → Option Value}, Fr h₀ L h m' → (∀ b o, b ≠ I → h.get? b = some o → h'.get? b = some o) → Fr h₀ L h' m' := fun F k =>
      ⟨F.ns.at' fun o e => k L o (Ne.symm hIL) e, fun b o e => k b o (fun q => by rw [q, hI0] at e; cases e) (F.keep b o e), F.above⟩
    have keepN : ∀ {h' : Heap}, (∀ b o, b ≠ I → h.get? b = some o → h'.get? b = some o) → News h₀ L h' (led c) := fun k p hp => by
      exact ⟨k _ _ (hne i c hp' _ hp) (N' _ (.tail _ hp)).1, (N' _ (.tail _ hp)).2⟩
    cases hv : vs[i]? with
    | none =>
      have hin' : i = vs.length := Nat.le_antisymm hi (by simpa using hv)
      subst hin'
      exact wpAny_pyNext_list_end hh hit hl' (by simpa using hv) fun h' he' => fin c m' h' tk hp' (frB hk' (keepF F' fun b o hb e => he' b o hb e)) (keepN fun b o hb e => he' b o hb e)
    | some v =>
      have hlt : i < vs.length := (List.getElem?_eq_some_iff.mp hv).1
      refine wpAny_pyNext_list_item hit hl' (by simpa using hv) fun h' hit' hs' => ?_
      have kk : ∀ b o, b ≠ I → h.get? b = some o → h'.get? b = some o := fun b o hb e => hs'.extBut b o hb e
      obtain ⟨oi', hoe', hoi'⟩ := of_listIter hit'
      have N2 : News h₀ L h' ((I, oi') :: led c) := fun p hp => by
        rcases List.mem_cons.mp hp with rfl | hp
        · exact ⟨hoe', hIL, hI0⟩
        · exact keepN kk p hp
      have hbody := turn i c m' h' tk v I oi' hv hp' (frB hk' (keepF F' kk)) N2
      have step : wpAny (model prog w) A (assign target (envOf cn cs L a cd) v) (fun _ s₂ => wpS (model prog w) A (execs body (envOf cn cs L a cd)) (fun f s₃ => match f with
            | .next | .cont => ∃ m, m < vs.length + 1 - i ∧ ∃ (i : Nat) (c : σ) (h : Heap) (tk : Nat) (m' : Str → Option Value) (oi : Obj), s₃ = { s with heap := h, toks := tk } ∧ i ≤ vs.length ∧ m = vs.length + 1 - i ∧ Fr h₀ L h m' ∧ News h₀ L h ((I, oi) :: led c) ∧ itO l i oi ∧ (∀ p ∈ ps c, m' p.1 = some p.2) ∧ P i c
            | .brk => Q .next s₃
            | .ret v => Q (.ret v) s₃) (upBy prog w A (envOf cn cs L a cd) fun r s' => match r with | .ok f => Q f s' | .error e => cameBackBy (model prog w) A (envOf cn cs L a cd) (fun _ _ => False) e s') s₂) (upBy prog w A (envOf cn cs L a cd) fun r s' => match r with | .ok f => Q f s' | .error e => cameBackBy (model prog w) A (envOf cn cs L a cd) (fun _ _ => False) e s') { s with heap := h', toks := tk } := by
        refine wpAny_mono hbody (fun _ s₂ h₂ => wpS_mono h₂ (fun f s₃ h₃ => ?_) fun _ _ (x : False) => x.elim) fun _ _ (x : False) => x.elim
        have up : (∃ (c' : σ) (h' : Heap) (tk' : Nat) (m' : Str → Option Value), s₃ = { s with heap := h', toks := tk' } ∧ Fr h₀ L h' m' ∧ News h₀ L h' ([(I, oi')] ++ led c') ∧ (∀ p ∈ ps c', m' p.1 = some p.2) ∧ P (i + 1) c') →
            ∃ m, m < vs.length + 1 - i ∧ ∃ (i : Nat) (c : σ) (h : Heap) (tk : Nat) (m' : Str → Option Value) (oi : Obj), s₃ = { s with heap := h, toks := tk } ∧ i ≤ vs.length ∧ m = vs.length + 1 - i ∧ Fr h₀ L h m' ∧ News h₀ L h ((I, oi) :: led c) ∧ itO l i oi ∧ (∀ p ∈ ps c, m' p.1 = some p.2) ∧ P i c := by
          rintro ⟨c', h3, tk3, m3, rfl, F3, N3, hk3, hp3⟩
          exact ⟨vs.length + 1 - (i + 1), by omega, i + 1, c', h3, tk3, m3, oi', rfl, hlt, rfl, F3, N3, hoi', hk3, hp3⟩
        cases f with
        | next => exact up h₃
        | cont => exact up h₃
        | brk => exact h₃
        | ret v => exact h₃
      rcases hgo with ⟨⟨elts, kk', pos, rfl⟩, hT⟩ | hgo
      · obtain ⟨T, rfl⟩ := hT i v hv
        exact wpAny_letOwnedTupleGo_listiter hit' step
      · exact wpAny_of_eq (hgo _ _) step
  · rcases List.mem_cons.mp hp' with rfl | hp'
    · exact ⟨by rw [← hII]; exact Heap.get?_push_size _ rfl, hIL, hI0⟩
    · exact ⟨Heap.get?_push_of_some _ (N p hp').1, (N p hp').2⟩

end
end Mine
end LNpart

section LW6part
open PySem PySem.W PyProof.Rows
local macro_rules | `(tactic| walk_at "call type:enumerate") => `(tactic| (refine call_enumerate_list (News.isList (by assumption) (by news_mem)) ?_; intro h7 he7 hit7 hz7 hk7; (try dsimp only)))
local macro_rules | `(tactic| walk_at "subscriptTail") => `(tactic| (k_here; (with_reducible show wpAny _ _ (subscriptTail _ (Expr.Slice _ _ none _) (Value.bytes _ _) (Value.ref _)) _ _ _); (with_reducible rename Fr _ _ _ _ => F'); (with_reducible rename News _ _ _ _ => N'); (first | refine Mine.cut_pre (s := ⟨_, _, _, _, _⟩) F' N' (by first | omega | (rw [List.length_map]; omega)) ?_ | refine Mine.cut_last (s := ⟨_, _, _, _, _⟩) F' N' (by first | omega | (rw [List.length_map]; omega)) ?_); intro _ _ _ _ _; (try dsimp only)))
local macro_rules | `(tactic| walk_at "getMethod bytes") => `(tactic| (first | refine Mine.method_upper ?_ | refine Mine.method_join ?_))
local macro_rules | `(tactic| walk_at "call builtin:bytes.upper") => `(tactic| (refine Mine.call_upper (by rw [sizeLine_eq]; omega) ?_))
local macro_rules | `(tactic| walk_at "call ref") => `(tactic| (k_here; first
  | (k_dflt (refine' Mine.dec_use (by assumption) ?k2 (by assumption) ?k4 (by assumption) ?kK ?kp ?kd ?ku ?_; (case k2 => k_asm); (case k4 => k_asm); (case kK => exact rfl); (case kp => assumption); (case kd => ktr_room); (case ku => ktr_units); k_whole); intro D9 t9 t8 c9 h9 tk9 F9 N9; (try dsimp only))
  | (k_dflt (refine' Mine.cut_use (by assumption) ?k2 (by assumption) ?k4 (by assumption) ?kK (by assumption) (by assumption) ?kp ?kd ?ku ?_; (case k2 => k_asm); (case k4 => k_asm); (case kK => exact rfl); (case kp => assumption); (case kd => ktr_room); (case ku => ktr_units); k_whole); intro D9 t9 c9 h9 tk9 F9 N9; (try dsimp only))
  | (k_dflt (refine' Mine.lcut_use (by assumption) ?k2 (by assumption) ?k4 (by assumption) ?kK (by assumption) (by assumption) ?kp ?kd ?ku ?_; (case k2 => k_asm); (case k4 => k_asm); (case kK => exact rfl); (case kp => assumption); (case kd => ktr_room); (case ku => ktr_units); k_whole); intro h9 tk9 F9 N9; (try dsimp only))
  | (k_dflt (refine' Mine.adapt_use (by assumption) ?k2 (by assumption) ?k4 (by assumption) ?kK ?kp ?kd ?ku ?_; (case k2 => k_asm); (case k4 => k_asm); (case kK => exact rfl); (case kp => assumption); (case kd => ktr_room); (case ku => ktr_units); k_whole); intro v9 t9 h9 tk9 hv9 F9 N9; (try dsimp only))))
local macro_rules | `(tactic| walk_at "eval ListComp") => `(tactic| (k_here; refine Mine.stop_ ?_))
local macro_rules | `(tactic| walk_at "call builtin:bytes.join") => `(tactic| (k_here; (with_reducible rename News _ _ _ _ => N'); refine Mine.call_join (Mine.isList_of (N' _ (.head _)).1 rfl rfl) (by assumption) (by assumption) ?_; intro t' tk'; (try dsimp only)))
set_option maxRecDepth 100000 in
set_option maxHeartbeats 8000000 in
theorem Mine.law : PySem.Challenge.rw_xc0042_01.Holds := Mine.hd (by
  k_fill
  intro w s₀ s₁ mg mb G Y fa o pm cd doc dV kV ho hd hcd hD hmg hg args vals as hpre hlay hrd hwl hlo
  have KX := kIn_of Y
  have X := (Ground.X G).1
  have V := (Ground.X G).2
  refine Ground.open G ?_
  intro T B D TE TW
  try (refine guard_noD D (by decide +kernel) ?_; clear D)
  have TA := at_of_top T
  obtain ⟨_, _, he, B0⟩ := based_of_top T rfl hmg ho hd
  have he' : cd = _ := he
  subst he'
  clear he
  clear hmg
  wrow_args hpre hlay hrd hwl hlo
  rename_i a1 a2 ns hs hlay0 hL1 hr1 hl2 w4 w3 l vs w0 hL ra w1 r0 hI hr hc1 hc2
  have K0 : Below callerA s₁.heap [] s₁.heap := below_caller s₁.heap
  have he := Dflts.none hD rfl
  subst he
  have he := Dflts.noKw hD
  subst he
  refine Mine.wpS_call ?_
  refine Mine.law_enter ho hd (Top.nolimit T) hcd (BindsTo.of_eq rfl) (by decide) (locs rfl) ?_ rfl rfl rfl ?_
  · intro h tk m F
    dsimp only
    refine GoodW.toG ?_
    wrow_close
  · intro h₁ F N
    dsimp only
    clear hd hD hcd TA
    refine Mine.wpS_plain ?_
    k_steps
    (rename News _ _ _ _ => N1)
    (rename Fr _ _ _ _ => F1)
    rename_i hA tkA t0 hB
    refine Mine.wpS_plain ?_
    refine PyProof.Rows.LCg.Assign_ListComp_U (F₀ := F1) rfl (by with_unfolding_all rfl) (by rfl) (by decide) (by rfl) (by decide) (by rfl) (by rfl) (by rfl) ?_
    k_steps
    have hnl : ns.length ≤ 63 := by omega
    have hvl : vs.length ≤ 63 := by rw [Mine.ints_len hI]; exact hnl
    have TR := topRead_of T
    refine PyProof.Rows.LCg.CompSrc.base rfl F1 N1 hL (by rw [List.size_toArray, sizeLine_eq]; omega) fun g9 => ?_
    refine Mine.numbers_rest (ns := ns) (mg := mg) (mb := mb) (fun _ => rfl) (fun _ => rfl) (fun _ => rfl) rfl rfl TR.g (mg_none_of KX TR.g (by kernel_rfl)) TR.b ((TR.builtins _ (by decide)).trans PyProof.Rows.Boot.«abs») (.inl hL) hI ?_ _ 0 [] (by rw [List.size_toArray]; exact Nat.zero_add _) .nil
    intro nvs hnv D h2 tk2 F2 N2 off2
    dsimp only
    clear F1 N1
    refine Mine.wpS_plain ?_
    k_steps
    try dsimp only
    (rename News _ _ _ _ => N3)
    (rename Fr _ _ _ _ => F3)
    rename_i R hx1 lR hx2
    refine Mine.wpS_execs_cons (Mine.wpS_For ?_)
    k_steps
    try dsimp only
    (rename Heap.IsListIter _ _ _ _ => hit7)
    (rename Heap => h7)
    have F7 : Fr s₁.heap s₁.heap.objs.size h7 _ := F3.keeps (by assumption)
    have N7 : News s₁.heap s₁.heap.objs.size h7 _ := N3.grown (by assumption)
    have hLh := F3.ns.lt
    have hRlt := Heap.lt_size (N3 _ (.head _)).1
    have hup : s₁.heap.objs.size ≤ hx2.objs.size := Nat.le_of_lt hLh
    refine Mine.S_enum (σ := List Value × Nat × List (Addr × Obj)) (l := D) (vs := nvs) (lo := PyProof.Rows.LCg.lst nvs)
      (fun c => (R, W.listOf c.1.toArray c.2.1) :: (D, PyProof.Rows.LCg.lst nvs) :: c.2.2)
      (fun c => [(Str.ofString "script", .ref l), (Str.ofString "total", .int ns.sum t0), (Str.ofString "numbers", .ref D), (Str.ofString "rows", .ref R)])
      (fun i c => Mine.RowsOk ns.sum (ns.map Mine.absM) i c.1 c.2.2) ([], 0, []) rfl ⟨rfl, _, rfl⟩ (fun c => .tail _ (.head _)) (fun i c hp => .cons ⟨by show Value.type "list" ≠ _; decide, by show Value.type "list" ≠ _; decide⟩ (.cons ⟨by show Value.type "list" ≠ _; decide, by show Value.type "list" ≠ _; decide⟩ hp.noit)) rfl rfl rfl F7 N7 (by kst_all) (Mine.rows_nil _ _) (by assumption) hit7 ⟨Nat.ne_of_gt (Nat.lt_succ_of_lt hLh), Heap.get?_none_of_le (Nat.le_succ_of_le hup)⟩ ⟨Nat.ne_of_gt hLh, Heap.get?_none_of_le hup⟩ ?_ ?_
    · intro i c u h tk ti v oe oi hv hp F N
      obtain ⟨rvs, rk, ts⟩ := c
      obtain ⟨z, tz, hz, rfl⟩ := Mine.ints_get hnv hv
      dsimp only [kstB, List.cons_append, List.nil_append] at F N hp
      clear F7 N7 F3 N3
      refine Mine.wpS_plain ?_
      k_steps
      try dsimp only
      (rename Fr _ _ _ _ => F1)
      (rename News _ _ _ _ => N1)
      obtain ⟨u1, F2⟩ := Mine.fr_as [(Str.ofString "place", .int ((i : Nat) : Int) ti), (Str.ofString "number", .int z tz), (Str.ofString "bias", .int (Mine.biasOf ns.sum i) _), (Str.ofString "script", .ref l), (Str.ofString "total", .int ns.sum t0), (Str.ofString "numbers", .ref D), (Str.ofString "rows", .ref R)] F1 (by kst_all)
      dsimp only [kstB] at F2
      clear F1
      obtain ⟨hz0, hz1⟩ := Mine.nums_bound hz
      have hzz : 0 ≤ z ∧ z < 10 ^ 41 := ⟨hz0, Int.lt_trans hz1 (by decide)⟩
      refine Mine.wpS_execs_cons (Mine.wpS_Assign_Name (Mine.wpS_CallName ?_))
      k_steps
      refine Mine.wpS_callWith_ref (KX 28 _ (by k_is)) rfl ?_
      k_steps
      k_dflt (refine' Mine.gen_use K0 F2 KX N1 T ?kK hzz ?kd ?ku ?_; (case kK => exact rfl); (case kd => ktr_room); (case ku => ktr_units); k_whole)
      intro t5 h5 tk5 F5 N5
      clear F2 N1
      obtain ⟨X, hXe⟩ : ∃ X, X = (Mine.gen z (Mine.biasOf ns.sum i)).toList := ⟨_, rfl⟩
      have hgX : Mine.gen z (Mine.biasOf ns.sum i) = X.toArray := by rw [hXe]
      have hXl : X.length ≤ 42 := by rw [hXe]; exact Mine.law_len
      have hXp : 1 ≤ X.length := by rw [hXe]; exact Mine.law_pos
      have hXs : ∀ c ∈ X, c ∈ Mine.digitsB.toList := by rw [hXe]; exact Mine.law_signs hz0 hzz.2
      have hXd : Mine.decL (Mine.upL X) 0 (Mine.biasOf ns.sum i) 1 0 = some (X.length, z) := by rw [hXe]; exact Mine.law_read' hz0 hzz.2
      have hXo : ∀ c ∈ Mine.upL X, Mine.sok c := by rw [hXe]; exact Mine.law_sok hz0 hzz.2
      have hXc : Mine.decL (Mine.upL X.dropLast) 0 (Mine.biasOf ns.sum i) 1 0 = none := by rw [hXe]; exact Mine.law_cut hz0 hzz.2
      rw [hgX]
      k_steps
      try dsimp only
      (rename Fr _ _ _ _ => F6)
      (rename News _ _ _ _ => N6)
      refine Mine.wpS_execs_cons (Mine.wpS_If ?_)
      refine wpAny_isTrue_Compare1 ?_
      refine Mine.signs_comp (X := X) (t := t5) rfl (by with_unfolding_all rfl) (by decide) rfl (by decide) rfl ?hit F6 N6 hXs (by omega) ?_
      case hit => k_steps
      intro D8 h8 tk8 F8 N8
      clear F6 N6
      k_steps
      refine Mine.wpS_execs_nil ?_
      dsimp only
      have hXd' : 0 ≤ (0 : Int) ∧ Mine.decL ((Mine.upL X).drop (0 : Int).toNat) 0 (Mine.biasOf ns.sum i) 1 0 = some (X.length, z) ∧ (∀ c ∈ Mine.upL X, Mine.sok c) ∧ (Mine.upL X).length < 10000 := ⟨Int.le_refl _, hXd, hXo, by rw [List.length_map]; omega⟩
      refine Mine.wpS_execs_cons (Mine.wpS_If ?_)
      k_steps
      rotate_left
      · (rename (_ ≠ _) => hne); exact absurd (by simp) hne
      refine Mine.wpS_execs_nil ?_
      dsimp only
      (rename Fr _ _ _ _ => F10)
      (rename News _ _ _ _ => N10)
      replace N10 := Mine.news_dropN 4 N10
      simp only [List.drop_succ_cons, List.drop_zero] at N10
      have hz2 : 0 ≤ z + 1 ∧ z + 1 < 10 ^ 41 := ⟨by omega, Int.lt_of_le_of_lt (Int.add_one_le_of_lt hz1) (by decide)⟩
      refine Mine.wpS_execs_cons (Mine.wpS_Assign_Name (Mine.wpS_CallName ?_))
      k_steps
      refine Mine.wpS_callWith_ref (KX 28 _ (by k_is)) rfl ?_
      k_steps
      k_dflt (refine' Mine.gen_use K0 F10 KX N10 T ?kK hz2 ?kd ?ku ?_; (case kK => exact rfl); (case kd => ktr_room); (case ku => ktr_units); k_whole)
      intro t11 h11 tk11 F11 N11
      clear F10 N10
      obtain ⟨Y, hYe⟩ : ∃ Y, Y = (Mine.gen (z + 1) (Mine.biasOf ns.sum i)).toList := ⟨_, rfl⟩
      have hgY : Mine.gen (z + 1) (Mine.biasOf ns.sum i) = Y.toArray := by rw [hYe]
      have hYl : Y.length ≤ 42 := by rw [hYe]; exact Mine.law_len
      have hXY : X.length ≤ Y.length := by rw [hXe, hYe]; exact Mine.law_mono (by omega)
      have hYX : ¬ Y.take X.length = X := fun q => by
        rw [hXe, hYe] at q
        have := Mine.law_prefix hzz.1 hzz.2 hz2.1 hz2.2 q
        omega
      have hXYp : ¬ X.take Y.length = Y := fun q => by
        rw [hXe, hYe] at q
        have := Mine.law_prefix hz2.1 hz2.2 hzz.1 hzz.2 q
        omega
      rw [hgY]
      k_steps
      try dsimp only
      refine Mine.wpS_execs_cons (Mine.wpS_If ?_)
      k_steps
      · exfalso; (rename (_ == _) = true => hc); exact hYX (by simpa using hc)
      · exfalso; (rename (_ == _) = true => hc); exact hXYp (by simpa using hc)
      refine Mine.wpS_execs_nil ?_
      dsimp only
      have hXc' : Mine.decL (Mine.upL X).dropLast 0 (Mine.biasOf ns.sum i) 1 0 = none ∧ (∀ c ∈ (Mine.upL X).dropLast, Mine.sok c) ∧ (Mine.upL X).dropLast.length < 5000 :=
        ⟨by rw [show (Mine.upL X).dropLast = Mine.upL X.dropLast by simp [Mine.upL]]; exact hXc, fun c hc => hXo c ((List.dropLast_sublist _).subset hc), by simp [Mine.upL]; omega⟩
      have hXdl : ((Mine.upL X).dropLast.length : Int) + 1 = X.length := by simp [Mine.upL]; omega
      refine Mine.wpS_execs_cons (Mine.wpS_If ?_)
      k_steps
      rotate_left
      · exfalso; (rename (_ ≠ _) => hne); exact hne (by rw [hXdl]; simp)
      refine Mine.wpS_execs_nil ?_
      dsimp only
      (rename News _ _ _ _ => N12)
      replace N12 := Mine.news_dropN 2 N12
      simp only [List.drop_succ_cons, List.drop_zero] at N12
      refine Mine.wpS_plain ?_
      k_steps
      (rename Fr _ _ _ _ => F13)
      (rename News _ _ _ _ => N13)
      (rename (_ < _) ∧ _ => l13)
      obtain ⟨l13a, l13b, l13R, l13D, l13e⟩ := l13
      rename_i D13 h13x
      refine Mine.append_N (pre := [(_, _), (_, oe), (_, oi)]) F13 N13 (fun p hp => ?_) (fun p hp' => ?_) (by rw [hp.len]; have := (List.getElem?_eq_some_iff.mp hv).1; rw [Mine.ints_len hnv, List.length_map] at this; omega) fun h14 k14 F14 N14 => ?_
      · rcases List.mem_cons.mp hp with rfl | hp
        · exact Nat.ne_of_gt l13R
        · rcases List.mem_cons.mp hp with rfl | hp
          · exact Nat.ne_of_gt (Nat.lt_succ_of_lt hRlt)
          · rw [List.mem_singleton.mp hp]
            exact Nat.ne_of_gt hRlt
      · rcases List.mem_cons.mp hp' with rfl | hp'
        · exact Nat.ne_of_lt lR
        · intro q
          have e1 := (N13 p (by simp [hp'])).1
          have e2 := (N13 (R, W.listOf rvs.toArray rk) (by simp)).1
          have e2' : _ = some (W.listOf rvs.toArray rk) := e2
          rw [q] at e1
          have e3 := e1.symm.trans e2'
          have e4 := hp.tup p hp'
          rw [Option.some.inj e3] at e4
          exact absurd (show Value.type "list" = Value.type "tuple" from e4) (by decide)
      obtain ⟨tb, N15⟩ : ∃ tb, News s₁.heap s₁.heap.objs.size h14 ([(D13, Mine.triple z (Mine.biasOf ns.sum i) X.toArray tz tb t5 0), (hx2.objs.size + 1, oe), (hx2.objs.size, oi)] ++ (R, W.listOf (rvs ++ [Value.ref D13]).toArray k14) :: (D, PyProof.Rows.LCg.lst nvs) :: ts) := ⟨_, N14⟩
      have hrow := Mine.rows_snoc (T := D13) (t1 := tz) (t2 := tb) (t3 := t5) (c := 0) hp hz
      rw [hgX] at hrow
      try dsimp only
      refine Mine.wpS_execs_nil ?_
      refine Mine.next_to (rvs ++ [Value.ref D13], k14, (D13, Mine.triple z (Mine.biasOf ns.sum i) X.toArray tz tb t5 0) :: ts) F14 (fun p hp => N15 p ?_) (by kst_all) hrow
      simp only [List.mem_cons, List.mem_append, List.cons_append, List.nil_append, List.not_mem_nil, or_false] at hp ⊢
      rcases hp with h | h | h | h | h | h <;> simp [h]
    · intro c u h tk hp F N
      obtain ⟨rvs, rk, ts⟩ := c
      dsimp only [kstB] at F N hp
      clear F7 N7 F3 N3
      rw [Mine.ints_len hnv] at hp
      have hnl' : (ns.map Mine.absM).length ≤ 63 := by rw [List.length_map]; exact hnl
      have hrl : rvs.length = (Mine.toldsOf ns.sum (ns.map Mine.absM)).length := by rw [hp.len, Mine.tolds_len]
      have hrz : rvs.length ≤ 1000 := by rw [hp.len]; omega
      have hrows := Mine.tolds_rows hp (news := (R, W.listOf rvs.toArray rk) :: (D, PyProof.Rows.LCg.lst nvs) :: ts) (fun p hp => .tail _ (.tail _ hp))
      have hfl := (Mine.flat_le _ (Mine.tolds_short ns.sum (ns.map Mine.absM)))
      rw [Mine.tolds_len, List.length_map] at hfl
      obtain ⟨hfl1, hfl2⟩ := hfl
      have hfl3 : (Mine.toldsOf ns.sum (ns.map Mine.absM)).flatten.length ≤ 16777216 := by omega
      have hread := fun i n (h : (ns.map Mine.absM)[i]? = some n) => Mine.read_at (tot := ns.sum) h
      have hsok := Mine.flat_sok (tot := ns.sum) (ns := ns)
      have hpos := fun i l (h : (Mine.toldsOf ns.sum (ns.map Mine.absM))[i]? = some l) => Mine.pos_succ h
      have htg := fun i n (h : (ns.map Mine.absM)[i]? = some n) => Mine.tolds_get (tot := ns.sum) h
      generalize Mine.toldsOf ns.sum (ns.map Mine.absM) = TL at *
      try dsimp only
      refine Mine.wpS_plain ?_
      k_steps
      unfold Mine.Stop
      (rename Fr _ _ _ _ => F4)
      (rename News _ _ _ _ => N4)
      refine Mine.rows_comp (hR := .head _) rfl (by with_unfolding_all rfl) (by decide) rfl (by decide) rfl rfl rfl (ld F4 (by rfl) ⟨rfl, rfl⟩) F4 N4 hrl hrz hrows ?_
      intro D5 h5 tk5 ys5 F5 N5 hB5
      clear F4 N4
      try dsimp only
      k_steps
      try dsimp only
      (rename Fr _ _ _ _ => F6)
      (rename News _ _ _ _ => N6)
      refine Mine.wpS_plain ?_
      k_steps
      try dsimp only
      (rename Fr _ _ _ _ => F7)
      (rename News _ _ _ _ => N7)
      replace N7 := Mine.news_dropN 1 N7
      simp only [List.drop_succ_cons, List.drop_zero] at N7
      refine Mine.wpS_execs_cons (Mine.wpS_ForX ?_)
      k_steps
      unfold Mine.Stop
      have hno : Mine.NoIter ((R, W.listOf rvs.toArray rk) :: (D, PyProof.Rows.LCg.lst nvs) :: ts) := .cons ⟨by show Value.type "list" ≠ _; decide, by show Value.type "list" ≠ _; decide⟩ (.cons ⟨by show Value.type "list" ≠ _; decide, by show Value.type "list" ≠ _; decide⟩ hp.noit)
      refine Mine.S_list (σ := Int × Tok) (l := R) (vs := rvs) (lo := W.listOf rvs.toArray rk) (fun _ => (R, W.listOf rvs.toArray rk) :: (D, PyProof.Rows.LCg.lst nvs) :: ts)
        (fun c => [(Str.ofString "script", .ref l), (Str.ofString "total", .int ns.sum t0), (Str.ofString "numbers", .ref D), (Str.ofString "rows", .ref R), (Str.ofString "whole", .bytes (Mine.upL TL.flatten).toArray _), (Str.ofString "place", .int c.1 c.2)])
        (fun i c => c.1 = ((Mine.posOf TL i : Nat) : Int)) (0, _) rfl ⟨rfl, _, rfl⟩ (fun _ => .head _) (fun _ _ _ => hno) (.inl ⟨⟨_, _, _, rfl⟩, fun i v hv => ?hrow⟩) F7 N7 (by kst_all) rfl ?_ ?_
      case hrow =>
        obtain ⟨T1, _, _, _, _, _, _, _, rfl, _⟩ := hrows i v hv
        exact ⟨T1, rfl⟩
      · rintro i ⟨pl, tpl⟩ u h tk v I oi hv hpp F N
        dsimp only [kstB, List.cons_append, List.nil_append] at F N hpp
        subst hpp
        clear F7 N7
        have hin : i < (ns.map Mine.absM).length := by rw [← hp.len]; exact (List.getElem?_eq_some_iff.mp hv).1
        obtain ⟨n, hn⟩ : ∃ n, (ns.map Mine.absM)[i]? = some n := ⟨_, List.getElem?_eq_getElem hin⟩
        obtain ⟨T1, b1, b2, b3, c1, rfl, hT1⟩ := hp.row i n v hin hn hv
        refine Mine.assign3K rfl F N ⟨_, (N _ (.tail _ (.tail _ (.tail _ hT1)))).1, rfl, _, rfl⟩ rfl rfl rfl rfl fun h' tk' F1 N1 => ?_
        clear F N
        have hrd := hread i n hn
        have hps := hpos i _ (htg i n hn)
        obtain ⟨X, hXe⟩ : ∃ X, X = (Mine.gen n (Mine.biasOf ns.sum i)).toList := ⟨_, rfl⟩
        have hgX : Mine.gen n (Mine.biasOf ns.sum i) = X.toArray := by rw [hXe]
        rw [← hXe] at hrd hps
        rw [hgX] at F1
        have hXl : X.length ≤ 42 := by rw [hXe]; exact Mine.law_len
        have hpre : 0 ≤ ((Mine.posOf TL i : Nat) : Int) ∧ Mine.decL ((Mine.upL TL.flatten).drop ((Mine.posOf TL i : Nat) : Int).toNat) 0 (Mine.biasOf ns.sum i) 1 0 = some (X.length, n) ∧ (∀ c ∈ Mine.upL TL.flatten, Mine.sok c) ∧ (Mine.upL TL.flatten).length < 10000 := ⟨by omega, hrd, hsok, by rw [List.length_map]; omega⟩
        try dsimp only
        refine Mine.wpS_plain ?_
        k_steps
        try dsimp only
        refine Mine.wpS_execs_cons (Mine.wpS_If ?_)
        k_steps
        · exact absurd rfl (by assumption)
        · exfalso; (rename (_ ≠ _) => hne); exact hne (by simp)
        refine Mine.wpS_execs_nil ?_
        dsimp only
        refine Mine.wpS_plain ?_
        k_steps
        try dsimp only
        (rename Fr _ _ _ _ => F9)
        (rename News _ _ _ _ => N9)
        refine Mine.wpS_execs_nil ?_
        refine Mine.next_to (_, _) F9 (fun p hp => N9 p (.tail _ hp)) (by kst_all) ?_
        show ((Mine.posOf TL i : Nat) : Int) + (X.length : Int) = ((Mine.posOf TL (i + 1) : Nat) : Int)
        rw [hps]; push_cast; rfl
      · rintro ⟨pl, tpl⟩ u h tk hpp F N
        dsimp only [kstB, List.cons_append, List.nil_append] at F N
        clear F7 N7 hpp
        try dsimp only
        refine Mine.wpS_execs_cons (Mine.wpS_ForX ?_)
        k_steps
        unfold Mine.Stop
        try dsimp only
        rename_i D8 ws8 h8 F8 N8 hI8 hC8 hL8 l8
        have hT5 : ∀ {n : Int}, n ∈ (ns.map Mine.absM).take 5 → 0 ≤ n ∧ n < 10 ^ 41 := fun hn => by
          obtain ⟨j, hj⟩ := List.getElem?_of_mem (List.mem_of_mem_take hn)
          exact ⟨(Mine.nums_bound hj).1, Int.lt_trans (Mine.nums_bound hj).2 (by decide)⟩
        refine Mine.S_list2 (σ := PUnit) (l := D8) (vs := ws8) (lo := W.listOf ws8.toArray 0) (fun _ => (D8, W.listOf ws8.toArray 0) :: (R, W.listOf rvs.toArray rk) :: (D, PyProof.Rows.LCg.lst nvs) :: ts)
          (fun _ => [(Str.ofString "script", .ref l), (Str.ofString "total", .int ns.sum t0), (Str.ofString "numbers", .ref D), (Str.ofString "rows", .ref R), (Str.ofString "whole", .bytes (Mine.upL TL.flatten).toArray _)])
          (fun _ _ => True) ⟨⟩ rfl ⟨rfl, _, rfl⟩ (fun _ => .head _) (fun _ _ _ p hp => Nat.ne_of_lt (Heap.lt_size (N8 p hp).1)) (.inr fun _ _ => rfl) F8 N8 (by kst_all) trivial ?_ ?_
        · intro i _ u h tk v I oi hv _ F N
          dsimp only [kstB, List.cons_append, List.nil_append] at F N
          clear F8 N8
          obtain ⟨n, tn, hn, rfl⟩ := Mine.ints_get hI8 hv
          have hnb := hT5 (List.mem_of_getElem? hn)
          refine wpAny_assign_Name (stN F N (fun h1 F1 N1 => ?_) rfl rfl)
          clear F N
          try dsimp only
          refine Mine.wpS_execs_cons (Mine.wpS_Assign_Name (Mine.wpS_CallName ?_))
          k_steps
          refine Mine.wpS_callWith_ref (KX 28 _ (by k_is)) rfl ?_
          k_steps
          k_dflt (refine' Mine.gen_use K0 F1 KX N1 T ?kK hnb ?kd ?ku ?_; (case kK => exact rfl); (case kd => ktr_room); (case ku => ktr_units); k_whole)
          intro t9 h9 tk9 F9 N9
          clear F1 N1
          obtain ⟨X, hXe⟩ : ∃ X, X = (Mine.gen n (ns.sum.fmod 200)).toList := ⟨_, rfl⟩
          have hgX : Mine.gen n (ns.sum.fmod 200) = X.toArray := by rw [hXe]
          have hXl : X.length ≤ 42 := by rw [hXe]; exact Mine.law_len
          rw [hgX]
          k_steps
          try dsimp only
          refine Mine.wpS_execs_cons (Mine.wpS_ForX ?_)
          k_steps
          unfold Mine.Stop
          try dsimp only
          rename_i D9 ws9 h10 F10 N10 hI9 hC9 hL9 l9
          refine Mine.S_list2 (σ := PUnit) (l := D9) (vs := ws9) (lo := W.listOf ws9.toArray 0) (fun _ => (D9, W.listOf ws9.toArray 0) :: (I, oi) :: (D8, W.listOf ws8.toArray 0) :: (R, W.listOf rvs.toArray rk) :: (D, PyProof.Rows.LCg.lst nvs) :: ts)
            (fun _ => [(Str.ofString "script", .ref l), (Str.ofString "total", .int ns.sum t0), (Str.ofString "numbers", .ref D), (Str.ofString "rows", .ref R), (Str.ofString "whole", .bytes (Mine.upL TL.flatten).toArray _), (Str.ofString "number", .int n _), (Str.ofString "one", .bytes X.toArray t9)])
            (fun _ _ => True) ⟨⟩ rfl ⟨rfl, _, rfl⟩ (fun _ => .head _) (fun _ _ _ p hp => Nat.ne_of_lt (Heap.lt_size (N10 p hp).1)) (.inr fun _ _ => rfl) F10 N10 (by kst_all) trivial ?_ ?_
          · intro i2 _ u h tk v I2 oi2 hv2 _ F N
            dsimp only [kstB, List.cons_append, List.nil_append] at F N
            clear F10 N10
            obtain ⟨m, tm, hm, rfl⟩ := Mine.ints_get hI9 hv2
            have hmb := hT5 (List.mem_of_getElem? hm)
            refine wpAny_assign_Name (stN F N (fun h1 F1 N1 => ?_) rfl rfl)
            clear F N
            try dsimp only
            refine Mine.wpS_execs_cons (Mine.wpS_Assign_Name (Mine.wpS_CallName ?_))
            k_steps
            refine Mine.wpS_callWith_ref (KX 28 _ (by k_is)) rfl ?_
            k_steps
            k_dflt (refine' Mine.gen_use K0 F1 KX N1 T ?kK hmb ?kd ?ku ?_; (case kK => exact rfl); (case kd => ktr_room); (case ku => ktr_units); k_whole)
            intro t11 h11 tk11 F11 N11
            clear F1 N1
            obtain ⟨Y, hYe⟩ : ∃ Y, Y = (Mine.gen m (ns.sum.fmod 200)).toList := ⟨_, rfl⟩
            have hgY : Mine.gen m (ns.sum.fmod 200) = Y.toArray := by rw [hYe]
            have hYl : Y.length ≤ 42 := by rw [hYe]; exact Mine.law_len
            have hmono : n < m → X.length ≤ Y.length := fun q => by rw [hXe, hYe]; exact Mine.law_mono (by omega)
            have hpfx : n ≠ m → ¬ Y.take X.length = X := fun q z => by
              rw [hXe, hYe] at z
              exact q (Mine.law_prefix hnb.1 hnb.2 hmb.1 hmb.2 z)
            rw [hgY]
            k_steps
            try dsimp only
            refine Mine.wpS_execs_cons (Mine.wpS_If ?_)
            k_steps
            all_goals (first
              | (exfalso; (rename (_ == _) = true => hc); exact absurd (by simpa using hc) (hpfx (by assumption)))
              | (exfalso; (rename ((Y.toArray.size : Nat) : Int) < _ => hc); have q := hmono (by assumption); rw [List.size_toArray, List.size_toArray] at hc; omega)
              | skip)
            all_goals
              refine Mine.wpS_execs_nil ?_
              dsimp only
              (rename Fr _ _ _ _ => F12)
              (rename News _ _ _ _ => N12)
              refine Mine.wpS_execs_nil ?_
              refine Mine.next_to ⟨⟩ F12 (fun p hp => N12 p hp) (by kst_all) trivial
          · intro _ u h tk _ F N
            dsimp only [kstB, List.cons_append, List.nil_append] at F N
            try dsimp only
            refine Mine.wpS_execs_nil ?_
            refine Mine.next_to ⟨⟩ F (fun p hp => N p (.tail _ hp)) (by kst_all) trivial
        · intro _ u h tk _ F N
          dsimp only [kstB, List.cons_append, List.nil_append] at F N
          clear F8 N8
          replace N := Mine.news_dropN 1 N
          simp only [List.drop_succ_cons, List.drop_zero] at N
          try dsimp only
          refine Mine.wpS_execs_cons (Mine.wpS_ForX ?_)
          k_steps
          unfold Mine.Stop
          try dsimp only
          (rename Heap.IsListIter _ _ _ _ => hit13)
          (rename Heap => h13)
          have F13 : Fr s₁.heap s₁.heap.objs.size h13 _ := F.keeps (by assumption)
          have N13 : News s₁.heap s₁.heap.objs.size h13 _ := N.grown (by assumption)
          have hLh13 := F.ns.lt
          have hup13 : s₁.heap.objs.size ≤ h.objs.size := Nat.le_of_lt hLh13
          clear F N
          refine Mine.S_enum (σ := PUnit) (l := D) (vs := nvs) (lo := PyProof.Rows.LCg.lst nvs)
            (fun _ => (R, W.listOf rvs.toArray rk) :: (D, PyProof.Rows.LCg.lst nvs) :: ts)
            (fun _ => [(Str.ofString "script", .ref l), (Str.ofString "total", .int ns.sum t0), (Str.ofString "numbers", .ref D), (Str.ofString "rows", .ref R), (Str.ofString "whole", .bytes (Mine.upL TL.flatten).toArray _)])
            (fun _ _ => True) ⟨⟩ rfl ⟨rfl, _, rfl⟩ (fun _ => .tail _ (.head _)) (fun _ _ _ => hno) rfl rfl rfl F13 N13 (by kst_all) trivial (by assumption) hit13 ⟨Nat.ne_of_gt (Nat.lt_succ_of_lt hLh13), Heap.get?_none_of_le (Nat.le_succ_of_le hup13)⟩ ⟨Nat.ne_of_gt hLh13, Heap.get?_none_of_le hup13⟩ ?_ ?_
          · intro i _ u h tk ti v oe oi hv _ F N
            obtain ⟨z, tz, hz, rfl⟩ := Mine.ints_get hnv hv
            dsimp only [kstB, List.cons_append, List.nil_append] at F N
            clear F13 N13
            have hlt : i < nvs.length := (List.getElem?_eq_some_iff.mp hv).1
            rw [Mine.ints_len hnv] at hlt
            have hpre : 0 ≤ z ∧ 1 ≤ ((i : Nat) : Int) + 1 ∧ ((i : Nat) : Int) + 1 < 1000 := ⟨(Mine.nums_bound hz).1, by omega, by omega⟩
            refine Mine.wpS_execs_cons (Mine.wpS_If ?_)
            k_steps
            refine Mine.wpS_execs_nil ?_
            dsimp only
            (rename Fr _ _ _ _ => F14)
            (rename News _ _ _ _ => N14)
            refine Mine.wpS_execs_nil ?_
            refine Mine.next_to ⟨⟩ F14 (fun p hp => N14 p hp) (by kst_all) trivial
          · intro _ u h tk _ F N
            dsimp only [kstB, List.cons_append, List.nil_append] at F N
            try dsimp only
            refine Mine.wpS_plain ?_
            k_steps
            refine Mine.law_post_dec ?_ F
            first
              | (rw [List.size_toArray, List.length_map, Mine.ints_len hnv, List.length_map]; omega)
              | (simp only [List.size_toArray, List.length_map, Mine.ints_len hnv]; omega))
end LW6part

set_option maxRecDepth 100000 in
theorem PySem.Challenge.cw_xc0042_01_holds : PySem.Challenge.rw_xc0042_01.Holds := by
  exact Mine.law
