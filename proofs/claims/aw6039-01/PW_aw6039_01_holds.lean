import PyProof.Rows.All
import Wide.All
import OpenK.AllK
import Wide.FinOn
import PySem.Challenge.RW_aw6039_01
set_option Elab.async false
section
open PySem PySem.W PySem.Calls PyProof.Rows
set_option Elab.async false
set_option maxRecDepth 100000
namespace Mine
/-- a code that no bytearray store minds on the stack -/
def okId (id : String) : Bool := !(Builtin.Bytes.decodersThatHold.contains id || ["bytearray.__contains__", "bytearray.__mod__", "bytearray.__rmod__", "_struct.pack_into.held", "bytearray.find.held"].contains id)
def okCode : Code → Bool
  | .builtin id _ => okId id
  | _ => true
theorem okBuiltin {id : String} {args : Args} (h : okId id = true) : okCode (.builtin id args) = true := h
def TidyL (l : List (Code × Pos)) : Prop := ∀ x ∈ l, okCode x.1 = true
def Tidy (Γ : Ctx) : Prop := okCode Γ.code = true ∧ TidyL Γ.below
theorem Tidy.stack {Γ : Ctx} (h : Tidy Γ) (p : Pos) : TidyL ((Γ.code, p) :: Γ.below) := fun x hx => by
  rcases List.mem_cons.mp hx with rfl | hx
  · exact h.1
  · exact h.2 x hx
/-- like wpAny, of tidy stacks alone, and of no raise -/
def wpC {α : Type} (M : Model) (A : Around) (t : Sem α) (Q : α → Shared → Prop) (s : Shared) : Prop :=
  ∀ Γ p, Γ.In A → Tidy Γ → Sem.wp M Γ t (fun a _ s' => Q a s') (fun _ _ _ => False) p s
def codeC (M : Model) (A : Around) (c : Code) (Q : Flow → Shared → Prop) (s : Shared) : Prop :=
  ∀ Γ p, Γ.code = c → Γ.Below A → TidyL Γ.below → wpCode M Γ (fun r s' => match r with | .ok f => Q f s' | .error _ => False) p s
section
variable {α β : Type} {M : Model} {A : Around} {s : Shared} {env : Env}
theorem wpC_any {t : Sem α} {Q : α → Shared → Prop} (h : wpAny M A t Q (fun _ _ => False) s) : wpC M A t Q s := fun Γ p hΓ _ => h Γ p hΓ
theorem wpC_pure {a : α} {Q : α → Shared → Prop} (h : Q a s) : wpC M A (pure a) Q s := fun _ _ _ _ => h
theorem wpC_mono {t : Sem α} {Q Q' : α → Shared → Prop} (h : wpC M A t Q s) (hQ : ∀ a s, Q a s → Q' a s) : wpC M A t Q' s :=
  fun Γ p hΓ hT => Sem.wp_mono M Γ t (fun a _ s => hQ a s) (fun _ _ _ h => h) p s (h Γ p hΓ hT)
theorem wpC_bind {m : Sem α} {f : α → Sem β} {Q : β → Shared → Prop} (h : wpC M A m (fun a s' => wpC M A (f a) Q s') s) : wpC M A (m >>= f) Q s := fun Γ p hΓ hT => by
  rw [Sem.wp_bind']
  exact Sem.wp_mono M Γ m (fun a p' s' h' => h' Γ p' hΓ hT) (fun _ _ _ h' => h') p s (h Γ p hΓ hT)
/-- the first part by the library's rules, the rest tidily -/
theorem wpC_bindA {m : Sem α} {f : α → Sem β} {Q : β → Shared → Prop} (h : wpAny M A m (fun a s' => wpC M A (f a) Q s') (fun _ _ => False) s) : wpC M A (m >>= f) Q s := wpC_bind (wpC_any h)
theorem wpC_onRaise {m : Sem α} {k : Value → Sem Unit} {Q : α → Shared → Prop} (h : wpC M A m Q s) : wpC M A (m.onRaise k) Q s := fun Γ p hΓ hT => by
  rw [Sem.wp_onRaise]
  exact Sem.wp_mono M Γ m (fun _ _ _ h' => h') (fun _ _ _ h' => h'.elim) p s (h Γ p hΓ hT)
theorem wpC_holding {vs : List Value} {m : Sem α} {Q : α → Shared → Prop} (h : wpC M A m Q s) : wpC M A (holding vs m) Q s :=
  fun Γ p hΓ hT => by rw [Sem.wp_holding]; exact h Γ p hΓ hT
theorem wpC_keep {vs : List Value} {m : Sem α} {Q : α → Shared → Prop} (h : wpC M A m Q s) : wpC M A (m.keep vs) Q s :=
  fun Γ p hΓ hT => by rw [Sem.wp_keep]; exact h Γ p hΓ hT
theorem wpC_stack {Q : List (Code × Pos) → Shared → Prop} (h : ∀ st, TidyL st → Q st s) : wpC M A stack Q s := fun Γ p _ hT => h _ (hT.stack p)
theorem codeC_mono {c : Code} {Q Q' : Flow → Shared → Prop} (h : codeC M A c Q s) (hQ : ∀ f s, Q f s → Q' f s) : codeC M A c Q' s := fun Γ p hc hB hT =>
  wpCode_mono (fun r s' h' => by cases r with | ok f => exact hQ f s' h' | error e => exact h') (h Γ p hc hB hT)
theorem codeC_of_any {c : Code} {Q : Flow → Shared → Prop} (h : codeAny M A c (fun r s' => match r with | .ok f => Q f s' | .error _ => False) s) : codeC M A c Q s := fun Γ p hc hB _ => h Γ p hc hB
theorem codeC_tree {c : Code} {Q : Flow → Shared → Prop} (hok : okCode c = true)
    (h : wpC M (A.under c) (M.den c) (fun fin s' => match fin with | .done f => Q f s' | .again c' => c'.quiet = true ∧ codeC M A c' Q s') s) : codeC M A c Q s := fun Γ p hc hΓ hT => by
  rw [wpCode_iff_wp, hc]
  refine Sem.wp_mono M Γ _ (fun fin p' s' h' => ?_) (fun _ _ _ h' => h') p s (h Γ p (hc ▸ hΓ.in) ⟨by rw [hc]; exact hok, hT⟩)
  cases fin with
  | done f => exact h'
  | again c' => exact ⟨h'.1, h'.2 (Γ.goto c') p' rfl (hΓ.goto c') hT⟩
theorem tidy_enter {Γ : Ctx} (h : Tidy Γ) (c : Code) (hd : Option Value) (p : Pos) : TidyL (Γ.enter c hd p).below := h.stack p
theorem wpC_run {c : Code} {h : Option Value} {Q : Flow → Shared → Prop} (hc : codeC M (A.mark h) c Q s) (hnb : h ≠ some byPass := by intro x; cases x) : wpC M A (run c h) Q s :=
  fun Γ p hΓ hT => by
    rw [Sem.wp_run]
    refine wpCode_mono (fun r s' h' => ?_) (hc _ p rfl (hΓ.enter c h p hnb) (tidy_enter hT c h p))
    cases r <;> exact h'
theorem wpC_runValue {c : Code} {Q : Value → Shared → Prop} (hc : codeC M A c (fun f s' => match f with | .ret v => Q v s' | _ => False) s) : wpC M A (runValue c) Q s := fun Γ p hΓ hT => by
  rw [Sem.wp_runValue]
  refine wpCode_mono (fun r s' h' => ?_) (hc _ p rfl (hΓ.enter c none p (by intro x; cases x)) (tidy_enter hT c none p))
  cases r with
  | ok f => cases f <;> exact h'
  | error e => exact h'
theorem wpC_call {f : Value} {pos : List Value} {kw : List (Str × Value)} {Q : Value → Shared → Prop} (hc : codeC M A (.call f ⟨pos, kw⟩) (fun f s' => match f with | .ret v => Q v s' | _ => False) s) : wpC M A (call f pos kw) Q s := wpC_runValue hc
theorem wpC_runOwn {c : Code} {h : Option Value} {Q : Flow → Shared → Prop} (hc : codeC M (A.mark h) c Q s) (hnb : h ≠ some byPass := by intro x; cases x) : wpC M A (runOwn c env h) Q s := by
  unfold runOwn
  exact wpC_onRaise (wpC_run hc hnb)
theorem wpC_execs_nil {Q : Flow → Shared → Prop} (h : Q .next s) : wpC M A (execs [] env) Q s := fun _ _ _ _ => h
theorem wpC_execs_cons {st rest} {Q : Flow → Shared → Prop} (h : wpC M A (exec st env) (fun f s' => match f with | .next => wpC M A (execs rest env) Q s' | f => Q f s') s) : wpC M A (execs (st :: rest) env) Q s := by
  rw [execs_cons]
  refine wpC_bind (wpC_mono h fun f s' h' => ?_)
  cases f <;> first | exact h' | exact wpC_pure h'
theorem wpC_If {test body orelse pos} {Q : Flow → Shared → Prop}
    (h : wpAny M A (isTrue test env (eval test env)) (fun b s₂ => if b then wpC M A (execs body env) Q s₂ else wpC M A (execs orelse env) Q s₂) (fun _ _ => False) s) :
    wpC M A (exec (.If test body orelse pos) env) Q s := by
  rw [exec_If]
  refine wpC_bindA (wpAny_standAt (wpC_bindA (wpAny_mono h (fun b s' h' => ?_) fun _ _ x => x)))
  cases b <;> exact h'
theorem wpC_Assign_Name {x pos' value pos} {Q : Flow → Shared → Prop} (h : wpC M A (eval value env) (fun v s₁ => wpAny M A (storeName env x v) (fun _ => Q .next) (fun _ _ => False) s₁) s)
    (hs : swapsWith value (some (.Name x pos')) pos.line env = pure false := by rfl) : wpC M A (exec (.Assign [.Name x pos'] value pos) env) Q s := by
  rw [exec_Assign_Name env x pos' value pos hs]
  exact wpC_bindA (wpAny_standAt (wpC_bind (wpC_mono h fun v s₁ h₁ => wpC_bindA (wpAny_standAt (wpC_bindA (wpAny_bindName (wpAny_mono h₁ (fun _ _ q => wpC_pure q) fun _ _ x => x)))))))
theorem wpC_Return {e pos} {Q : Flow → Shared → Prop} (h : wpC M A (eval e env) (fun v => Q (.ret v)) s) : wpC M A (exec (.Return (some e) pos) env) Q s := by
  rw [exec_Return_some]
  exact wpC_bindA (wpAny_standAt (wpC_bind (wpC_mono h fun v s₁ h₁ => wpC_pure h₁)))
theorem wpC_Expr {e pos} {Q : Flow → Shared → Prop} (h : wpC M A (eval e env) (fun v s' => (∀ a, v ≠ .ref a) ∧ Q .next s') s)
    (hi : interactive env = false := by rfl) (hs : swapsWith e none pos.line env = pure false := by rfl) : wpC M A (exec (.Expr e pos) env) Q s := by
  rw [exec_Expr env e pos hi hs]
  exact wpC_bindA (wpAny_standAt (wpC_bind (wpC_mono h fun v s₁ h₁ => by rw [dropValue_plain h₁.1]; exact wpC_pure h₁.2)))
theorem wpC_While {test body orelse pos} {Q : Flow → Shared → Prop} (h : codeC M A (.whileLoop test body orelse env) Q s) : wpC M A (exec (.While test body orelse pos) env) Q s := by
  rw [exec_While]
  exact wpC_bindA (wpAny_standAt (wpC_runOwn h))
theorem wpC_For {target iter body orelse pos} {Q : Flow → Shared → Prop}
    (h : wpAny M A (eval iter env) (fun x s₁ => wpAny M A (pyIter x) (fun it s₂ => codeC M A (.forLoop target it body orelse env) Q s₂) (fun _ _ => False) s₁) (fun _ _ => False) s)
    (hs : ∀ x, foldedSetIterable iter env x = pure x := by intro _; rfl) : wpC M A (exec (.For target iter body orelse pos) env) Q s := by
  rw [exec_For]
  exact wpC_bindA (wpAny_standAt (wpC_bindA (wpAny_mono h (fun x s₁ h₁ => wpC_bindA (wpAny_of_eq (hs x) (wpC_bindA (wpAny_standAt (wpC_bindA (wpAny_holding (wpAny_mono h₁ (fun it s₂ h₂ => wpC_runOwn h₂) fun _ _ x => x))))))) fun _ _ x => x)))
theorem wpC_Call_Name {id : Str} {p pos : Pos} {args : List Expr} {keywords : List Keyword} {Q : Value → Shared → Prop}
    (h : wpAny M A (eval (.Name id p) env) (fun f s₁ => wpC M A (callWith pos f [] (backTo pos (starEach args env)) (backToKw pos (keywordEach keywords env))) Q s₁) (fun _ _ => False) s) :
    wpC M A (eval (.Call (.Name id p) args keywords pos) env) Q s := by
  rw [arm_eval_Call_Name']
  exact wpC_bindA h
end
section
variable {prog : Program} {w : World} {A : Around} {s : Shared} {Q : Flow → Shared → Prop}
theorem codeC_func {body env} (h : wpC (model prog w) (A.deeper env) (execs body env) (fun f s' => Q (.ret (match f with | .ret v => v | _ => .none)) s') s) : codeC (model prog w) A (.func body env) Q s := by
  refine codeC_tree rfl ?_
  show wpC _ (A.deeper env) (do point; match ← (execs body env).onRaise (leaving env) with | .ret v => ret v | _ => ret .none) _ s
  refine wpC_bindA (wpAny_point (wpC_bind (wpC_onRaise (wpC_mono h fun f s' h' => ?_))))
  cases f <;> exact wpC_pure h'
theorem codeC_call_function {a : Addr} {args : Args} {o : Obj} {fd : FuncData} {body : List Stmt} (hroom : A.depth < recursionLimit)
    (ho : s.heap.get? a = some o) (hd' : o.data = .func fd) (hco : fd.scope.isCoroutine = false) (hgen : fd.scope.isGenerator = false) (hbody : fd.body = .stmts body) (hcd : s.heap.CodeRec fd.code fd.qualname)
    (h : wpAny (model prog w) A.in1 (bindArgs fd args) (fun binds s₁ =>
      wpAny (model prog w) A.in1 (newFunctionEnv fd.scope fd.globals fd.closure binds (fd.qualname ++ ".<locals>.") (some a) fd.code none fd.builtins)
        (fun env s₂ => s₂.heap.NoLimit ∧ codeC (model prog w) A (.func body env) Q s₂) (fun _ _ => False) s₁) (fun _ _ => False) s) :
    codeC (model prog w) A (.call (.ref a) args) Q s := by
  refine codeC_tree rfl (wpC_any ?_)
  show wpAny _ A.in1 (callAny (.ref a) args) _ _ s
  simp only [callAny]
  refine wpAny_bind (wpAny_load ho ?_)
  obtain ⟨c, oc, vs, tq, hc, hoc, hdc, hq⟩ := hcd
  simp only [hd', callFunction, hco, hgen, hbody, hc]
  rw [hc] at h
  refine wpAny_bind (m := field (.ref c) 1) (wpAny_field hoc hdc hq (wpAny_bind (wpAny_pure ?_)))
  exact wpAny_bind (wpAny_mono h (fun binds s₁ h₁ => wpAny_bind (wpAny_mono h₁ (fun env s₂ h₂ => wpAny_bind (wpAny_enterFrame h₂.1 hroom
    (wpAny_pure (And.intro rfl h₂.2)))) fun _ _ h' => h')) fun _ _ h' => h')
theorem codeC_call_def {a : Addr} {o : Obj} {fd : FuncData} {body : List Stmt} {args : Args} {binds : List (Str × Value)}
    (hroom : A.depth < recursionLimit) (ho : s.heap.get? a = some o) (hdata : o.data = .func fd) (hlim : s.heap.NoLimit) (hcd : s.heap.CodeRec fd.code fd.qualname)
    (hbody : fd.body = .stmts body) (hbind : BindsTo s fd args binds)
    (hcell : ∀ x ∈ fd.scope.names, x.2 ≠ .cell) (hloc : ∀ x ∈ binds, fd.scope.names.lookup x.1 = some .local)
    (h : ∀ h₀, h₀.Ns s.heap.objs.size (fun x => binds.reverse.lookup x) → (∀ b o, s.heap.get? b = some o → h₀.get? b = some o) →
      wpC (model prog w) (A.deeper (callEnv fd s.heap.objs.size a)) (execs body (callEnv fd s.heap.objs.size a)) (fun f s' => Q (.ret (match f with | .ret v => v | _ => .none)) s')
        { s with heap := h₀, toks := s.toks + binds.length })
    (hco : fd.scope.isCoroutine = false := by rfl) (hgen : fd.scope.isGenerator = false := by rfl) (hk : fd.scope.kind = .function := by rfl) :
    codeC (model prog w) A (.call (.ref a) args) Q s := by
  refine codeC_call_function hroom ho hdata hco hgen hbody hcd (hbind _ _ _ _ ?_)
  refine wpAny_newFunctionEnv hcell hloc (fun h₀ hns₀ hsb₀ => ⟨hlim.fresh _ hsb₀, codeC_func (h h₀ hns₀ fun b o e => ?_)⟩) hk
  exact hsb₀.extBut b o (Nat.ne_of_lt (Heap.lt_size e)) (Heap.get?_push_of_some _ e)
theorem codeC_loop {c : Code} (hq : c.quiet = true) (hok : okCode c = true) (I : Nat → Shared → Prop)
    (turn : ∀ n s, I n s → wpC (model prog w) (A.under c) ((model prog w).den c) (fun fin s' => match fin with
      | .done f => Q f s'
      | .again c' => (c' = c ∧ ∃ m, m < n ∧ I m s') ∨ (c'.quiet = true ∧ codeC (model prog w) A c' Q s')) s) (n : Nat) (h : I n s) : codeC (model prog w) A c Q s := by
  induction n using Nat.strongRecOn generalizing s with
  | ind n ih =>
    refine codeC_tree hok (wpC_mono (turn n s h) fun fin s' hf => ?_)
    cases fin with
    | done f => exact hf
    | again c' =>
      rcases hf with ⟨rfl, m, hm, hI⟩ | hf
      · exact ⟨hq, ih m hm hI⟩
      · exact hf
theorem codeC_whileLoop {test body orelse env} (I : Nat → Shared → Prop)
    (turn : ∀ n s, I n s →
      wpAny (model prog w) A (isTrue test env (eval test env)) (fun b s₂ =>
        if b then wpC (model prog w) A (execs body env) (fun f s₃ => match f with
            | .next | .cont => ∃ m, m < n ∧ I m s₃
            | .brk => Q .next s₃
            | .ret v => Q (.ret v) s₃) s₂
        else wpC (model prog w) A (execs orelse env) (fun f s₃ => Q f s₃) s₂) (fun _ _ => False) s)
    (n : Nat) (h : I n s) : codeC (model prog w) A (.whileLoop test body orelse env) Q s := by
  refine codeC_loop rfl rfl I (fun n s hI => ?_) n h
  show wpC _ A ((whileTurn test body orelse env).onRaise (fun x => do noteFrame x env; theTreesLotGoes x)) _ s
  refine wpC_onRaise ?_
  simp only [whileTurn]
  refine wpC_bindA (wpAny_mono (turn n s hI) (fun b s₂ h₂ => ?_) fun _ _ h' => h')
  cases b with
  | false =>
    simp only [Bool.false_eq_true, if_false] at h₂ ⊢
    exact wpC_bind (wpC_mono h₂ fun f s₃ h₃ => wpC_pure h₃)
  | true =>
    simp only [if_true] at h₂ ⊢
    refine wpC_bind (wpC_mono h₂ fun f s₃ h₃ => ?_)
    cases f with
    | next => exact wpC_pure (.inl ⟨rfl, h₃⟩)
    | cont => exact wpC_pure (.inl ⟨rfl, h₃⟩)
    | brk => exact wpC_pure h₃
    | ret v => exact wpC_pure h₃
theorem codeC_turn {test body orelse env} (h : wpAny (model prog w) A (isTrue test env (eval test env)) (fun b s₂ =>
        if b then wpC (model prog w) A (execs body env) (fun f s₃ => match f with
            | .next | .cont => codeC (model prog w) A (.whileLoop test body orelse env) Q s₃
            | .brk => Q .next s₃
            | .ret v => Q (.ret v) s₃) s₂
        else wpC (model prog w) A (execs orelse env) (fun f s₃ => Q f s₃) s₂) (fun _ _ => False) s) : codeC (model prog w) A (.whileLoop test body orelse env) Q s := by
  refine codeC_tree rfl ?_
  show wpC _ A ((whileTurn test body orelse env).onRaise (fun x => do noteFrame x env; theTreesLotGoes x)) _ s
  refine wpC_onRaise ?_
  simp only [whileTurn]
  refine wpC_bindA (wpAny_mono h (fun b s₂ h₂ => ?_) fun _ _ h' => h')
  cases b with
  | false =>
    simp only [Bool.false_eq_true, if_false] at h₂ ⊢
    exact wpC_bind (wpC_mono h₂ fun f s₃ h₃ => wpC_pure h₃)
  | true =>
    simp only [if_true] at h₂ ⊢
    refine wpC_bind (wpC_mono h₂ fun f s₃ h₃ => ?_)
    cases f with
    | next => exact wpC_pure ⟨rfl, h₃⟩
    | cont => exact wpC_pure ⟨rfl, h₃⟩
    | brk => exact wpC_pure h₃
    | ret v => exact wpC_pure h₃
theorem codeC_forLoop {target it body env} (I : Nat → Shared → Prop)
    (turn : ∀ n s, I n s → wpAny (model prog w) A (pyNext it) (fun r s₁ => match r with
      | none => Q .next s₁
      | some v => wpAny (model prog w) A (assign target env v) (fun _ s₂ => wpC (model prog w) A (execs body env) (fun f s₃ => match f with
          | .next | .cont => ∃ m, m < n ∧ I m s₃
          | .brk => Q .next s₃
          | .ret v => Q (.ret v) s₃) s₂) (fun _ _ => False) s₁) (fun _ _ => False) s)
    (n : Nat) (h : I n s) (ht : ∀ v, letOwnedTupleGo target it v = pure () := by intro _; rfl) : codeC (model prog w) A (.forLoop target it body [] env) Q s := by
  refine codeC_loop rfl rfl I (fun n s hI => ?_) n h
  show wpC _ A ((forTurn target it body [] env).onRaise (fun x => do noteFrame x env; theTreesLotGoes x)) _ s
  refine wpC_onRaise ?_
  simp only [forTurn]
  refine wpC_bindA (wpAny_standAt (wpC_bindA (wpAny_onRaise (wpAny_mono (turn n s hI) (fun r s₁ h₁ => ?_) fun _ _ h' => h'.elim))))
  cases r with
  | none => exact wpC_pure (.inr ⟨rfl, codeC_of_any (codeAny_block (wpAny_execs_nil h₁))⟩)
  | some v =>
    refine wpC_bindA (wpAny_of_eq (ht v) ?_)
    refine wpC_bindA (wpAny_mono h₁ (fun _ s₂ h₂ => wpC_bind (wpC_mono h₂ fun f s₃ h₃ => ?_)) fun _ _ h' => h')
    cases f with
    | next => exact wpC_pure (.inl ⟨rfl, h₃⟩)
    | cont => exact wpC_pure (.inl ⟨rfl, h₃⟩)
    | brk => exact wpC_pure h₃
    | ret v => exact wpC_pure h₃
end
end Mine
end
section
open PySem PySem.W PySem.Calls PyProof.Rows
set_option Elab.async false
set_option maxRecDepth 100000
namespace Mine
def tidyB (st : List (Code × Pos)) : Bool := st.all fun x => okCode x.1
theorem tidyB_iff {st : List (Code × Pos)} : tidyB st = true ↔ TidyL st := by
  unfold tidyB TidyL
  rw [List.all_eq_true]
/-- the tree, asked of a tidy stack alone -/
def guardT {α : Type} (t u : Sem α) : Sem α := .stack fun st => if tidyB st then t else u
theorem wpAny_guardT {α : Type} {M : Model} {A : Around} {t u : Sem α} {Q : α → Shared → Prop} {E : Value → Shared → Prop} {s : Shared} (h : wpC M A t Q s) (hu : wpAny M A u Q E s) : wpAny M A (guardT t u) Q E s := fun Γ p hΓ => by
  unfold guardT
  rw [Sem.wp_stack]
  cases hb : tidyB ((Γ.code, p) :: Γ.below) with
  | false => exact hu Γ p hΓ
  | true =>
    have hT := tidyB_iff.mp hb
    exact Sem.wp_mono M Γ _ (fun _ _ _ q => q) (fun _ _ _ q => q.elim) p s (h Γ p hΓ ⟨hT _ (.head _), fun x hx => hT x (.tail _ hx)⟩)
theorem tidy_root : tidyB [((.builtin "claim.caller" {} : Code), (default : Pos))] = true := by decide +kernel
theorem unguard {den : Code → Sem Fin} {p : Program} {w : World} {t u : Sem Fin} {n : Nat} {s s' : Shared} {o : Outcome} (hz : s.asleep)
    (h : schedN den p w n (.single s ⟨guardT t u, .builtin "claim.caller" {}, default, []⟩) = .halted o s') :
    ∃ m, schedN den p w m (.single s ⟨t, .builtin "claim.caller" {}, default, []⟩) = .halted o s' := by
  cases n with
  | zero => cases h
  | succ n =>
    have e : step den p w s ⟨guardT t u, .builtin "claim.caller" {}, default, []⟩ = .go s ⟨t, .builtin "claim.caller" {}, default, []⟩ := by
      show Step.go s ⟨if tidyB [((.builtin "claim.caller" {} : Code), (default : Pos))] then t else u, _, _, _⟩ = _
      rw [tidy_root]; rfl
    have q := (sstep_single den p w s ⟨guardT t u, .builtin "claim.caller" {}, default, []⟩ rfl hz).resolve_right (by rw [e]; intro x; cases x)
    rw [e] at q
    simp only [schedN, q, Step.lift] at h
    exact ⟨n, h⟩
theorem openBy_unguard {c : ClaimW} {tree other : List Value → Sem Fin} {defs kps : List Str} {writes : Bool}
    (H : c.HoldsOpenBy (fun vs => ⟨guardT (tree vs) (other vs), .builtin "claim.caller" {}, default, []⟩) defs kps writes) : c.HoldsOpenBy (fun vs => ⟨tree vs, .builtin "claim.caller" {}, default, []⟩) defs kps writes := by
  obtain ⟨hb, hw, H⟩ := H
  refine ⟨hb, hw, fun w => ⟨(H w).1, fun s hs => ?_⟩⟩
  obtain ⟨s₀, hf, hg, s₁, hT, hd, hr1, hr2, hC⟩ := (H w).2 s hs
  refine ⟨s₀, hf, hg, s₁, hT, hd, hr1, hr2, fun args hpre hlay ord hord => ?_⟩
  obtain ⟨vs, s₂, hl, n, o, s', hrun, rest⟩ := hC args hpre hlay ord hord
  have hz : s.asleep := AfterImport.life hs
  have hz₂ : s₂.asleep := Shared.asleep_of_life ((layAllW_rest _ _ _ hl).2.2.2.trans (hT.2.1.trans (fence_lifeW hf))) hz
  obtain ⟨m, hm⟩ := unguard hz₂ hrun
  exact ⟨vs, s₂, hl, m, o, s', hm, rest⟩
/-- what is asked of the law's call, of tidy stacks alone -/
abbrev TidyWalk (q : Program) (loose : List Str) (XP : (Str → Option Value) → Heap → Prop) (YP : World → Heap → Prop) (r : RowW) (d : DefRec) (kwd : List (Str × Expr)) : Prop :=
  ∀ (w : World) (s₀ s₁ : Shared) (mg mb : Str → Option Value), Ground q loose r.records XP w s₀ mg mb s₁.heap → YP w s₁.heap → ∀ (a : Addr) (o : Obj) (pm cd doc dV kV : Value), s₁.heap.get? a = some o →
    o.data = .func { docDef d.name d.params d.body d.scope pm cd doc with defaults := dV, kwdefaults := kV } → s₁.heap.CodeRec cd d.name → Dflts mg s₁.heap d.params kwd dV kV → mg d.name = some (.ref a) → s₁.gens = #[] →
    ∀ (args : List WData) (vals : List Value) (as : List Addr), r.claim.pre args = true → WData.layableAll args = true → ReadsAllW r.records (classAt s₀.heap) s₁.heap vals args as → WellAll w.params s₁.heap vals args → (∀ a ∈ as, (a == sysModules) = false) →
      wpC (model r.prog w) callerA (PySem.call (.ref a) vals) (fun v s' => GoodWG r.claim (classAt s₀.heap) (ExcName.means s₀.heap) args s₁ (.ok (.ret v)) s') s₁ ∧
      GoodWG r.claim (classAt s₀.heap) (ExcName.means s₀.heap) args s₁ (.ok (.ret (.bool true))) s₁
theorem PySem.W.holds_open {r : OpenRow} {q : Program} {loose : List Str} {Xt : Shared → Bool} {XP : (Str → Option Value) → Heap → Prop} {α : Type} {Yf : Shared → α} {Ya : World → α} {YP : World → Heap → Prop} {d : DefRec} {kwd : List (Str × Expr)} {N : Nat}
    (left : LeftO r.prog q loose Xt Yf Ya N) (hY : ∀ w s, Yf s = Ya w → YP w s.heap) (hYk : ∀ w h h', YP w h → (∀ b o, h.get? b = some o → h'.get? b = some o) → YP w h')
    (hX : ∀ s, Xt s = true → XP (s.heap.nsMap mainGlobals) s.heap) (hXk : ∀ mg h h', XP mg h → (∀ b o, h.get? b = some o → h'.get? b = some o) → XP mg h')
    (hdef : defOf q r.name = some (d, kwd)) (hp : r.prog.theDef r.name = some (d.params, d.body, d.scope)) (hk : kwWritten? d.params.kwonlyargs d.params.kw_defaults = some kwd) (hRf : ∀ s, Xt s = true → RecFacts r.records s.heap) (hwr : (!r.writes || r.records.isEmpty) = true)
    (k1 : r.wellSaid = true) (ok : (chainsOk q && opensWell r.prog && (frees r.toRowW && r.within.isEmpty)) = true) (hb : r.prog.bare) (hw : r.toRowW.promised)
    (call : TidyWalk q loose XP YP r.toRowW d kwd) : r.Holds := by
  refine ⟨k1, hw, openBy_unguard (other := fun _ => ret (.bool true)) (open_anyG (r := r.toRowW) (run := fun f vs => guardT (PySem.call f vs) (pure (.bool true))) (tree := fun vs => guardT (do match ← nsGet mainNs r.name with
      | some f => do ret (← PySem.call f vs)
      | none => unsupported "claim.caller:no-such-global") (ret (.bool true))) left hY hYk hX hXk hRf hwr ok hb hw
    (fun vs w s mg f Q E hg hf h => ?_) (fun w s hg G n hn => ?_) fun w s₀ s₁ mg mb G Y args vs as hpre hlay L low => ?_)⟩
  · intro Γ p hΓ
    have h' := h Γ p hΓ
    unfold guardT at h' ⊢
    rw [Sem.wp_stack] at h' ⊢
    cases hb : tidyB ((Γ.code, p) :: Γ.below) with
    | false => rw [hb] at h'; exact h'
    | true =>
      rw [hb] at h'
      simp only [if_true] at h' ⊢
      rw [Sem.wp_bind', show nsGet mainNs r.name = nsGet mainGlobals r.name from rfl, Sem.wp_nsGet _ Γ _ p s hg, hf]
      show Sem.wp _ Γ (PySem.call f vs >>= fun v => ret v) _ _ p s
      rw [Sem.wp_bind']
      exact h'
  · obtain rfl : n = r.name := by split at hn <;> simp_all
    exact pinned_of_view hg G hdef hp hk
  · obtain ⟨a, o, pm, cd, doc, dV, kV, h1, h2, h3, h4, h5⟩ := G.fn hdef
    have c := call w s₀ s₁ mg mb G Y a o pm cd doc dV kV h2 h3 h4 h5 (defOf_name hdef ▸ h1) L.gens args vs as hpre hlay L.reads L.well (L.low low)
    exact ⟨.ref a, h1, wpAny_guardT c.1 (wpAny_pure c.2)⟩
end Mine
end
section
open PySem PySem.W PySem.Calls PyProof.Rows
set_option Elab.async false
set_option maxRecDepth 100000
namespace Mine
theorem plainAttrs_ba : PlainAttrs "bytearray" :=
  ⟨⟨"bytearray.__getattribute__", by rw [typeLookup_type, builtinLookup_eq_fast]; kernel_rfl, by decide +kernel⟩, by rw [typeLookup_type, builtinLookup_eq_fast]; kernel_rfl⟩
theorem owner_ba : Manifest.owners.lookup (String.ofList ['y', 'a', 'r', 'r', 'a', 'e', 't', 'y', 'b'].reverse) = some Manifest.sig_bytearray := by kernel_rfl
theorem sub_ba : isSubtype (.type "bytearray") (.type "bytearray") = pure true := by rw [isSubtype_type]; kernel_rfl
theorem slot_ba_append : Slot "bytearray" "append" "bytearray.append" :=
  .of (owner := "bytearray") (n := "append") (by rw [typeLookup_type, builtinLookup_eq_fast]; kernel_rfl) (by decide +kernel) (by decide +kernel) (by decide +kernel)
    (by first | exact .inl (by decide +kernel) | exact .inr (by decide +kernel)) (by rw [isSubtype_type]; kernel_rfl)
theorem type_ba_append : typeOf (.builtin "bytearray.append") = pure (.type "method_descriptor") := by show builtinType _ = _; rw [builtinType_eq_fast]; kernel_rfl
theorem entry_ba_append : entryFor table "bytearray.append" = some Builtin.«bytearray.append» := entryFor_of_tree (by kernel_rfl)
theorem args_ba_append (a b : Value) : argsOk "bytearray.append" ⟨[a, b], []⟩ := by
  unfold argsOk; rw [signature?_of (id := "bytearray.append") (n := ['d', 'n', 'e', 'p', 'p', 'a']) (o := ['y', 'a', 'r', 'r', 'a', 'e', 't', 'y', 'b']) (by kernel_rfl) owner_ba]; kernel_rfl
theorem slot_ba_extend : Slot "bytearray" "extend" "bytearray.extend" :=
  .of (owner := "bytearray") (n := "extend") (by rw [typeLookup_type, builtinLookup_eq_fast]; kernel_rfl) (by decide +kernel) (by decide +kernel) (by decide +kernel)
    (by first | exact .inl (by decide +kernel) | exact .inr (by decide +kernel)) (by rw [isSubtype_type]; kernel_rfl)
theorem type_ba_extend : typeOf (.builtin "bytearray.extend") = pure (.type "method_descriptor") := by show builtinType _ = _; rw [builtinType_eq_fast]; kernel_rfl
theorem entry_ba_extend : entryFor table "bytearray.extend" = some Builtin.«bytearray.extend» := entryFor_of_tree (by kernel_rfl)
theorem args_ba_extend (a b : Value) : argsOk "bytearray.extend" ⟨[a, b], []⟩ := by
  unfold argsOk; rw [signature?_of (id := "bytearray.extend") (n := ['d', 'n', 'e', 't', 'x', 'e']) (o := ['y', 'a', 'r', 'r', 'a', 'e', 't', 'y', 'b']) (by kernel_rfl) owner_ba]; kernel_rfl
theorem slot_ba_decode : Slot "bytearray" "decode" "bytearray.decode" :=
  .of (owner := "bytearray") (n := "decode") (by rw [typeLookup_type, builtinLookup_eq_fast]; kernel_rfl) (by decide +kernel) (by decide +kernel) (by decide +kernel)
    (by first | exact .inl (by decide +kernel) | exact .inr (by decide +kernel)) (by rw [isSubtype_type]; kernel_rfl)
theorem type_ba_decode : typeOf (.builtin "bytearray.decode") = pure (.type "method_descriptor") := by show builtinType _ = _; rw [builtinType_eq_fast]; kernel_rfl
theorem entry_ba_decode : entryFor table "bytearray.decode" = some Builtin.«bytearray.decode» := entryFor_of_tree (by kernel_rfl)
theorem args_ba_decode (a b : Value) : argsOk "bytearray.decode" ⟨[a, b], []⟩ := by
  unfold argsOk; rw [signature?_of (id := "bytearray.decode") (n := ['e', 'd', 'o', 'c', 'e', 'd']) (o := ['y', 'a', 'r', 'r', 'a', 'e', 't', 'y', 'b']) (by kernel_rfl) owner_ba]; kernel_rfl
theorem slot_ba_init : Slot "bytearray" "__init__" "bytearray.__init__" :=
  .of (owner := "bytearray") (n := "__init__") (by rw [typeLookup_type, builtinLookup_eq_fast]; kernel_rfl) (by decide +kernel) (by decide +kernel) (by decide +kernel)
    (by first | exact .inl (by decide +kernel) | exact .inr (by decide +kernel)) (by rw [isSubtype_type]; kernel_rfl)
theorem entry_ba_init : entryFor table "bytearray.__init__" = some Builtin.«bytearray.__init__» := entryFor_of_tree (by kernel_rfl)
theorem args_ba_init (a : Value) : argsOk "bytearray.__init__" ⟨[a], []⟩ := by
  unfold argsOk; rw [signature?_of (id := "bytearray.__init__") (n := ['_', '_', 't', 'i', 'n', 'i', '_', '_']) (o := ['y', 'a', 'r', 'r', 'a', 'e', 't', 'y', 'b']) (by kernel_rfl) owner_ba]; kernel_rfl
theorem slot_ba_len : Slot "bytearray" "__len__" "bytearray.__len__" :=
  .of (owner := "bytearray") (n := "__len__") (by rw [typeLookup_type, builtinLookup_eq_fast]; kernel_rfl) (by decide +kernel) (by decide +kernel) (by decide +kernel)
    (by first | exact .inl (by decide +kernel) | exact .inr (by decide +kernel)) (by rw [isSubtype_type]; kernel_rfl)
theorem entry_ba_len : entryFor table "bytearray.__len__" = some Builtin.«bytearray.__len__» := entryFor_of_tree (by kernel_rfl)
theorem args_ba_len (a : Value) : argsOk "bytearray.__len__" ⟨[a], []⟩ := by
  unfold argsOk; rw [signature?_of (id := "bytearray.__len__") (n := ['_', '_', 'n', 'e', 'l', '_', '_']) (o := ['y', 'a', 'r', 'r', 'a', 'e', 't', 'y', 'b']) (by kernel_rfl) owner_ba]; kernel_rfl
theorem nobool_ba : typeLookup (.type "bytearray") "__bool__" = pure none := by rw [typeLookup_type, builtinLookup_eq_fast]; kernel_rfl
theorem mro_ba : mroOf (.type "bytearray") = pure [.type "bytearray", .type "object"] := by rw [mroOf_type]; kernel_rfl
theorem lookup_ba_new : typeLookup (.type "bytearray") "__new__" = pure (some (.builtin "bytearray.__new__")) := by rw [typeLookup_type, builtinLookup_eq_fast]; kernel_rfl
theorem called_ba : TypeCalled "bytearray" "bytearray.__new__" "bytearray.__init__" :=
  ⟨by decide +kernel, by decide +kernel, ⟨_, _, mro_ba⟩, madeBy_type mro_ba lookup_ba_new (by decide +kernel), by decide +kernel, by rw [isSubtype_type]; kernel_rfl, slot_ba_init⟩
theorem typeCall_ba : checkTypeCall "bytearray" ⟨[], []⟩ = pure () := by kernel_rfl
theorem newCall_ba : checkBuiltinCall "bytearray.__new__" ⟨[.type "bytearray"], []⟩ = pure () := by kernel_rfl
theorem entry_ba_new : entryFor table "bytearray.__new__" = some Builtin.«list.__new__» :=
  entryFor_alias (id' := "list.__new__") (by rw [fastTable_eq_tree]; kernel_rfl) (by decide +kernel) (by decide +kernel) (by rw [fastTable_eq_tree]; kernel_rfl)
theorem plain_ba_new : plainId "bytearray.__new__" = true := by decide +kernel
set_option maxRecDepth 1000000 in
set_option maxHeartbeats 4000000 in
theorem owner_ba_new : ("bytearray.__new__".splitOn ".__new__").headD "" = "bytearray" := by simp +decide [String.splitOn, String.splitOnAux]
theorem look_ba_release : typeLookup (.type "bytearray") "__release_buffer__" = pure (some (.builtin "bytearray.__release_buffer__")) := by rw [typeLookup_type, builtinLookup_eq_fast]; kernel_rfl
theorem look_ba_buffer : typeLookup (.type "bytearray") "__buffer__" = pure (some (.builtin "bytearray.__buffer__")) := by rw [typeLookup_type, builtinLookup_eq_fast]; kernel_rfl
section
variable {M : Model} {A : Around} {s : Shared} {a : Addr} {b : Array UInt8}
theorem exported_false {st : List (Code × Pos)} (h : TidyL st) {f : Code × Pos → Bool} (hf : ∀ c p, okCode c = true → f (c, p) = false) : st.any f = false :=
  List.any_eq_false.mpr fun x hx => by obtain ⟨c, p⟩ := x; rw [hf c p (h _ hx)]; exact Bool.false_ne_true
theorem wpC_exported {v : Value} {Q : Bool → Shared → Prop} (h : Q false s) : wpC M A (Builtin.Bytes.exported v) Q s := by
  unfold Builtin.Bytes.exported
  refine wpC_bind (wpC_stack fun st hst => wpC_pure ?_)
  refine (congrArg (fun b => Q b s) (exported_false hst fun c p hc => ?_)).mpr h
  cases c with
  | builtin id args =>
    have hid : (Builtin.Bytes.decodersThatHold.contains id || ["bytearray.__contains__", "bytearray.__mod__", "bytearray.__rmod__", "_struct.pack_into.held", "bytearray.find.held"].contains id) = false := by
      simpa [okCode, okId] using hc
    obtain ⟨h1, h2⟩ := Bool.or_eq_false_iff.mp hid
    split
    · rename_i e; cases e; exact absurd h2 (by decide)
    · rename_i e; cases e; exact absurd h2 (by decide)
    · rename_i e; cases e; exact absurd h2 (by decide)
    · rename_i e; cases e; exact absurd h2 (by decide)
    · rename_i e; cases e; exact absurd h2 (by decide)
    · rename_i e; cases e; rw [h1, Bool.and_false]
    · rfl
  | _ => rfl
theorem wpAny_exportsOf {E : Value → Shared → Prop} {o : Obj} {n : Nat} {Q : Nat → Shared → Prop} (ho : s.heap.get? a = some o) (hd : o.data = .bytearray b n) (h : Q n s) : wpAny M A (Builtin.Bytes.exportsOf (.ref a)) Q E s := by
  unfold Builtin.Bytes.exportsOf
  refine wpAny_bind (wpAny_load ho ?_)
  rw [hd]
  exact wpAny_pure h
end
end Mine
end
section
open PySem PySem.W PySem.Calls PyProof.Rows
set_option Elab.async false
set_option maxRecDepth 100000
namespace Mine
abbrev baOf (b : Array UInt8) : Obj := { cls := .type "bytearray", data := .bytearray b }
def baPut (f : Array UInt8 → Array UInt8) : Obj → Obj := Obj.mapBytearray f
section
variable {M : Model} {A : Around} {s : Shared} {a : Addr} {b : Array UInt8} {E : Value → Shared → Prop}
theorem wpC_pos {α : Type} {c : Prop} [Decidable c] {x y : Sem α} {Q : α → Shared → Prop} (hc : c) (h : wpC M A x Q s) : wpC M A (if c then x else y) Q s := by rw [if_pos hc]; exact h
theorem wpC_neg {α : Type} {c : Prop} [Decidable c] {x y : Sem α} {Q : α → Shared → Prop} (hc : ¬ c) (h : wpC M A y Q s) : wpC M A (if c then x else y) Q s := by rw [if_neg hc]; exact h
theorem wpAny_baWrite {f : Array UInt8 → Array UInt8} {Q : Unit → Shared → Prop} (ho : s.heap.get? a = some (baOf b)) (hz : (f b).size ≤ 16777216)
    (h : Q () { s with heap := s.heap.update a (Obj.mapBytearray f) }) : wpAny M A (Builtin.Bytes.write (.ref a) f) Q E s := by
  show wpAny M A (updateBytearray a f) Q E s
  unfold updateBytearray
  refine wpAny_bind (wpAny_load ho ?_)
  show wpAny M A (update a (Obj.mapBytearray f) >>= fun _ => lookBehind a) Q E s
  refine wpAny_bind (wpAny_update ho ?_)
  have ho' : (s.heap.update a (Obj.mapBytearray f)).get? a = some (baOf (f b)) := Heap.get?_update_self (Obj.mapBytearray f) ho rfl
  unfold lookBehind
  refine wpAny_bind (wpAny_loadPart ho' ?_)
  have hp : (baOf (f b)).data.pastItsLine = none := by
    show (if (f b).size > sizeLine then some "bytearray:memory" else none) = none
    rw [sizeLine_eq, if_neg (by omega)]
  rw [hp]
  exact wpAny_pure h
theorem wpC_checkResize {Q : Unit → Shared → Prop} (ho : s.heap.get? a = some (baOf b)) (h : Q () s) : wpC M A (Builtin.Bytes.checkResize (.ref a)) Q s := by
  unfold Builtin.Bytes.checkResize
  refine wpC_bind ?_
  unfold orM
  refine wpC_bind (wpC_exported ?_)
  show wpC M A (Builtin.Bytes.exportsOf (.ref a) >>= fun n => pure (decide (n > 0))) _ s
  refine wpC_bindA (wpAny_exportsOf ho rfl (wpC_pure ?_))
  exact wpC_pure h
theorem byteValue_int {c : Int} {t : Tok} (hc : 0 ≤ c ∧ c < 256) : Builtin.Bytes.byteValue (.int c t) = pure c.toNat.toUInt8 := by
  have e : asIndex (.int c t) = pure c := rfl
  have hb : (decide (c < 0) || decide (c ≥ 256)) = false := by simp; omega
  unfold Builtin.Bytes.byteValue
  rw [e]
  show (if (decide (c < 0) || decide (c ≥ 256)) = true then _ else _) = _
  rw [hb]
  rfl
theorem buffer_bytes {id : String} {d : Array UInt8} {t : Tok} {full : Bool} : Builtin.Bytes.buffer? id (.bytes d t) full = pure (some d) := by
  unfold Builtin.Bytes.buffer?
  rw [KBy.special_eq KBy.look_buffer, KBy.own_buffer, KBy.own_release]
  kernel_rfl
end
section
variable {prog : Program} {w : World} {A : Around} {s : Shared} {a : Addr} {b : Array UInt8} {Q : Flow → Shared → Prop}
theorem codeC_builtin {id : String} {args : Args} {B : Builtin} (hok : okCode (.builtin id args) = true) (hb : entryFor table id = some B)
    (h : wpC (model prog w) (A.under (.builtin id args)) (B args) (fun fin s' => match fin with | .done f => Q f s' | .again c' => c'.quiet = true ∧ codeC (model prog w) A c' Q s') s) :
    codeC (model prog w) A (.builtin id args) Q s := by
  refine codeC_tree hok ?_
  show wpC _ _ (match entryFor table id with | some b => b args | none => unsupported ((withoutEnding? id "#data").getD id)) _ s
  rw [hb]; exact h
theorem codeC_call_builtin {id : String} {args : Args} {B : Builtin} (hq : plainId id = true) (hok : okCode (.builtin id args) = true) (hb : entryFor table id = some B)
    (h : wpAny (model prog w) A.in1 (checkBuiltinCall id args) (fun _ s₁ => wpC (model prog w) A.in1 (B args) (fun fin s' => match fin with | .done f => Q f s' | .again c' => c'.quiet = true ∧ codeC (model prog w) A c' Q s') s₁) (fun _ _ => False) s) :
    codeC (model prog w) A (.call (.builtin id) args) Q s := by
  refine codeC_tree rfl ?_
  show wpC _ A.in1 (do checkBuiltinCall id args; again (.builtin id args)) _ s
  refine wpC_bindA (wpAny_mono h (fun _ s₁ h₁ => wpC_pure ⟨plainId_quiet hq args, codeC_builtin hok hb ?_⟩) fun _ _ x => x)
  rw [Around.under_plainId hq args]
  exact h₁
theorem code_append {c : Int} {t : Tok} (ho : s.heap.get? a = some (baOf b)) (hc : 0 ≤ c ∧ c < 256) (hz : b.size < 16777216)
    (h : Q (.ret .none) { s with heap := s.heap.update a (Obj.mapBytearray (·.push c.toNat.toUInt8)) }) : codeC (model prog w) A (.call (.builtin "bytearray.append") ⟨[.ref a, .int c t], []⟩) Q s := by
  refine codeC_call_builtin slot_ba_append.plain (okBuiltin (by decide +kernel)) entry_ba_append (slot_ba_append.check _ _ _ _ _ _ _ _ ⟨_, ho, rfl⟩ (args_ba_append _ _) ?_)
  unfold Builtin.«bytearray.append»
  refine wpC_bindA (m := selfAndOne _ _) (wpAny_of_eq (a := (Value.ref a, Value.int c t)) rfl ?_)
  dsimp only
  refine wpC_bindA (m := Builtin.Bytes.byteValue _) (wpAny_of_eq (byteValue_int hc) ?_)
  refine wpC_bind (m := Builtin.Bytes.checkResize _) (wpC_checkResize ho ?_)
  exact wpC_bindA (m := Builtin.Bytes.write _ _) (wpAny_baWrite ho (by rw [Array.size_push]; omega) (wpC_pure h))
theorem code_extend {d : Array UInt8} {t : Tok} (ho : s.heap.get? a = some (baOf b)) (hd : d.isEmpty = false) (hz : b.size + d.size ≤ 16777216)
    (h : Q (.ret .none) { s with heap := s.heap.update a (Obj.mapBytearray (· ++ d)) }) : codeC (model prog w) A (.call (.builtin "bytearray.extend") ⟨[.ref a, .bytes d t], []⟩) Q s := by
  refine codeC_call_builtin slot_ba_extend.plain (okBuiltin (by decide +kernel)) entry_ba_extend (slot_ba_extend.check _ _ _ _ _ _ _ _ ⟨_, ho, rfl⟩ (args_ba_extend _ _) ?_)
  unfold Builtin.«bytearray.extend»
  refine wpC_bindA (m := selfAndOne _ _) (wpAny_of_eq (a := (Value.ref a, Value.bytes d t)) rfl ?_)
  dsimp only
  refine wpC_bindA (m := specialOf _ _) (wpAny_of_eq (KBy.special_eq KBy.look_buffer) ?_)
  show wpC _ _ (rule "bytearray.extend.bytes-like" >>= fun _ => _) _ s
  refine wpC_bindA (wpAny_rule ?_)
  have hp : ∀ {E : Value → Shared → Prop} {Q : Array UInt8 → Shared → Prop}, Q b s → wpAny (model prog w) A.in1 (Builtin.Bytes.payload (.ref a)) Q E s := fun q => by
    unfold Builtin.Bytes.payload Builtin.Bytes.payload?
    exact wpAny_bind (wpAny_bind (wpAny_load ho (wpAny_pure (wpAny_pure q))))
  refine wpC_bindA (m := Builtin.Bytes.payload _) (hp ?_)
  have ht : Builtin.Bytes.takeBufferQuiet? "bytearray.extend" (.bytes d t) 0 = pure (some (d, none)) := by
    unfold Builtin.Bytes.takeBufferQuiet? Builtin.Bytes.takeBuffer?
    rw [KBy.special_eq KBy.look_buffer, KBy.own_buffer, buffer_bytes]
    kernel_rfl
  refine wpC_bindA (m := Builtin.Bytes.takeBufferQuiet? _ _ _) (wpAny_of_eq ht ?_)
  dsimp only
  refine wpC_pos rfl ?_
  show wpC _ _ (if (!d.isEmpty) = true then (Builtin.Bytes.checkResize (.ref a) >>= fun _ => Builtin.Bytes.write (.ref a) (· ++ d) >>= fun _ => ret .none) else _) _ s
  refine wpC_pos (by rw [hd]; rfl) ?_
  refine wpC_bind (wpC_checkResize ho ?_)
  exact wpC_bindA (wpAny_baWrite ho (by rw [Array.size_append]; omega) (wpC_pure h))
/-- bytearray.__new__ -/
theorem code_new {Q₁ : Value → Shared → Prop} {E : Value → Shared → Prop} (h : Q₁ (.ref s.heap.objs.size) { s with heap := s.heap.push (baOf #[]) }) :
    codeAny (model prog w) A (.call (.builtin "bytearray.__new__") ⟨[.type "bytearray"], []⟩) (wants Q₁ E) s := by
  refine codeAny_of_tree ?_
  show wpAny _ A.in1 (do checkBuiltinCall "bytearray.__new__" ⟨[.type "bytearray"], []⟩; again (.builtin "bytearray.__new__" ⟨[.type "bytearray"], []⟩)) _ _ s
  refine wpAny_bind (wpAny_of_eq newCall_ba (wpAny_pure ⟨plainId_quiet plain_ba_new _, codeAny_builtin_stack entry_ba_new rfl fun p st => ?_⟩))
  rw [Around.under_plainId plain_ba_new _]
  have hsub := sub_ba
  have hown := owner_ba_new
  obtain ⟨hp, g, d, tk, os⟩ := s
  simp only [hown]
  wp_walk
  exact h
theorem own_release_ba {M : Model} {A : Around} {E : Value → Shared → Prop} {R : Bool → Shared → Prop} (ho : s.heap.get? a = some (baOf b)) (h : R false s) : wpAny M A (Builtin.Bytes.ownRelease (.ref a)) R E s := by
  unfold Builtin.Bytes.ownRelease Builtin.Bytes.slotIsOwn
  have hT : s.TypeIs (.ref a) "bytearray" := ⟨_, ho, rfl⟩
  refine wpAny_bind (wpAny_bind (wpAny_specialOf hT look_ba_release ?_))
  have e1 : ("bytearray.__release_buffer__".endsWith ("." ++ "__release_buffer__")) = true := by decide +kernel
  have e2 : "bytearray.__release_buffer__".dropRight ("__release_buffer__".length + 1) = "bytearray" := by decide +kernel
  show wpAny M A (if (!"bytearray.__release_buffer__".endsWith ("." ++ "__release_buffer__")) = true then _ else _) _ E s
  rw [e1]
  show wpAny M A (isInstance (.ref a) (.type ("bytearray.__release_buffer__".dropRight ("__release_buffer__".length + 1)))) _ E s
  rw [e2]
  exact wpAny_isInstance hT sub_ba (wpAny_pure h)
theorem code_init (ho : s.heap.get? a = some (baOf #[])) (h : Q (.ret .none) { s with heap := s.heap.update a (Obj.mapBytearray fun _ => #[]) }) :
    codeC (model prog w) A (.call (.builtin "bytearray.__init__") ⟨[.ref a], []⟩) Q s := by
  refine codeC_call_builtin slot_ba_init.plain (okBuiltin (by decide +kernel)) entry_ba_init (slot_ba_init.check _ _ _ _ _ _ _ _ ⟨_, ho, rfl⟩ (args_ba_init _) ?_)
  unfold Builtin.«bytearray.__init__»
  dsimp only
  refine wpC_bindA (m := Builtin.Bytes.ownRelease _) (own_release_ba ho ?_)
  refine wpC_neg Bool.false_ne_true ?_
  refine wpC_bindA (m := Builtin.Bytes.bindOptional _ _ _ _ _) (wpAny_of_eq (a := [none, none, none]) rfl ?_)
  dsimp only
  refine wpC_bindA (m := Builtin.Bytes.checkCodecArg _ _ _ _) (wpAny_of_eq (a := ()) rfl ?_)
  refine wpC_bindA (m := Builtin.Bytes.checkCodecArg _ _ _ _) (wpAny_of_eq (a := ()) rfl ?_)
  refine wpC_bind ?_
  unfold orM
  refine wpC_bind (wpC_exported ?_)
  show wpC _ _ (Builtin.Bytes.exportsOf (.ref a) >>= fun n => pure (decide (n > 0))) _ s
  refine wpC_bindA (wpAny_exportsOf ho rfl (wpC_pure ?_))
  refine wpC_neg (by decide) ?_
  refine wpC_bindA (m := Builtin.Bytes.write _ _) (wpAny_baWrite ho (Nat.zero_le _) ?_)
  refine wpC_bind (wpC_neg Bool.false_ne_true (wpC_neg Bool.false_ne_true (wpC_pure ?_)))
  exact wpC_pure h
set_option maxHeartbeats 4000000 in
theorem call_bytearray {Q : Value → Shared → Prop} (h : Q (.ref s.heap.objs.size) { s with heap := (s.heap.push (baOf #[])).update s.heap.objs.size (Obj.mapBytearray fun _ => #[]) }) :
    wpC (model prog w) A (call (.type "bytearray") [] []) Q s := by
  refine wpC_call (codeC_tree rfl ?_)
  show wpC _ _ (callAny (.type "bytearray") _) _ s
  refine wpC_pure ⟨Code.quiet_builtin _ (by decide +kernel), codeC_builtin (okBuiltin (by decide +kernel)) F.entry_type_call ?_⟩
  rw [Around.under_plain (weight_type_call_type "bytearray" [] []) rfl]
  unfold Builtin.«type.__call__»
  dsimp only
  refine wpC_neg (by decide +kernel) ?_
  refine wpC_neg (by decide +kernel) ?_
  rw [show checkTypeCall "bytearray" { } = pure () from typeCall_ba]
  refine wpC_bindA (wpAny_pure ?_)
  rw [mro_ba]
  refine wpC_bindA (wpAny_pure ?_)
  refine wpC_neg Bool.false_ne_true ?_
  refine wpC_bindA (m := Bind.madeBy _) (wpAny_of_eq called_ba.made ?_)
  dsimp only
  refine wpC_bindA (wpAny_pure ?_)
  refine wpC_bindA (wpAny_holding (wpAny_call (codeAny_mono (code_new (E := fun _ _ => False) (Q₁ := fun v s' => v = .ref s.heap.objs.size ∧ s' = { s with heap := s.heap.push (baOf #[]) }) ⟨rfl, rfl⟩) fun r s₁ hr => ?_)))
  cases r with
  | error e => exact hr
  | ok fl =>
    cases fl with
    | ret v =>
      obtain ⟨rfl, rfl⟩ := hr
      have hb : (s.heap.push (baOf #[])).get? s.heap.objs.size = some (baOf #[]) := Heap.get?_push_size _ rfl
      have hT : Shared.TypeIs { s with heap := s.heap.push (baOf #[]) } (.ref s.heap.objs.size) "bytearray" := ⟨_, hb, rfl⟩
      dsimp only
      refine wpC_bindA (wpAny_isInstance hT sub_ba ?_)
      refine wpC_neg Bool.false_ne_true ?_
      refine wpC_bind (wpC_holding ?_)
      unfold callSpecial?
      refine wpC_bindA (wpAny_specialOf hT slot_ba_init.lookup ?_)
      dsimp only
      refine wpC_holding ?_
      rw [slot_ba_init.bind]
      refine wpC_bindA (wpAny_pure ?_)
      refine wpC_bind (wpC_call (code_init hb ?_))
      exact wpC_pure (wpC_neg (by decide) (wpC_pure h))
    | _ => exact hr.elim
end
end Mine
end
section
open PySem PySem.W PySem.Calls PyProof.Rows
set_option Elab.async false
set_option maxRecDepth 100000
namespace Mine
section
variable {prog : Program} {w : World} {A : Around} {s : Shared} {a : Addr} {b : Array UInt8} {E : Value → Shared → Prop}
theorem call_encode {x e : Str} {d : Array UInt8} {t u : Tok} {Q : Value → Shared → Prop} (he : ∀ t u, Builtin.«str.encode» ⟨[.str x t, .str e u], []⟩ = (do ret (← mkBytes d))) (hz : d.size ≤ 16777216)
    (h : ∀ t' k, Q (.bytes d t') { s with toks := k }) : wpAny (model prog w) A (call (.builtin "str.encode") [.str x t, .str e u]) Q E s :=
  call_gives F.slot_str_encode (typeIs_str _ _ _) F.entry_str_encode (F.args_str_encode_2 _ _) (m := .bytes d) (.of_eq (he t u)) ⟨by rw [sizeLine_eq]; exact hz, h _ _⟩
theorem payload_ba {M : Model} {Q : Array UInt8 → Shared → Prop} (ho : s.heap.get? a = some (baOf b)) (q : Q b s) : wpAny M A (Builtin.Bytes.payload (.ref a)) Q E s := by
  unfold Builtin.Bytes.payload Builtin.Bytes.payload?
  exact wpAny_bind (wpAny_bind (wpAny_load ho (wpAny_pure (wpAny_pure q))))
theorem meets_ba_len : Meets (Builtin.«bytearray.__len__» ⟨[.ref a], []⟩) (fun _ R s => s.heap.get? a = some (baOf b) ∧ R (.ok (.ret (.int b.size s.toks))) { s with toks := s.toks + 1 }) := by
  refine .of_wp fun prog w A R s hS => ?_
  unfold Builtin.«bytearray.__len__»
  refine wpAny_bind (m := slotArgs _ _ _) (wpAny_of_eq (a := (Value.ref a, [])) rfl ?_)
  dsimp only
  refine wpAny_bind (m := Builtin.Bytes.payload _) (payload_ba hS.1 ?_)
  exact wpAny_bind (wpAny_mkInt (wpAny_pure ⟨_, rfl, hS.2⟩))
theorem len_body_ba {Q : Value → Shared → Prop} (ho : s.heap.get? a = some (baOf b)) (hfit : (b.size : Int) < 2 ^ 63)
    (h : Q (.int b.size (s.toks + 1)) { s with toks := s.toks + 1 + 1 }) : wpAny (model prog w) A (Builtin.«len» ⟨[.ref a], []⟩) (fun fin s' => ∃ r, fin = .done (.ret r) ∧ Q r s') E s := by
  have hT : s.TypeIs (.ref a) "bytearray" := ⟨_, ho, rfl⟩
  unfold Builtin.«len»
  refine wpAny_bind (m := oneArg "len" _) (wpAny_pure ?_)
  refine wpAny_bind (m := callSpecial? (.ref a) (Str.ofString "__len__")) (wpAny_callSpecial?_slot (name := Str.ofString "__len__") hT slot_ba_len (call_meets slot_ba_len hT entry_ba_len (args_ba_len _) meets_ba_len ⟨ho, ?_⟩))
  show wpAny _ _ _ _ _ { s with toks := s.toks + 1 }
  refine wpAny_bind (wpAny_holding (wpAny_pure ?_))
  refine wpAny_bind (wpAny_letGo ?_)
  show wpAny _ _ (if ((b.size : Nat) : Int) < 0 then _ else _) _ _ _
  rw [if_neg (by omega)]
  show wpAny _ _ (if ((b.size : Nat) : Int) ≥ 2 ^ 63 then _ else _) _ _ _
  rw [if_neg (by omega)]
  exact wpAny_bind (wpAny_mkInt (wpAny_pure ⟨_, rfl, h⟩))
theorem truthy_ba {Q : Bool → Shared → Prop} (ho : s.heap.get? a = some (baOf b)) (hfit : (b.size : Int) < 2 ^ 63)
    (h : ∀ k, Q ((b.size : Int) != 0) { s with toks := k }) : wpAny (model prog w) A (truthy (.ref a)) Q E s := by
  have hT : s.TypeIs (.ref a) "bytearray" := ⟨_, ho, rfl⟩
  have key : wpAny (model prog w) A (runValue (.builtin "len" ⟨[.ref a], []⟩)) (fun r s' => r = .int b.size (s.toks + 1) ∧ Q ((b.size : Int) != 0) s') E s := by
    refine wpAny_runValue (codeAny_builtin entry_len ?_)
    rw [Around.under_plainId plain_len _]
    exact wpAny_mono (len_body_ba (Q := fun r s' => r = .int b.size (s.toks + 1) ∧ Q ((b.size : Int) != 0) s') ho hfit ⟨rfl, h _⟩)
      (fun fin s' h' => by obtain ⟨r, rfl, hq⟩ := h'; exact hq) fun _ _ e => e
  unfold truthy
  first
    | refine wpAny_bind (wpAny_callSpecial?_none (name := Str.ofString "__bool__") hT nobool_ba ?_)
    | refine wpAny_bind (wpAny_pure (wpAny_bind (wpAny_callSpecial?_none (name := Str.ofString "__bool__") hT nobool_ba ?_)))
  first
    | refine wpAny_bind (wpAny_specialOf (name := Str.ofString "__len__") hT slot_ba_len.lookup ?_)
    | refine wpAny_bind (wpAny_pure (wpAny_bind (wpAny_specialOf (name := Str.ofString "__len__") hT slot_ba_len.lookup ?_)))
  first
    | exact wpAny_bind (wpAny_mono key (fun r s' h' => by obtain ⟨rfl, hq⟩ := h'; exact wpAny_pure hq) fun _ _ e => e)
    | exact wpAny_bind (wpAny_pure (wpAny_bind (wpAny_mono key (fun r s' h' => by obtain ⟨rfl, hq⟩ := h'; exact wpAny_pure hq) fun _ _ e => e)))
theorem method_decode {M : Model} {pl : Sem Bool} {Q : Value × List Value → Shared → Prop} (ho : s.heap.get? a = some (baOf b)) (h : Q (.builtin "bytearray.decode", [.ref a]) s) : wpAny M A (getMethod (.ref a) "decode" pl) Q E s :=
  getMethod_builtin ⟨_, ho, rfl⟩ plainAttrs_ba slot_ba_decode type_ba_decode (fun a' e => by cases e; exact ⟨_, ho, rfl⟩) h
theorem slotOwn_buffer {M : Model} {R : Bool → Shared → Prop} (ho : s.heap.get? a = some (baOf b)) (h : R true s) : wpAny M A (Builtin.Bytes.slotIsOwn (.ref a) "__buffer__") R E s := by
  unfold Builtin.Bytes.slotIsOwn
  have hT : s.TypeIs (.ref a) "bytearray" := ⟨_, ho, rfl⟩
  refine wpAny_bind (wpAny_specialOf hT look_ba_buffer ?_)
  have e1 : ("bytearray.__buffer__".endsWith ("." ++ "__buffer__")) = true := by decide +kernel
  have e2 : "bytearray.__buffer__".dropRight ("__buffer__".length + 1) = "bytearray" := by decide +kernel
  show wpAny M A (if (!"bytearray.__buffer__".endsWith ("." ++ "__buffer__")) = true then _ else _) _ E s
  rw [e1]
  show wpAny M A (isInstance (.ref a) (.type ("bytearray.__buffer__".dropRight ("__buffer__".length + 1)))) _ E s
  rw [e2]
  exact wpAny_isInstance hT sub_ba h
theorem buffer_ba {M : Model} {id : String} {R : Option (Array UInt8) → Shared → Prop} (ho : s.heap.get? a = some (baOf b)) (h : R (some b) s) : wpAny M A (Builtin.Bytes.buffer? id (.ref a)) R E s := by
  unfold Builtin.Bytes.buffer?
  have hT : s.TypeIs (.ref a) "bytearray" := ⟨_, ho, rfl⟩
  refine wpAny_bind (wpAny_specialOf hT look_ba_buffer ?_)
  show wpAny M A (Builtin.Bytes.slotIsOwn (.ref a) "__buffer__" >>= fun r => _) _ E s
  refine wpAny_bind (slotOwn_buffer ho ?_)
  refine wpAny_ite ?_
  rw [if_neg (by decide)]
  refine wpAny_bind (wpAny_specialOf hT look_ba_buffer ?_)
  show wpAny M A (Builtin.Bytes.ownRelease (.ref a) >>= fun r => _) _ E s
  refine wpAny_bind (own_release_ba ho ?_)
  refine wpAny_ite ?_
  rw [if_neg (by decide)]
  exact wpAny_bind (payload_ba ho (wpAny_pure h))
theorem bytesLike_ba {M : Model} {id : String} {R : Array UInt8 → Shared → Prop} (ho : s.heap.get? a = some (baOf b)) (h : R b s) : wpAny M A (Builtin.Bytes.bytesLike id (.ref a)) R E s := by
  unfold Builtin.Bytes.bytesLike
  exact wpAny_bind (buffer_ba ho (wpAny_pure h))
theorem entry_text : entryFor table "_codecs.decode.text" = some Builtin.«_codecs.decode.text» := entryFor_of_tree (by kernel_rfl)
theorem meets_text {x : Str} {t1 t2 : Tok} {d : Str} (hd : ∀ id held, Builtin._codecs.decodeRoad id b (Str.ofString "ascii") none held = mkStr x) :
    Meets (Builtin.«_codecs.decode.text» ⟨[.ref a, .str (Str.ofString "ascii") t1, .none, .str d t2], []⟩) (fun _ R s => s.heap.get? a = some (baOf b) ∧ x.length ≤ sizeLine ∧ R (.ok (.ret (.str x s.toks))) { s with toks := s.toks + 1 }) := by
  refine .of_wp fun prog w A R s hS => ?_
  obtain ⟨ho, hz, h⟩ := hS
  unfold Builtin.«_codecs.decode.text»
  dsimp only
  refine wpAny_bind (wpAny_pure ?_)
  refine wpAny_bind (m := Builtin.Bytes.bytesLike _ _) (bytesLike_ba ho ?_)
  refine wpAny_bind (m := Builtin._codecs.dataHeld _ _) ?_
  unfold Builtin._codecs.dataHeld
  refine wpAny_bind (m := Builtin.Bytes.bytesLike _ _) (bytesLike_ba ho ?_)
  refine wpAny_pure ?_
  rw [hd]
  exact wpAny_bind (wpAny_mkStr (wpAny_pure ⟨_, rfl, h⟩) hz)
theorem meets_decode {x : Str} {u : Tok} (hd : ∀ id held, Builtin._codecs.decodeRoad id b (Str.ofString "ascii") none held = mkStr x) (hb : b.isEmpty = false) :
    Meets (Builtin.«bytearray.decode» ⟨[.ref a, .str (Str.ofString "ascii") u], []⟩) (fun _ R s => s.heap.get? a = some (baOf b) ∧ x.length ≤ 16777216 ∧ ∀ t k, R (.ok (.ret (.str x t))) { s with toks := k }) := by
  refine .of_wp fun prog w A R s hS => ?_
  obtain ⟨ho, hz, h⟩ := hS
  unfold Builtin.«bytearray.decode» Builtin.Bytes.decodeM
  dsimp only
  generalize hid : toString Builtin.Bytes.Kind.bytearray.name ++ toString ".decode" = id
  have hidz : (Str.ofString id).length ≤ sizeLine := by rw [← hid, sizeLine_eq]; decide +kernel
  have hz' : x.length ≤ sizeLine := by rw [sizeLine_eq]; exact hz
  have hT : s.TypeIs (.ref a) "bytearray" := ⟨_, ho, rfl⟩
  refine wpAny_bind (m := Builtin.Bytes.bindOptional _ _ _ _ _) (wpAny_of_eq (a := [some (.str (Str.ofString "ascii") u), none]) rfl ?_)
  dsimp only
  refine wpAny_bind (m := Builtin.Bytes.checkCodecArg _ _ _ _) (wpAny_of_eq (a := ()) (by kernel_rfl) ?_)
  refine wpAny_bind (m := Builtin.Bytes.checkCodecArg _ _ _ _) (wpAny_of_eq (a := ()) rfl ?_)
  refine wpAny_ite ?_
  rw [if_pos (by decide +kernel)]
  refine wpAny_bind (own_release_ba ho ?_)
  refine wpAny_ite ?_
  rw [if_neg (by decide)]
  refine wpAny_bind (wpAny_specialOf hT look_ba_buffer ?_)
  show wpAny _ _ (Builtin.Bytes.slotIsOwn (.ref a) "__buffer__" >>= fun r => _) _ _ s
  refine wpAny_bind (slotOwn_buffer ho ?_)
  refine wpAny_ite ?_
  rw [if_neg (by decide)]
  show wpAny _ _ (Builtin.Bytes.payload (.ref a) >>= fun r => _) _ _ s
  refine wpAny_bind (payload_ba ho ?_)
  refine wpAny_ite ?_
  rw [if_neg (by rw [hb]; decide)]
  refine wpAny_bind (wpAny_mkStr ?_ (by decide))
  refine wpAny_bind (m := asStr? _ >>= fun _ => _) (wpAny_bind (wpAny_of_eq (a := some (Str.ofString "ascii")) rfl (wpAny_mkStr ?_ (by decide))))
  refine wpAny_bind (wpAny_pure ?_)
  refine wpAny_bind (wpAny_mkStr ?_ hidz)
  exact wpAny_bind (call_function_meets KBd.kind_text KBd.plain_text entry_text (KBd.args_text _ _ _ _) (meets_text hd) ⟨ho, hz', wpAny_pure ⟨_, rfl, h _ _⟩⟩)
theorem call_decode {x : Str} {u : Tok} {Q : Value → Shared → Prop} (ho : s.heap.get? a = some (baOf b)) (hd : ∀ id held, Builtin._codecs.decodeRoad id b (Str.ofString "ascii") none held = mkStr x) (hb : b.isEmpty = false) (hz : x.length ≤ 16777216)
    (h : ∀ t k, Q (.str x t) { s with toks := k }) : wpAny (model prog w) A (call (.builtin "bytearray.decode") [.ref a, .str (Str.ofString "ascii") u]) Q E s :=
  call_meets slot_ba_decode ⟨_, ho, rfl⟩ entry_ba_decode (args_ba_decode _ _) (meets_decode hd hb) ⟨ho, hz, fun t k => h t k⟩
end
/-- what the coder hands back for the three words -/
theorem dec1 : ∀ id held, Builtin._codecs.decodeRoad id #[117] (Str.ofString "ascii") none held = mkStr (Str.ofString "u") := by intro id held; kernel_rfl
theorem dec2 : ∀ id held, Builtin._codecs.decodeRoad id #[97, 37, 50, 48, 98] (Str.ofString "ascii") none held = mkStr (Str.ofString "a%20b") := by intro id held; kernel_rfl
theorem dec3 : ∀ id held, Builtin._codecs.decodeRoad id #[97, 37, 51, 65, 98, 37, 52, 48, 37, 67, 51, 37, 65, 57] (Str.ofString "ascii") none held = mkStr (Str.ofString "a%3Ab%40%C3%A9") := by intro id held; kernel_rfl
theorem enc1 : ∀ t u, Builtin.«str.encode» ⟨[.str (Str.ofString "u") t, .str (Str.ofString "utf-8") u], []⟩ = (do ret (← mkBytes #[117])) := by intro t u; kernel_rfl
theorem enc2 : ∀ t u, Builtin.«str.encode» ⟨[.str (Str.ofString "a b") t, .str (Str.ofString "utf-8") u], []⟩ = (do ret (← mkBytes #[97, 32, 98])) := by intro t u; kernel_rfl
theorem enc3 : ∀ t u, Builtin.«str.encode» ⟨[.str (Str.ofString "a:b@é") t, .str (Str.ofString "utf-8") u], []⟩ = (do ret (← mkBytes #[97, 58, 98, 64, 195, 169])) := by intro t u; kernel_rfl
def safeB : Array UInt8 := #[97, 98, 99, 100, 101, 102, 103, 104, 105, 106, 107, 108, 109, 110, 111, 112, 113, 114, 115, 116, 117, 118, 119, 120, 121, 122, 65, 66, 67, 68, 69, 70, 71, 72, 73, 74, 75, 76, 77, 78, 79, 80, 81, 82, 83, 84, 85, 86, 87, 88, 89, 90, 48, 49, 50, 51, 52, 53, 54, 55, 56, 57, 45, 46, 95, 126, 33, 36, 39, 40, 41, 42, 44, 43, 38, 61, 59]
theorem enc4 : ∀ t u, Builtin.«str.encode» ⟨[.str (Str.ofString "abcdefghijklmnopqrstuvwxyzABCDEFGHIJKLMNOPQRSTUVWXYZ0123456789-._~!$'()*,+&=;") t, .str (Str.ofString "ascii") u], []⟩ = (do ret (← mkBytes #[97, 98, 99, 100, 101, 102, 103, 104, 105, 106, 107, 108, 109, 110, 111, 112, 113, 114, 115, 116, 117, 118, 119, 120, 121, 122, 65, 66, 67, 68, 69, 70, 71, 72, 73, 74, 75, 76, 77, 78, 79, 80, 81, 82, 83, 84, 85, 86, 87, 88, 89, 90, 48, 49, 50, 51, 52, 53, 54, 55, 56, 57, 45, 46, 95, 126, 33, 36, 39, 40, 41, 42, 44, 43, 38, 61, 59])) := by intro t u; kernel_rfl
theorem enc20 : ∀ t u, Builtin.«str.encode» ⟨[.str (Str.empty ++ Str.ofString "%" ++ Str.ofString "20") t, .str (Str.ofString "ascii") u], []⟩ = (do ret (← mkBytes #[37, 50, 48])) := by intro t u; kernel_rfl
theorem enc3A : ∀ t u, Builtin.«str.encode» ⟨[.str (Str.empty ++ Str.ofString "%" ++ Str.ofString "3A") t, .str (Str.ofString "ascii") u], []⟩ = (do ret (← mkBytes #[37, 51, 65])) := by intro t u; kernel_rfl
theorem enc40 : ∀ t u, Builtin.«str.encode» ⟨[.str (Str.empty ++ Str.ofString "%" ++ Str.ofString "40") t, .str (Str.ofString "ascii") u], []⟩ = (do ret (← mkBytes #[37, 52, 48])) := by intro t u; kernel_rfl
theorem encC3 : ∀ t u, Builtin.«str.encode» ⟨[.str (Str.empty ++ Str.ofString "%" ++ Str.ofString "C3") t, .str (Str.ofString "ascii") u], []⟩ = (do ret (← mkBytes #[37, 67, 51])) := by intro t u; kernel_rfl
theorem encA9 : ∀ t u, Builtin.«str.encode» ⟨[.str (Str.empty ++ Str.ofString "%" ++ Str.ofString "A9") t, .str (Str.ofString "ascii") u], []⟩ = (do ret (← mkBytes #[37, 65, 57])) := by intro t u; kernel_rfl
end Mine
end
section
open PySem PySem.W PySem.Calls PyProof.Rows
set_option Elab.async false
set_option maxRecDepth 100000
namespace Mine
section
variable {M : Model} {A : Around} {s : Shared} {env : Env} {Q : Value → Shared → Prop}
theorem callC {pos : Pos} {f : Value} {k : Keeper} {first : List Value} {args : List (Bool × Sem Value)} {keywords : List (Option Str × Sem Value)} (hplain : (args.any (·.1) || keywords.any (·.1.isNone)) = false)
    (h : wpAny M A (evalArgs f true args keywords) (fun a s₁ => Looks M s₁.heap (keeperOf f) k ∧ wpC M A (call f (first ++ a.pos) a.kw) Q s₁) (fun _ _ => False) s) :
    wpC M A (callWith pos f first args keywords) Q s := by
  unfold callWith
  refine wpC_bindA (wpAny_holding (wpAny_mono h (fun a s₁ h₁ => wpC_bindA (wpAny_standAt ?_)) fun _ _ y => y))
  have tail : ∀ {t : Sem Value}, wpC M A t Q s₁ → wpC M A (t >>= fun r => holding [r] point >>= fun _ => pure r) Q s₁ :=
    fun ht => wpC_bind (wpC_mono ht (fun r s₂ hr => wpC_bindA (wpAny_holding (wpAny_point (wpC_pure hr)))))
  have op : ∀ {l : List Value}, wpC M A (operate l (call f (first ++ a.pos) a.kw)) Q s₁ := fun Γ p hΓ hT => by rw [Sem.wp_operate]; exact h₁.2 Γ p hΓ hT
  simp only [hplain]
  refine wpC_bindA (h₁.1.here ?_)
  cases k with
  | frame =>
    dsimp only
    split
    · exact tail h₁.2
    · exact tail (by unfold callMarked; exact wpC_keep h₁.2)
  | boundFrame =>
    dsimp only
    split
    · exact tail h₁.2
    · exact tail (by unfold callMarked; exact wpC_keep h₁.2)
  | machine => exact tail h₁.2
  | caller => exact tail op
theorem callC_args {pos : Pos} {f : Value} {k : Keeper} {first : List Value} {e : Expr} {rest : List Expr}
    (h : wpAny M A (spliced (backTo pos (starEach (e :: rest) env))) (fun vs s₁ => Looks M s₁.heap (keeperOf f) k ∧ wpC M A (call f (first ++ vs)) Q s₁) (fun _ _ => False) s)
    (he : starEach (e :: rest) env = (false, eval e env) :: starEach rest env := by rfl) (hplain : (backTo pos (starEach rest env)).any (·.1) = false := by rfl) :
    wpC M A (callWith pos f first (backTo pos (starEach (e :: rest) env)) []) Q s := by
  rw [he] at h ⊢
  exact callC (by show ((false || (backTo pos (starEach rest env)).any (·.1)) || false) = false; rw [hplain]; rfl) (evalArgs_plain h)
theorem callC_none {pos : Pos} {f : Value} {k : Keeper} {first : List Value} (h : Looks M s.heap (keeperOf f) k ∧ wpC M A (call f (first ++ [])) Q s) :
    wpC M A (callWith pos f first (backTo pos (starEach [] env)) []) Q s := callC rfl (evalArgs_nil3 h)
theorem keeper_builtin {h : Heap} {id : String} : Looks M h (keeperOf (.builtin id)) .machine := Looks.of_pure rfl
theorem keeper_type {h : Heap} {T : String} : Looks M h (keeperOf (.type T)) .machine := Looks.of_pure rfl
theorem keeper_fn {K : Frag} {f : Addr} {h : Heap} (X : K.In h) (hf : fnIn K f = true) : Looks M h (keeperOf (.ref f)) .frame := by
  unfold fnIn at hf
  split at hf
  · rename_i e
    unfold keeperOf
    refine (Looks.ld (part := none) (X _ _ e)).andThen ?_
    exact .now
  · cases hf
/-- a call of a def of the text, its arguments by the library's walk -/
theorem callC_fn {K : Frag} {pos : Pos} {f : Addr} {first : List Value} {e : Expr} {rest : List Expr} (hf : fnIn K f = true)
    (h : wpAny M A (spliced (backTo pos (starEach (e :: rest) env))) (fun vs s₁ => K.In s₁.heap ∧ wpC M A (call (.ref f) (first ++ vs)) Q s₁) (fun _ _ => False) s)
    (he : starEach (e :: rest) env = (false, eval e env) :: starEach rest env := by rfl) (hplain : (backTo pos (starEach rest env)).any (·.1) = false := by rfl) :
    wpC M A (callWith pos (.ref f) first (backTo pos (starEach (e :: rest) env)) []) Q s :=
  callC_args (k := .frame) (wpAny_mono h (fun _ _ q => ⟨keeper_fn q.1 hf, q.2⟩) fun _ _ y => y) he hplain
theorem callC_inst {K : Frag} {x C : Addr} {ox : Obj} {od : Option Obj} {pos : Pos} {first : List Value} {e : Expr} {rest : List Expr} (_I : InstAt s.heap x ox C od) (hd : ox.data = .plain)
    (h : wpAny M A (spliced (backTo pos (starEach (e :: rest) env))) (fun vs s₁ => kco_P K x C ox od s₁.heap ∧ wpC M A (call (.ref x) (first ++ vs)) Q s₁) (fun _ _ => False) s)
    (he : starEach (e :: rest) env = (false, eval e env) :: starEach rest env := by rfl) (hplain : (backTo pos (starEach rest env)).any (·.1) = false := by rfl) :
    wpC M A (callWith pos (.ref x) first (backTo pos (starEach (e :: rest) env)) []) Q s :=
  callC_args (k := .caller) (wpAny_mono h (fun _ _ q => ⟨kco_keeper q.1.2 hd, q.2⟩) fun _ _ y => y) he hplain
theorem callC_builtin {pos : Pos} {id : String} {first : List Value} {e : Expr} {rest : List Expr}
    (h : wpAny M A (spliced (backTo pos (starEach (e :: rest) env))) (fun vs s₁ => wpC M A (call (.builtin id) (first ++ vs)) Q s₁) (fun _ _ => False) s)
    (he : starEach (e :: rest) env = (false, eval e env) :: starEach rest env := by rfl) (hplain : (backTo pos (starEach rest env)).any (·.1) = false := by rfl) :
    wpC M A (callWith pos (.builtin id) first (backTo pos (starEach (e :: rest) env)) []) Q s :=
  callC_args (k := .machine) (wpAny_mono h (fun _ _ q => ⟨keeper_builtin, q⟩) fun _ _ y => y) he hplain
theorem callC_type0 {pos : Pos} {T : String} {first : List Value} (h : wpC M A (call (.type T) (first ++ [])) Q s) :
    wpC M A (callWith pos (.type T) first (backTo pos (starEach [] env)) []) Q s := callC_none ⟨keeper_type, h⟩
theorem evalC_Call {func : Expr} {args : List Expr} {pos : Pos} (h : wpAny M A (eval func env) (fun f s₁ => wpC M A (callWith pos f [] (backTo pos (starEach args env)) []) Q s₁) (fun _ _ => False) s)
    (he : eval (.Call func args [] pos) env = (do callWith pos (← eval func env) [] (backTo pos (starEach args env)) (backToKw pos (keywordEach [] env))) := by rfl) :
    wpC M A (eval (.Call func args [] pos) env) Q s := by
  rw [he]; exact wpC_bindA h
end
section
variable {prog : Program} {w : World} {A A₀ : Around} {s : Shared} {env : Env} {K : Frag} {Q : Value → Shared → Prop}
/-- what a method's receiver must be, and the rest (a word of its own: the walk leaves it alone) -/
def RecvC (T : String) (ov : Value) (s₁ : Shared) (P : Prop) : Prop := s₁.TypeIs ov T ∧ (∀ a, ov = .ref a → ∃ ob, s₁.heap.get? a = some ob ∧ ob.dict = none) ∧ P
theorem evalC_method {o : Expr} {name : Str} {apos pos : Pos} {args : List Expr} {T id : String}
    (h : wpAny (model prog w) A (eval o env) (fun ov s₁ => RecvC T ov s₁ (wpC (model prog w) A (callWith pos (.builtin id) [ov] (backTo pos (starEach args env)) []) Q s₁)) (fun _ _ => False) s)
    (pa : PlainAttrs T) (slot : Slot T name id) (hty : typeOf (.builtin id) = pure (.type "method_descriptor"))
    (hbase : attributeBase o name env (eval o env) = eval o env)
    (hfew : ((backTo pos (starEach args env)).all (fun x => !x.1) && (backToKw pos (keywordEach [] env)).all (fun x => x.1.isSome)
      && decide (args.length + ([] : List Keyword).length + (if ([] : List Keyword).isEmpty then 0 else 1) < 30)) = true)
    (hline : (apos.endLine == pos.line) = true) : wpC (model prog w) A (eval (.Call (.Attribute o name apos) args [] pos) env) Q s := by
  rw [arm_eval_Call, hbase]
  refine wpC_bindA (wpAny_mono h (fun ov s₁ h₁ => ?_) fun _ _ e => e)
  obtain ⟨hT, hd, hc⟩ := h₁
  refine wpC_bindA (wpAny_standAt ?_)
  have hform : methodCallForm (args.length + ([] : List Keyword).length) (backTo pos (starEach args env)) (backToKw pos (keywordEach [] env)) = true := hfew
  have hpos : methodCallPos true o env apos pos = pure pos := by unfold methodCallPos; simp [hline]
  unfold methodCall
  rw [hform]
  refine wpC_bindA (wpAny_holding (getMethod_builtin hT pa slot hty hd ?_))
  exact wpC_bindA (wpAny_of_eq hpos hc)
theorem codeC_inst {x C f : Addr} {ox : Obj} {od : Option Obj} {a : Args} {Q : Flow → Shared → Prop} (X : K.In s.heap) (I : InstAt s.heap x ox C od) (hd : ox.data = .plain) (hs : findIn K (.ref C) "__call__" = some (some (.ref f))) (hf : isFn K (.ref f) = true) (hfn : fnIn K f = true)
    (hq : codeC (model prog w) A (.call (.ref f) { a with pos := .ref x :: a.pos }) Q s) : codeC (model prog w) A (.call (.ref x) a) Q s := by
  unfold fnIn at hfn
  split at hfn
  · rename_i e
    refine codeC_tree rfl (wpC_any ?_)
    show wpAny _ A.in1 (callAny (.ref x) a) _ _ _
    unfold callAny
    refine wpAny_bind (wpAny_load I.at_ ?_)
    simp only [hd]
    unfold callAny.viaDunder
    refine wpAny_bind (wpAny_bind (I.type.here ((looks_findIn X hs).here ?_)))
    dsimp only
    refine wpAny_bind ((bind_fn X (.ref x) (beq_iff_eq.mp hf)).here ?_)
    refine wpAny_bind ?_
    unfold callAny.plainCallee
    refine wpAny_bind (wpAny_load (X _ _ e) (wpAny_pure ?_))
    simp only [if_true]
    exact wpAny_pure ⟨rfl, hq⟩
  · cases hfn
/-- what a result must be, of no raise -/
def okOf (Q : Flow → Shared → Prop) : Result → Shared → Prop := fun r s' => match r with | .ok f => Q f s' | .error _ => False
theorem codeC_def {outer : List Env} {base h₀ : Heap} {L : Addr} {m mg mb : Str → Option Value} {news : List (Addr × Obj)} {p : Program} {loose : List Str} {mean : ExcName → Option Value} {Q : Flow → Shared → Prop}
    {name qual : Str} {params : Arguments} {body : List Stmt} {scope : Scope} {dV kV doc pm cdv ct oc : Value} {an od : Option Addr} {osl : Array (Option Value)} {f : Addr} {args : Args} {binds : List (Str × Value)}
    (B : Below A₀ base outer h₀) (F : Fr h₀ L s.heap m) (X₀ : K.In h₀) (N : News h₀ L s.heap news) (T : Top p loose mean mg mb h₀) (hA : A.frames = some (env :: outer)) (hf : env.frame = some L) (hke : env.scope.kind = .function)
    (ho : K.lookup f = some ⟨oc, od, .func (fnOf name qual params body scope dV kV doc pm an cdv ct), osl⟩) (hcd : codeIn K cdv qual = true) (hroom : A.depth < recursionLimit)
    (hbind : BindsTo s (fnOf name qual params body scope dV kV doc pm an cdv ct) args binds) (hloc : ∀ y ∈ binds, scope.names.lookup y.1 = some .local)
    (h : ∀ g L' h₁, Fr h₀ L g m → Fr g L' h₁ (fun y => binds.reverse.lookup y) → News g L' h₁ news → Below A base (env :: outer) g → K.In g → Top p loose mean mg mb g →
      wpC (model prog w) (A.deeper (envOf qual scope L' f cdv)) (execs body (envOf qual scope L' f cdv))
        (fun fl s' => LeaveK h₀ L m g (okOf Q) (match fl with | .ret v => v | _ => .none) s') { s with heap := h₁, toks := s.toks + binds.length })
    (hco : scope.isCoroutine = false) (hgen : scope.isGenerator = false) (hk : scope.kind = .function)
    (hcell : ∀ x ∈ scope.names, x.2 ≠ .cell) : codeC (model prog w) A (.call (.ref f) args) Q s := by
  obtain ⟨FG, BG, st, lv⟩ := groundX (R := okOf Q) B F N hA hf hke
  refine codeC_call_def (fd := fnOf name qual params body scope dV kV doc pm an cdv ct) (body := body) (binds := binds) hroom ((X₀.keeps F.keep) _ _ ho) rfl (T.nolimit.keeps F.keep) (codeRec_of (X₀.keeps F.keep) hcd) rfl hbind hcell hloc (fun h₁ hns hk₁ => ?_) hco hgen hk
  exact wpC_mono (h _ s.heap.objs.size h₁ FG ⟨hns, fun b o e => hk₁ b o (of_hideAll _ e), Nat.le_of_eq (hideAll_size _ _)⟩
    (fun p hp => ⟨hk₁ _ _ (N p hp).1, Nat.ne_of_lt (Heap.lt_size (N p hp).1), hideAll_none _ (List.mem_map_of_mem hp)⟩) BG (X₀.keeps st) (T.keeps st)) (fun fl s' hl => lv _ _ hl)
end
end Mine
end
section
open PySem PySem.W PySem.Calls PyProof.Rows
set_option Elab.async false
set_option maxRecDepth 100000
namespace Mine
section
variable {prog : Program} {w : World} {A : Around} {s : Shared} {h₀ : Heap} {L a : Addr} {m : Str → Option Value} {news news' : List (Addr × Obj)} {b : Array UInt8} {E : Value → Shared → Prop}
theorem ba_update {f : Array UInt8 → Array UInt8} (F : Fr h₀ L s.heap m) (N : News h₀ L s.heap news) (U : Upd a (baOf b) (baOf (f b)) news news') :
    s.heap.get? a = some (baOf b) ∧ Fr h₀ L (s.heap.update a (Obj.mapBytearray f)) m ∧ News h₀ L (s.heap.update a (Obj.mapBytearray f)) news' := by
  obtain ⟨pre, post, rfl, rfl, p1, p2⟩ := U.split
  have z := N (a, baOf b) (List.mem_append.mpr (.inr (.head _)))
  have hs : Heap.SameBut a s.heap (s.heap.update a (Obj.mapBytearray f)) := Heap.SameBut.update ..
  have ho' : (s.heap.update a (Obj.mapBytearray f)).get? a = some (baOf (f b)) := Heap.get?_update_self (Obj.mapBytearray f) z.1 rfl
  exact ⟨z.1, F.change hs z.2.1 z.2.2, news_set N p1 p2 hs ho'⟩
theorem append_C {c : Int} {t : Tok} {Q : Value → Shared → Prop} (F : Fr h₀ L s.heap m) (N : News h₀ L s.heap news) (U : Upd a (baOf b) (baOf (b.push c.toNat.toUInt8)) news news') (hc : 0 ≤ c ∧ c < 256) (hz : b.size < 16777216)
    (h : ∀ h', Fr h₀ L h' m → News h₀ L h' news' → Q .none { s with heap := h' }) : wpC (model prog w) A (call (.builtin "bytearray.append") [.ref a, .int c t]) Q s := by
  obtain ⟨ho, F', N'⟩ := ba_update (f := (·.push c.toNat.toUInt8)) F N U
  exact wpC_call (code_append ho hc hz (h _ F' N'))
theorem extend_C {d : Array UInt8} {t : Tok} {Q : Value → Shared → Prop} (F : Fr h₀ L s.heap m) (N : News h₀ L s.heap news) (U : Upd a (baOf b) (baOf (b ++ d)) news news') (hd : d.isEmpty = false) (hz : b.size + d.size ≤ 16777216)
    (h : ∀ h', Fr h₀ L h' m → News h₀ L h' news' → Q .none { s with heap := h' }) : wpC (model prog w) A (call (.builtin "bytearray.extend") [.ref a, .bytes d t]) Q s := by
  obtain ⟨ho, F', N'⟩ := ba_update (f := (· ++ d)) F N U
  exact wpC_call (code_extend ho hd hz (h _ F' N'))
theorem new_C {Q : Value → Shared → Prop} (F : Fr h₀ L s.heap m) (N : News h₀ L s.heap news)
    (h : ∀ d h', Fr h₀ L h' m → News h₀ L h' ((d, baOf #[]) :: news) → (∀ p ∈ news, p.1 < d) → Q (.ref d) { s with heap := h' }) : wpC (model prog w) A (call (.type "bytearray") []) Q s := by
  refine call_bytearray ?_
  have F1 := F.push (baOf #[])
  have N1 := N.push F (baOf #[])
  have lt : ∀ p ∈ news, p.1 < s.heap.objs.size := fun p hp => Heap.lt_size (N p hp).1
  obtain ⟨_, F', N'⟩ := ba_update (s := { s with heap := s.heap.push (baOf #[]) }) (f := fun _ => #[]) F1 N1 (.head fun p hp => Nat.ne_of_lt (lt p hp))
  exact h _ _ F' N' lt
theorem truthy_C {Q : Bool → Shared → Prop} (N : News h₀ L s.heap news) (hm : (a, baOf b) ∈ news) (hz : b.size ≤ 16777216) (h : ∀ k, Q ((b.size : Int) != 0) { s with toks := k }) : wpAny (model prog w) A (truthy (.ref a)) Q E s :=
  truthy_ba (N.get hm) (by omega) h
theorem decode_C {x : Str} {u : Tok} {b' : Array UInt8} {Q : Value → Shared → Prop} (N : News h₀ L s.heap news) (hm : (a, baOf b') ∈ news) (he : b' = b) (hd : ∀ id held, Builtin._codecs.decodeRoad id b (Str.ofString "ascii") none held = mkStr x) (hb : b.isEmpty = false) (hz : x.length ≤ 16777216)
    (h : ∀ t k, Q (.str x t) { s with toks := k }) : wpAny (model prog w) A (call (.builtin "bytearray.decode") [.ref a, .str (Str.ofString "ascii") u]) Q E s := call_decode (N.get (he ▸ hm)) hd hb hz h
theorem getDecode_C {M : Model} {pl : Sem Bool} {Q : Value × List Value → Shared → Prop} (N : News h₀ L s.heap news) (hm : (a, baOf b) ∈ news) (h : Q (.builtin "bytearray.decode", [.ref a]) s) : wpAny M A (getMethod (.ref a) "decode" pl) Q E s := method_decode (N.get hm) h
theorem recv_ba {P : Prop} (N : News h₀ L s.heap news) (hm : (a, baOf b) ∈ news) (h : P) : RecvC "bytearray" (.ref a) s P :=
  ⟨⟨_, N.get hm, rfl⟩, (fun _ e => by cases e; exact ⟨_, N.get hm, rfl⟩), h⟩
theorem gives_in {d : Array UInt8} {c : Int} {t u : Tok} {r : Bool} (hc : (decide (c < 0) || decide (c ≥ 256)) = false) (hr : d.contains c.toNat.toUInt8 = r) : Gives (Builtin.«bytes.__contains__» ⟨[.bytes d t, .int c u], []⟩) (.val (.bool r)) := by
  refine .of_wp fun M A E s Q hq => ?_
  unfold Builtin.«bytes.__contains__»
  refine wpAny_bind (m := slotArgs _ _ _) (wpAny_of_eq (a := (Value.bytes d t, [Value.int c u])) rfl ?_)
  dsimp only
  refine wpAny_bind (m := Builtin.Bytes.containsIn _ _ _) ?_
  unfold Builtin.Bytes.containsIn
  refine wpAny_bind (m := (asIndex _).attempt) (wpAny_of_eq (a := .ok c) rfl ?_)
  refine wpAny_bind (m := Builtin.Bytes.buffer? _ _) (wpAny_of_eq KBy.buffer_eq ?_)
  dsimp only
  refine wpAny_ite ?_
  rw [hc, if_neg Bool.false_ne_true]
  refine wpAny_pure ?_
  rw [hr]
  exact wpAny_pure ⟨_, rfl, hq⟩
theorem in_bytes {d : Array UInt8} {c : Int} {t u : Tok} (r : Bool) {Q : Value → Shared → Prop} (hc : (decide (c < 0) || decide (c ≥ 256)) = false) (hr : d.contains c.toNat.toUInt8 = r) (h : Q (.bool r) s) : wpAny (model prog w) A (compareOp .In (.int c u) (.bytes d t)) Q E s :=
  in_gives (typeIs_bytes _ _ _) FB.slot_bytes_contains FB.entry_bytes_contains (FB.args_bytes_contains_2 _ _) (gives_in hc hr) h
end
theorem forget8 {h₀ h : Heap} {L : Addr} {m : Str → Option Value} {n1 n2 n3 n4 n5 n6 n7 n8 : Str} {v1 v2 v3 v4 v5 v6 v7 v8 : Value} (F : Fr h₀ L h m) (h1 : m n1 = some v1) (h2 : m n2 = some v2) (h3 : m n3 = some v3) (h4 : m n4 = some v4)
    (h5 : m n5 = some v5) (h6 : m n6 = some v6) (h7 : m n7 = some v7) (h8 : m n8 = some v8) :
    ∃ m', Fr h₀ L h m' ∧ m' n1 = some v1 ∧ m' n2 = some v2 ∧ m' n3 = some v3 ∧ m' n4 = some v4 ∧ m' n5 = some v5 ∧ m' n6 = some v6 ∧ m' n7 = some v7 ∧ m' n8 = some v8 := ⟨m, F, h1, h2, h3, h4, h5, h6, h7, h8⟩
end Mine
end
section
open PySem PySem.W PyProof.Rows
set_option Elab.async false
namespace Mine
set_option maxRecDepth 100000
set_option maxHeartbeats 8000000
open_top hd for PySem.Challenge.rw_aw6039_01
end Mine
end
section
open PySem PySem.W PySem.Calls PyProof.Rows
set_option Elab.async false
set_option maxRecDepth 100000
set_option maxHeartbeats 4000000
namespace Mine
section
variable {prog : Program} {w : World} {A : Around} {E : Value → Shared → Prop} {s : Shared} {t : Tok} {Q : Value → Shared → Prop}
theorem hex20 (h : ∀ t' k, Q (.str (Str.ofString "20") t') { s with toks := k }) : wpAny (model prog w) A (formatField (.int 32 t) (Str.ofString "02X")) Q E s :=
  KXf.field_int rfl (by decide +kernel) (by decide +kernel) (by k_dflt kxf_run_i) h
theorem hex3A (h : ∀ t' k, Q (.str (Str.ofString "3A") t') { s with toks := k }) : wpAny (model prog w) A (formatField (.int 58 t) (Str.ofString "02X")) Q E s :=
  KXf.field_int rfl (by decide +kernel) (by decide +kernel) (by k_dflt kxf_run_i) h
theorem hex40 (h : ∀ t' k, Q (.str (Str.ofString "40") t') { s with toks := k }) : wpAny (model prog w) A (formatField (.int 64 t) (Str.ofString "02X")) Q E s :=
  KXf.field_int rfl (by decide +kernel) (by decide +kernel) (by k_dflt kxf_run_i) h
theorem hexC3 (h : ∀ t' k, Q (.str (Str.ofString "C3") t') { s with toks := k }) : wpAny (model prog w) A (formatField (.int 195 t) (Str.ofString "02X")) Q E s :=
  KXf.field_int rfl (by decide +kernel) (by decide +kernel) (by k_dflt kxf_run_i) h
theorem hexA9 (h : ∀ t' k, Q (.str (Str.ofString "A9") t') { s with toks := k }) : wpAny (model prog w) A (formatField (.int 169 t) (Str.ofString "02X")) Q E s :=
  KXf.field_int rfl (by decide +kernel) (by decide +kernel) (by k_dflt kxf_run_i) h
end
theorem method_encode {M : Model} {A : Around} {E : Value → Shared → Prop} {s : Shared} {x : Str} {t : Tok} {pl : Sem Bool} {Q : Value × List Value → Shared → Prop} (h : Q (.builtin "str.encode", [.str x t]) s) : wpAny M A (getMethod (.str x t) "encode" pl) Q E s :=
  getMethod_builtin (typeIs_str _ _ _) F.plainAttrs_str F.slot_str_encode F.type_str_encode (fun a e => nomatch e) h
end Mine
end
section
open PySem PySem.W PySem.Calls PyProof.Rows
set_option Elab.async false
set_option maxRecDepth 100000
namespace Mine
/-- a value that is none or a text -/
def OptV : Value → Option Str → Prop
  | v, none => v = .none
  | v, some x => ∃ t, v = .str x t
/-- a value that is none or an int -/
def OptN : Value → Option Int → Prop
  | v, none => v = .none
  | v, some n => ∃ t, v = .int n t
def SmallO (U : Option Str) : Prop := ∀ x, U = some x → x.length ≤ 100
def SmallN (N : Option Int) : Prop := ∀ n, N = some n → 0 ≤ n ∧ n ≤ 65535
def aheadS (U P : Option Str) : Str := match P with
  | some p => (U.getD (Str.ofString "")) ++ Str.ofString ":" ++ p ++ Str.ofString "@"
  | none => match U with
    | some u => if u.length = 0 then Str.ofString "" else u ++ Str.ofString "@"
    | none => Str.ofString ""
def tailS (N : Option Int) : Str := match N with
  | some n => Str.ofString ":" ++ Str.ofString (toString n)
  | none => Str.ofString ""
def dueS (U P : Option Str) (H : Option Str) (N : Option Int) : Str := match H with
  | none => Str.ofString ""
  | some h => aheadS U P ++ h ++ tailS N
end Mine
end
section
open PySem PySem.W PySem.Calls PyProof.Rows
set_option Elab.async false
set_option maxRecDepth 100000
set_option maxHeartbeats 4000000
namespace Mine
theorem str_nil_append (x : Str) : Str.ofString "" ++ x = x := by
  rw [show Str.ofString "" = Str.empty from by decide +kernel]; exact Str.empty_append x
theorem str_append_nil (x : Str) : x ++ Str.ofString "" = x := by
  rw [show Str.ofString "" = Str.empty from by decide +kernel]; exact Str.append_empty x
theorem not_nil {u : Str} (hz : u.length ≠ 0) : (u != Str.ofString "") = true := by
  refine bne_iff_ne.mpr fun e => hz ?_
  rw [e]
  decide +kernel
theorem is_nil {u : Str} (hz : u.length = 0) : u = Str.ofString "" := by
  rw [show Str.ofString "" = Str.empty from by decide +kernel]
  obtain ⟨⟨l⟩⟩ := u
  cases l with
  | nil => rfl
  | cons _ _ => exact absurd hz (Nat.succ_ne_zero _)
theorem due_spec {w : World} {mean : ExcName → Option Value} {mg mb : Str → Option Value} {gd : Option (List Code)} {cn : Str} {cs : Scope} {a : Addr} {ccd : Value} {cl : List (Str × Addr)} {outer : List Env} {A₀ : Around} {base h₀ : Heap} {L : Addr} {m : Str → Option Value} {news : List (Addr × Obj)} {s : Shared} {Q E : Value → Shared → Prop}
    {U P H : Option Str} {N₀ : Option Int} {vu vp vh vn : Value} (hU : OptV vu U) (hP : OptV vp P) (hH : OptV vh H) (hN : OptN vn N₀) (sU : SmallO U) (sP : SmallO P) (sH : SmallO H) (sN : SmallN N₀)
    (B : Below A₀ base outer h₀) (F : Fr h₀ L s.heap m) (KX : (hd.heap_39 w.params).In h₀) (N : News h₀ L s.heap news) (T : Top hd.view_39 (looseW hd.view_39 [Str.ofString "_Quoter", Str.ofString "make_netloc"]) mean mg mb h₀) (hk : cs.kind = .function)
    (hret : ∀ (t' : Tok) (h' : Heap) (tk' : Nat), Fr h₀ L h' m → News h₀ L h' news → Q (.str (dueS U P H N₀) t') { s with heap := h', toks := tk' }) :
    wpAny (model PySem.Challenge.rw_aw6039_01.row.prog w) (ktrTop 302 7 gd cn cs L a ccd cl outer) (call (.ref 100) [vu, vp, vh, vn]) Q E s := by
  cases H with
  | none =>
    cases hH
    w_on
    w_strict (
      revert KX; k_fill; intro KX
      refine wpAny_call ?_
      k_dflt cell_enter
      k_steps
      (refine cb_retS hret ?_ (by k_asm) (cb_drop (by k_asm) (by kcj_all)); first | rfl | (simp only [dueS, aheadS, tailS, Option.getD, str_nil_append, str_append_nil]; done) | (simp [dueS, aheadS, tailS, str_nil_append, str_append_nil, *]; done)))
  | some h =>
    obtain ⟨th, rfl⟩ := hH
    have lh : h.length ≤ 100 := sH _ rfl
    cases P with
    | none =>
      cases hP
      cases U with
      | none =>
        cases hU
        cases N₀ with
        | none =>
          cases hN
          w_on
          w_strict (
            revert KX; k_fill; intro KX
            refine wpAny_call ?_
            k_dflt cell_enter
            k_steps
            (refine cb_retS hret ?_ (by k_asm) (cb_drop (by k_asm) (by kcj_all)); first | rfl | (simp only [dueS, aheadS, tailS, Option.getD, str_nil_append, str_append_nil]; done) | (simp [dueS, aheadS, tailS, str_nil_append, str_append_nil, *]; done)))
        | some n =>
          obtain ⟨tn, rfl⟩ := hN
          have ln := sN _ rfl
          w_on
          w_strict (
            revert KX; k_fill; intro KX
            refine wpAny_call ?_
            k_dflt cell_enter
            k_steps
            (refine cb_retS hret ?_ (by k_asm) (cb_drop (by k_asm) (by kcj_all)); first | rfl | (simp only [dueS, aheadS, tailS, Option.getD, str_nil_append, str_append_nil]; done) | (simp [dueS, aheadS, tailS, str_nil_append, str_append_nil, *]; done)))
      | some u =>
        obtain ⟨tu, rfl⟩ := hU
        have lu : u.length ≤ 100 := sU _ rfl
        by_cases hz : u.length = 0
        · have hu := is_nil hz
          subst hu
          cases N₀ with
          | none =>
            cases hN
            w_on
            w_strict (
              revert KX; k_fill; intro KX
              refine wpAny_call ?_
              k_dflt cell_enter
              k_steps
              (refine cb_retS hret ?_ (by k_asm) (cb_drop (by k_asm) (by kcj_all)); first | rfl | (simp only [dueS, aheadS, tailS, Option.getD, str_nil_append, str_append_nil]; done) | (simp [dueS, aheadS, tailS, str_nil_append, str_append_nil, *]; done)))
          | some n =>
            obtain ⟨tn, rfl⟩ := hN
            have ln := sN _ rfl
            w_on
            w_strict (
              revert KX; k_fill; intro KX
              refine wpAny_call ?_
              k_dflt cell_enter
              k_steps
              (refine cb_retS hret ?_ (by k_asm) (cb_drop (by k_asm) (by kcj_all)); first | rfl | (simp only [dueS, aheadS, tailS, Option.getD, str_nil_append, str_append_nil]; done) | (simp [dueS, aheadS, tailS, str_nil_append, str_append_nil, *]; done)))
        · have hne := not_nil hz
          cases N₀ with
          | none =>
            cases hN
            w_on
            w_strict (
              revert KX; k_fill; intro KX
              refine wpAny_call ?_
              k_dflt cell_enter
              k_steps
              (refine cb_retS hret ?_ (by k_asm) (cb_drop (by k_asm) (by kcj_all)); first | rfl | (simp only [dueS, aheadS, tailS, Option.getD, str_nil_append, str_append_nil]; done) | (simp [dueS, aheadS, tailS, str_nil_append, str_append_nil, *]; done)))
          | some n =>
            obtain ⟨tn, rfl⟩ := hN
            have ln := sN _ rfl
            w_on
            w_strict (
              revert KX; k_fill; intro KX
              refine wpAny_call ?_
              k_dflt cell_enter
              k_steps
              (refine cb_retS hret ?_ (by k_asm) (cb_drop (by k_asm) (by kcj_all)); first | rfl | (simp only [dueS, aheadS, tailS, Option.getD, str_nil_append, str_append_nil]; done) | (simp [dueS, aheadS, tailS, str_nil_append, str_append_nil, *]; done)))
    | some p =>
      obtain ⟨tp, rfl⟩ := hP
      have lp : p.length ≤ 100 := sP _ rfl
      cases U with
      | none =>
        cases hU
        cases N₀ with
        | none =>
          cases hN
          w_on
          w_strict (
            revert KX; k_fill; intro KX
            refine wpAny_call ?_
            k_dflt cell_enter
            k_steps
            (refine cb_retS hret ?_ (by k_asm) (cb_drop (by k_asm) (by kcj_all)); first | rfl | (simp only [dueS, aheadS, tailS, Option.getD, str_nil_append, str_append_nil]; done) | (simp [dueS, aheadS, tailS, str_nil_append, str_append_nil, *]; done)))
        | some n =>
          obtain ⟨tn, rfl⟩ := hN
          have ln := sN _ rfl
          w_on
          w_strict (
            revert KX; k_fill; intro KX
            refine wpAny_call ?_
            k_dflt cell_enter
            k_steps
            (refine cb_retS hret ?_ (by k_asm) (cb_drop (by k_asm) (by kcj_all)); first | rfl | (simp only [dueS, aheadS, tailS, Option.getD, str_nil_append, str_append_nil]; done) | (simp [dueS, aheadS, tailS, str_nil_append, str_append_nil, *]; done)))
      | some u =>
        obtain ⟨tu, rfl⟩ := hU
        have lu : u.length ≤ 100 := sU _ rfl
        cases N₀ with
        | none =>
          cases hN
          w_on
          w_strict (
            revert KX; k_fill; intro KX
            refine wpAny_call ?_
            k_dflt cell_enter
            k_steps
            (refine cb_retS hret ?_ (by k_asm) (cb_drop (by k_asm) (by kcj_all)); first | rfl | (simp only [dueS, aheadS, tailS, Option.getD, str_nil_append, str_append_nil]; done) | (simp [dueS, aheadS, tailS, str_nil_append, str_append_nil, *]; done)))
        | some n =>
          obtain ⟨tn, rfl⟩ := hN
          have ln := sN _ rfl
          w_on
          w_strict (
            revert KX; k_fill; intro KX
            refine wpAny_call ?_
            k_dflt cell_enter
            k_steps
            (refine cb_retS hret ?_ (by k_asm) (cb_drop (by k_asm) (by kcj_all)); first | rfl | (simp only [dueS, aheadS, tailS, Option.getD, str_nil_append, str_append_nil]; done) | (simp [dueS, aheadS, tailS, str_nil_append, str_append_nil, *]; done)))
end Mine
end
section
open PySem PySem.W PySem.Calls PyProof.Rows
set_option Elab.async false
set_option maxRecDepth 100000
set_option maxHeartbeats 4000000
namespace Mine
theorem make_plain {w : World} {mean : ExcName → Option Value} {mg mb : Str → Option Value} {gd : Option (List Code)} {cn : Str} {cs : Scope} {a : Addr} {ccd : Value} {cl : List (Str × Addr)} {outer : List Env} {A₀ : Around} {base h₀ : Heap} {L : Addr} {m : Str → Option Value} {news : List (Addr × Obj)} {s : Shared} {Q E : Value → Shared → Prop}
    {U P H : Option Str} {N₀ : Option Int} {vu vp vh vn : Value} (hU : OptV vu U) (hP : OptV vp P) (hH : OptV vh H) (hN : OptN vn N₀) (sU : SmallO U) (sP : SmallO P) (sH : SmallO H) (sN : SmallN N₀)
    (B : Below A₀ base outer h₀) (F : Fr h₀ L s.heap m) (KX : (hd.heap_39 w.params).In h₀) (N : News h₀ L s.heap news) (T : Top hd.view_39 (looseW hd.view_39 [Str.ofString "_Quoter", Str.ofString "make_netloc"]) mean mg mb h₀) (hk : cs.kind = .function)
    (hret : ∀ (t' : Tok) (h' : Heap) (tk' : Nat), Fr h₀ L h' m → News h₀ L h' news → Q (.str (dueS U P H N₀) t') { s with heap := h', toks := tk' }) :
    wpAny (model PySem.Challenge.rw_aw6039_01.row.prog w) (ktrTop 302 7 gd cn cs L a ccd cl outer) (call (.ref 65) [vu, vp, vh, vn, .bool false]) Q E s := by
  cases H with
  | none =>
    cases hH
    w_on
    w_strict (
      revert KX; k_fill; intro KX
      refine wpAny_call ?_
      k_dflt (refine' code_def ?k1 ?k2 ?k3 ?k4 ?k5 ?kA ?kF ?kK ?k6 ?k7 ?k8 ?k9 ?kB ?_ ?c2 ?c3 ?c4 ?c5; (case kA => exact rfl); (case kF => exact rfl); (case kK => assumption); (case k1 => k_asm); (case k2 => k_asm); (case k3 => k_asm); (case k4 => k_asm); (case k5 => k_asm); (case k6 => k_is); (case k7 => k_is); (case k8 => ktr_room); (case k9 => first | exact BindsTo.of_eq rfl | exact binds_K (by k_in) rfl (by k_is) rfl rfl rfl); (case c5 => decide); (case kB => exact locs rfl); (case c2 => exact rfl); (case c3 => exact rfl); (case c4 => exact rfl); k_whole; intro g' L' h' FG' F' N' B' X' T'; (try dsimp only); (try k_lift B'); (try k_fold))
      k_steps
      all_goals first
        | (exfalso; omega)
        | (refine cb_retS hret ?_ (by k_asm) (cb_drop (by k_asm) (by kcj_all)); first | rfl | (simp only [dueS, aheadS, tailS, Option.getD, str_nil_append, str_append_nil, Str.empty_append, Str.append_empty, Str.append_assoc]; done) | (simp [dueS, aheadS, tailS, str_nil_append, str_append_nil, Str.empty_append, Str.append_empty, Str.append_assoc, *]; done)))
  | some h =>
    obtain ⟨th, rfl⟩ := hH
    have lh : h.length ≤ 100 := sH _ rfl
    cases P with
    | none =>
      cases hP
      cases U with
      | none =>
        cases hU
        cases N₀ with
        | none =>
          cases hN
          w_on
          w_strict (
            revert KX; k_fill; intro KX
            refine wpAny_call ?_
            k_dflt (refine' code_def ?k1 ?k2 ?k3 ?k4 ?k5 ?kA ?kF ?kK ?k6 ?k7 ?k8 ?k9 ?kB ?_ ?c2 ?c3 ?c4 ?c5; (case kA => exact rfl); (case kF => exact rfl); (case kK => assumption); (case k1 => k_asm); (case k2 => k_asm); (case k3 => k_asm); (case k4 => k_asm); (case k5 => k_asm); (case k6 => k_is); (case k7 => k_is); (case k8 => ktr_room); (case k9 => first | exact BindsTo.of_eq rfl | exact binds_K (by k_in) rfl (by k_is) rfl rfl rfl); (case c5 => decide); (case kB => exact locs rfl); (case c2 => exact rfl); (case c3 => exact rfl); (case c4 => exact rfl); k_whole; intro g' L' h' FG' F' N' B' X' T'; (try dsimp only); (try k_lift B'); (try k_fold))
            k_steps
            all_goals first
              | (exfalso; omega)
              | (refine cb_retS hret ?_ (by k_asm) (cb_drop (by k_asm) (by kcj_all)); first | rfl | (simp only [dueS, aheadS, tailS, Option.getD, str_nil_append, str_append_nil, Str.empty_append, Str.append_empty, Str.append_assoc]; done) | (simp [dueS, aheadS, tailS, str_nil_append, str_append_nil, Str.empty_append, Str.append_empty, Str.append_assoc, *]; done)))
        | some n =>
          obtain ⟨tn, rfl⟩ := hN
          have ln := sN _ rfl
          w_on
          w_strict (
            revert KX; k_fill; intro KX
            refine wpAny_call ?_
            k_dflt (refine' code_def ?k1 ?k2 ?k3 ?k4 ?k5 ?kA ?kF ?kK ?k6 ?k7 ?k8 ?k9 ?kB ?_ ?c2 ?c3 ?c4 ?c5; (case kA => exact rfl); (case kF => exact rfl); (case kK => assumption); (case k1 => k_asm); (case k2 => k_asm); (case k3 => k_asm); (case k4 => k_asm); (case k5 => k_asm); (case k6 => k_is); (case k7 => k_is); (case k8 => ktr_room); (case k9 => first | exact BindsTo.of_eq rfl | exact binds_K (by k_in) rfl (by k_is) rfl rfl rfl); (case c5 => decide); (case kB => exact locs rfl); (case c2 => exact rfl); (case c3 => exact rfl); (case c4 => exact rfl); k_whole; intro g' L' h' FG' F' N' B' X' T'; (try dsimp only); (try k_lift B'); (try k_fold))
            k_steps
            all_goals first
              | (exfalso; omega)
              | (refine cb_retS hret ?_ (by k_asm) (cb_drop (by k_asm) (by kcj_all)); first | rfl | (simp only [dueS, aheadS, tailS, Option.getD, str_nil_append, str_append_nil, Str.empty_append, Str.append_empty, Str.append_assoc]; done) | (simp [dueS, aheadS, tailS, str_nil_append, str_append_nil, Str.empty_append, Str.append_empty, Str.append_assoc, *]; done)))
      | some u =>
        obtain ⟨tu, rfl⟩ := hU
        have lu : u.length ≤ 100 := sU _ rfl
        by_cases hz : u.length = 0
        · have hu := is_nil hz
          subst hu
          cases N₀ with
          | none =>
            cases hN
            w_on
            w_strict (
              revert KX; k_fill; intro KX
              refine wpAny_call ?_
              k_dflt (refine' code_def ?k1 ?k2 ?k3 ?k4 ?k5 ?kA ?kF ?kK ?k6 ?k7 ?k8 ?k9 ?kB ?_ ?c2 ?c3 ?c4 ?c5; (case kA => exact rfl); (case kF => exact rfl); (case kK => assumption); (case k1 => k_asm); (case k2 => k_asm); (case k3 => k_asm); (case k4 => k_asm); (case k5 => k_asm); (case k6 => k_is); (case k7 => k_is); (case k8 => ktr_room); (case k9 => first | exact BindsTo.of_eq rfl | exact binds_K (by k_in) rfl (by k_is) rfl rfl rfl); (case c5 => decide); (case kB => exact locs rfl); (case c2 => exact rfl); (case c3 => exact rfl); (case c4 => exact rfl); k_whole; intro g' L' h' FG' F' N' B' X' T'; (try dsimp only); (try k_lift B'); (try k_fold))
              k_steps
              all_goals first
                | (exfalso; omega)
                | (refine cb_retS hret ?_ (by k_asm) (cb_drop (by k_asm) (by kcj_all)); first | rfl | (simp only [dueS, aheadS, tailS, Option.getD, str_nil_append, str_append_nil, Str.empty_append, Str.append_empty, Str.append_assoc]; done) | (simp [dueS, aheadS, tailS, str_nil_append, str_append_nil, Str.empty_append, Str.append_empty, Str.append_assoc, *]; done)))
          | some n =>
            obtain ⟨tn, rfl⟩ := hN
            have ln := sN _ rfl
            w_on
            w_strict (
              revert KX; k_fill; intro KX
              refine wpAny_call ?_
              k_dflt (refine' code_def ?k1 ?k2 ?k3 ?k4 ?k5 ?kA ?kF ?kK ?k6 ?k7 ?k8 ?k9 ?kB ?_ ?c2 ?c3 ?c4 ?c5; (case kA => exact rfl); (case kF => exact rfl); (case kK => assumption); (case k1 => k_asm); (case k2 => k_asm); (case k3 => k_asm); (case k4 => k_asm); (case k5 => k_asm); (case k6 => k_is); (case k7 => k_is); (case k8 => ktr_room); (case k9 => first | exact BindsTo.of_eq rfl | exact binds_K (by k_in) rfl (by k_is) rfl rfl rfl); (case c5 => decide); (case kB => exact locs rfl); (case c2 => exact rfl); (case c3 => exact rfl); (case c4 => exact rfl); k_whole; intro g' L' h' FG' F' N' B' X' T'; (try dsimp only); (try k_lift B'); (try k_fold))
              k_steps
              all_goals first
                | (exfalso; omega)
                | (refine cb_retS hret ?_ (by k_asm) (cb_drop (by k_asm) (by kcj_all)); first | rfl | (simp only [dueS, aheadS, tailS, Option.getD, str_nil_append, str_append_nil, Str.empty_append, Str.append_empty, Str.append_assoc]; done) | (simp [dueS, aheadS, tailS, str_nil_append, str_append_nil, Str.empty_append, Str.append_empty, Str.append_assoc, *]; done)))
        · have hne := not_nil hz
          have hzi : (u.length : Int) ≠ 0 := by omega
          cases N₀ with
          | none =>
            cases hN
            w_on
            w_strict (
              revert KX; k_fill; intro KX
              refine wpAny_call ?_
              k_dflt (refine' code_def ?k1 ?k2 ?k3 ?k4 ?k5 ?kA ?kF ?kK ?k6 ?k7 ?k8 ?k9 ?kB ?_ ?c2 ?c3 ?c4 ?c5; (case kA => exact rfl); (case kF => exact rfl); (case kK => assumption); (case k1 => k_asm); (case k2 => k_asm); (case k3 => k_asm); (case k4 => k_asm); (case k5 => k_asm); (case k6 => k_is); (case k7 => k_is); (case k8 => ktr_room); (case k9 => first | exact BindsTo.of_eq rfl | exact binds_K (by k_in) rfl (by k_is) rfl rfl rfl); (case c5 => decide); (case kB => exact locs rfl); (case c2 => exact rfl); (case c3 => exact rfl); (case c4 => exact rfl); k_whole; intro g' L' h' FG' F' N' B' X' T'; (try dsimp only); (try k_lift B'); (try k_fold))
              k_steps
              all_goals first
                | (exfalso; omega)
                | (refine cb_retS hret ?_ (by k_asm) (cb_drop (by k_asm) (by kcj_all)); first | rfl | (simp only [dueS, aheadS, tailS, Option.getD, str_nil_append, str_append_nil, Str.empty_append, Str.append_empty, Str.append_assoc]; done) | (simp [dueS, aheadS, tailS, str_nil_append, str_append_nil, Str.empty_append, Str.append_empty, Str.append_assoc, *]; done)))
          | some n =>
            obtain ⟨tn, rfl⟩ := hN
            have ln := sN _ rfl
            w_on
            w_strict (
              revert KX; k_fill; intro KX
              refine wpAny_call ?_
              k_dflt (refine' code_def ?k1 ?k2 ?k3 ?k4 ?k5 ?kA ?kF ?kK ?k6 ?k7 ?k8 ?k9 ?kB ?_ ?c2 ?c3 ?c4 ?c5; (case kA => exact rfl); (case kF => exact rfl); (case kK => assumption); (case k1 => k_asm); (case k2 => k_asm); (case k3 => k_asm); (case k4 => k_asm); (case k5 => k_asm); (case k6 => k_is); (case k7 => k_is); (case k8 => ktr_room); (case k9 => first | exact BindsTo.of_eq rfl | exact binds_K (by k_in) rfl (by k_is) rfl rfl rfl); (case c5 => decide); (case kB => exact locs rfl); (case c2 => exact rfl); (case c3 => exact rfl); (case c4 => exact rfl); k_whole; intro g' L' h' FG' F' N' B' X' T'; (try dsimp only); (try k_lift B'); (try k_fold))
              k_steps
              all_goals first
                | (exfalso; omega)
                | (refine cb_retS hret ?_ (by k_asm) (cb_drop (by k_asm) (by kcj_all)); first | rfl | (simp only [dueS, aheadS, tailS, Option.getD, str_nil_append, str_append_nil, Str.empty_append, Str.append_empty, Str.append_assoc]; done) | (simp [dueS, aheadS, tailS, str_nil_append, str_append_nil, Str.empty_append, Str.append_empty, Str.append_assoc, *]; done)))
    | some p =>
      obtain ⟨tp, rfl⟩ := hP
      have lp : p.length ≤ 100 := sP _ rfl
      cases U with
      | none =>
        cases hU
        cases N₀ with
        | none =>
          cases hN
          w_on
          w_strict (
            revert KX; k_fill; intro KX
            refine wpAny_call ?_
            k_dflt (refine' code_def ?k1 ?k2 ?k3 ?k4 ?k5 ?kA ?kF ?kK ?k6 ?k7 ?k8 ?k9 ?kB ?_ ?c2 ?c3 ?c4 ?c5; (case kA => exact rfl); (case kF => exact rfl); (case kK => assumption); (case k1 => k_asm); (case k2 => k_asm); (case k3 => k_asm); (case k4 => k_asm); (case k5 => k_asm); (case k6 => k_is); (case k7 => k_is); (case k8 => ktr_room); (case k9 => first | exact BindsTo.of_eq rfl | exact binds_K (by k_in) rfl (by k_is) rfl rfl rfl); (case c5 => decide); (case kB => exact locs rfl); (case c2 => exact rfl); (case c3 => exact rfl); (case c4 => exact rfl); k_whole; intro g' L' h' FG' F' N' B' X' T'; (try dsimp only); (try k_lift B'); (try k_fold))
            k_steps
            all_goals first
              | (exfalso; omega)
              | (refine cb_retS hret ?_ (by k_asm) (cb_drop (by k_asm) (by kcj_all)); first | rfl | (simp only [dueS, aheadS, tailS, Option.getD, str_nil_append, str_append_nil, Str.empty_append, Str.append_empty, Str.append_assoc]; done) | (simp [dueS, aheadS, tailS, str_nil_append, str_append_nil, Str.empty_append, Str.append_empty, Str.append_assoc, *]; done)))
        | some n =>
          obtain ⟨tn, rfl⟩ := hN
          have ln := sN _ rfl
          w_on
          w_strict (
            revert KX; k_fill; intro KX
            refine wpAny_call ?_
            k_dflt (refine' code_def ?k1 ?k2 ?k3 ?k4 ?k5 ?kA ?kF ?kK ?k6 ?k7 ?k8 ?k9 ?kB ?_ ?c2 ?c3 ?c4 ?c5; (case kA => exact rfl); (case kF => exact rfl); (case kK => assumption); (case k1 => k_asm); (case k2 => k_asm); (case k3 => k_asm); (case k4 => k_asm); (case k5 => k_asm); (case k6 => k_is); (case k7 => k_is); (case k8 => ktr_room); (case k9 => first | exact BindsTo.of_eq rfl | exact binds_K (by k_in) rfl (by k_is) rfl rfl rfl); (case c5 => decide); (case kB => exact locs rfl); (case c2 => exact rfl); (case c3 => exact rfl); (case c4 => exact rfl); k_whole; intro g' L' h' FG' F' N' B' X' T'; (try dsimp only); (try k_lift B'); (try k_fold))
            k_steps
            all_goals first
              | (exfalso; omega)
              | (refine cb_retS hret ?_ (by k_asm) (cb_drop (by k_asm) (by kcj_all)); first | rfl | (simp only [dueS, aheadS, tailS, Option.getD, str_nil_append, str_append_nil, Str.empty_append, Str.append_empty, Str.append_assoc]; done) | (simp [dueS, aheadS, tailS, str_nil_append, str_append_nil, Str.empty_append, Str.append_empty, Str.append_assoc, *]; done)))
      | some u =>
        obtain ⟨tu, rfl⟩ := hU
        have lu : u.length ≤ 100 := sU _ rfl
        by_cases hz : u.length = 0
        · have hu := is_nil hz
          subst hu
          cases N₀ with
          | none =>
            cases hN
            w_on
            w_strict (
              revert KX; k_fill; intro KX
              refine wpAny_call ?_
              k_dflt (refine' code_def ?k1 ?k2 ?k3 ?k4 ?k5 ?kA ?kF ?kK ?k6 ?k7 ?k8 ?k9 ?kB ?_ ?c2 ?c3 ?c4 ?c5; (case kA => exact rfl); (case kF => exact rfl); (case kK => assumption); (case k1 => k_asm); (case k2 => k_asm); (case k3 => k_asm); (case k4 => k_asm); (case k5 => k_asm); (case k6 => k_is); (case k7 => k_is); (case k8 => ktr_room); (case k9 => first | exact BindsTo.of_eq rfl | exact binds_K (by k_in) rfl (by k_is) rfl rfl rfl); (case c5 => decide); (case kB => exact locs rfl); (case c2 => exact rfl); (case c3 => exact rfl); (case c4 => exact rfl); k_whole; intro g' L' h' FG' F' N' B' X' T'; (try dsimp only); (try k_lift B'); (try k_fold))
              k_steps
              all_goals first
                | (exfalso; omega)
                | (refine cb_retS hret ?_ (by k_asm) (cb_drop (by k_asm) (by kcj_all)); first | rfl | (simp only [dueS, aheadS, tailS, Option.getD, str_nil_append, str_append_nil, Str.empty_append, Str.append_empty, Str.append_assoc]; done) | (simp [dueS, aheadS, tailS, str_nil_append, str_append_nil, Str.empty_append, Str.append_empty, Str.append_assoc, *]; done)))
          | some n =>
            obtain ⟨tn, rfl⟩ := hN
            have ln := sN _ rfl
            w_on
            w_strict (
              revert KX; k_fill; intro KX
              refine wpAny_call ?_
              k_dflt (refine' code_def ?k1 ?k2 ?k3 ?k4 ?k5 ?kA ?kF ?kK ?k6 ?k7 ?k8 ?k9 ?kB ?_ ?c2 ?c3 ?c4 ?c5; (case kA => exact rfl); (case kF => exact rfl); (case kK => assumption); (case k1 => k_asm); (case k2 => k_asm); (case k3 => k_asm); (case k4 => k_asm); (case k5 => k_asm); (case k6 => k_is); (case k7 => k_is); (case k8 => ktr_room); (case k9 => first | exact BindsTo.of_eq rfl | exact binds_K (by k_in) rfl (by k_is) rfl rfl rfl); (case c5 => decide); (case kB => exact locs rfl); (case c2 => exact rfl); (case c3 => exact rfl); (case c4 => exact rfl); k_whole; intro g' L' h' FG' F' N' B' X' T'; (try dsimp only); (try k_lift B'); (try k_fold))
              k_steps
              all_goals first
                | (exfalso; omega)
                | (refine cb_retS hret ?_ (by k_asm) (cb_drop (by k_asm) (by kcj_all)); first | rfl | (simp only [dueS, aheadS, tailS, Option.getD, str_nil_append, str_append_nil, Str.empty_append, Str.append_empty, Str.append_assoc]; done) | (simp [dueS, aheadS, tailS, str_nil_append, str_append_nil, Str.empty_append, Str.append_empty, Str.append_assoc, *]; done)))
        · have hne := not_nil hz
          have hzi : (u.length : Int) ≠ 0 := by omega
          cases N₀ with
          | none =>
            cases hN
            w_on
            w_strict (
              revert KX; k_fill; intro KX
              refine wpAny_call ?_
              k_dflt (refine' code_def ?k1 ?k2 ?k3 ?k4 ?k5 ?kA ?kF ?kK ?k6 ?k7 ?k8 ?k9 ?kB ?_ ?c2 ?c3 ?c4 ?c5; (case kA => exact rfl); (case kF => exact rfl); (case kK => assumption); (case k1 => k_asm); (case k2 => k_asm); (case k3 => k_asm); (case k4 => k_asm); (case k5 => k_asm); (case k6 => k_is); (case k7 => k_is); (case k8 => ktr_room); (case k9 => first | exact BindsTo.of_eq rfl | exact binds_K (by k_in) rfl (by k_is) rfl rfl rfl); (case c5 => decide); (case kB => exact locs rfl); (case c2 => exact rfl); (case c3 => exact rfl); (case c4 => exact rfl); k_whole; intro g' L' h' FG' F' N' B' X' T'; (try dsimp only); (try k_lift B'); (try k_fold))
              k_steps
              all_goals first
                | (exfalso; omega)
                | (refine cb_retS hret ?_ (by k_asm) (cb_drop (by k_asm) (by kcj_all)); first | rfl | (simp only [dueS, aheadS, tailS, Option.getD, str_nil_append, str_append_nil, Str.empty_append, Str.append_empty, Str.append_assoc]; done) | (simp [dueS, aheadS, tailS, str_nil_append, str_append_nil, Str.empty_append, Str.append_empty, Str.append_assoc, *]; done)))
          | some n =>
            obtain ⟨tn, rfl⟩ := hN
            have ln := sN _ rfl
            w_on
            w_strict (
              revert KX; k_fill; intro KX
              refine wpAny_call ?_
              k_dflt (refine' code_def ?k1 ?k2 ?k3 ?k4 ?k5 ?kA ?kF ?kK ?k6 ?k7 ?k8 ?k9 ?kB ?_ ?c2 ?c3 ?c4 ?c5; (case kA => exact rfl); (case kF => exact rfl); (case kK => assumption); (case k1 => k_asm); (case k2 => k_asm); (case k3 => k_asm); (case k4 => k_asm); (case k5 => k_asm); (case k6 => k_is); (case k7 => k_is); (case k8 => ktr_room); (case k9 => first | exact BindsTo.of_eq rfl | exact binds_K (by k_in) rfl (by k_is) rfl rfl rfl); (case c5 => decide); (case kB => exact locs rfl); (case c2 => exact rfl); (case c3 => exact rfl); (case c4 => exact rfl); k_whole; intro g' L' h' FG' F' N' B' X' T'; (try dsimp only); (try k_lift B'); (try k_fold))
              k_steps
              all_goals first
                | (exfalso; omega)
                | (refine cb_retS hret ?_ (by k_asm) (cb_drop (by k_asm) (by kcj_all)); first | rfl | (simp only [dueS, aheadS, tailS, Option.getD, str_nil_append, str_append_nil, Str.empty_append, Str.append_empty, Str.append_assoc]; done) | (simp [dueS, aheadS, tailS, str_nil_append, str_append_nil, Str.empty_append, Str.append_empty, Str.append_assoc, *]; done)))
end Mine
end
section
open PySem PySem.W PySem.Calls PyProof.Rows
set_option Elab.async false
set_option maxRecDepth 100000
set_option maxHeartbeats 4000000
namespace Mine
local macro_rules | `(tactic| walk_at "call builtin:str.partition") => `(tactic| (k_here; (try dsimp only [List.nil_append, List.cons_append]); (with_reducible show wpAny _ _ (call (Value.builtin "str.partition") [Value.str _ _, Value.str _ _]) _ _ _); (refine KXpa.partition (by k_asm) (by k_asm) (by decide) (by assumption) (by assumption) (by assumption) (by first | (with_reducible assumption) | kt_fact) ?_); intro D' _ _ _ _ _ F' N' l1; (try k_lt l1)))
local macro_rules | `(tactic| walk_at "call builtin:str.rpartition") => `(tactic| (k_here; (try dsimp only [List.nil_append, List.cons_append]); (with_reducible show wpAny _ _ (call (Value.builtin "str.rpartition") [Value.str _ _, Value.str _ _]) _ _ _); (refine KXpa.rpartition (by k_asm) (by k_asm) (by decide) (by assumption) (by assumption) (by assumption) (by first | (with_reducible assumption) | kt_fact) ?_); intro D' _ _ _ _ _ F' N' l1; (try k_lt l1)))
structure PortPart (hi : Str) (H : Option Str) (N : Option Int) (hn s2 ps : Str) : Prop where
  len : hi.length ≤ sizeLine
  lhn : hn.length ≤ 600
  q1 : (Txt.partition hi (Str.ofString ":")).1 = hn
  q2 : (Txt.partition hi (Str.ofString ":")).2.1 = s2
  q3 : (Txt.partition hi (Str.ofString ":")).2.2 = ps
  host : H = if hn.length = 0 then none else some hn
  port : (ps = Str.ofString "" ∧ N = none) ∨ (ps.length ≠ 0 ∧ ps.length ≤ 640 ∧ ∃ n, PySem.intText? ps = some n ∧ 0 ≤ n ∧ n ≤ 65535 ∧ N = some n)
structure UserPart (D hi : Str) (U P : Option Str) (ui un sp pw : Str) : Prop where
  len : D.length ≤ sizeLine
  r1 : (Txt.rpartition D (Str.ofString "@")).1 = ui
  r2 : (Txt.rpartition D (Str.ofString "@")).2.1 = Str.ofString "@"
  r3 : (Txt.rpartition D (Str.ofString "@")).2.2 = hi
  len' : ui.length ≤ sizeLine
  lun : un.length ≤ 600
  lpw : pw.length ≤ 600
  p1 : (Txt.partition ui (Str.ofString ":")).1 = un
  p2 : (Txt.partition ui (Str.ofString ":")).2.1 = sp
  p3 : (Txt.partition ui (Str.ofString ":")).2.2 = pw
  user : U = if un.length = 0 then none else some un
  pass : (sp = Str.ofString "" ∧ P = none) ∨ (sp = Str.ofString ":" ∧ P = some pw)
theorem split_mem1 {a b : Addr × Obj} {news : List (Addr × Obj)} : ∀ p ∈ a :: news, p ∈ a :: b :: news := by
  intro p hp
  cases hp with
  | head => exact .head _
  | tail _ h => exact .tail _ (.tail _ h)
theorem split_mem3 {a b c d : Addr × Obj} {news : List (Addr × Obj)} : ∀ p ∈ a :: news, p ∈ a :: b :: c :: d :: news := by
  intro p hp
  cases hp with
  | head => exact .head _
  | tail _ h => exact .tail _ (.tail _ (.tail _ (.tail _ h)))
def SplitAs (D : Str) (U P H : Option Str) (N : Option Int) : Prop :=
  ((Builtin.Str.occurrences D (Str.ofString "@") 0 D.length 1).isEmpty = true ∧ U = none ∧ P = none ∧ ∃ hn s2 ps, PortPart D H N hn s2 ps)
  ∨ ((Builtin.Str.occurrences D (Str.ofString "@") 0 D.length 1).isEmpty = false ∧ ∃ hi ui un sp pw hn s2 ps, UserPart D hi U P ui un sp pw ∧ PortPart hi H N hn s2 ps)
theorem split_spec {w : World} {mean : ExcName → Option Value} {mg mb : Str → Option Value} {gd : Option (List Code)} {cn : Str} {cs : Scope} {a : Addr} {ccd : Value} {cl : List (Str × Addr)} {outer : List Env} {A₀ : Around} {base h₀ : Heap} {L : Addr} {m : Str → Option Value} {news : List (Addr × Obj)} {s : Shared} {Q E : Value → Shared → Prop}
    {U P H : Option Str} {N₀ : Option Int} {D : Str} {t : Tok} (hs : SplitAs D U P H N₀)
    (B : Below A₀ base outer h₀) (F : Fr h₀ L s.heap m) (KX : (hd.heap_39 w.params).In h₀) (N : News h₀ L s.heap news) (T : Top hd.view_39 (looseW hd.view_39 [Str.ofString "_Quoter", Str.ofString "make_netloc"]) mean mg mb h₀) (hk : cs.kind = .function)
    (hret : ∀ (r : Addr) (v1 v2 v3 v4 : Value) (h' : Heap) (tk' : Nat), OptV v1 U → OptV v2 P → OptV v3 H → OptN v4 N₀ → Fr h₀ L h' m → News h₀ L h' ((r, { cls := .type "tuple", data := .seq #[v1, v2, v3, v4] }) :: news) → (∀ a ∈ news, a.1 < r) → Q (.ref r) { s with heap := h', toks := tk' }) :
    wpAny (model PySem.Challenge.rw_aw6039_01.row.prog w) (ktrTop 302 7 gd cn cs L a ccd cl outer) (call (.ref 57) [.str D t]) Q E s := by
  rcases hs with ⟨hc, hU, hP, hn, s2, ps, PP⟩ | ⟨hc, hi, ui, un, sp, pw, hn, s2, ps, UP, PP⟩
  · skip
    obtain ⟨ln, lhn, q1, q2, q3, hH, hp⟩ := PP
    rcases hp with ⟨rfl, hN'⟩ | ⟨hpz, hpl, n, hin, n0, n1, hN'⟩
    · by_cases hz : hn.length = 0
      · rw [if_pos hz] at hH
        have hu := is_nil hz
        subst hu
        w_on
        w_strict (
          revert KX; k_fill; intro KX
          refine wpAny_call ?_
          k_dflt (refine' code_def ?k1 ?k2 ?k3 ?k4 ?k5 ?kA ?kF ?kK ?k6 ?k7 ?k8 ?k9 ?kB ?_ ?c2 ?c3 ?c4 ?c5; (case kA => exact rfl); (case kF => exact rfl); (case kK => assumption); (case k1 => k_asm); (case k2 => k_asm); (case k3 => k_asm); (case k4 => k_asm); (case k5 => k_asm); (case k6 => k_is); (case k7 => k_is); (case k8 => ktr_room); (case k9 => first | exact BindsTo.of_eq rfl | exact binds_K (by k_in) rfl (by k_is) rfl rfl rfl); (case c5 => decide); (case kB => exact locs rfl); (case c2 => exact rfl); (case c3 => exact rfl); (case c4 => exact rfl); k_whole; intro g' L' h' FG' F' N' B' X' T'; (try dsimp only); (try k_lift B'); (try k_fold))
          k_steps
          all_goals first
            | (exfalso; omega)
            | (subst hU; subst hP; subst hH; subst hN'; refine hret _ _ _ _ _ _ _ rfl rfl rfl rfl (by k_asm) (cb_drop (by k_asm) split_mem1) (by first | exact tb_ltOf (And.right (by assumption)) | exact tb_ltOf (And.right (And.right (And.right (by assumption)))))))
      · rw [if_neg hz] at hH
        have hne := not_nil hz
        have hzi : (hn.length : Int) ≠ 0 := by omega
        w_on
        w_strict (
          revert KX; k_fill; intro KX
          refine wpAny_call ?_
          k_dflt (refine' code_def ?k1 ?k2 ?k3 ?k4 ?k5 ?kA ?kF ?kK ?k6 ?k7 ?k8 ?k9 ?kB ?_ ?c2 ?c3 ?c4 ?c5; (case kA => exact rfl); (case kF => exact rfl); (case kK => assumption); (case k1 => k_asm); (case k2 => k_asm); (case k3 => k_asm); (case k4 => k_asm); (case k5 => k_asm); (case k6 => k_is); (case k7 => k_is); (case k8 => ktr_room); (case k9 => first | exact BindsTo.of_eq rfl | exact binds_K (by k_in) rfl (by k_is) rfl rfl rfl); (case c5 => decide); (case kB => exact locs rfl); (case c2 => exact rfl); (case c3 => exact rfl); (case c4 => exact rfl); k_whole; intro g' L' h' FG' F' N' B' X' T'; (try dsimp only); (try k_lift B'); (try k_fold))
          k_steps
          all_goals first
            | (exfalso; omega)
            | (subst hU; subst hP; subst hH; subst hN'; refine hret _ _ _ _ _ _ _ rfl rfl ⟨_, rfl⟩ rfl (by k_asm) (cb_drop (by k_asm) split_mem1) (by first | exact tb_ltOf (And.right (by assumption)) | exact tb_ltOf (And.right (And.right (And.right (by assumption)))))))
    · have hpne := not_nil hpz
      have hpzi : (ps.length : Int) ≠ 0 := by omega
      by_cases hz : hn.length = 0
      · rw [if_pos hz] at hH
        have hu := is_nil hz
        subst hu
        w_on
        w_strict (
          revert KX; k_fill; intro KX
          refine wpAny_call ?_
          k_dflt (refine' code_def ?k1 ?k2 ?k3 ?k4 ?k5 ?kA ?kF ?kK ?k6 ?k7 ?k8 ?k9 ?kB ?_ ?c2 ?c3 ?c4 ?c5; (case kA => exact rfl); (case kF => exact rfl); (case kK => assumption); (case k1 => k_asm); (case k2 => k_asm); (case k3 => k_asm); (case k4 => k_asm); (case k5 => k_asm); (case k6 => k_is); (case k7 => k_is); (case k8 => ktr_room); (case k9 => first | exact BindsTo.of_eq rfl | exact binds_K (by k_in) rfl (by k_is) rfl rfl rfl); (case c5 => decide); (case kB => exact locs rfl); (case c2 => exact rfl); (case c3 => exact rfl); (case c4 => exact rfl); k_whole; intro g' L' h' FG' F' N' B' X' T'; (try dsimp only); (try k_lift B'); (try k_fold))
          k_steps
          all_goals first
            | (exfalso; omega)
            | (subst hU; subst hP; subst hH; subst hN'; refine hret _ _ _ _ _ _ _ rfl rfl rfl ⟨_, rfl⟩ (by k_asm) (cb_drop (by k_asm) split_mem1) (by first | exact tb_ltOf (And.right (by assumption)) | exact tb_ltOf (And.right (And.right (And.right (by assumption)))))))
      · rw [if_neg hz] at hH
        have hne := not_nil hz
        have hzi : (hn.length : Int) ≠ 0 := by omega
        w_on
        w_strict (
          revert KX; k_fill; intro KX
          refine wpAny_call ?_
          k_dflt (refine' code_def ?k1 ?k2 ?k3 ?k4 ?k5 ?kA ?kF ?kK ?k6 ?k7 ?k8 ?k9 ?kB ?_ ?c2 ?c3 ?c4 ?c5; (case kA => exact rfl); (case kF => exact rfl); (case kK => assumption); (case k1 => k_asm); (case k2 => k_asm); (case k3 => k_asm); (case k4 => k_asm); (case k5 => k_asm); (case k6 => k_is); (case k7 => k_is); (case k8 => ktr_room); (case k9 => first | exact BindsTo.of_eq rfl | exact binds_K (by k_in) rfl (by k_is) rfl rfl rfl); (case c5 => decide); (case kB => exact locs rfl); (case c2 => exact rfl); (case c3 => exact rfl); (case c4 => exact rfl); k_whole; intro g' L' h' FG' F' N' B' X' T'; (try dsimp only); (try k_lift B'); (try k_fold))
          k_steps
          all_goals first
            | (exfalso; omega)
            | (subst hU; subst hP; subst hH; subst hN'; refine hret _ _ _ _ _ _ _ rfl rfl ⟨_, rfl⟩ ⟨_, rfl⟩ (by k_asm) (cb_drop (by k_asm) split_mem1) (by first | exact tb_ltOf (And.right (by assumption)) | exact tb_ltOf (And.right (And.right (And.right (by assumption)))))))
  · obtain ⟨lD, r1, r2, r3, lui, lun, lpw, p1, p2, p3, hU, hpw⟩ := UP
    rcases hpw with ⟨rfl, hP⟩ | ⟨rfl, hP⟩
    · by_cases huz : un.length = 0
      · rw [if_pos huz] at hU
        have huu := is_nil huz
        subst huu
        obtain ⟨ln, lhn, q1, q2, q3, hH, hp⟩ := PP
        rcases hp with ⟨rfl, hN'⟩ | ⟨hpz, hpl, n, hin, n0, n1, hN'⟩
        · by_cases hz : hn.length = 0
          · rw [if_pos hz] at hH
            have hu := is_nil hz
            subst hu
            w_on
            w_strict (
              revert KX; k_fill; intro KX
              refine wpAny_call ?_
              k_dflt (refine' code_def ?k1 ?k2 ?k3 ?k4 ?k5 ?kA ?kF ?kK ?k6 ?k7 ?k8 ?k9 ?kB ?_ ?c2 ?c3 ?c4 ?c5; (case kA => exact rfl); (case kF => exact rfl); (case kK => assumption); (case k1 => k_asm); (case k2 => k_asm); (case k3 => k_asm); (case k4 => k_asm); (case k5 => k_asm); (case k6 => k_is); (case k7 => k_is); (case k8 => ktr_room); (case k9 => first | exact BindsTo.of_eq rfl | exact binds_K (by k_in) rfl (by k_is) rfl rfl rfl); (case c5 => decide); (case kB => exact locs rfl); (case c2 => exact rfl); (case c3 => exact rfl); (case c4 => exact rfl); k_whole; intro g' L' h' FG' F' N' B' X' T'; (try dsimp only); (try k_lift B'); (try k_fold))
              k_steps
              all_goals first
                | (exfalso; omega)
                | (subst hU; subst hP; subst hH; subst hN'; refine hret _ _ _ _ _ _ _ rfl rfl rfl rfl (by k_asm) (cb_drop (by k_asm) split_mem3) (by first | exact tb_ltOf (And.right (by assumption)) | exact tb_ltOf (And.right (And.right (And.right (by assumption)))))))
          · rw [if_neg hz] at hH
            have hne := not_nil hz
            have hzi : (hn.length : Int) ≠ 0 := by omega
            w_on
            w_strict (
              revert KX; k_fill; intro KX
              refine wpAny_call ?_
              k_dflt (refine' code_def ?k1 ?k2 ?k3 ?k4 ?k5 ?kA ?kF ?kK ?k6 ?k7 ?k8 ?k9 ?kB ?_ ?c2 ?c3 ?c4 ?c5; (case kA => exact rfl); (case kF => exact rfl); (case kK => assumption); (case k1 => k_asm); (case k2 => k_asm); (case k3 => k_asm); (case k4 => k_asm); (case k5 => k_asm); (case k6 => k_is); (case k7 => k_is); (case k8 => ktr_room); (case k9 => first | exact BindsTo.of_eq rfl | exact binds_K (by k_in) rfl (by k_is) rfl rfl rfl); (case c5 => decide); (case kB => exact locs rfl); (case c2 => exact rfl); (case c3 => exact rfl); (case c4 => exact rfl); k_whole; intro g' L' h' FG' F' N' B' X' T'; (try dsimp only); (try k_lift B'); (try k_fold))
              k_steps
              all_goals first
                | (exfalso; omega)
                | (subst hU; subst hP; subst hH; subst hN'; refine hret _ _ _ _ _ _ _ rfl rfl ⟨_, rfl⟩ rfl (by k_asm) (cb_drop (by k_asm) split_mem3) (by first | exact tb_ltOf (And.right (by assumption)) | exact tb_ltOf (And.right (And.right (And.right (by assumption)))))))
        · have hpne := not_nil hpz
          have hpzi : (ps.length : Int) ≠ 0 := by omega
          by_cases hz : hn.length = 0
          · rw [if_pos hz] at hH
            have hu := is_nil hz
            subst hu
            w_on
            w_strict (
              revert KX; k_fill; intro KX
              refine wpAny_call ?_
              k_dflt (refine' code_def ?k1 ?k2 ?k3 ?k4 ?k5 ?kA ?kF ?kK ?k6 ?k7 ?k8 ?k9 ?kB ?_ ?c2 ?c3 ?c4 ?c5; (case kA => exact rfl); (case kF => exact rfl); (case kK => assumption); (case k1 => k_asm); (case k2 => k_asm); (case k3 => k_asm); (case k4 => k_asm); (case k5 => k_asm); (case k6 => k_is); (case k7 => k_is); (case k8 => ktr_room); (case k9 => first | exact BindsTo.of_eq rfl | exact binds_K (by k_in) rfl (by k_is) rfl rfl rfl); (case c5 => decide); (case kB => exact locs rfl); (case c2 => exact rfl); (case c3 => exact rfl); (case c4 => exact rfl); k_whole; intro g' L' h' FG' F' N' B' X' T'; (try dsimp only); (try k_lift B'); (try k_fold))
              k_steps
              all_goals first
                | (exfalso; omega)
                | (subst hU; subst hP; subst hH; subst hN'; refine hret _ _ _ _ _ _ _ rfl rfl rfl ⟨_, rfl⟩ (by k_asm) (cb_drop (by k_asm) split_mem3) (by first | exact tb_ltOf (And.right (by assumption)) | exact tb_ltOf (And.right (And.right (And.right (by assumption)))))))
          · rw [if_neg hz] at hH
            have hne := not_nil hz
            have hzi : (hn.length : Int) ≠ 0 := by omega
            w_on
            w_strict (
              revert KX; k_fill; intro KX
              refine wpAny_call ?_
              k_dflt (refine' code_def ?k1 ?k2 ?k3 ?k4 ?k5 ?kA ?kF ?kK ?k6 ?k7 ?k8 ?k9 ?kB ?_ ?c2 ?c3 ?c4 ?c5; (case kA => exact rfl); (case kF => exact rfl); (case kK => assumption); (case k1 => k_asm); (case k2 => k_asm); (case k3 => k_asm); (case k4 => k_asm); (case k5 => k_asm); (case k6 => k_is); (case k7 => k_is); (case k8 => ktr_room); (case k9 => first | exact BindsTo.of_eq rfl | exact binds_K (by k_in) rfl (by k_is) rfl rfl rfl); (case c5 => decide); (case kB => exact locs rfl); (case c2 => exact rfl); (case c3 => exact rfl); (case c4 => exact rfl); k_whole; intro g' L' h' FG' F' N' B' X' T'; (try dsimp only); (try k_lift B'); (try k_fold))
              k_steps
              all_goals first
                | (exfalso; omega)
                | (subst hU; subst hP; subst hH; subst hN'; refine hret _ _ _ _ _ _ _ rfl rfl ⟨_, rfl⟩ ⟨_, rfl⟩ (by k_asm) (cb_drop (by k_asm) split_mem3) (by first | exact tb_ltOf (And.right (by assumption)) | exact tb_ltOf (And.right (And.right (And.right (by assumption)))))))
      · rw [if_neg huz] at hU
        have hune := not_nil huz
        have huzi : (un.length : Int) ≠ 0 := by omega
        obtain ⟨ln, lhn, q1, q2, q3, hH, hp⟩ := PP
        rcases hp with ⟨rfl, hN'⟩ | ⟨hpz, hpl, n, hin, n0, n1, hN'⟩
        · by_cases hz : hn.length = 0
          · rw [if_pos hz] at hH
            have hu := is_nil hz
            subst hu
            w_on
            w_strict (
              revert KX; k_fill; intro KX
              refine wpAny_call ?_
              k_dflt (refine' code_def ?k1 ?k2 ?k3 ?k4 ?k5 ?kA ?kF ?kK ?k6 ?k7 ?k8 ?k9 ?kB ?_ ?c2 ?c3 ?c4 ?c5; (case kA => exact rfl); (case kF => exact rfl); (case kK => assumption); (case k1 => k_asm); (case k2 => k_asm); (case k3 => k_asm); (case k4 => k_asm); (case k5 => k_asm); (case k6 => k_is); (case k7 => k_is); (case k8 => ktr_room); (case k9 => first | exact BindsTo.of_eq rfl | exact binds_K (by k_in) rfl (by k_is) rfl rfl rfl); (case c5 => decide); (case kB => exact locs rfl); (case c2 => exact rfl); (case c3 => exact rfl); (case c4 => exact rfl); k_whole; intro g' L' h' FG' F' N' B' X' T'; (try dsimp only); (try k_lift B'); (try k_fold))
              k_steps
              all_goals first
                | (exfalso; omega)
                | (subst hU; subst hP; subst hH; subst hN'; refine hret _ _ _ _ _ _ _ ⟨_, rfl⟩ rfl rfl rfl (by k_asm) (cb_drop (by k_asm) split_mem3) (by first | exact tb_ltOf (And.right (by assumption)) | exact tb_ltOf (And.right (And.right (And.right (by assumption)))))))
          · rw [if_neg hz] at hH
            have hne := not_nil hz
            have hzi : (hn.length : Int) ≠ 0 := by omega
            w_on
            w_strict (
              revert KX; k_fill; intro KX
              refine wpAny_call ?_
              k_dflt (refine' code_def ?k1 ?k2 ?k3 ?k4 ?k5 ?kA ?kF ?kK ?k6 ?k7 ?k8 ?k9 ?kB ?_ ?c2 ?c3 ?c4 ?c5; (case kA => exact rfl); (case kF => exact rfl); (case kK => assumption); (case k1 => k_asm); (case k2 => k_asm); (case k3 => k_asm); (case k4 => k_asm); (case k5 => k_asm); (case k6 => k_is); (case k7 => k_is); (case k8 => ktr_room); (case k9 => first | exact BindsTo.of_eq rfl | exact binds_K (by k_in) rfl (by k_is) rfl rfl rfl); (case c5 => decide); (case kB => exact locs rfl); (case c2 => exact rfl); (case c3 => exact rfl); (case c4 => exact rfl); k_whole; intro g' L' h' FG' F' N' B' X' T'; (try dsimp only); (try k_lift B'); (try k_fold))
              k_steps
              all_goals first
                | (exfalso; omega)
                | (subst hU; subst hP; subst hH; subst hN'; refine hret _ _ _ _ _ _ _ ⟨_, rfl⟩ rfl ⟨_, rfl⟩ rfl (by k_asm) (cb_drop (by k_asm) split_mem3) (by first | exact tb_ltOf (And.right (by assumption)) | exact tb_ltOf (And.right (And.right (And.right (by assumption)))))))
        · have hpne := not_nil hpz
          have hpzi : (ps.length : Int) ≠ 0 := by omega
          by_cases hz : hn.length = 0
          · rw [if_pos hz] at hH
            have hu := is_nil hz
            subst hu
            w_on
            w_strict (
              revert KX; k_fill; intro KX
              refine wpAny_call ?_
              k_dflt (refine' code_def ?k1 ?k2 ?k3 ?k4 ?k5 ?kA ?kF ?kK ?k6 ?k7 ?k8 ?k9 ?kB ?_ ?c2 ?c3 ?c4 ?c5; (case kA => exact rfl); (case kF => exact rfl); (case kK => assumption); (case k1 => k_asm); (case k2 => k_asm); (case k3 => k_asm); (case k4 => k_asm); (case k5 => k_asm); (case k6 => k_is); (case k7 => k_is); (case k8 => ktr_room); (case k9 => first | exact BindsTo.of_eq rfl | exact binds_K (by k_in) rfl (by k_is) rfl rfl rfl); (case c5 => decide); (case kB => exact locs rfl); (case c2 => exact rfl); (case c3 => exact rfl); (case c4 => exact rfl); k_whole; intro g' L' h' FG' F' N' B' X' T'; (try dsimp only); (try k_lift B'); (try k_fold))
              k_steps
              all_goals first
                | (exfalso; omega)
                | (subst hU; subst hP; subst hH; subst hN'; refine hret _ _ _ _ _ _ _ ⟨_, rfl⟩ rfl rfl ⟨_, rfl⟩ (by k_asm) (cb_drop (by k_asm) split_mem3) (by first | exact tb_ltOf (And.right (by assumption)) | exact tb_ltOf (And.right (And.right (And.right (by assumption)))))))
          · rw [if_neg hz] at hH
            have hne := not_nil hz
            have hzi : (hn.length : Int) ≠ 0 := by omega
            w_on
            w_strict (
              revert KX; k_fill; intro KX
              refine wpAny_call ?_
              k_dflt (refine' code_def ?k1 ?k2 ?k3 ?k4 ?k5 ?kA ?kF ?kK ?k6 ?k7 ?k8 ?k9 ?kB ?_ ?c2 ?c3 ?c4 ?c5; (case kA => exact rfl); (case kF => exact rfl); (case kK => assumption); (case k1 => k_asm); (case k2 => k_asm); (case k3 => k_asm); (case k4 => k_asm); (case k5 => k_asm); (case k6 => k_is); (case k7 => k_is); (case k8 => ktr_room); (case k9 => first | exact BindsTo.of_eq rfl | exact binds_K (by k_in) rfl (by k_is) rfl rfl rfl); (case c5 => decide); (case kB => exact locs rfl); (case c2 => exact rfl); (case c3 => exact rfl); (case c4 => exact rfl); k_whole; intro g' L' h' FG' F' N' B' X' T'; (try dsimp only); (try k_lift B'); (try k_fold))
              k_steps
              all_goals first
                | (exfalso; omega)
                | (subst hU; subst hP; subst hH; subst hN'; refine hret _ _ _ _ _ _ _ ⟨_, rfl⟩ rfl ⟨_, rfl⟩ ⟨_, rfl⟩ (by k_asm) (cb_drop (by k_asm) split_mem3) (by first | exact tb_ltOf (And.right (by assumption)) | exact tb_ltOf (And.right (And.right (And.right (by assumption)))))))
    · by_cases huz : un.length = 0
      · rw [if_pos huz] at hU
        have huu := is_nil huz
        subst huu
        obtain ⟨ln, lhn, q1, q2, q3, hH, hp⟩ := PP
        rcases hp with ⟨rfl, hN'⟩ | ⟨hpz, hpl, n, hin, n0, n1, hN'⟩
        · by_cases hz : hn.length = 0
          · rw [if_pos hz] at hH
            have hu := is_nil hz
            subst hu
            w_on
            w_strict (
              revert KX; k_fill; intro KX
              refine wpAny_call ?_
              k_dflt (refine' code_def ?k1 ?k2 ?k3 ?k4 ?k5 ?kA ?kF ?kK ?k6 ?k7 ?k8 ?k9 ?kB ?_ ?c2 ?c3 ?c4 ?c5; (case kA => exact rfl); (case kF => exact rfl); (case kK => assumption); (case k1 => k_asm); (case k2 => k_asm); (case k3 => k_asm); (case k4 => k_asm); (case k5 => k_asm); (case k6 => k_is); (case k7 => k_is); (case k8 => ktr_room); (case k9 => first | exact BindsTo.of_eq rfl | exact binds_K (by k_in) rfl (by k_is) rfl rfl rfl); (case c5 => decide); (case kB => exact locs rfl); (case c2 => exact rfl); (case c3 => exact rfl); (case c4 => exact rfl); k_whole; intro g' L' h' FG' F' N' B' X' T'; (try dsimp only); (try k_lift B'); (try k_fold))
              k_steps
              all_goals first
                | (exfalso; omega)
                | (subst hU; subst hP; subst hH; subst hN'; refine hret _ _ _ _ _ _ _ rfl ⟨_, rfl⟩ rfl rfl (by k_asm) (cb_drop (by k_asm) split_mem3) (by first | exact tb_ltOf (And.right (by assumption)) | exact tb_ltOf (And.right (And.right (And.right (by assumption)))))))
          · rw [if_neg hz] at hH
            have hne := not_nil hz
            have hzi : (hn.length : Int) ≠ 0 := by omega
            w_on
            w_strict (
              revert KX; k_fill; intro KX
              refine wpAny_call ?_
              k_dflt (refine' code_def ?k1 ?k2 ?k3 ?k4 ?k5 ?kA ?kF ?kK ?k6 ?k7 ?k8 ?k9 ?kB ?_ ?c2 ?c3 ?c4 ?c5; (case kA => exact rfl); (case kF => exact rfl); (case kK => assumption); (case k1 => k_asm); (case k2 => k_asm); (case k3 => k_asm); (case k4 => k_asm); (case k5 => k_asm); (case k6 => k_is); (case k7 => k_is); (case k8 => ktr_room); (case k9 => first | exact BindsTo.of_eq rfl | exact binds_K (by k_in) rfl (by k_is) rfl rfl rfl); (case c5 => decide); (case kB => exact locs rfl); (case c2 => exact rfl); (case c3 => exact rfl); (case c4 => exact rfl); k_whole; intro g' L' h' FG' F' N' B' X' T'; (try dsimp only); (try k_lift B'); (try k_fold))
              k_steps
              all_goals first
                | (exfalso; omega)
                | (subst hU; subst hP; subst hH; subst hN'; refine hret _ _ _ _ _ _ _ rfl ⟨_, rfl⟩ ⟨_, rfl⟩ rfl (by k_asm) (cb_drop (by k_asm) split_mem3) (by first | exact tb_ltOf (And.right (by assumption)) | exact tb_ltOf (And.right (And.right (And.right (by assumption)))))))
        · have hpne := not_nil hpz
          have hpzi : (ps.length : Int) ≠ 0 := by omega
          by_cases hz : hn.length = 0
          · rw [if_pos hz] at hH
            have hu := is_nil hz
            subst hu
            w_on
            w_strict (
              revert KX; k_fill; intro KX
              refine wpAny_call ?_
              k_dflt (refine' code_def ?k1 ?k2 ?k3 ?k4 ?k5 ?kA ?kF ?kK ?k6 ?k7 ?k8 ?k9 ?kB ?_ ?c2 ?c3 ?c4 ?c5; (case kA => exact rfl); (case kF => exact rfl); (case kK => assumption); (case k1 => k_asm); (case k2 => k_asm); (case k3 => k_asm); (case k4 => k_asm); (case k5 => k_asm); (case k6 => k_is); (case k7 => k_is); (case k8 => ktr_room); (case k9 => first | exact BindsTo.of_eq rfl | exact binds_K (by k_in) rfl (by k_is) rfl rfl rfl); (case c5 => decide); (case kB => exact locs rfl); (case c2 => exact rfl); (case c3 => exact rfl); (case c4 => exact rfl); k_whole; intro g' L' h' FG' F' N' B' X' T'; (try dsimp only); (try k_lift B'); (try k_fold))
              k_steps
              all_goals first
                | (exfalso; omega)
                | (subst hU; subst hP; subst hH; subst hN'; refine hret _ _ _ _ _ _ _ rfl ⟨_, rfl⟩ rfl ⟨_, rfl⟩ (by k_asm) (cb_drop (by k_asm) split_mem3) (by first | exact tb_ltOf (And.right (by assumption)) | exact tb_ltOf (And.right (And.right (And.right (by assumption)))))))
          · rw [if_neg hz] at hH
            have hne := not_nil hz
            have hzi : (hn.length : Int) ≠ 0 := by omega
            w_on
            w_strict (
              revert KX; k_fill; intro KX
              refine wpAny_call ?_
              k_dflt (refine' code_def ?k1 ?k2 ?k3 ?k4 ?k5 ?kA ?kF ?kK ?k6 ?k7 ?k8 ?k9 ?kB ?_ ?c2 ?c3 ?c4 ?c5; (case kA => exact rfl); (case kF => exact rfl); (case kK => assumption); (case k1 => k_asm); (case k2 => k_asm); (case k3 => k_asm); (case k4 => k_asm); (case k5 => k_asm); (case k6 => k_is); (case k7 => k_is); (case k8 => ktr_room); (case k9 => first | exact BindsTo.of_eq rfl | exact binds_K (by k_in) rfl (by k_is) rfl rfl rfl); (case c5 => decide); (case kB => exact locs rfl); (case c2 => exact rfl); (case c3 => exact rfl); (case c4 => exact rfl); k_whole; intro g' L' h' FG' F' N' B' X' T'; (try dsimp only); (try k_lift B'); (try k_fold))
              k_steps
              all_goals first
                | (exfalso; omega)
                | (subst hU; subst hP; subst hH; subst hN'; refine hret _ _ _ _ _ _ _ rfl ⟨_, rfl⟩ ⟨_, rfl⟩ ⟨_, rfl⟩ (by k_asm) (cb_drop (by k_asm) split_mem3) (by first | exact tb_ltOf (And.right (by assumption)) | exact tb_ltOf (And.right (And.right (And.right (by assumption)))))))
      · rw [if_neg huz] at hU
        have hune := not_nil huz
        have huzi : (un.length : Int) ≠ 0 := by omega
        obtain ⟨ln, lhn, q1, q2, q3, hH, hp⟩ := PP
        rcases hp with ⟨rfl, hN'⟩ | ⟨hpz, hpl, n, hin, n0, n1, hN'⟩
        · by_cases hz : hn.length = 0
          · rw [if_pos hz] at hH
            have hu := is_nil hz
            subst hu
            w_on
            w_strict (
              revert KX; k_fill; intro KX
              refine wpAny_call ?_
              k_dflt (refine' code_def ?k1 ?k2 ?k3 ?k4 ?k5 ?kA ?kF ?kK ?k6 ?k7 ?k8 ?k9 ?kB ?_ ?c2 ?c3 ?c4 ?c5; (case kA => exact rfl); (case kF => exact rfl); (case kK => assumption); (case k1 => k_asm); (case k2 => k_asm); (case k3 => k_asm); (case k4 => k_asm); (case k5 => k_asm); (case k6 => k_is); (case k7 => k_is); (case k8 => ktr_room); (case k9 => first | exact BindsTo.of_eq rfl | exact binds_K (by k_in) rfl (by k_is) rfl rfl rfl); (case c5 => decide); (case kB => exact locs rfl); (case c2 => exact rfl); (case c3 => exact rfl); (case c4 => exact rfl); k_whole; intro g' L' h' FG' F' N' B' X' T'; (try dsimp only); (try k_lift B'); (try k_fold))
              k_steps
              all_goals first
                | (exfalso; omega)
                | (subst hU; subst hP; subst hH; subst hN'; refine hret _ _ _ _ _ _ _ ⟨_, rfl⟩ ⟨_, rfl⟩ rfl rfl (by k_asm) (cb_drop (by k_asm) split_mem3) (by first | exact tb_ltOf (And.right (by assumption)) | exact tb_ltOf (And.right (And.right (And.right (by assumption)))))))
          · rw [if_neg hz] at hH
            have hne := not_nil hz
            have hzi : (hn.length : Int) ≠ 0 := by omega
            w_on
            w_strict (
              revert KX; k_fill; intro KX
              refine wpAny_call ?_
              k_dflt (refine' code_def ?k1 ?k2 ?k3 ?k4 ?k5 ?kA ?kF ?kK ?k6 ?k7 ?k8 ?k9 ?kB ?_ ?c2 ?c3 ?c4 ?c5; (case kA => exact rfl); (case kF => exact rfl); (case kK => assumption); (case k1 => k_asm); (case k2 => k_asm); (case k3 => k_asm); (case k4 => k_asm); (case k5 => k_asm); (case k6 => k_is); (case k7 => k_is); (case k8 => ktr_room); (case k9 => first | exact BindsTo.of_eq rfl | exact binds_K (by k_in) rfl (by k_is) rfl rfl rfl); (case c5 => decide); (case kB => exact locs rfl); (case c2 => exact rfl); (case c3 => exact rfl); (case c4 => exact rfl); k_whole; intro g' L' h' FG' F' N' B' X' T'; (try dsimp only); (try k_lift B'); (try k_fold))
              k_steps
              all_goals first
                | (exfalso; omega)
                | (subst hU; subst hP; subst hH; subst hN'; refine hret _ _ _ _ _ _ _ ⟨_, rfl⟩ ⟨_, rfl⟩ ⟨_, rfl⟩ rfl (by k_asm) (cb_drop (by k_asm) split_mem3) (by first | exact tb_ltOf (And.right (by assumption)) | exact tb_ltOf (And.right (And.right (And.right (by assumption)))))))
        · have hpne := not_nil hpz
          have hpzi : (ps.length : Int) ≠ 0 := by omega
          by_cases hz : hn.length = 0
          · rw [if_pos hz] at hH
            have hu := is_nil hz
            subst hu
            w_on
            w_strict (
              revert KX; k_fill; intro KX
              refine wpAny_call ?_
              k_dflt (refine' code_def ?k1 ?k2 ?k3 ?k4 ?k5 ?kA ?kF ?kK ?k6 ?k7 ?k8 ?k9 ?kB ?_ ?c2 ?c3 ?c4 ?c5; (case kA => exact rfl); (case kF => exact rfl); (case kK => assumption); (case k1 => k_asm); (case k2 => k_asm); (case k3 => k_asm); (case k4 => k_asm); (case k5 => k_asm); (case k6 => k_is); (case k7 => k_is); (case k8 => ktr_room); (case k9 => first | exact BindsTo.of_eq rfl | exact binds_K (by k_in) rfl (by k_is) rfl rfl rfl); (case c5 => decide); (case kB => exact locs rfl); (case c2 => exact rfl); (case c3 => exact rfl); (case c4 => exact rfl); k_whole; intro g' L' h' FG' F' N' B' X' T'; (try dsimp only); (try k_lift B'); (try k_fold))
              k_steps
              all_goals first
                | (exfalso; omega)
                | (subst hU; subst hP; subst hH; subst hN'; refine hret _ _ _ _ _ _ _ ⟨_, rfl⟩ ⟨_, rfl⟩ rfl ⟨_, rfl⟩ (by k_asm) (cb_drop (by k_asm) split_mem3) (by first | exact tb_ltOf (And.right (by assumption)) | exact tb_ltOf (And.right (And.right (And.right (by assumption)))))))
          · rw [if_neg hz] at hH
            have hne := not_nil hz
            have hzi : (hn.length : Int) ≠ 0 := by omega
            w_on
            w_strict (
              revert KX; k_fill; intro KX
              refine wpAny_call ?_
              k_dflt (refine' code_def ?k1 ?k2 ?k3 ?k4 ?k5 ?kA ?kF ?kK ?k6 ?k7 ?k8 ?k9 ?kB ?_ ?c2 ?c3 ?c4 ?c5; (case kA => exact rfl); (case kF => exact rfl); (case kK => assumption); (case k1 => k_asm); (case k2 => k_asm); (case k3 => k_asm); (case k4 => k_asm); (case k5 => k_asm); (case k6 => k_is); (case k7 => k_is); (case k8 => ktr_room); (case k9 => first | exact BindsTo.of_eq rfl | exact binds_K (by k_in) rfl (by k_is) rfl rfl rfl); (case c5 => decide); (case kB => exact locs rfl); (case c2 => exact rfl); (case c3 => exact rfl); (case c4 => exact rfl); k_whole; intro g' L' h' FG' F' N' B' X' T'; (try dsimp only); (try k_lift B'); (try k_fold))
              k_steps
              all_goals first
                | (exfalso; omega)
                | (subst hU; subst hP; subst hH; subst hN'; refine hret _ _ _ _ _ _ _ ⟨_, rfl⟩ ⟨_, rfl⟩ ⟨_, rfl⟩ ⟨_, rfl⟩ (by k_asm) (cb_drop (by k_asm) split_mem3) (by first | exact tb_ltOf (And.right (by assumption)) | exact tb_ltOf (And.right (And.right (And.right (by assumption)))))))
end Mine
end
section
open PySem PySem.W PySem.Calls PyProof.Rows
set_option Elab.async false
set_option maxRecDepth 100000
set_option maxHeartbeats 4000000
namespace Mine
local macro_rules | `(tactic| walk_at "tidy enter") => `(tactic| k_dflt (refine' codeC_def ?k1 ?k2 ?k3 ?k4 ?k5 ?kA ?kF ?kK ?k6 ?k7 ?k8 ?k9 ?kB ?_ ?c2 ?c3 ?c4 ?c5; (case kA => exact rfl); (case kF => exact rfl); (case kK => first | exact rfl | assumption); (case k1 => k_asm); (case k2 => k_asm); (case k3 => k_asm); (case k4 => k_asm); (case k5 => k_asm); (case k6 => k_is); (case k7 => k_is); (case k8 => ktr_room); (case k9 => first | exact BindsTo.of_eq rfl | exact binds_K (by k_in) rfl (by k_is) rfl rfl rfl); (case c5 => decide); (case kB => exact locs rfl); (case c2 => exact rfl); (case c3 => exact rfl); (case c4 => exact rfl); k_whole; intro g' L' h' FG' F' N' B' X' T'; (try dsimp only)))
local macro_rules | `(tactic| walk_at "tidy test") => `(tactic| (refine wpC_execs_cons (wpC_If ?_); (try k_fold); k_steps; try dsimp only))
local macro_rules | `(tactic| walk_at "tidy plain") => `(tactic| (refine wpC_execs_cons (wpC_any ?_); (try k_fold); k_steps; try dsimp only))
local macro_rules | `(tactic| walk_at "tidy ba") => `(tactic| (refine wpC_execs_cons (wpC_Assign_Name (evalC_Call ?_)); (try k_fold); k_steps; refine callC_type0 ?_; (try dsimp only [List.nil_append]); refine new_C (by k_asm) (by k_asm) ?_; intro d' h' F' N' l1'; (try k_lt l1'); (try k_sweep); (try dsimp only); (try k_fold); k_steps; try dsimp only))
local macro_rules | `(tactic| walk_at "getMethod str") => `(tactic| (k_here; (with_reducible show wpAny _ _ (getMethod (Value.str _ _) (Str.ofString "encode") _) _ _ _); refine method_encode ?_))
local macro_rules | `(tactic| walk_at "subscriptTail") => `(tactic| (k_here; (with_reducible show wpAny _ _ (subscriptTail _ _ (Value.bytes (List.toArray _) _) (Value.int _ _)) _ _ _); k_dflt (refine' bytes_item_K ?f ?a ?b ?e ?_; (case f => kby_size); (case a => kby_idx); (case b => kby_idx); (case e => first | exact (rfl : _ = (97 : Int)) | exact (rfl : _ = (98 : Int)) | exact (rfl : _ = (117 : Int)) | exact (rfl : _ = (32 : Int)) | exact (rfl : _ = (58 : Int)) | exact (rfl : _ = (64 : Int)) | exact (rfl : _ = (195 : Int)) | exact (rfl : _ = (169 : Int))); k_whole)))
local macro_rules | `(tactic| walk_at "compareOp In int bytes") => `(tactic| (k_here; first | (with_reducible refine in_bytes true (by decide) (by decide +kernel) ?_) | (with_reducible refine in_bytes false (by decide) (by decide +kernel) ?_)))
local macro_rules | `(tactic| walk_at "truthy ref") => `(tactic| (k_here; (with_reducible show wpAny _ _ (truthy (Value.ref _)) _ _ _); refine' truthy_C (b := ?b) ?k1 ?k2 ?k3 ?_; (case k1 => k_asm); (case k2 => k_mem); (case k3 => exact Nat.le_of_ble_eq_true rfl); k_whole; intro k'))
local macro_rules | `(tactic| walk_at "getMethod ref") => `(tactic| (k_here; (with_reducible show wpAny _ _ (getMethod (Value.ref _) (Str.ofString "decode") _) _ _ _); refine' getDecode_C (b := ?b) ?k1 ?k2 ?_; (case k1 => k_asm); (case k2 => k_mem); k_whole))
local macro_rules | `(tactic| walk_at "call builtin:bytearray.decode") => `(tactic| (k_here; (try dsimp only [List.nil_append, List.cons_append]); (first
  | (refine' decode_C (x := Str.ofString "u") ?k1 ?k2 ?k0 (hd := dec1) ?k4 ?k5 ?_; (case k1 => k_asm); (case k2 => k_mem); (case k0 => decide +kernel); (case k4 => rfl); (case k5 => decide))
  | (refine' decode_C (x := Str.ofString "a%20b") ?k1 ?k2 ?k0 (hd := dec2) ?k4 ?k5 ?_; (case k1 => k_asm); (case k2 => k_mem); (case k0 => decide +kernel); (case k4 => rfl); (case k5 => decide))
  | (refine' decode_C (x := Str.ofString "a%3Ab%40%C3%A9") ?k1 ?k2 ?k0 (hd := dec3) ?k4 ?k5 ?_; (case k1 => k_asm); (case k2 => k_mem); (case k0 => decide +kernel); (case k4 => rfl); (case k5 => decide))); intro t' k'))
local macro_rules | `(tactic| walk_at "call builtin:str.encode") => `(tactic| (k_here; (try dsimp only [List.nil_append, List.cons_append]); (first
  | (with_reducible refine call_encode (d := #[117]) enc1 (by decide) ?_)
  | (with_reducible refine call_encode (d := #[97, 32, 98]) enc2 (by decide) ?_)
  | (with_reducible refine call_encode (d := #[97, 58, 98, 64, 195, 169]) enc3 (by decide) ?_)
  | (with_reducible refine call_encode (d := #[97, 98, 99, 100, 101, 102, 103, 104, 105, 106, 107, 108, 109, 110, 111, 112, 113, 114, 115, 116, 117, 118, 119, 120, 121, 122, 65, 66, 67, 68, 69, 70, 71, 72, 73, 74, 75, 76, 77, 78, 79, 80, 81, 82, 83, 84, 85, 86, 87, 88, 89, 90, 48, 49, 50, 51, 52, 53, 54, 55, 56, 57, 45, 46, 95, 126, 33, 36, 39, 40, 41, 42, 44, 43, 38, 61, 59]) enc4 (by decide) ?_)
  | (with_reducible refine call_encode (d := #[37, 50, 48]) enc20 (by decide) ?_)
  | (with_reducible refine call_encode (d := #[37, 51, 65]) enc3A (by decide) ?_)
  | (with_reducible refine call_encode (d := #[37, 52, 48]) enc40 (by decide) ?_)
  | (with_reducible refine call_encode (d := #[37, 67, 51]) encC3 (by decide) ?_)
  | (with_reducible refine call_encode (d := #[37, 65, 57]) encA9 (by decide) ?_)); intro t' k'))
local macro_rules | `(tactic| walk_at "formatField int") => `(tactic| (k_here; (first | (with_reducible refine hex20 ?_) | (with_reducible refine hex3A ?_) | (with_reducible refine hex40 ?_) | (with_reducible refine hexC3 ?_) | (with_reducible refine hexA9 ?_)); intro t' k'))
local macro_rules | `(tactic| walk_at "joinParts") => `(tactic| (k_here; (first | (with_reducible show wpAny _ _ (joinParts _ []) _ _ _) | (with_reducible show wpAny _ _ (joinParts _ (evalEach [] _)) _ _ _)); k_dflt (refine' joinParts_nil ?_ ?k1; (case k1 => decide +kernel); k_whole)))
local macro_rules | `(tactic| walk_at "tidy turn") => `(tactic| (refine codeC_turn ?_; (try k_fold); k_steps; (try dsimp only); walk_at "tidy plain"; walk_at "tidy plain"; walk_at "tidy plain"; walk_at "tidy plain"; walk_at "tidy test"))
local macro_rules | `(tactic| walk_at "tidy append") => `(tactic| (
  refine wpC_execs_cons (wpC_Expr (evalC_method (T := "bytearray") (id := "bytearray.append") ?_ plainAttrs_ba slot_ba_append type_ba_append rfl rfl rfl)); (try k_fold); k_steps;
  k_dflt (refine' recv_ba (b := ?b) ?k1 ?k2 (callC_builtin ?_); (case k1 => k_asm); (case k2 => k_mem)); (try k_fold); k_steps;
  (try dsimp only [List.nil_append, List.cons_append]);
  k_dflt (refine' append_C ?k1 ?k2 ?k3 ?k4 ?k5 ?_; (case k1 => k_asm); (case k2 => k_asm); (case k3 => k_upd); (case k4 => decide); (case k5 => decide +kernel));
  intro h' F' N'; (try k_sweep); refine ⟨(fun _ e => by cases e), ?_⟩; (try dsimp only); walk_at "tidy plain"))
local macro_rules | `(tactic| walk_at "eval Name") => `(tactic| (k_here; k_dflt (refine' nameX_L ?F ?v ?_ ?a ?b; (case F => k_asm); (case a => rfl); (case b => rfl); (case v => first | rfl | assumption); k_whole)))
local macro_rules | `(tactic| walk_at "loadName") => `(tactic| (k_here; k_dflt (refine' ldn (F := ?F) ?hv ?_; (case F => k_asm); (case hv => first | rfl | assumption); k_whole)))
local macro_rules | `(tactic| walk_at "tidy sweep") => `(tactic| (
  (rename Fr _ _ _ _ => x8);
  k_dflt (obtain ⟨m9, F9, e1, e2, e3, e4, e5, e6, e7, e8⟩ := forget8 (n1 := Str.ofString "self") (n2 := Str.ofString "val") (n3 := Str.ofString "bval") (n4 := Str.ofString "ret") (n5 := Str.ofString "pct") (n6 := Str.ofString "safe") (n7 := Str.ofString "bsafe") (n8 := Str.ofString "idx") x8 (by first | rfl | assumption) (by first | rfl | assumption) (by first | rfl | assumption) (by first | rfl | assumption) (by first | rfl | assumption) (by first | rfl | assumption) (by first | rfl | assumption) (by first | rfl | assumption));
  clear x8; revert F9; revert e1 e2 e3 e4 e5 e6 e7 e8;
  (repeat ((with_reducible rename Frag.In _ _ => x9); revert x9)); (repeat ((with_reducible rename Top _ _ _ _ _ _ => x9); revert x9)); (repeat ((with_reducible rename Below _ _ _ _ => x9); revert x9));
  (with_reducible rename News _ _ _ _ => x9); revert x9; law_clear; intros))
theorem quot0 {w : World} {mean : ExcName → Option Value} {mg mb : Str → Option Value} {gd : Option (List Code)} {cn : Str} {cs : Scope} {a : Addr} {ccd : Value} {cl : List (Str × Addr)} {outer : List Env} {A₀ : Around} {base h₀ : Heap} {L : Addr} {m : Str → Option Value} {news : List (Addr × Obj)} {s : Shared} {t : Tok} {Q : Value → Shared → Prop}
    (B : Below A₀ base outer h₀) (F : Fr h₀ L s.heap m) (KX : (hd.heap_39 w.params).In h₀) (N : News h₀ L s.heap news) (T : Top hd.view_39 (looseW hd.view_39 [Str.ofString "_Quoter", Str.ofString "make_netloc"]) mean mg mb h₀) (hk : cs.kind = .function)
    (hret : ∀ (t' : Tok) (h' : Heap) (tk' : Nat), Fr h₀ L h' m → News h₀ L h' news → Q (.str (Str.ofString "") t') { s with heap := h', toks := tk' }) :
    wpC (model PySem.Challenge.rw_aw6039_01.row.prog w) (ktrTop 303 10 gd cn cs L a ccd cl outer) (call (.ref 50) [.str (Str.ofString "") t]) Q s := by
  w_on
  w_strict (
    revert KX; k_fill; intro KX
    refine wpC_call ?_
    walk_at "tidy enter"
    refine wpC_execs_cons (wpC_Return (evalC_Call ?_))
    (try k_fold)
    k_steps
    k_dflt (refine' callC_inst (K := hd.heap_39 w.params) ?k2 ?k3 ?_; (case k2 => k_inst); (case k3 => rfl); k_whole)
    (try k_fold)
    k_steps
    try dsimp only [List.nil_append, List.cons_append]
    refine wpC_call ?_
    k_dflt (refine' codeC_inst ?k1 ?k2 ?k3 ?k4 ?k5 ?k6 ?_; (case k1 => k_in); (case k2 => k_inst); (case k3 => rfl); (case k4 => k_is); (case k5 => k_is); (case k6 => k_is); (try dsimp only))
    walk_at "tidy enter"
    walk_at "tidy test"; refine wpC_execs_nil ?_; dsimp only
    walk_at "tidy test"; refine wpC_execs_nil ?_; dsimp only
    walk_at "tidy test"
    walk_at "tidy plain"
    dsimp only [okOf]
    k_steps
    dsimp only [okOf]
    k_dflt (refine' hret _ _ _ ?zk1 ?zk2; (case zk1 => k_asm); (case zk2 => (refine' cb_drop ?zk3 ?zk4; (case zk3 => k_asm); (case zk4 => kcj_all)))))
end Mine
end
section
open PySem PySem.W PySem.Calls PyProof.Rows
set_option Elab.async false
set_option maxRecDepth 100000
set_option maxHeartbeats 4000000
namespace Mine
local macro_rules | `(tactic| walk_at "tidy enter") => `(tactic| k_dflt (refine' codeC_def ?k1 ?k2 ?k3 ?k4 ?k5 ?kA ?kF ?kK ?k6 ?k7 ?k8 ?k9 ?kB ?_ ?c2 ?c3 ?c4 ?c5; (case kA => exact rfl); (case kF => exact rfl); (case kK => first | exact rfl | assumption); (case k1 => k_asm); (case k2 => k_asm); (case k3 => k_asm); (case k4 => k_asm); (case k5 => k_asm); (case k6 => k_is); (case k7 => k_is); (case k8 => ktr_room); (case k9 => first | exact BindsTo.of_eq rfl | exact binds_K (by k_in) rfl (by k_is) rfl rfl rfl); (case c5 => decide); (case kB => exact locs rfl); (case c2 => exact rfl); (case c3 => exact rfl); (case c4 => exact rfl); k_whole; intro g' L' h' FG' F' N' B' X' T'; (try dsimp only)))
local macro_rules | `(tactic| walk_at "tidy test") => `(tactic| (refine wpC_execs_cons (wpC_If ?_); (try k_fold); k_steps; try dsimp only))
local macro_rules | `(tactic| walk_at "tidy plain") => `(tactic| (refine wpC_execs_cons (wpC_any ?_); (try k_fold); k_steps; try dsimp only))
local macro_rules | `(tactic| walk_at "tidy ba") => `(tactic| (refine wpC_execs_cons (wpC_Assign_Name (evalC_Call ?_)); (try k_fold); k_steps; refine callC_type0 ?_; (try dsimp only [List.nil_append]); refine new_C (by k_asm) (by k_asm) ?_; intro d' h' F' N' l1'; (try k_lt l1'); (try k_sweep); (try dsimp only); (try k_fold); k_steps; try dsimp only))
local macro_rules | `(tactic| walk_at "getMethod str") => `(tactic| (k_here; (with_reducible show wpAny _ _ (getMethod (Value.str _ _) (Str.ofString "encode") _) _ _ _); refine method_encode ?_))
local macro_rules | `(tactic| walk_at "subscriptTail") => `(tactic| (k_here; (with_reducible show wpAny _ _ (subscriptTail _ _ (Value.bytes (List.toArray _) _) (Value.int _ _)) _ _ _); k_dflt (refine' bytes_item_K ?f ?a ?b ?e ?_; (case f => kby_size); (case a => kby_idx); (case b => kby_idx); (case e => first | exact (rfl : _ = (97 : Int)) | exact (rfl : _ = (98 : Int)) | exact (rfl : _ = (117 : Int)) | exact (rfl : _ = (32 : Int)) | exact (rfl : _ = (58 : Int)) | exact (rfl : _ = (64 : Int)) | exact (rfl : _ = (195 : Int)) | exact (rfl : _ = (169 : Int))); k_whole)))
local macro_rules | `(tactic| walk_at "compareOp In int bytes") => `(tactic| (k_here; first | (with_reducible refine in_bytes true (by decide) (by decide +kernel) ?_) | (with_reducible refine in_bytes false (by decide) (by decide +kernel) ?_)))
local macro_rules | `(tactic| walk_at "truthy ref") => `(tactic| (k_here; (with_reducible show wpAny _ _ (truthy (Value.ref _)) _ _ _); refine' truthy_C (b := ?b) ?k1 ?k2 ?k3 ?_; (case k1 => k_asm); (case k2 => k_mem); (case k3 => exact Nat.le_of_ble_eq_true rfl); k_whole; intro k'))
local macro_rules | `(tactic| walk_at "getMethod ref") => `(tactic| (k_here; (with_reducible show wpAny _ _ (getMethod (Value.ref _) (Str.ofString "decode") _) _ _ _); refine' getDecode_C (b := ?b) ?k1 ?k2 ?_; (case k1 => k_asm); (case k2 => k_mem); k_whole))
local macro_rules | `(tactic| walk_at "call builtin:bytearray.decode") => `(tactic| (k_here; (try dsimp only [List.nil_append, List.cons_append]); (first
  | (refine' decode_C (x := Str.ofString "u") ?k1 ?k2 ?k0 (hd := dec1) ?k4 ?k5 ?_; (case k1 => k_asm); (case k2 => k_mem); (case k0 => decide +kernel); (case k4 => rfl); (case k5 => decide))
  | (refine' decode_C (x := Str.ofString "a%20b") ?k1 ?k2 ?k0 (hd := dec2) ?k4 ?k5 ?_; (case k1 => k_asm); (case k2 => k_mem); (case k0 => decide +kernel); (case k4 => rfl); (case k5 => decide))
  | (refine' decode_C (x := Str.ofString "a%3Ab%40%C3%A9") ?k1 ?k2 ?k0 (hd := dec3) ?k4 ?k5 ?_; (case k1 => k_asm); (case k2 => k_mem); (case k0 => decide +kernel); (case k4 => rfl); (case k5 => decide))); intro t' k'))
local macro_rules | `(tactic| walk_at "call builtin:str.encode") => `(tactic| (k_here; (try dsimp only [List.nil_append, List.cons_append]); (first
  | (with_reducible refine call_encode (d := #[117]) enc1 (by decide) ?_)
  | (with_reducible refine call_encode (d := #[97, 32, 98]) enc2 (by decide) ?_)
  | (with_reducible refine call_encode (d := #[97, 58, 98, 64, 195, 169]) enc3 (by decide) ?_)
  | (with_reducible refine call_encode (d := #[97, 98, 99, 100, 101, 102, 103, 104, 105, 106, 107, 108, 109, 110, 111, 112, 113, 114, 115, 116, 117, 118, 119, 120, 121, 122, 65, 66, 67, 68, 69, 70, 71, 72, 73, 74, 75, 76, 77, 78, 79, 80, 81, 82, 83, 84, 85, 86, 87, 88, 89, 90, 48, 49, 50, 51, 52, 53, 54, 55, 56, 57, 45, 46, 95, 126, 33, 36, 39, 40, 41, 42, 44, 43, 38, 61, 59]) enc4 (by decide) ?_)
  | (with_reducible refine call_encode (d := #[37, 50, 48]) enc20 (by decide) ?_)
  | (with_reducible refine call_encode (d := #[37, 51, 65]) enc3A (by decide) ?_)
  | (with_reducible refine call_encode (d := #[37, 52, 48]) enc40 (by decide) ?_)
  | (with_reducible refine call_encode (d := #[37, 67, 51]) encC3 (by decide) ?_)
  | (with_reducible refine call_encode (d := #[37, 65, 57]) encA9 (by decide) ?_)); intro t' k'))
local macro_rules | `(tactic| walk_at "formatField int") => `(tactic| (k_here; (first | (with_reducible refine hex20 ?_) | (with_reducible refine hex3A ?_) | (with_reducible refine hex40 ?_) | (with_reducible refine hexC3 ?_) | (with_reducible refine hexA9 ?_)); intro t' k'))
local macro_rules | `(tactic| walk_at "joinParts") => `(tactic| (k_here; (first | (with_reducible show wpAny _ _ (joinParts _ []) _ _ _) | (with_reducible show wpAny _ _ (joinParts _ (evalEach [] _)) _ _ _)); k_dflt (refine' joinParts_nil ?_ ?k1; (case k1 => decide +kernel); k_whole)))
local macro_rules | `(tactic| walk_at "tidy turn") => `(tactic| (refine codeC_turn ?_; (try k_fold); k_steps; (try dsimp only); walk_at "tidy plain"; walk_at "tidy plain"; walk_at "tidy plain"; walk_at "tidy plain"; walk_at "tidy test"))
local macro_rules | `(tactic| walk_at "tidy append") => `(tactic| (
  refine wpC_execs_cons (wpC_Expr (evalC_method (T := "bytearray") (id := "bytearray.append") ?_ plainAttrs_ba slot_ba_append type_ba_append rfl rfl rfl)); (try k_fold); k_steps;
  k_dflt (refine' recv_ba (b := ?b) ?k1 ?k2 (callC_builtin ?_); (case k1 => k_asm); (case k2 => k_mem)); (try k_fold); k_steps;
  (try dsimp only [List.nil_append, List.cons_append]);
  k_dflt (refine' append_C ?k1 ?k2 ?k3 ?k4 ?k5 ?_; (case k1 => k_asm); (case k2 => k_asm); (case k3 => k_upd); (case k4 => decide); (case k5 => decide +kernel));
  intro h' F' N'; (try k_sweep); refine ⟨(fun _ e => by cases e), ?_⟩; (try dsimp only); walk_at "tidy plain"))
local macro_rules | `(tactic| walk_at "eval Name") => `(tactic| (k_here; k_dflt (refine' nameX_L ?F ?v ?_ ?a ?b; (case F => k_asm); (case a => rfl); (case b => rfl); (case v => first | rfl | assumption); k_whole)))
local macro_rules | `(tactic| walk_at "loadName") => `(tactic| (k_here; k_dflt (refine' ldn (F := ?F) ?hv ?_; (case F => k_asm); (case hv => first | rfl | assumption); k_whole)))
local macro_rules | `(tactic| walk_at "tidy sweep") => `(tactic| (
  (rename Fr _ _ _ _ => x8);
  k_dflt (obtain ⟨m9, F9, e1, e2, e3, e4, e5, e6, e7, e8⟩ := forget8 (n1 := Str.ofString "self") (n2 := Str.ofString "val") (n3 := Str.ofString "bval") (n4 := Str.ofString "ret") (n5 := Str.ofString "pct") (n6 := Str.ofString "safe") (n7 := Str.ofString "bsafe") (n8 := Str.ofString "idx") x8 (by first | rfl | assumption) (by first | rfl | assumption) (by first | rfl | assumption) (by first | rfl | assumption) (by first | rfl | assumption) (by first | rfl | assumption) (by first | rfl | assumption) (by first | rfl | assumption));
  clear x8; revert F9; revert e1 e2 e3 e4 e5 e6 e7 e8;
  (repeat ((with_reducible rename Frag.In _ _ => x9); revert x9)); (repeat ((with_reducible rename Top _ _ _ _ _ _ => x9); revert x9)); (repeat ((with_reducible rename Below _ _ _ _ => x9); revert x9));
  (with_reducible rename News _ _ _ _ => x9); revert x9; law_clear; intros))
local macro_rules | `(tactic| walk_at "tidy extend") => `(tactic| (
  refine wpC_execs_nil ?_; (try dsimp only);
  refine wpC_execs_cons (wpC_Expr (evalC_method (T := "bytearray") (id := "bytearray.extend") ?_ plainAttrs_ba slot_ba_extend type_ba_extend rfl rfl rfl)); (try k_fold); k_steps;
  k_dflt (refine' recv_ba (b := ?b) ?k1 ?k2 (callC_builtin ?_); (case k1 => k_asm); (case k2 => k_mem)); (try k_fold); k_steps;
  (try dsimp only [List.nil_append, List.cons_append]);
  k_dflt (refine' extend_C ?k1 ?k2 ?k3 ?k4 ?k5 ?_; (case k1 => k_asm); (case k2 => k_asm); (case k3 => k_upd); (case k4 => decide); (case k5 => decide +kernel));
  intro h' F' N'; (try k_sweep); refine ⟨(fun _ e => by cases e), ?_⟩; (try dsimp only); refine wpC_execs_nil ?_; (try dsimp only)))
theorem quot1 {w : World} {mean : ExcName → Option Value} {mg mb : Str → Option Value} {gd : Option (List Code)} {cn : Str} {cs : Scope} {a : Addr} {ccd : Value} {cl : List (Str × Addr)} {outer : List Env} {A₀ : Around} {base h₀ : Heap} {L : Addr} {m : Str → Option Value} {news : List (Addr × Obj)} {s : Shared} {t : Tok} {Q : Value → Shared → Prop}
    (B : Below A₀ base outer h₀) (F : Fr h₀ L s.heap m) (KX : (hd.heap_39 w.params).In h₀) (N : News h₀ L s.heap news) (T : Top hd.view_39 (looseW hd.view_39 [Str.ofString "_Quoter", Str.ofString "make_netloc"]) mean mg mb h₀) (hk : cs.kind = .function)
    (hret : ∀ (t' : Tok) (h' : Heap) (tk' : Nat), Fr h₀ L h' m → News h₀ L h' news → Q (.str (Str.ofString "u") t') { s with heap := h', toks := tk' }) :
    wpC (model PySem.Challenge.rw_aw6039_01.row.prog w) (ktrTop 303 10 gd cn cs L a ccd cl outer) (call (.ref 50) [.str (Str.ofString "u") t]) Q s := by
  w_on
  w_strict (
    revert KX; k_fill; intro KX
    refine wpC_call ?_
    walk_at "tidy enter"
    refine wpC_execs_cons (wpC_Return (evalC_Call ?_))
    (try k_fold)
    k_steps
    k_dflt (refine' callC_inst (K := hd.heap_39 w.params) ?k2 ?k3 ?_; (case k2 => k_inst); (case k3 => rfl); k_whole)
    (try k_fold)
    k_steps
    try dsimp only [List.nil_append, List.cons_append]
    refine wpC_call ?_
    k_dflt (refine' codeC_inst ?k1 ?k2 ?k3 ?k4 ?k5 ?k6 ?_; (case k1 => k_in); (case k2 => k_inst); (case k3 => rfl); (case k4 => k_is); (case k5 => k_is); (case k6 => k_is); (try dsimp only))
    walk_at "tidy enter"
    walk_at "tidy test"; refine wpC_execs_nil ?_; dsimp only
    walk_at "tidy test"; refine wpC_execs_nil ?_; dsimp only
    walk_at "tidy test"; refine wpC_execs_nil ?_; dsimp only
    walk_at "tidy plain"
    walk_at "tidy ba"
    walk_at "tidy ba"
    walk_at "tidy plain"
    walk_at "tidy plain"
    walk_at "tidy plain"
    walk_at "tidy plain"
    walk_at "tidy plain"
    walk_at "tidy plain"
    refine wpC_execs_cons (wpC_While ?_)
    revert hret; walk_at "tidy sweep"; rename_i hret
    walk_at "tidy turn"
    walk_at "tidy append"
    refine codeC_turn ?_; (try k_fold); k_steps; (try dsimp only)
    refine wpC_execs_nil ?_; (try dsimp only)
    walk_at "tidy plain"
    walk_at "tidy test"
    walk_at "tidy plain"
    dsimp only [okOf]
    k_steps
    dsimp only [okOf]
    k_dflt (refine' hret _ _ _ ?zk1 ?zk2; (case zk1 => k_asm); (case zk2 => (refine' cb_drop ?zk3 ?zk4; (case zk3 => k_asm); (case zk4 => (intro p hp; (repeat (first | exact hp | refine List.Mem.tail _ ?_))))))))
end Mine
end
section
open PySem PySem.W PySem.Calls PyProof.Rows
set_option Elab.async false
set_option maxRecDepth 100000
set_option maxHeartbeats 4000000
namespace Mine
local macro_rules | `(tactic| walk_at "tidy enter") => `(tactic| k_dflt (refine' codeC_def ?k1 ?k2 ?k3 ?k4 ?k5 ?kA ?kF ?kK ?k6 ?k7 ?k8 ?k9 ?kB ?_ ?c2 ?c3 ?c4 ?c5; (case kA => exact rfl); (case kF => exact rfl); (case kK => first | exact rfl | assumption); (case k1 => k_asm); (case k2 => k_asm); (case k3 => k_asm); (case k4 => k_asm); (case k5 => k_asm); (case k6 => k_is); (case k7 => k_is); (case k8 => ktr_room); (case k9 => first | exact BindsTo.of_eq rfl | exact binds_K (by k_in) rfl (by k_is) rfl rfl rfl); (case c5 => decide); (case kB => exact locs rfl); (case c2 => exact rfl); (case c3 => exact rfl); (case c4 => exact rfl); k_whole; intro g' L' h' FG' F' N' B' X' T'; (try dsimp only)))
local macro_rules | `(tactic| walk_at "tidy test") => `(tactic| (refine wpC_execs_cons (wpC_If ?_); (try k_fold); k_steps; try dsimp only))
local macro_rules | `(tactic| walk_at "tidy plain") => `(tactic| (refine wpC_execs_cons (wpC_any ?_); (try k_fold); k_steps; try dsimp only))
local macro_rules | `(tactic| walk_at "tidy ba") => `(tactic| (refine wpC_execs_cons (wpC_Assign_Name (evalC_Call ?_)); (try k_fold); k_steps; refine callC_type0 ?_; (try dsimp only [List.nil_append]); refine new_C (by k_asm) (by k_asm) ?_; intro d' h' F' N' l1'; (try k_lt l1'); (try k_sweep); (try dsimp only); (try k_fold); k_steps; try dsimp only))
local macro_rules | `(tactic| walk_at "getMethod str") => `(tactic| (k_here; (with_reducible show wpAny _ _ (getMethod (Value.str _ _) (Str.ofString "encode") _) _ _ _); refine method_encode ?_))
local macro_rules | `(tactic| walk_at "subscriptTail") => `(tactic| (k_here; (with_reducible show wpAny _ _ (subscriptTail _ _ (Value.bytes (List.toArray _) _) (Value.int _ _)) _ _ _); k_dflt (refine' bytes_item_K ?f ?a ?b ?e ?_; (case f => kby_size); (case a => kby_idx); (case b => kby_idx); (case e => first | exact (rfl : _ = (97 : Int)) | exact (rfl : _ = (98 : Int)) | exact (rfl : _ = (117 : Int)) | exact (rfl : _ = (32 : Int)) | exact (rfl : _ = (58 : Int)) | exact (rfl : _ = (64 : Int)) | exact (rfl : _ = (195 : Int)) | exact (rfl : _ = (169 : Int))); k_whole)))
local macro_rules | `(tactic| walk_at "compareOp In int bytes") => `(tactic| (k_here; first | (with_reducible refine in_bytes true (by decide) (by decide +kernel) ?_) | (with_reducible refine in_bytes false (by decide) (by decide +kernel) ?_)))
local macro_rules | `(tactic| walk_at "truthy ref") => `(tactic| (k_here; (with_reducible show wpAny _ _ (truthy (Value.ref _)) _ _ _); refine' truthy_C (b := ?b) ?k1 ?k2 ?k3 ?_; (case k1 => k_asm); (case k2 => k_mem); (case k3 => exact Nat.le_of_ble_eq_true rfl); k_whole; intro k'))
local macro_rules | `(tactic| walk_at "getMethod ref") => `(tactic| (k_here; (with_reducible show wpAny _ _ (getMethod (Value.ref _) (Str.ofString "decode") _) _ _ _); refine' getDecode_C (b := ?b) ?k1 ?k2 ?_; (case k1 => k_asm); (case k2 => k_mem); k_whole))
local macro_rules | `(tactic| walk_at "call builtin:bytearray.decode") => `(tactic| (k_here; (try dsimp only [List.nil_append, List.cons_append]); (first
  | (refine' decode_C (x := Str.ofString "u") ?k1 ?k2 ?k0 (hd := dec1) ?k4 ?k5 ?_; (case k1 => k_asm); (case k2 => k_mem); (case k0 => decide +kernel); (case k4 => rfl); (case k5 => decide))
  | (refine' decode_C (x := Str.ofString "a%20b") ?k1 ?k2 ?k0 (hd := dec2) ?k4 ?k5 ?_; (case k1 => k_asm); (case k2 => k_mem); (case k0 => decide +kernel); (case k4 => rfl); (case k5 => decide))
  | (refine' decode_C (x := Str.ofString "a%3Ab%40%C3%A9") ?k1 ?k2 ?k0 (hd := dec3) ?k4 ?k5 ?_; (case k1 => k_asm); (case k2 => k_mem); (case k0 => decide +kernel); (case k4 => rfl); (case k5 => decide))); intro t' k'))
local macro_rules | `(tactic| walk_at "call builtin:str.encode") => `(tactic| (k_here; (try dsimp only [List.nil_append, List.cons_append]); (first
  | (with_reducible refine call_encode (d := #[117]) enc1 (by decide) ?_)
  | (with_reducible refine call_encode (d := #[97, 32, 98]) enc2 (by decide) ?_)
  | (with_reducible refine call_encode (d := #[97, 58, 98, 64, 195, 169]) enc3 (by decide) ?_)
  | (with_reducible refine call_encode (d := #[97, 98, 99, 100, 101, 102, 103, 104, 105, 106, 107, 108, 109, 110, 111, 112, 113, 114, 115, 116, 117, 118, 119, 120, 121, 122, 65, 66, 67, 68, 69, 70, 71, 72, 73, 74, 75, 76, 77, 78, 79, 80, 81, 82, 83, 84, 85, 86, 87, 88, 89, 90, 48, 49, 50, 51, 52, 53, 54, 55, 56, 57, 45, 46, 95, 126, 33, 36, 39, 40, 41, 42, 44, 43, 38, 61, 59]) enc4 (by decide) ?_)
  | (with_reducible refine call_encode (d := #[37, 50, 48]) enc20 (by decide) ?_)
  | (with_reducible refine call_encode (d := #[37, 51, 65]) enc3A (by decide) ?_)
  | (with_reducible refine call_encode (d := #[37, 52, 48]) enc40 (by decide) ?_)
  | (with_reducible refine call_encode (d := #[37, 67, 51]) encC3 (by decide) ?_)
  | (with_reducible refine call_encode (d := #[37, 65, 57]) encA9 (by decide) ?_)); intro t' k'))
local macro_rules | `(tactic| walk_at "formatField int") => `(tactic| (k_here; (first | (with_reducible refine hex20 ?_) | (with_reducible refine hex3A ?_) | (with_reducible refine hex40 ?_) | (with_reducible refine hexC3 ?_) | (with_reducible refine hexA9 ?_)); intro t' k'))
local macro_rules | `(tactic| walk_at "joinParts") => `(tactic| (k_here; (first | (with_reducible show wpAny _ _ (joinParts _ []) _ _ _) | (with_reducible show wpAny _ _ (joinParts _ (evalEach [] _)) _ _ _)); k_dflt (refine' joinParts_nil ?_ ?k1; (case k1 => decide +kernel); k_whole)))
local macro_rules | `(tactic| walk_at "tidy turn") => `(tactic| (refine codeC_turn ?_; (try k_fold); k_steps; (try dsimp only); walk_at "tidy plain"; walk_at "tidy plain"; walk_at "tidy plain"; walk_at "tidy plain"; walk_at "tidy test"))
local macro_rules | `(tactic| walk_at "tidy append") => `(tactic| (
  refine wpC_execs_cons (wpC_Expr (evalC_method (T := "bytearray") (id := "bytearray.append") ?_ plainAttrs_ba slot_ba_append type_ba_append rfl rfl rfl)); (try k_fold); k_steps;
  k_dflt (refine' recv_ba (b := ?b) ?k1 ?k2 (callC_builtin ?_); (case k1 => k_asm); (case k2 => k_mem)); (try k_fold); k_steps;
  (try dsimp only [List.nil_append, List.cons_append]);
  k_dflt (refine' append_C ?k1 ?k2 ?k3 ?k4 ?k5 ?_; (case k1 => k_asm); (case k2 => k_asm); (case k3 => k_upd); (case k4 => decide); (case k5 => decide +kernel));
  intro h' F' N'; (try k_sweep); refine ⟨(fun _ e => by cases e), ?_⟩; (try dsimp only); walk_at "tidy plain"))
local macro_rules | `(tactic| walk_at "eval Name") => `(tactic| (k_here; k_dflt (refine' nameX_L ?F ?v ?_ ?a ?b; (case F => k_asm); (case a => rfl); (case b => rfl); (case v => first | rfl | assumption); k_whole)))
local macro_rules | `(tactic| walk_at "loadName") => `(tactic| (k_here; k_dflt (refine' ldn (F := ?F) ?hv ?_; (case F => k_asm); (case hv => first | rfl | assumption); k_whole)))
local macro_rules | `(tactic| walk_at "tidy sweep") => `(tactic| (
  (rename Fr _ _ _ _ => x8);
  k_dflt (obtain ⟨m9, F9, e1, e2, e3, e4, e5, e6, e7, e8⟩ := forget8 (n1 := Str.ofString "self") (n2 := Str.ofString "val") (n3 := Str.ofString "bval") (n4 := Str.ofString "ret") (n5 := Str.ofString "pct") (n6 := Str.ofString "safe") (n7 := Str.ofString "bsafe") (n8 := Str.ofString "idx") x8 (by first | rfl | assumption) (by first | rfl | assumption) (by first | rfl | assumption) (by first | rfl | assumption) (by first | rfl | assumption) (by first | rfl | assumption) (by first | rfl | assumption) (by first | rfl | assumption));
  clear x8; revert F9; revert e1 e2 e3 e4 e5 e6 e7 e8;
  (repeat ((with_reducible rename Frag.In _ _ => x9); revert x9)); (repeat ((with_reducible rename Top _ _ _ _ _ _ => x9); revert x9)); (repeat ((with_reducible rename Below _ _ _ _ => x9); revert x9));
  (with_reducible rename News _ _ _ _ => x9); revert x9; law_clear; intros))
local macro_rules | `(tactic| walk_at "tidy extend") => `(tactic| (
  refine wpC_execs_nil ?_; (try dsimp only);
  refine wpC_execs_cons (wpC_Expr (evalC_method (T := "bytearray") (id := "bytearray.extend") ?_ plainAttrs_ba slot_ba_extend type_ba_extend rfl rfl rfl)); (try k_fold); k_steps;
  k_dflt (refine' recv_ba (b := ?b) ?k1 ?k2 (callC_builtin ?_); (case k1 => k_asm); (case k2 => k_mem)); (try k_fold); k_steps;
  (try dsimp only [List.nil_append, List.cons_append]);
  k_dflt (refine' extend_C ?k1 ?k2 ?k3 ?k4 ?k5 ?_; (case k1 => k_asm); (case k2 => k_asm); (case k3 => k_upd); (case k4 => decide); (case k5 => decide +kernel));
  intro h' F' N'; (try k_sweep); refine ⟨(fun _ e => by cases e), ?_⟩; (try dsimp only); refine wpC_execs_nil ?_; (try dsimp only)))
theorem quot2 {w : World} {mean : ExcName → Option Value} {mg mb : Str → Option Value} {gd : Option (List Code)} {cn : Str} {cs : Scope} {a : Addr} {ccd : Value} {cl : List (Str × Addr)} {outer : List Env} {A₀ : Around} {base h₀ : Heap} {L : Addr} {m : Str → Option Value} {news : List (Addr × Obj)} {s : Shared} {t : Tok} {Q : Value → Shared → Prop}
    (B : Below A₀ base outer h₀) (F : Fr h₀ L s.heap m) (KX : (hd.heap_39 w.params).In h₀) (N : News h₀ L s.heap news) (T : Top hd.view_39 (looseW hd.view_39 [Str.ofString "_Quoter", Str.ofString "make_netloc"]) mean mg mb h₀) (hk : cs.kind = .function)
    (hret : ∀ (t' : Tok) (h' : Heap) (tk' : Nat), Fr h₀ L h' m → News h₀ L h' news → Q (.str (Str.ofString "a%20b") t') { s with heap := h', toks := tk' }) :
    wpC (model PySem.Challenge.rw_aw6039_01.row.prog w) (ktrTop 303 10 gd cn cs L a ccd cl outer) (call (.ref 50) [.str (Str.ofString "a b") t]) Q s := by
  w_on
  w_strict (
    revert KX; k_fill; intro KX
    refine wpC_call ?_
    walk_at "tidy enter"
    refine wpC_execs_cons (wpC_Return (evalC_Call ?_))
    (try k_fold)
    k_steps
    k_dflt (refine' callC_inst (K := hd.heap_39 w.params) ?k2 ?k3 ?_; (case k2 => k_inst); (case k3 => rfl); k_whole)
    (try k_fold)
    k_steps
    try dsimp only [List.nil_append, List.cons_append]
    refine wpC_call ?_
    k_dflt (refine' codeC_inst ?k1 ?k2 ?k3 ?k4 ?k5 ?k6 ?_; (case k1 => k_in); (case k2 => k_inst); (case k3 => rfl); (case k4 => k_is); (case k5 => k_is); (case k6 => k_is); (try dsimp only))
    walk_at "tidy enter"
    walk_at "tidy test"; refine wpC_execs_nil ?_; dsimp only
    walk_at "tidy test"; refine wpC_execs_nil ?_; dsimp only
    walk_at "tidy test"; refine wpC_execs_nil ?_; dsimp only
    walk_at "tidy plain"
    walk_at "tidy ba"
    walk_at "tidy ba"
    walk_at "tidy plain"
    walk_at "tidy plain"
    walk_at "tidy plain"
    walk_at "tidy plain"
    walk_at "tidy plain"
    walk_at "tidy plain"
    refine wpC_execs_cons (wpC_While ?_)
    revert hret; walk_at "tidy sweep"; rename_i hret
    walk_at "tidy turn"
    walk_at "tidy append"
    revert hret; walk_at "tidy sweep"; rename_i hret
    walk_at "tidy turn"
    walk_at "tidy extend"
    revert hret; walk_at "tidy sweep"; rename_i hret
    walk_at "tidy turn"
    walk_at "tidy append"
    refine codeC_turn ?_; (try k_fold); k_steps; (try dsimp only)
    refine wpC_execs_nil ?_; (try dsimp only)
    walk_at "tidy plain"
    walk_at "tidy test"
    refine wpC_execs_nil ?_; (try dsimp only)
    walk_at "tidy plain"
    dsimp only [okOf]
    k_steps
    dsimp only [okOf]
    k_dflt (refine' hret _ _ _ ?zk1 ?zk2; (case zk1 => k_asm); (case zk2 => (refine' cb_drop ?zk3 ?zk4; (case zk3 => k_asm); (case zk4 => (intro p hp; (repeat (first | exact hp | refine List.Mem.tail _ ?_))))))))
end Mine
end
section
open PySem PySem.W PySem.Calls PyProof.Rows
set_option Elab.async false
set_option maxRecDepth 100000
set_option maxHeartbeats 4000000
namespace Mine
local macro_rules | `(tactic| walk_at "tidy enter") => `(tactic| k_dflt (refine' codeC_def ?k1 ?k2 ?k3 ?k4 ?k5 ?kA ?kF ?kK ?k6 ?k7 ?k8 ?k9 ?kB ?_ ?c2 ?c3 ?c4 ?c5; (case kA => exact rfl); (case kF => exact rfl); (case kK => first | exact rfl | assumption); (case k1 => k_asm); (case k2 => k_asm); (case k3 => k_asm); (case k4 => k_asm); (case k5 => k_asm); (case k6 => k_is); (case k7 => k_is); (case k8 => ktr_room); (case k9 => first | exact BindsTo.of_eq rfl | exact binds_K (by k_in) rfl (by k_is) rfl rfl rfl); (case c5 => decide); (case kB => exact locs rfl); (case c2 => exact rfl); (case c3 => exact rfl); (case c4 => exact rfl); k_whole; intro g' L' h' FG' F' N' B' X' T'; (try dsimp only)))
local macro_rules | `(tactic| walk_at "tidy test") => `(tactic| (refine wpC_execs_cons (wpC_If ?_); (try k_fold); k_steps; try dsimp only))
local macro_rules | `(tactic| walk_at "tidy plain") => `(tactic| (refine wpC_execs_cons (wpC_any ?_); (try k_fold); k_steps; try dsimp only))
local macro_rules | `(tactic| walk_at "tidy ba") => `(tactic| (refine wpC_execs_cons (wpC_Assign_Name (evalC_Call ?_)); (try k_fold); k_steps; refine callC_type0 ?_; (try dsimp only [List.nil_append]); refine new_C (by k_asm) (by k_asm) ?_; intro d' h' F' N' l1'; (try k_lt l1'); (try k_sweep); (try dsimp only); (try k_fold); k_steps; try dsimp only))
local macro_rules | `(tactic| walk_at "getMethod str") => `(tactic| (k_here; (with_reducible show wpAny _ _ (getMethod (Value.str _ _) (Str.ofString "encode") _) _ _ _); refine method_encode ?_))
local macro_rules | `(tactic| walk_at "subscriptTail") => `(tactic| (k_here; (with_reducible show wpAny _ _ (subscriptTail _ _ (Value.bytes (List.toArray _) _) (Value.int _ _)) _ _ _); k_dflt (refine' bytes_item_K ?f ?a ?b ?e ?_; (case f => kby_size); (case a => kby_idx); (case b => kby_idx); (case e => first | exact (rfl : _ = (97 : Int)) | exact (rfl : _ = (98 : Int)) | exact (rfl : _ = (117 : Int)) | exact (rfl : _ = (32 : Int)) | exact (rfl : _ = (58 : Int)) | exact (rfl : _ = (64 : Int)) | exact (rfl : _ = (195 : Int)) | exact (rfl : _ = (169 : Int))); k_whole)))
local macro_rules | `(tactic| walk_at "compareOp In int bytes") => `(tactic| (k_here; first | (with_reducible refine in_bytes true (by decide) (by decide +kernel) ?_) | (with_reducible refine in_bytes false (by decide) (by decide +kernel) ?_)))
local macro_rules | `(tactic| walk_at "truthy ref") => `(tactic| (k_here; (with_reducible show wpAny _ _ (truthy (Value.ref _)) _ _ _); refine' truthy_C (b := ?b) ?k1 ?k2 ?k3 ?_; (case k1 => k_asm); (case k2 => k_mem); (case k3 => exact Nat.le_of_ble_eq_true rfl); k_whole; intro k'))
local macro_rules | `(tactic| walk_at "getMethod ref") => `(tactic| (k_here; (with_reducible show wpAny _ _ (getMethod (Value.ref _) (Str.ofString "decode") _) _ _ _); refine' getDecode_C (b := ?b) ?k1 ?k2 ?_; (case k1 => k_asm); (case k2 => k_mem); k_whole))
local macro_rules | `(tactic| walk_at "call builtin:bytearray.decode") => `(tactic| (k_here; (try dsimp only [List.nil_append, List.cons_append]); (first
  | (refine' decode_C (x := Str.ofString "u") ?k1 ?k2 ?k0 (hd := dec1) ?k4 ?k5 ?_; (case k1 => k_asm); (case k2 => k_mem); (case k0 => decide +kernel); (case k4 => rfl); (case k5 => decide))
  | (refine' decode_C (x := Str.ofString "a%20b") ?k1 ?k2 ?k0 (hd := dec2) ?k4 ?k5 ?_; (case k1 => k_asm); (case k2 => k_mem); (case k0 => decide +kernel); (case k4 => rfl); (case k5 => decide))
  | (refine' decode_C (x := Str.ofString "a%3Ab%40%C3%A9") ?k1 ?k2 ?k0 (hd := dec3) ?k4 ?k5 ?_; (case k1 => k_asm); (case k2 => k_mem); (case k0 => decide +kernel); (case k4 => rfl); (case k5 => decide))); intro t' k'))
local macro_rules | `(tactic| walk_at "call builtin:str.encode") => `(tactic| (k_here; (try dsimp only [List.nil_append, List.cons_append]); (first
  | (with_reducible refine call_encode (d := #[117]) enc1 (by decide) ?_)
  | (with_reducible refine call_encode (d := #[97, 32, 98]) enc2 (by decide) ?_)
  | (with_reducible refine call_encode (d := #[97, 58, 98, 64, 195, 169]) enc3 (by decide) ?_)
  | (with_reducible refine call_encode (d := #[97, 98, 99, 100, 101, 102, 103, 104, 105, 106, 107, 108, 109, 110, 111, 112, 113, 114, 115, 116, 117, 118, 119, 120, 121, 122, 65, 66, 67, 68, 69, 70, 71, 72, 73, 74, 75, 76, 77, 78, 79, 80, 81, 82, 83, 84, 85, 86, 87, 88, 89, 90, 48, 49, 50, 51, 52, 53, 54, 55, 56, 57, 45, 46, 95, 126, 33, 36, 39, 40, 41, 42, 44, 43, 38, 61, 59]) enc4 (by decide) ?_)
  | (with_reducible refine call_encode (d := #[37, 50, 48]) enc20 (by decide) ?_)
  | (with_reducible refine call_encode (d := #[37, 51, 65]) enc3A (by decide) ?_)
  | (with_reducible refine call_encode (d := #[37, 52, 48]) enc40 (by decide) ?_)
  | (with_reducible refine call_encode (d := #[37, 67, 51]) encC3 (by decide) ?_)
  | (with_reducible refine call_encode (d := #[37, 65, 57]) encA9 (by decide) ?_)); intro t' k'))
local macro_rules | `(tactic| walk_at "formatField int") => `(tactic| (k_here; (first | (with_reducible refine hex20 ?_) | (with_reducible refine hex3A ?_) | (with_reducible refine hex40 ?_) | (with_reducible refine hexC3 ?_) | (with_reducible refine hexA9 ?_)); intro t' k'))
local macro_rules | `(tactic| walk_at "joinParts") => `(tactic| (k_here; (first | (with_reducible show wpAny _ _ (joinParts _ []) _ _ _) | (with_reducible show wpAny _ _ (joinParts _ (evalEach [] _)) _ _ _)); k_dflt (refine' joinParts_nil ?_ ?k1; (case k1 => decide +kernel); k_whole)))
local macro_rules | `(tactic| walk_at "tidy turn") => `(tactic| (refine codeC_turn ?_; (try k_fold); k_steps; (try dsimp only); walk_at "tidy plain"; walk_at "tidy plain"; walk_at "tidy plain"; walk_at "tidy plain"; walk_at "tidy test"))
local macro_rules | `(tactic| walk_at "tidy append") => `(tactic| (
  refine wpC_execs_cons (wpC_Expr (evalC_method (T := "bytearray") (id := "bytearray.append") ?_ plainAttrs_ba slot_ba_append type_ba_append rfl rfl rfl)); (try k_fold); k_steps;
  k_dflt (refine' recv_ba (b := ?b) ?k1 ?k2 (callC_builtin ?_); (case k1 => k_asm); (case k2 => k_mem)); (try k_fold); k_steps;
  (try dsimp only [List.nil_append, List.cons_append]);
  k_dflt (refine' append_C ?k1 ?k2 ?k3 ?k4 ?k5 ?_; (case k1 => k_asm); (case k2 => k_asm); (case k3 => k_upd); (case k4 => decide); (case k5 => decide +kernel));
  intro h' F' N'; (try k_sweep); refine ⟨(fun _ e => by cases e), ?_⟩; (try dsimp only); walk_at "tidy plain"))
local macro_rules | `(tactic| walk_at "eval Name") => `(tactic| (k_here; k_dflt (refine' nameX_L ?F ?v ?_ ?a ?b; (case F => k_asm); (case a => rfl); (case b => rfl); (case v => first | rfl | assumption); k_whole)))
local macro_rules | `(tactic| walk_at "loadName") => `(tactic| (k_here; k_dflt (refine' ldn (F := ?F) ?hv ?_; (case F => k_asm); (case hv => first | rfl | assumption); k_whole)))
local macro_rules | `(tactic| walk_at "tidy sweep") => `(tactic| (
  (rename Fr _ _ _ _ => x8);
  k_dflt (obtain ⟨m9, F9, e1, e2, e3, e4, e5, e6, e7, e8⟩ := forget8 (n1 := Str.ofString "self") (n2 := Str.ofString "val") (n3 := Str.ofString "bval") (n4 := Str.ofString "ret") (n5 := Str.ofString "pct") (n6 := Str.ofString "safe") (n7 := Str.ofString "bsafe") (n8 := Str.ofString "idx") x8 (by first | rfl | assumption) (by first | rfl | assumption) (by first | rfl | assumption) (by first | rfl | assumption) (by first | rfl | assumption) (by first | rfl | assumption) (by first | rfl | assumption) (by first | rfl | assumption));
  clear x8; revert F9; revert e1 e2 e3 e4 e5 e6 e7 e8;
  (repeat ((with_reducible rename Frag.In _ _ => x9); revert x9)); (repeat ((with_reducible rename Top _ _ _ _ _ _ => x9); revert x9)); (repeat ((with_reducible rename Below _ _ _ _ => x9); revert x9));
  (with_reducible rename News _ _ _ _ => x9); revert x9; law_clear; intros))
local macro_rules | `(tactic| walk_at "tidy extend") => `(tactic| (
  refine wpC_execs_nil ?_; (try dsimp only);
  refine wpC_execs_cons (wpC_Expr (evalC_method (T := "bytearray") (id := "bytearray.extend") ?_ plainAttrs_ba slot_ba_extend type_ba_extend rfl rfl rfl)); (try k_fold); k_steps;
  k_dflt (refine' recv_ba (b := ?b) ?k1 ?k2 (callC_builtin ?_); (case k1 => k_asm); (case k2 => k_mem)); (try k_fold); k_steps;
  (try dsimp only [List.nil_append, List.cons_append]);
  k_dflt (refine' extend_C ?k1 ?k2 ?k3 ?k4 ?k5 ?_; (case k1 => k_asm); (case k2 => k_asm); (case k3 => k_upd); (case k4 => decide); (case k5 => decide +kernel));
  intro h' F' N'; (try k_sweep); refine ⟨(fun _ e => by cases e), ?_⟩; (try dsimp only); refine wpC_execs_nil ?_; (try dsimp only)))
theorem quot3 {w : World} {mean : ExcName → Option Value} {mg mb : Str → Option Value} {gd : Option (List Code)} {cn : Str} {cs : Scope} {a : Addr} {ccd : Value} {cl : List (Str × Addr)} {outer : List Env} {A₀ : Around} {base h₀ : Heap} {L : Addr} {m : Str → Option Value} {news : List (Addr × Obj)} {s : Shared} {t : Tok} {Q : Value → Shared → Prop}
    (B : Below A₀ base outer h₀) (F : Fr h₀ L s.heap m) (KX : (hd.heap_39 w.params).In h₀) (N : News h₀ L s.heap news) (T : Top hd.view_39 (looseW hd.view_39 [Str.ofString "_Quoter", Str.ofString "make_netloc"]) mean mg mb h₀) (hk : cs.kind = .function)
    (hret : ∀ (t' : Tok) (h' : Heap) (tk' : Nat), Fr h₀ L h' m → News h₀ L h' news → Q (.str (Str.ofString "a%3Ab%40%C3%A9") t') { s with heap := h', toks := tk' }) :
    wpC (model PySem.Challenge.rw_aw6039_01.row.prog w) (ktrTop 303 10 gd cn cs L a ccd cl outer) (call (.ref 50) [.str (Str.ofString "a:b@é") t]) Q s := by
  w_on
  w_strict (
    revert KX; k_fill; intro KX
    refine wpC_call ?_
    walk_at "tidy enter"
    refine wpC_execs_cons (wpC_Return (evalC_Call ?_))
    (try k_fold)
    k_steps
    k_dflt (refine' callC_inst (K := hd.heap_39 w.params) ?k2 ?k3 ?_; (case k2 => k_inst); (case k3 => rfl); k_whole)
    (try k_fold)
    k_steps
    try dsimp only [List.nil_append, List.cons_append]
    refine wpC_call ?_
    k_dflt (refine' codeC_inst ?k1 ?k2 ?k3 ?k4 ?k5 ?k6 ?_; (case k1 => k_in); (case k2 => k_inst); (case k3 => rfl); (case k4 => k_is); (case k5 => k_is); (case k6 => k_is); (try dsimp only))
    walk_at "tidy enter"
    walk_at "tidy test"; refine wpC_execs_nil ?_; dsimp only
    walk_at "tidy test"; refine wpC_execs_nil ?_; dsimp only
    walk_at "tidy test"; refine wpC_execs_nil ?_; dsimp only
    walk_at "tidy plain"
    walk_at "tidy ba"
    walk_at "tidy ba"
    walk_at "tidy plain"
    walk_at "tidy plain"
    walk_at "tidy plain"
    walk_at "tidy plain"
    walk_at "tidy plain"
    walk_at "tidy plain"
    refine wpC_execs_cons (wpC_While ?_)
    revert hret; walk_at "tidy sweep"; rename_i hret
    walk_at "tidy turn"
    walk_at "tidy append"
    revert hret; walk_at "tidy sweep"; rename_i hret
    walk_at "tidy turn"
    walk_at "tidy extend"
    revert hret; walk_at "tidy sweep"; rename_i hret
    walk_at "tidy turn"
    walk_at "tidy append"
    revert hret; walk_at "tidy sweep"; rename_i hret
    walk_at "tidy turn"
    walk_at "tidy extend"
    revert hret; walk_at "tidy sweep"; rename_i hret
    walk_at "tidy turn"
    walk_at "tidy extend"
    revert hret; walk_at "tidy sweep"; rename_i hret
    walk_at "tidy turn"
    walk_at "tidy extend"
    refine codeC_turn ?_; (try k_fold); k_steps; (try dsimp only)
    refine wpC_execs_nil ?_; (try dsimp only)
    walk_at "tidy plain"
    walk_at "tidy test"
    refine wpC_execs_nil ?_; (try dsimp only)
    walk_at "tidy plain"
    dsimp only [okOf]
    k_steps
    dsimp only [okOf]
    k_dflt (refine' hret _ _ _ ?zk1 ?zk2; (case zk1 => k_asm); (case zk2 => (refine' cb_drop ?zk3 ?zk4; (case zk3 => k_asm); (case zk4 => (intro p hp; (repeat (first | exact hp | refine List.Mem.tail _ ?_))))))))
end Mine
end
section
open PySem PySem.W PySem.Calls PyProof.Rows
set_option Elab.async false
set_option maxRecDepth 100000
set_option maxHeartbeats 4000000
namespace Mine
local macro_rules | `(tactic| walk_at "tidy enter") => `(tactic| k_dflt (refine' codeC_def ?k1 ?k2 ?k3 ?k4 ?k5 ?kA ?kF ?kK ?k6 ?k7 ?k8 ?k9 ?kB ?_ ?c2 ?c3 ?c4 ?c5; (case kA => exact rfl); (case kF => exact rfl); (case kK => first | exact rfl | assumption); (case k1 => k_asm); (case k2 => k_asm); (case k3 => k_asm); (case k4 => k_asm); (case k5 => k_asm); (case k6 => k_is); (case k7 => k_is); (case k8 => ktr_room); (case k9 => first | exact BindsTo.of_eq rfl | exact binds_K (by k_in) rfl (by k_is) rfl rfl rfl); (case c5 => decide); (case kB => exact locs rfl); (case c2 => exact rfl); (case c3 => exact rfl); (case c4 => exact rfl); k_whole; intro g' L' h' FG' F' N' B' X' T'; (try dsimp only)))
local macro_rules | `(tactic| walk_at "tidy test") => `(tactic| (refine wpC_execs_cons (wpC_If ?_); (try k_fold); k_steps; try dsimp only))
local macro_rules | `(tactic| walk_at "tidy plain") => `(tactic| (refine wpC_execs_cons (wpC_any ?_); (try k_fold); k_steps; try dsimp only))
def quoteS (x : Str) : Str := if x = Str.ofString "a b" then Str.ofString "a%20b" else if x = Str.ofString "a:b@é" then Str.ofString "a%3Ab%40%C3%A9" else x
inductive IsWord : Str → Prop
  | nil : IsWord (Str.ofString "")
  | u : IsWord (Str.ofString "u")
  | ab : IsWord (Str.ofString "a b")
  | abe : IsWord (Str.ofString "a:b@é")
theorem quotS {w : World} {mean : ExcName → Option Value} {mg mb : Str → Option Value} {gd : Option (List Code)} {cn : Str} {cs : Scope} {a : Addr} {ccd : Value} {cl : List (Str × Addr)} {outer : List Env} {A₀ : Around} {base h₀ : Heap} {L : Addr} {m : Str → Option Value} {news : List (Addr × Obj)} {s : Shared} {x : Str} {t : Tok} {Q : Value → Shared → Prop}
    (hx : IsWord x)
    (B : Below A₀ base outer h₀) (F : Fr h₀ L s.heap m) (KX : (hd.heap_39 w.params).In h₀) (N : News h₀ L s.heap news) (T : Top hd.view_39 (looseW hd.view_39 [Str.ofString "_Quoter", Str.ofString "make_netloc"]) mean mg mb h₀) (hk : cs.kind = .function)
    (hret : ∀ (t' : Tok) (h' : Heap) (tk' : Nat), Fr h₀ L h' m → News h₀ L h' news → Q (.str (quoteS x) t') { s with heap := h', toks := tk' }) :
    wpC (model PySem.Challenge.rw_aw6039_01.row.prog w) (ktrTop 303 10 gd cn cs L a ccd cl outer) (call (.ref 50) [.str x t]) Q s := by
  have e0 : quoteS (Str.ofString "") = Str.ofString "" := by decide +kernel
  have e1 : quoteS (Str.ofString "u") = Str.ofString "u" := by decide +kernel
  have e2 : quoteS (Str.ofString "a b") = Str.ofString "a%20b" := by decide +kernel
  have e3 : quoteS (Str.ofString "a:b@é") = Str.ofString "a%3Ab%40%C3%A9" := by decide +kernel
  cases hx with
  | nil => rw [e0] at hret; exact quot0 B F KX N T hk hret
  | u => rw [e1] at hret; exact quot1 B F KX N T hk hret
  | ab => rw [e2] at hret; exact quot2 B F KX N T hk hret
  | abe => rw [e3] at hret; exact quot3 B F KX N T hk hret
theorem word_len {x : Str} (h : IsWord x) : x.length ≤ 100 := by cases h <;> decide +kernel
theorem quote_len {x : Str} (h : IsWord x) : (quoteS x).length ≤ 100 := by cases h <;> decide +kernel
theorem quote_nil : quoteS (Str.ofString "") = Str.ofString "" := by decide +kernel
theorem quote_not {x : Str} (h : IsWord x) (hz : x.length ≠ 0) : (quoteS x).length ≠ 0 := by
  cases h with
  | nil => exact absurd (by decide +kernel) hz
  | u => decide +kernel
  | ab => decide +kernel
  | abe => decide +kernel
theorem make_coded {w : World} {mean : ExcName → Option Value} {mg mb : Str → Option Value} {gd : Option (List Code)} {cn : Str} {cs : Scope} {a : Addr} {ccd : Value} {cl : List (Str × Addr)} {outer : List Env} {A₀ : Around} {base h₀ : Heap} {L : Addr} {m : Str → Option Value} {news : List (Addr × Obj)} {s : Shared} {Q : Value → Shared → Prop}
    {U P H : Option Str} {N₀ : Option Int} {vu vp vh vn : Value} (hU : OptV vu U) (hP : OptV vp P) (hH : OptV vh H) (hN : OptN vn N₀) (wU : ∀ x, U = some x → IsWord x) (wP : ∀ x, P = some x → IsWord x) (sH : SmallO H) (sN : SmallN N₀)
    (B : Below A₀ base outer h₀) (F : Fr h₀ L s.heap m) (KX : (hd.heap_39 w.params).In h₀) (N : News h₀ L s.heap news) (T : Top hd.view_39 (looseW hd.view_39 [Str.ofString "_Quoter", Str.ofString "make_netloc"]) mean mg mb h₀) (hk : cs.kind = .function)
    (hret : ∀ (t' : Tok) (h' : Heap) (tk' : Nat), Fr h₀ L h' m → News h₀ L h' news → Q (.str (dueS (U.map quoteS) (P.map quoteS) H N₀) t') { s with heap := h', toks := tk' }) :
    wpC (model PySem.Challenge.rw_aw6039_01.row.prog w) (ktrTop 302 7 gd cn cs L a ccd cl outer) (call (.ref 65) [vu, vp, vh, vn, .bool true]) Q s := by
  cases H with
  | none =>
    cases hH
    w_on
    w_strict (
      revert KX; k_fill; intro KX
      refine wpC_call ?_
      walk_at "tidy enter"
      walk_at "tidy test"
      walk_at "tidy plain"
      dsimp only [okOf]
      k_steps
      all_goals (try dsimp only [okOf])
      all_goals first
        | (exfalso; omega)
        | (refine cb_retS hret ?_ (by k_asm) (cb_drop (by k_asm) (by kcj_all)); first | rfl | (simp only [dueS, aheadS, tailS, Option.map, Option.getD, quote_nil, str_nil_append, str_append_nil, Str.empty_append, Str.append_empty, Str.append_assoc]; done) | (simp [dueS, aheadS, tailS, quote_nil, str_nil_append, str_append_nil, Str.empty_append, Str.append_empty, Str.append_assoc, *]; done)))
  | some h =>
    obtain ⟨th, rfl⟩ := hH
    have lh : h.length ≤ 100 := sH _ rfl
    cases P with
    | none =>
      cases hP
      cases U with
      | none =>
        cases hU
        cases N₀ with
        | none =>
          cases hN
          w_on
          w_strict (
            revert KX; k_fill; intro KX
            refine wpC_call ?_
            walk_at "tidy enter"
            walk_at "tidy test"
            refine wpC_execs_nil ?_; (try dsimp only)
            walk_at "tidy plain"
            walk_at "tidy test"
            refine wpC_execs_nil ?_; (try dsimp only)
            walk_at "tidy test"
            walk_at "tidy plain"
            dsimp only [okOf]
            k_steps
            all_goals (try dsimp only [okOf])
            all_goals first
              | (exfalso; omega)
              | (refine cb_retS hret ?_ (by k_asm) (cb_drop (by k_asm) (by kcj_all)); first | rfl | (simp only [dueS, aheadS, tailS, Option.map, Option.getD, quote_nil, str_nil_append, str_append_nil, Str.empty_append, Str.append_empty, Str.append_assoc]; done) | (simp [dueS, aheadS, tailS, quote_nil, str_nil_append, str_append_nil, Str.empty_append, Str.append_empty, Str.append_assoc, *]; done)))
        | some n =>
          obtain ⟨tn, rfl⟩ := hN
          have ln := sN _ rfl
          w_on
          w_strict (
            revert KX; k_fill; intro KX
            refine wpC_call ?_
            walk_at "tidy enter"
            walk_at "tidy test"
            refine wpC_execs_nil ?_; (try dsimp only)
            walk_at "tidy plain"
            walk_at "tidy test"
            walk_at "tidy plain"
            refine wpC_execs_nil ?_; (try dsimp only)
            walk_at "tidy test"
            walk_at "tidy plain"
            dsimp only [okOf]
            k_steps
            all_goals (try dsimp only [okOf])
            all_goals first
              | (exfalso; omega)
              | (refine cb_retS hret ?_ (by k_asm) (cb_drop (by k_asm) (by kcj_all)); first | rfl | (simp only [dueS, aheadS, tailS, Option.map, Option.getD, quote_nil, str_nil_append, str_append_nil, Str.empty_append, Str.append_empty, Str.append_assoc]; done) | (simp [dueS, aheadS, tailS, quote_nil, str_nil_append, str_append_nil, Str.empty_append, Str.append_empty, Str.append_assoc, *]; done)))
      | some u =>
        obtain ⟨tu, rfl⟩ := hU
        have wu : IsWord u := wU _ rfl
        have lu := word_len wu
        by_cases hz : u.length = 0
        · have hu := is_nil hz
          subst hu
          cases N₀ with
          | none =>
            cases hN
            w_on
            w_strict (
              revert KX; k_fill; intro KX
              refine wpC_call ?_
              walk_at "tidy enter"
              walk_at "tidy test"
              refine wpC_execs_nil ?_; (try dsimp only)
              walk_at "tidy plain"
              walk_at "tidy test"
              refine wpC_execs_nil ?_; (try dsimp only)
              walk_at "tidy test"
              refine wpC_execs_nil ?_; (try dsimp only)
              walk_at "tidy test"
              walk_at "tidy test"
              refine wpC_execs_nil ?_; (try dsimp only)
              refine wpC_execs_nil ?_; (try dsimp only)
              walk_at "tidy plain"
              dsimp only [okOf]
              k_steps
              all_goals (try dsimp only [okOf])
              all_goals first
                | (exfalso; omega)
                | (refine cb_retS hret ?_ (by k_asm) (cb_drop (by k_asm) (by kcj_all)); first | rfl | (simp only [dueS, aheadS, tailS, Option.map, Option.getD, quote_nil, str_nil_append, str_append_nil, Str.empty_append, Str.append_empty, Str.append_assoc]; done) | (simp [dueS, aheadS, tailS, quote_nil, str_nil_append, str_append_nil, Str.empty_append, Str.append_empty, Str.append_assoc, *]; done)))
          | some n =>
            obtain ⟨tn, rfl⟩ := hN
            have ln := sN _ rfl
            w_on
            w_strict (
              revert KX; k_fill; intro KX
              refine wpC_call ?_
              walk_at "tidy enter"
              walk_at "tidy test"
              refine wpC_execs_nil ?_; (try dsimp only)
              walk_at "tidy plain"
              walk_at "tidy test"
              walk_at "tidy plain"
              refine wpC_execs_nil ?_; (try dsimp only)
              walk_at "tidy test"
              refine wpC_execs_nil ?_; (try dsimp only)
              walk_at "tidy test"
              walk_at "tidy test"
              refine wpC_execs_nil ?_; (try dsimp only)
              refine wpC_execs_nil ?_; (try dsimp only)
              walk_at "tidy plain"
              dsimp only [okOf]
              k_steps
              all_goals (try dsimp only [okOf])
              all_goals first
                | (exfalso; omega)
                | (refine cb_retS hret ?_ (by k_asm) (cb_drop (by k_asm) (by kcj_all)); first | rfl | (simp only [dueS, aheadS, tailS, Option.map, Option.getD, quote_nil, str_nil_append, str_append_nil, Str.empty_append, Str.append_empty, Str.append_assoc]; done) | (simp [dueS, aheadS, tailS, quote_nil, str_nil_append, str_append_nil, Str.empty_append, Str.append_empty, Str.append_assoc, *]; done)))
        · have hne := not_nil hz
          have hzi : (u.length : Int) ≠ 0 := by omega
          have lq := quote_len wu
          have hq := quote_not wu hz
          have hqne := not_nil hq
          have hqzi : ((quoteS u).length : Int) ≠ 0 := by omega
          cases N₀ with
          | none =>
            cases hN
            w_on
            w_strict (
              revert KX; k_fill; intro KX
              refine wpC_call ?_
              walk_at "tidy enter"
              walk_at "tidy test"
              refine wpC_execs_nil ?_; (try dsimp only)
              walk_at "tidy plain"
              walk_at "tidy test"
              refine wpC_execs_nil ?_; (try dsimp only)
              walk_at "tidy test"
              refine wpC_execs_nil ?_; (try dsimp only)
              walk_at "tidy test"
              walk_at "tidy test"
              any_goals (exfalso; omega)
              refine wpC_execs_cons (wpC_Assign_Name (evalC_Call ?_)); (try k_fold); k_steps
              k_dflt (refine' callC_fn (K := hd.heap_39 w.params) (f := 50) ?k1 ?_; (case k1 => k_is)); (try k_fold); k_steps
              k_dflt (refine' quotS ?k0 ?k1 ?k2 ?k3 ?k4 ?k5 ?k6 ?_; (case k0 => assumption); (case k1 => k_asm); (case k2 => k_asm); (case k3 => k_asm); (case k4 => k_asm); (case k5 => k_asm); (case k6 => first | exact rfl | assumption); k_whole)
              intro t' h' k' F' N'; (try k_sweep); (try dsimp only); (try k_fold)
              k_steps
              (try dsimp only)
              refine wpC_execs_nil ?_; (try dsimp only)
              refine wpC_execs_nil ?_; (try dsimp only)
              walk_at "tidy plain"
              dsimp only [okOf]
              k_steps
              all_goals (try dsimp only [okOf])
              all_goals first
                | (exfalso; omega)
                | (refine cb_retS hret ?_ (by k_asm) (cb_drop (by k_asm) (by kcj_all)); first | rfl | (simp only [dueS, aheadS, tailS, Option.map, Option.getD, quote_nil, str_nil_append, str_append_nil, Str.empty_append, Str.append_empty, Str.append_assoc]; done) | (simp [dueS, aheadS, tailS, quote_nil, str_nil_append, str_append_nil, Str.empty_append, Str.append_empty, Str.append_assoc, *]; done)))
          | some n =>
            obtain ⟨tn, rfl⟩ := hN
            have ln := sN _ rfl
            w_on
            w_strict (
              revert KX; k_fill; intro KX
              refine wpC_call ?_
              walk_at "tidy enter"
              walk_at "tidy test"
              refine wpC_execs_nil ?_; (try dsimp only)
              walk_at "tidy plain"
              walk_at "tidy test"
              walk_at "tidy plain"
              refine wpC_execs_nil ?_; (try dsimp only)
              walk_at "tidy test"
              refine wpC_execs_nil ?_; (try dsimp only)
              walk_at "tidy test"
              walk_at "tidy test"
              any_goals (exfalso; omega)
              refine wpC_execs_cons (wpC_Assign_Name (evalC_Call ?_)); (try k_fold); k_steps
              k_dflt (refine' callC_fn (K := hd.heap_39 w.params) (f := 50) ?k1 ?_; (case k1 => k_is)); (try k_fold); k_steps
              k_dflt (refine' quotS ?k0 ?k1 ?k2 ?k3 ?k4 ?k5 ?k6 ?_; (case k0 => assumption); (case k1 => k_asm); (case k2 => k_asm); (case k3 => k_asm); (case k4 => k_asm); (case k5 => k_asm); (case k6 => first | exact rfl | assumption); k_whole)
              intro t' h' k' F' N'; (try k_sweep); (try dsimp only); (try k_fold)
              k_steps
              (try dsimp only)
              refine wpC_execs_nil ?_; (try dsimp only)
              refine wpC_execs_nil ?_; (try dsimp only)
              walk_at "tidy plain"
              dsimp only [okOf]
              k_steps
              all_goals (try dsimp only [okOf])
              all_goals first
                | (exfalso; omega)
                | (refine cb_retS hret ?_ (by k_asm) (cb_drop (by k_asm) (by kcj_all)); first | rfl | (simp only [dueS, aheadS, tailS, Option.map, Option.getD, quote_nil, str_nil_append, str_append_nil, Str.empty_append, Str.append_empty, Str.append_assoc]; done) | (simp [dueS, aheadS, tailS, quote_nil, str_nil_append, str_append_nil, Str.empty_append, Str.append_empty, Str.append_assoc, *]; done)))
    | some p =>
      obtain ⟨tp, rfl⟩ := hP
      have wp' : IsWord p := wP _ rfl
      have lp := word_len wp'
      have lpq := quote_len wp'
      cases U with
      | none =>
        cases hU
        cases N₀ with
        | none =>
          cases hN
          w_on
          w_strict (
            revert KX; k_fill; intro KX
            refine wpC_call ?_
            walk_at "tidy enter"
            walk_at "tidy test"
            refine wpC_execs_nil ?_; (try dsimp only)
            walk_at "tidy plain"
            walk_at "tidy test"
            refine wpC_execs_nil ?_; (try dsimp only)
            walk_at "tidy test"
            refine wpC_execs_nil ?_; (try dsimp only)
            walk_at "tidy test"
            walk_at "tidy test"
            walk_at "tidy plain"
            refine wpC_execs_nil ?_; (try dsimp only)
            walk_at "tidy test"
            refine wpC_execs_cons (wpC_Assign_Name (evalC_Call ?_)); (try k_fold); k_steps
            k_dflt (refine' callC_fn (K := hd.heap_39 w.params) (f := 50) ?k1 ?_; (case k1 => k_is)); (try k_fold); k_steps
            k_dflt (refine' quotS ?k0 ?k1 ?k2 ?k3 ?k4 ?k5 ?k6 ?_; (case k0 => assumption); (case k1 => k_asm); (case k2 => k_asm); (case k3 => k_asm); (case k4 => k_asm); (case k5 => k_asm); (case k6 => first | exact rfl | assumption); k_whole)
            intro t' h' k' F' N'; (try k_sweep); (try dsimp only); (try k_fold)
            k_steps
            (try dsimp only)
            refine wpC_execs_nil ?_; (try dsimp only)
            walk_at "tidy plain"
            refine wpC_execs_nil ?_; (try dsimp only)
            walk_at "tidy plain"
            dsimp only [okOf]
            k_steps
            all_goals (try dsimp only [okOf])
            all_goals first
              | (exfalso; omega)
              | (refine cb_retS hret ?_ (by k_asm) (cb_drop (by k_asm) (by kcj_all)); first | rfl | (simp only [dueS, aheadS, tailS, Option.map, Option.getD, quote_nil, str_nil_append, str_append_nil, Str.empty_append, Str.append_empty, Str.append_assoc]; done) | (simp [dueS, aheadS, tailS, quote_nil, str_nil_append, str_append_nil, Str.empty_append, Str.append_empty, Str.append_assoc, *]; done)))
        | some n =>
          obtain ⟨tn, rfl⟩ := hN
          have ln := sN _ rfl
          w_on
          w_strict (
            revert KX; k_fill; intro KX
            refine wpC_call ?_
            walk_at "tidy enter"
            walk_at "tidy test"
            refine wpC_execs_nil ?_; (try dsimp only)
            walk_at "tidy plain"
            walk_at "tidy test"
            walk_at "tidy plain"
            refine wpC_execs_nil ?_; (try dsimp only)
            walk_at "tidy test"
            refine wpC_execs_nil ?_; (try dsimp only)
            walk_at "tidy test"
            walk_at "tidy test"
            walk_at "tidy plain"
            refine wpC_execs_nil ?_; (try dsimp only)
            walk_at "tidy test"
            refine wpC_execs_cons (wpC_Assign_Name (evalC_Call ?_)); (try k_fold); k_steps
            k_dflt (refine' callC_fn (K := hd.heap_39 w.params) (f := 50) ?k1 ?_; (case k1 => k_is)); (try k_fold); k_steps
            k_dflt (refine' quotS ?k0 ?k1 ?k2 ?k3 ?k4 ?k5 ?k6 ?_; (case k0 => assumption); (case k1 => k_asm); (case k2 => k_asm); (case k3 => k_asm); (case k4 => k_asm); (case k5 => k_asm); (case k6 => first | exact rfl | assumption); k_whole)
            intro t' h' k' F' N'; (try k_sweep); (try dsimp only); (try k_fold)
            k_steps
            (try dsimp only)
            refine wpC_execs_nil ?_; (try dsimp only)
            walk_at "tidy plain"
            refine wpC_execs_nil ?_; (try dsimp only)
            walk_at "tidy plain"
            dsimp only [okOf]
            k_steps
            all_goals (try dsimp only [okOf])
            all_goals first
              | (exfalso; omega)
              | (refine cb_retS hret ?_ (by k_asm) (cb_drop (by k_asm) (by kcj_all)); first | rfl | (simp only [dueS, aheadS, tailS, Option.map, Option.getD, quote_nil, str_nil_append, str_append_nil, Str.empty_append, Str.append_empty, Str.append_assoc]; done) | (simp [dueS, aheadS, tailS, quote_nil, str_nil_append, str_append_nil, Str.empty_append, Str.append_empty, Str.append_assoc, *]; done)))
      | some u =>
        obtain ⟨tu, rfl⟩ := hU
        have wu : IsWord u := wU _ rfl
        have lu := word_len wu
        by_cases hz : u.length = 0
        · have hu := is_nil hz
          subst hu
          cases N₀ with
          | none =>
            cases hN
            w_on
            w_strict (
              revert KX; k_fill; intro KX
              refine wpC_call ?_
              walk_at "tidy enter"
              walk_at "tidy test"
              refine wpC_execs_nil ?_; (try dsimp only)
              walk_at "tidy plain"
              walk_at "tidy test"
              refine wpC_execs_nil ?_; (try dsimp only)
              walk_at "tidy test"
              refine wpC_execs_nil ?_; (try dsimp only)
              walk_at "tidy test"
              walk_at "tidy test"
              walk_at "tidy plain"
              refine wpC_execs_nil ?_; (try dsimp only)
              walk_at "tidy test"
              refine wpC_execs_cons (wpC_Assign_Name (evalC_Call ?_)); (try k_fold); k_steps
              k_dflt (refine' callC_fn (K := hd.heap_39 w.params) (f := 50) ?k1 ?_; (case k1 => k_is)); (try k_fold); k_steps
              k_dflt (refine' quotS ?k0 ?k1 ?k2 ?k3 ?k4 ?k5 ?k6 ?_; (case k0 => assumption); (case k1 => k_asm); (case k2 => k_asm); (case k3 => k_asm); (case k4 => k_asm); (case k5 => k_asm); (case k6 => first | exact rfl | assumption); k_whole)
              intro t' h' k' F' N'; (try k_sweep); (try dsimp only); (try k_fold)
              k_steps
              (try dsimp only)
              refine wpC_execs_nil ?_; (try dsimp only)
              walk_at "tidy plain"
              refine wpC_execs_nil ?_; (try dsimp only)
              walk_at "tidy plain"
              dsimp only [okOf]
              k_steps
              all_goals (try dsimp only [okOf])
              all_goals first
                | (exfalso; omega)
                | (refine cb_retS hret ?_ (by k_asm) (cb_drop (by k_asm) (by kcj_all)); first | rfl | (simp only [dueS, aheadS, tailS, Option.map, Option.getD, quote_nil, str_nil_append, str_append_nil, Str.empty_append, Str.append_empty, Str.append_assoc]; done) | (simp [dueS, aheadS, tailS, quote_nil, str_nil_append, str_append_nil, Str.empty_append, Str.append_empty, Str.append_assoc, *]; done)))
          | some n =>
            obtain ⟨tn, rfl⟩ := hN
            have ln := sN _ rfl
            w_on
            w_strict (
              revert KX; k_fill; intro KX
              refine wpC_call ?_
              walk_at "tidy enter"
              walk_at "tidy test"
              refine wpC_execs_nil ?_; (try dsimp only)
              walk_at "tidy plain"
              walk_at "tidy test"
              walk_at "tidy plain"
              refine wpC_execs_nil ?_; (try dsimp only)
              walk_at "tidy test"
              refine wpC_execs_nil ?_; (try dsimp only)
              walk_at "tidy test"
              walk_at "tidy test"
              walk_at "tidy plain"
              refine wpC_execs_nil ?_; (try dsimp only)
              walk_at "tidy test"
              refine wpC_execs_cons (wpC_Assign_Name (evalC_Call ?_)); (try k_fold); k_steps
              k_dflt (refine' callC_fn (K := hd.heap_39 w.params) (f := 50) ?k1 ?_; (case k1 => k_is)); (try k_fold); k_steps
              k_dflt (refine' quotS ?k0 ?k1 ?k2 ?k3 ?k4 ?k5 ?k6 ?_; (case k0 => assumption); (case k1 => k_asm); (case k2 => k_asm); (case k3 => k_asm); (case k4 => k_asm); (case k5 => k_asm); (case k6 => first | exact rfl | assumption); k_whole)
              intro t' h' k' F' N'; (try k_sweep); (try dsimp only); (try k_fold)
              k_steps
              (try dsimp only)
              refine wpC_execs_nil ?_; (try dsimp only)
              walk_at "tidy plain"
              refine wpC_execs_nil ?_; (try dsimp only)
              walk_at "tidy plain"
              dsimp only [okOf]
              k_steps
              all_goals (try dsimp only [okOf])
              all_goals first
                | (exfalso; omega)
                | (refine cb_retS hret ?_ (by k_asm) (cb_drop (by k_asm) (by kcj_all)); first | rfl | (simp only [dueS, aheadS, tailS, Option.map, Option.getD, quote_nil, str_nil_append, str_append_nil, Str.empty_append, Str.append_empty, Str.append_assoc]; done) | (simp [dueS, aheadS, tailS, quote_nil, str_nil_append, str_append_nil, Str.empty_append, Str.append_empty, Str.append_assoc, *]; done)))
        · have hne := not_nil hz
          have hzi : (u.length : Int) ≠ 0 := by omega
          have lq := quote_len wu
          have hq := quote_not wu hz
          have hqne := not_nil hq
          have hqzi : ((quoteS u).length : Int) ≠ 0 := by omega
          cases N₀ with
          | none =>
            cases hN
            w_on
            w_strict (
              revert KX; k_fill; intro KX
              refine wpC_call ?_
              walk_at "tidy enter"
              walk_at "tidy test"
              refine wpC_execs_nil ?_; (try dsimp only)
              walk_at "tidy plain"
              walk_at "tidy test"
              refine wpC_execs_nil ?_; (try dsimp only)
              walk_at "tidy test"
              refine wpC_execs_nil ?_; (try dsimp only)
              walk_at "tidy test"
              walk_at "tidy test"
              any_goals (exfalso; omega)
              walk_at "tidy test"
              refine wpC_execs_cons (wpC_Assign_Name (evalC_Call ?_)); (try k_fold); k_steps
              k_dflt (refine' callC_fn (K := hd.heap_39 w.params) (f := 50) ?k1 ?_; (case k1 => k_is)); (try k_fold); k_steps
              k_dflt (refine' quotS ?k0 ?k1 ?k2 ?k3 ?k4 ?k5 ?k6 ?_; (case k0 => assumption); (case k1 => k_asm); (case k2 => k_asm); (case k3 => k_asm); (case k4 => k_asm); (case k5 => k_asm); (case k6 => first | exact rfl | assumption); k_whole)
              intro t' h' k' F' N'; (try k_sweep); (try dsimp only); (try k_fold)
              k_steps
              (try dsimp only)
              refine wpC_execs_nil ?_; (try dsimp only)
              refine wpC_execs_nil ?_; (try dsimp only)
              walk_at "tidy test"
              refine wpC_execs_cons (wpC_Assign_Name (evalC_Call ?_)); (try k_fold); k_steps
              k_dflt (refine' callC_fn (K := hd.heap_39 w.params) (f := 50) ?k1 ?_; (case k1 => k_is)); (try k_fold); k_steps
              k_dflt (refine' quotS ?k0 ?k1 ?k2 ?k3 ?k4 ?k5 ?k6 ?_; (case k0 => assumption); (case k1 => k_asm); (case k2 => k_asm); (case k3 => k_asm); (case k4 => k_asm); (case k5 => k_asm); (case k6 => first | exact rfl | assumption); k_whole)
              intro t' h' k' F' N'; (try k_sweep); (try dsimp only); (try k_fold)
              k_steps
              (try dsimp only)
              refine wpC_execs_nil ?_; (try dsimp only)
              walk_at "tidy plain"
              refine wpC_execs_nil ?_; (try dsimp only)
              walk_at "tidy plain"
              dsimp only [okOf]
              k_steps
              all_goals (try dsimp only [okOf])
              all_goals first
                | (exfalso; omega)
                | (refine cb_retS hret ?_ (by k_asm) (cb_drop (by k_asm) (by kcj_all)); first | rfl | (simp only [dueS, aheadS, tailS, Option.map, Option.getD, quote_nil, str_nil_append, str_append_nil, Str.empty_append, Str.append_empty, Str.append_assoc]; done) | (simp [dueS, aheadS, tailS, quote_nil, str_nil_append, str_append_nil, Str.empty_append, Str.append_empty, Str.append_assoc, *]; done)))
          | some n =>
            obtain ⟨tn, rfl⟩ := hN
            have ln := sN _ rfl
            w_on
            w_strict (
              revert KX; k_fill; intro KX
              refine wpC_call ?_
              walk_at "tidy enter"
              walk_at "tidy test"
              refine wpC_execs_nil ?_; (try dsimp only)
              walk_at "tidy plain"
              walk_at "tidy test"
              walk_at "tidy plain"
              refine wpC_execs_nil ?_; (try dsimp only)
              walk_at "tidy test"
              refine wpC_execs_nil ?_; (try dsimp only)
              walk_at "tidy test"
              walk_at "tidy test"
              any_goals (exfalso; omega)
              walk_at "tidy test"
              refine wpC_execs_cons (wpC_Assign_Name (evalC_Call ?_)); (try k_fold); k_steps
              k_dflt (refine' callC_fn (K := hd.heap_39 w.params) (f := 50) ?k1 ?_; (case k1 => k_is)); (try k_fold); k_steps
              k_dflt (refine' quotS ?k0 ?k1 ?k2 ?k3 ?k4 ?k5 ?k6 ?_; (case k0 => assumption); (case k1 => k_asm); (case k2 => k_asm); (case k3 => k_asm); (case k4 => k_asm); (case k5 => k_asm); (case k6 => first | exact rfl | assumption); k_whole)
              intro t' h' k' F' N'; (try k_sweep); (try dsimp only); (try k_fold)
              k_steps
              (try dsimp only)
              refine wpC_execs_nil ?_; (try dsimp only)
              refine wpC_execs_nil ?_; (try dsimp only)
              walk_at "tidy test"
              refine wpC_execs_cons (wpC_Assign_Name (evalC_Call ?_)); (try k_fold); k_steps
              k_dflt (refine' callC_fn (K := hd.heap_39 w.params) (f := 50) ?k1 ?_; (case k1 => k_is)); (try k_fold); k_steps
              k_dflt (refine' quotS ?k0 ?k1 ?k2 ?k3 ?k4 ?k5 ?k6 ?_; (case k0 => assumption); (case k1 => k_asm); (case k2 => k_asm); (case k3 => k_asm); (case k4 => k_asm); (case k5 => k_asm); (case k6 => first | exact rfl | assumption); k_whole)
              intro t' h' k' F' N'; (try k_sweep); (try dsimp only); (try k_fold)
              k_steps
              (try dsimp only)
              refine wpC_execs_nil ?_; (try dsimp only)
              walk_at "tidy plain"
              refine wpC_execs_nil ?_; (try dsimp only)
              walk_at "tidy plain"
              dsimp only [okOf]
              k_steps
              all_goals (try dsimp only [okOf])
              all_goals first
                | (exfalso; omega)
                | (refine cb_retS hret ?_ (by k_asm) (cb_drop (by k_asm) (by kcj_all)); first | rfl | (simp only [dueS, aheadS, tailS, Option.map, Option.getD, quote_nil, str_nil_append, str_append_nil, Str.empty_append, Str.append_empty, Str.append_assoc]; done) | (simp [dueS, aheadS, tailS, quote_nil, str_nil_append, str_append_nil, Str.empty_append, Str.append_empty, Str.append_assoc, *]; done)))
end Mine
end
section
open PySem PySem.W PySem.Calls PyProof.Rows
set_option Elab.async false
set_option maxRecDepth 100000
namespace Mine
theorem callC_full {prog : Program} {w : World} {A : Around} {Q : Flow → Shared → Prop} {s : Shared} {name : Str} {params : Arguments} {body : List Stmt} {scope : Scope}
    {dV kV pm cd doc : Value} {a : Addr} {o : Obj} {args : Args} {binds : List (Str × Value)}
    (hroom : A.depth < recursionLimit) (ho : s.heap.get? a = some o) (hdata : o.data = .func { docDef name params body scope pm cd doc with defaults := dV, kwdefaults := kV }) (hlim : s.heap.NoLimit) (hcd : s.heap.CodeRec cd name)
    (hbind : BindsTo s { docDef name params body scope pm cd doc with defaults := dV, kwdefaults := kV } args binds)
    (hloc : ∀ x ∈ binds, scope.names.lookup x.1 = some .local)
    (h : ∀ h₁, Fr s.heap s.heap.objs.size h₁ (fun x => binds.reverse.lookup x) →
      wpC (model prog w) (A.deeper (envOf name scope s.heap.objs.size a cd)) (execs body (envOf name scope s.heap.objs.size a cd))
        (fun f s' => Q (.ret (match f with | .ret v => v | _ => .none)) s') { s with heap := h₁, toks := s.toks + binds.length })
    (hco : scope.isCoroutine = false := by rfl) (hgen : scope.isGenerator = false := by rfl) (hk : scope.kind = .function := by rfl)
    (hcell : ∀ x ∈ scope.names, x.2 ≠ .cell := by decide) :
    codeC (model prog w) A (.call (.ref a) args) Q s :=
  codeC_call_def hroom ho hdata hlim hcd rfl hbind hcell hloc (fun h₁ hns hkeep => h h₁ ⟨hns, hkeep, Nat.le_refl _⟩) hco hgen hk
end Mine
end
section
open PySem PySem.W PySem.Calls PyProof.Rows
set_option Elab.async false
set_option maxRecDepth 100000
namespace Mine
section
variable {prog : Program} {w : World} {A : Around} {s : Shared} {env : Env} {h₀ : Heap}
theorem codeC_forLoop_fr {Q : Flow → Shared → Prop} {x : Str} {px : Pos} {body : List Stmt} {I : Addr} {fp wr : List Addr} {n : Nat} {P : Nat → Value → Prop} {St : Nat → Heap → Prop} {m : Str → Option Value}
    (W : Walks prog w A I fp wr n P St) (hx : env.kindOf x = some .local)
    (hp : (env.scope.kind == .class || (env.scope.kind == .module && env.locals != env.globals)) = false)
    (hLf : env.locals ∉ fp) (hwr : ∀ b ∈ wr, h₀.get? b = none)
    (hst : St 0 s.heap) (F : Fr h₀ env.locals s.heap m) 
    (step : ∀ (i : Nat) (v : Value) (m₁ : Str → Option Value) (own : List (Addr × Obj)) (hh : Heap) (tk : Nat), i < n → P i v →
      Fr h₀ env.locals hh (fun y => if y = x then some v else m₁ y) → News h₀ env.locals hh own →
      wpC (model prog w) A (execs body env) (fun f s₃ => match f with
        | .next | .cont => ∃ h' tk' m₂, s₃ = { s with heap := h', toks := tk' } ∧ Fr h₀ env.locals h' m₂ ∧ News h₀ env.locals h' own
        | .brk => False
        | .ret v => Q (.ret v) s₃) { s with heap := hh, toks := tk })
    (hR : ∀ h' tk m', Fr h₀ env.locals h' m' → Q .next { s with heap := h', toks := tk }) :
    codeC (model prog w) A (.forLoop (.Name x px) (.ref I) body [] env) Q s := by
  have hLw : env.locals ∉ wr := fun h => hLf (W.sub _ h)
  have old : ∀ b o, h₀.get? b = some o → b ∉ wr := fun b o e hb => by rw [hwr b hb] at e; cases e
  refine codeC_forLoop
    (fun k s' => ∃ h' tk m' i, s' = { s with heap := h', toks := tk } ∧ St i h' ∧ Fr h₀ env.locals h' m' ∧ i ≤ n ∧ k = n + 1 - i) ?_ (n + 1)
    ⟨s.heap, s.toks, m, 0, rfl, hst, F, Nat.zero_le _, rfl⟩
  rintro k s' ⟨h', tk, m', i, rfl, hst', F', hi, rfl⟩
  have next : ∀ h₁ : Heap, (∀ b o, b ∉ wr → h'.get? b = some o → h₁.get? b = some o) → Fr h₀ env.locals h₁ m' := fun h₁ hk₁ =>
    ⟨F'.ns.at' fun o e => hk₁ _ o hLw e, fun b o e => hk₁ b o (old b o e) (F'.keep b o e), F'.above⟩
  by_cases hlt : i < n
  · refine W.item i _ _ _ hlt hst' fun v h₁ tk₁ hP hst₁ hk₁ => ?_
    have F₁ := next h₁ hk₁
    refine wpAny_assign_Name (wpAny_storeName_local hx F₁.ns (fun h₂ hn₂ hs₂ => ?_) hp)
    have F₂ := F₁.set hn₂ hs₂
    have Nown : News h₀ env.locals h₂ (ownOf h₀ fp h₂) := news_ownOf hLf
    have hst₂ : St (i + 1) h₂ := W.frame _ _ _ hst₁ fun b hb o e => (hs₂.2 b fun q => hLf (q ▸ hb)).trans e
    refine wpC_mono (step i v m' (ownOf h₀ fp h₂) h₂ (tk₁ + 1) hlt hP F₂ Nown) (fun f s₃ h₃ => ?_)
    have fin : (∃ h₃' tk₃ m₂, s₃ = { s with heap := h₃', toks := tk₃ } ∧ Fr h₀ env.locals h₃' m₂ ∧ News h₀ env.locals h₃' (ownOf h₀ fp h₂)) →
        ∃ m, m < n + 1 - i ∧ ∃ h' tk m' i, s₃ = { s with heap := h', toks := tk } ∧ St i h' ∧ Fr h₀ env.locals h' m' ∧ i ≤ n ∧ m = n + 1 - i := by
      rintro ⟨h₃', tk₃, m₂, rfl, F₃, N₃⟩
      refine ⟨n + 1 - (i + 1), by omega, h₃', tk₃, m₂, i + 1, rfl, ?_, F₃, hlt, rfl⟩
      refine W.frame _ _ _ hst₁ fun b hb o e => ?_
      have e₂ : h₂.get? b = some o := (hs₂.2 b fun q => hLf (q ▸ hb)).trans e
      cases hn : h₀.get? b with
      | some o₀ =>
        have : o₀ = o := by have := F₂.keep b o₀ hn; rw [e₂] at this; exact (Option.some.inj this).symm
        exact this ▸ F₃.keep b o₀ hn
      | none => exact (N₃ _ (mem_ownOf hb hn e₂)).1
    cases f with
    | next => exact fin h₃
    | cont => exact fin h₃
    | brk => exact h₃.elim
    | ret v => exact h₃
  · have hin : i = n := by omega
    subst hin
    refine W.done _ _ _ hst' fun h₁ tk₁ hk₁ => ?_
    have F₁ := next h₁ hk₁
    exact hR h₁ tk₁ m' F₁
theorem ints_at {vs : List Value} {ns : List Int} (hi : IntsAre vs ns) : ∀ (i : Nat) (v : Value), vs[i]? = some v → ∃ (n : Int) (t : Tok), v = .int n t := by
  induction hi with
  | nil => intro i v h; simp at h
  | cons n t hi ih =>
    intro i v h
    cases i with
    | zero => simp at h; exact ⟨n, t, h.symm⟩
    | succ i => exact ih i v (by simpa using h)
/-- for x in a list of ints made here -/
theorem pyIter_ints {Q : Value → Shared → Prop} {l L : Addr} {vs : List Value} {ns : List Int} {E : Value → Shared → Prop} {m : Str → Option Value} {news : List (Addr × Obj)} {o : Obj} (hh : A.handled = none)
    (hl : s.heap.IsList l vs.toArray) (hi : IntsAre vs ns) (F : Fr h₀ L s.heap m) (N : News h₀ L s.heap news) (hm : (l, o) ∈ news)
    (h : ∀ (I : Addr) (fp wr : List Addr) (n : Nat) (P : Nat → Value → Prop) (St : Nat → Heap → Prop) (h' : Heap), Walks prog w A I fp wr n P St → L ∉ fp → (∀ b ∈ wr, h₀.get? b = none) → St 0 h' →
      Fr h₀ L h' m → (∀ i v, P i v → ∃ (n : Int) (t : Tok), v = .int n t) → Q (.ref I) { s with heap := h' }) :
    wpAny (model prog w) A (pyIter (.ref l)) Q E s := by
  have hlt : l < s.heap.objs.size := Heap.lt_size (N _ hm).1
  have hne : l ≠ s.heap.objs.size := Nat.ne_of_lt hlt
  have hlL : l ≠ L := (N _ hm).2.1
  refine wpAny_pyIter_list hl ?_
  have W := Walks.list (prog := prog) (w := w) hh s.heap.objs.size l hne vs.toArray
  refine h _ _ _ _ _ _ _ W ?_ ?_ ⟨⟨_, Heap.get?_push_size _ rfl, rfl, rfl⟩, hl.at fun o e => Heap.get?_push_of_some _ e⟩ (F.push _) ?_
  · intro hm
    rcases List.mem_cons.mp hm with e | hm
    · exact absurd F.ns.lt (e ▸ Nat.lt_irrefl _)
    · exact hlL (List.mem_singleton.mp hm).symm
  · intro b hb
    rw [List.mem_singleton.mp hb]
    exact next_is_new F
  · intro i v hP
    exact ints_at hi i v (by simpa using hP)
end
end Mine
end
section
open PySem PySem.W PySem.Calls PyProof.Rows
set_option Elab.async false
set_option maxRecDepth 100000
namespace Mine
section
variable {prog : Program} {w : World} {A : Around} {E : Value → Shared → Prop} {s : Shared} {h₀ : Heap} {L l : Addr} {m : PySem.Str → Option Value} {news : List (Addr × Obj)} {value slice : PySem.Expr} {vl : Value} {x : Int} {Q : Value → Shared → Prop}
theorem menu_slice {vs : List Value} {ns : List Int} (F : Fr h₀ L s.heap m) (N : News h₀ L s.heap news) (hl : s.heap.IsList l vs.toArray) (pl : IsPart vl (some x)) (hx : 0 ≤ x) (hi : IntsAre vs ns) (hn : ns.length ≤ 6)
    (h : ∀ D ws h' ms, Fr h₀ L h' m → News h₀ L h' ((D, listOf (List.toArray ws) 0) :: news) → (∀ p ∈ news, p.1 < D) → IntsAre ws ms → ms.length ≤ 6 → Q (.ref D) { s with heap := h' })
    (hs : subscripted slice false (.ref l) (.ref s.heap.objs.size) = operate [.ref s.heap.objs.size, .ref l] (getItem (.ref l) (.ref s.heap.objs.size))) :
    wpAny (model prog w) A (subscriptTail value slice (.ref l) (.ref s.heap.objs.size)) Q E { s with heap := s.heap.push { cls := .type "slice", data := .fields #[vl, .none, .none] } } :=
  kba_turn (value' := PySem.Expr.Name (PySem.Str.ofString "_") ⟨0, 0, 0, 0⟩) (fun _ => rfl) <| kmk_slice_ints F N hl pl .none hi (kmk_from hi hx) rfl (fun D ws h' F' N' l1 i _ le => h D ws h' _ F' N' l1 i (Nat.le_trans le hn)) hs (fun _ => rfl)
    (by rw [List.size_toArray, hi.length]; exact Nat.le_trans hn (by decide +kernel))
end
end Mine
end
section
open PySem PySem.W PySem.Calls PyProof.Rows
set_option Elab.async false
set_option maxRecDepth 100000
namespace Mine
inductive AllOpt : List Value → List (Option Str) → Prop
  | nil : AllOpt [] []
  | non {us os} : AllOpt us os → AllOpt (.none :: us) (none :: os)
  | str (x : Str) (t : Tok) {us os} : AllOpt us os → AllOpt (.str x t :: us) (some x :: os)
theorem AllOpt.get {us : List Value} {os : List (Option Str)} (h : AllOpt us os) : ∀ k, k < os.length → ∃ v, us[k]? = some v ∧ OptV v (os.getD k none) := by
  induction h with
  | nil => intro k hk; exact absurd hk (Nat.not_lt_zero _)
  | non _ ih =>
    intro k hk
    cases k with
    | zero => exact ⟨_, rfl, rfl⟩
    | succ k => exact ih k (Nat.lt_of_succ_lt_succ hk)
  | str x t _ ih =>
    intro k hk
    cases k with
    | zero => exact ⟨_, rfl, ⟨t, rfl⟩⟩
    | succ k => exact ih k (Nat.lt_of_succ_lt_succ hk)
inductive AllNum : List Value → List (Option Int) → Prop
  | nil : AllNum [] []
  | non {us os} : AllNum us os → AllNum (.none :: us) (none :: os)
  | int (n : Int) (t : Tok) {us os} : AllNum us os → AllNum (.int n t :: us) (some n :: os)
theorem AllNum.get {us : List Value} {os : List (Option Int)} (h : AllNum us os) : ∀ k, k < os.length → ∃ v, us[k]? = some v ∧ OptN v (os.getD k none) := by
  induction h with
  | nil => intro k hk; exact absurd hk (Nat.not_lt_zero _)
  | non _ ih =>
    intro k hk
    cases k with
    | zero => exact ⟨_, rfl, rfl⟩
    | succ k => exact ih k (Nat.lt_of_succ_lt_succ hk)
  | int n t _ ih =>
    intro k hk
    cases k with
    | zero => exact ⟨_, rfl, ⟨t, rfl⟩⟩
    | succ k => exact ih k (Nat.lt_of_succ_lt_succ hk)
theorem fm_ge (n k : Int) (hk : 0 < k) : 0 ≤ n.fmod k := Int.fmod_nonneg_of_pos n hk
theorem fm_lt (n k : Int) (hk : 0 < k) : n.fmod k < k := Int.fmod_lt_of_pos n hk
section
variable {prog : Program} {w : World} {A : Around} {E : Value → Shared → Prop} {s : Shared} {h₀ : Heap} {L l : Addr} {news : List (Addr × Obj)} {us : List Value} {k : Int} {u : Tok} {Q : Value → Shared → Prop} {value slice : PySem.Expr}
theorem menu_opt {os : List (Option Str)} (N : News h₀ L s.heap news) (hm : (l, listOf us.toArray 0) ∈ news) (hd : AllOpt us os) (h0 : 0 ≤ k) (h1 : k < (os.length : Int)) (hfit : k < 2 ^ 63)
    (h : ∀ v, OptV v (os.getD k.toNat none) → Q v s)
    (hs : subscripted slice false (.ref l) (.int k u) = operate [.ref l, .int k u] (getItem (.ref l) (.int k u))) :
    wpAny (model prog w) A (subscriptTail value slice (.ref l) (.int k u)) Q E s := by
  have hl : s.heap.IsList l us.toArray := ⟨_, (N _ hm).1, rfl, 0, rfl⟩
  have hk : k.toNat < os.length := by omega
  obtain ⟨v, hv, hO⟩ := hd.get _ hk
  exact tail_any hl.typeIs slot_list_getitem.lookup (wpAny_getItem_list hl h0 hfit (by simpa using hv) (h v hO)) hs
theorem menu_num {os : List (Option Int)} (N : News h₀ L s.heap news) (hm : (l, listOf us.toArray 0) ∈ news) (hd : AllNum us os) (h0 : 0 ≤ k) (h1 : k < (os.length : Int)) (hfit : k < 2 ^ 63)
    (h : ∀ v, OptN v (os.getD k.toNat none) → Q v s)
    (hs : subscripted slice false (.ref l) (.int k u) = operate [.ref l, .int k u] (getItem (.ref l) (.int k u))) :
    wpAny (model prog w) A (subscriptTail value slice (.ref l) (.int k u)) Q E s := by
  have hl : s.heap.IsList l us.toArray := ⟨_, (N _ hm).1, rfl, 0, rfl⟩
  have hk : k.toNat < os.length := by omega
  obtain ⟨v, hv, hO⟩ := hd.get _ hk
  exact tail_any hl.typeIs slot_list_getitem.lookup (wpAny_getItem_list hl h0 hfit (by simpa using hv) (h v hO)) hs
theorem ne_same {x : Str} {t t' : Tok} (h : Q (.bool false) s) : wpAny (model prog w) A (compareOp .NotEq (.str x t) (.str x t')) Q E s :=
  PyProof.Rows.ne_str (by rw [bne_self_eq_false]; exact h)
abbrev hostsL : List (Option Str) := [none, some (Str.ofString ""), some (Str.ofString "h%41.x")]
abbrev wordsL : List (Option Str) := [none, some (Str.ofString ""), some (Str.ofString "u"), some (Str.ofString "a b"), some (Str.ofString "a:b@é")]
abbrev writtenL : List (Option Str) := [none, some (Str.ofString ""), some (Str.ofString "u"), some (Str.ofString "a%20b"), some (Str.ofString "a%3Ab%40%C3%A9")]
abbrev portsL : List (Option Int) := [none, some 0, some 81, some 65535]
def dataO : Option Str → PyData
  | none => .none
  | some x => .str x
def dataN : Option Int → PyData
  | none => .none
  | some n => .int n
theorem readsO {h : Heap} {v : Value} {U : Option Str} (hv : OptV v U) : Reads h v (dataO U) [] := by
  cases U with
  | none => cases hv; exact Reads.none
  | some x => obtain ⟨t, rfl⟩ := hv; exact Reads.str _ _
theorem readsN {h : Heap} {v : Value} {U : Option Int} (hv : OptN v U) : Reads h v (dataN U) [] := by
  cases U with
  | none => cases hv; exact Reads.none
  | some x => obtain ⟨t, rfl⟩ := hv; exact Reads.int _ _
theorem four_reads {h : Heap} {v1 v2 v3 v4 : Value} {U P H : Option Str} {N₀ : Option Int} (a1 : OptV v1 U) (a2 : OptV v2 P) (a3 : OptV v3 H) (a4 : OptN v4 N₀) :
    ReadsAll h [v1, v2, v3, v4] [dataO U, dataO P, dataO H, dataN N₀] [] :=
  readsAll_cons_val (readsO a1) (readsAll_cons_val (readsO a2) (readsAll_cons_val (readsO a3) (readsAll_cons_val (readsN a4) .nil)))
def OkO (U : Option Str) : Prop := ∀ x, U = some x → PyData.strOk x = true
theorem four_shaped {U P H : Option Str} (N₀ : Option Int) (oU : OkO U) (oP : OkO P) (oH : OkO H) : PySem.SeqAt.shaped (.tuple [dataO U, dataO P, dataO H, dataN N₀]) = true := by
  cases U <;> cases P <;> cases H <;> cases N₀ <;> simp [OkO] at oU oP oH <;> simp [*, SeqAt.shaped, PyData.canLay0, PyData.canLayAll0, PyData.depth, PyData.depthAll, dataO, dataN]
theorem four_eqv (U P H : Option Str) (N₀ : Option Int) : PyData.eqv (.tuple [dataO U, dataO P, dataO H, dataN N₀]) (.tuple [dataO U, dataO P, dataO H, dataN N₀]) = true := by
  cases U <;> cases P <;> cases H <;> cases N₀ <;> simp [PyData.eqv, PyData.eqvAll, dataO, dataN]
theorem four_ne {r1 r2 : Addr} {v1 v2 v3 v4 w1 w2 w3 w4 : Value} {U P H : Option Str} {N₀ : Option Int} (N : News h₀ L s.heap news)
    (m1 : (r1, { cls := .type "tuple", data := .seq #[v1, v2, v3, v4] }) ∈ news) (m2 : (r2, { cls := .type "tuple", data := .seq #[w1, w2, w3, w4] }) ∈ news)
    (a1 : OptV v1 U) (a2 : OptV v2 P) (a3 : OptV v3 H) (a4 : OptN v4 N₀) (b1 : OptV w1 U) (b2 : OptV w2 P) (b3 : OptV w3 H) (b4 : OptN w4 N₀) (oU : OkO U) (oP : OkO P) (oH : OkO H) (hu : A.units + 64 < cLine) (h : Q (.bool false) s) :
    wpAny (model prog w) A (compareOp .NotEq (.ref r1) (.ref r2)) Q E s :=
  ne_dataH (reads_tuple_at (N _ m1).1 rfl rfl (four_reads a1 a2 a3 a4)) (reads_tuple_at (N _ m2).1 rfl rfl (four_reads b1 b2 b3 b4)) (four_shaped _ oU oP oH) (four_shaped _ oU oP oH) hu (by rw [four_eqv]; exact h)
end
end Mine
end
section
open PySem PySem.W PySem.Calls PyProof.Rows
set_option Elab.async false
set_option maxRecDepth 100000
namespace Mine
section
variable {h₀ h : Heap} {L : Addr} {m : Str → Option Value} {n i j : Int} {tn ti tj : Tok} {vh vp pu pp wu wp : Value} {c : Bool}
theorem forgetA (F : Fr h₀ L h m) (x0 : m (Str.ofString "cell") = some (.int n tn)) (x1 : m (Str.ofString "first") = some (.int i ti)) (x2 : m (Str.ofString "second") = some (.int j tj))
    (x3 : m (Str.ofString "host") = some vh) (x4 : m (Str.ofString "port") = some vp) (x5 : m (Str.ofString "coded") = some (.bool c)) :
    ∃ m9 t1 t2 c9, Fr h₀ L h m9 ∧ m9 (Str.ofString "first") = some (.int i t1) ∧ m9 (Str.ofString "second") = some (.int j t2) ∧ m9 (Str.ofString "host") = some vh ∧ m9 (Str.ofString "port") = some vp ∧ m9 (Str.ofString "coded") = some (.bool c9) :=
  ⟨m, _, _, _, F, x1, x2, x3, x4, x5⟩
theorem forgetB (F : Fr h₀ L h m) (x1 : m (Str.ofString "first") = some (.int i ti)) (x2 : m (Str.ofString "second") = some (.int j tj))
    (x3 : m (Str.ofString "host") = some vh) (x4 : m (Str.ofString "port") = some vp) (x5 : m (Str.ofString "coded") = some (.bool c)) (x6 : m (Str.ofString "plain_user") = some pu) (x7 : m (Str.ofString "plain_password") = some pp) :
    ∃ m9, Fr h₀ L h m9 ∧ m9 (Str.ofString "first") = some (.int i ti) ∧ m9 (Str.ofString "second") = some (.int j tj) ∧ m9 (Str.ofString "host") = some vh ∧ m9 (Str.ofString "port") = some vp ∧ m9 (Str.ofString "coded") = some (.bool c) ∧ m9 (Str.ofString "plain_user") = some pu ∧ m9 (Str.ofString "plain_password") = some pp :=
  ⟨m, F, x1, x2, x3, x4, x5, x6, x7⟩
theorem forgetC (F : Fr h₀ L h m) (x1 : m (Str.ofString "first") = some (.int i ti)) (x2 : m (Str.ofString "second") = some (.int j tj))
    (x3 : m (Str.ofString "host") = some vh) (x4 : m (Str.ofString "port") = some vp) (x5 : m (Str.ofString "coded") = some (.bool c)) (x6 : m (Str.ofString "plain_user") = some pu) (x7 : m (Str.ofString "plain_password") = some pp)
    (x8 : m (Str.ofString "user") = some wu) (x9 : m (Str.ofString "password") = some wp) :
    ∃ m9, Fr h₀ L h m9 ∧ m9 (Str.ofString "first") = some (.int i ti) ∧ m9 (Str.ofString "second") = some (.int j tj) ∧ m9 (Str.ofString "host") = some vh ∧ m9 (Str.ofString "port") = some vp ∧ m9 (Str.ofString "coded") = some (.bool c) ∧ m9 (Str.ofString "plain_user") = some pu ∧ m9 (Str.ofString "plain_password") = some pp ∧ m9 (Str.ofString "user") = some wu ∧ m9 (Str.ofString "password") = some wp :=
  ⟨m, F, x1, x2, x3, x4, x5, x6, x7, x8, x9⟩
theorem step_end {s : Shared} {h₀ h' : Heap} {L : Addr} {m₂ : Str → Option Value} {own : List (Addr × Obj)} {tk : Nat} (F : Fr h₀ L h' m₂) (N : News h₀ L h' own) :
    ∃ (h'' : Heap) (tk' : Nat) (m₂ : Str → Option Value), ({ s with heap := h', toks := tk } : Shared) = { s with heap := h'', toks := tk' } ∧ Fr h₀ L h'' m₂ ∧ News h₀ L h'' own := ⟨h', tk, m₂, rfl, F, N⟩
end
end Mine
end
section
open PySem PySem.W PySem.Calls PyProof.Rows
set_option Elab.async false
set_option maxRecDepth 100000
namespace Mine
section
open PySem.StrLaws PySem.Builtin.Str
theorem occ_stay (s sub : Str) (hi : Nat) : ∀ (l : List Nat) (st : Array Nat × Nat), 1 ≤ st.fst.size → (forIn l st (occBody s sub hi 1)).run.fst = st.fst
  | [], _, _ => rfl
  | a :: l, st, h => by
    rw [List.forIn_cons]
    unfold occBody
    rw [if_neg (fun x => absurd x.1.1.1 (by omega))]
    exact occ_stay s sub hi l _ h
theorem occ_at (s sub : Str) (hi i : Nat) (hc : i + sub.length ≤ hi ∧ subAt s sub i = true) (l2 : List Nat) : ∀ (l1 : List Nat) (free : Nat), free ≤ i →
    (∀ j ∈ l1, ¬ (j + sub.length ≤ hi ∧ subAt s sub j = true)) → (forIn (l1 ++ i :: l2) ((#[] : Array Nat), free) (occBody s sub hi 1)).run.fst = #[i]
  | [], free, hf, _ => by
    rw [List.nil_append, List.forIn_cons]
    unfold occBody
    rw [if_pos ⟨⟨⟨by simp, hf⟩, hc.1⟩, hc.2⟩]
    exact occ_stay s sub hi l2 _ (by simp)
  | a :: l, free, hf, hn => by
    rw [List.cons_append, List.forIn_cons]
    have c2 : ¬ (((((#[] : Array Nat), free).fst.size < 1 ∧ ((#[] : Array Nat), free).snd ≤ a) ∧ a + sub.length ≤ hi) ∧ subAt s sub a = true) := fun h => hn a (List.mem_cons_self ..) ⟨h.1.2, h.2⟩
    unfold occBody
    rw [if_neg c2]
    exact occ_at s sub hi i hc l2 l free hf fun j hj => hn j (List.mem_cons_of_mem _ hj)
def lastBody (s sub : Str) (hi : Nat) (i : Nat) (st : Option Nat) : Id (ForInStep (Option Nat)) :=
  if i + sub.length ≤ hi ∧ subAt s sub i = true then pure (ForInStep.yield (some i)) else pure (ForInStep.yield st)
theorem last_eq (s sub : Str) (lo hi : Nat) : lastOccurrence s sub lo hi = (forIn (List.range' lo (hi + 1 - lo)) none (lastBody s sub hi)).run := by
  unfold lastOccurrence lastBody
  simp
theorem last_stay (s sub : Str) (hi : Nat) : ∀ (l : List Nat) (st : Option Nat), (∀ j ∈ l, ¬ (j + sub.length ≤ hi ∧ subAt s sub j = true)) → (forIn l st (lastBody s sub hi)).run = st
  | [], _, _ => rfl
  | a :: l, st, h => by
    rw [List.forIn_cons]
    unfold lastBody
    rw [if_neg (h a (List.mem_cons_self ..))]
    exact last_stay s sub hi l _ fun j hj => h j (List.mem_cons_of_mem _ hj)
theorem last_at (s sub : Str) (hi i : Nat) (hc : i + sub.length ≤ hi ∧ subAt s sub i = true) (l2 : List Nat) (hn : ∀ j ∈ l2, ¬ (j + sub.length ≤ hi ∧ subAt s sub j = true)) :
    ∀ (l1 : List Nat) (st : Option Nat), (forIn (l1 ++ i :: l2) st (lastBody s sub hi)).run = some i
  | [], st => by
    rw [List.nil_append, List.forIn_cons]
    unfold lastBody
    rw [if_pos hc]
    exact last_stay s sub hi l2 _ hn
  | a :: l, st => by
    rw [List.cons_append, List.forIn_cons]
    unfold lastBody
    split
    · exact last_at s sub hi i hc l2 hn l _
    · exact last_at s sub hi i hc l2 hn l _
theorem range_cut {i n : Nat} (h : i < n) : List.range' 0 n = List.range' 0 i ++ i :: List.range' (i + 1) (n - i - 1) := by
  have e : n = i + ((n - i - 1) + 1) := by omega
  conv => lhs; rw [e]
  rw [← List.range'_append_1, List.range'_succ, Nat.zero_add]
end
abbrev one (c : Nat) : Str := ⟨#[c]⟩
theorem cut_mid (a b : Str) (c : Nat) : (a ++ one c ++ b).cps.toList = a.cps.toList ++ c :: b.cps.toList := by
  show ((a.cps ++ #[c]) ++ b.cps).toList = _
  simp
theorem cut_len (a b : Str) (c : Nat) : (a ++ one c ++ b).length = a.length + 1 + b.length := by
  show ((a.cps ++ #[c]) ++ b.cps).size = a.cps.size + 1 + b.cps.size
  simp
theorem cut_before (a b : Str) (c : Nat) : Builtin.Str.strSub (a ++ one c ++ b) 0 a.length = a := by
  obtain ⟨⟨a⟩⟩ := a; obtain ⟨⟨b⟩⟩ := b
  show (⟨((_ ++ _) ++ _ : Array Nat).extract 0 _⟩ : Str) = _
  simp [Str.length]
theorem cut_behind (a b : Str) (c : Nat) : Builtin.Str.strSub (a ++ one c ++ b) (a.length + (one c).length) (a ++ one c ++ b).length = b := by
  rw [cut_len]
  obtain ⟨⟨a⟩⟩ := a; obtain ⟨⟨b⟩⟩ := b
  show (⟨((_ ++ _) ++ _ : Array Nat).extract _ _⟩ : Str) = _
  simp [Str.length]
theorem rpart_at (a b : Str) (c : Nat) (hb : c ∉ b.cps.toList) : Txt.rpartition (a ++ one c ++ b) (one c) = (a, one c, b) := by
  have hl := cut_len a b c
  have e : Builtin.Str.lastOccurrence (a ++ one c ++ b) (one c) 0 (a ++ one c ++ b).length = some a.length := by
    rw [last_eq, Nat.sub_zero, range_cut (i := a.length) (by omega)]
    refine last_at _ _ _ _ ((StrLaws.subAt_one _ _ _).mpr ?_) _ (fun j hj hc => ?_) _ _
    · rw [cut_mid]
      simp [Str.length]
    · have h := (StrLaws.subAt_one _ _ _).mp hc
      rw [cut_mid] at h
      have hj' := (List.mem_range'_1.mp hj).1
      rw [List.getElem?_append_right (by simp [Str.length] at hj'; simp; omega)] at h
      have hk : j - a.cps.toList.length = (j - a.cps.toList.length - 1) + 1 := by simp [Str.length] at hj'; simp; omega
      rw [hk, List.getElem?_cons_succ] at h
      exact hb (List.mem_of_getElem? h)
  unfold Txt.rpartition
  rw [e]
  dsimp only
  rw [cut_before, cut_behind]
theorem part_at (a b : Str) (c : Nat) (ha : c ∉ a.cps.toList) : Txt.partition (a ++ one c ++ b) (one c) = (a, one c, b) := by
  have hl := cut_len a b c
  have e : Builtin.Str.occurrences (a ++ one c ++ b) (one c) 0 (a ++ one c ++ b).length 1 = [a.length] := by
    rw [StrLaws.occ_eq, Nat.sub_zero, range_cut (i := a.length) (by omega)]
    rw [occ_at _ _ _ _ ((StrLaws.subAt_one _ _ _).mpr (by rw [cut_mid]; simp [Str.length])) _ _ _ (Nat.zero_le _) (fun j hj hc => ?_)]
    have h := (StrLaws.subAt_one _ _ _).mp hc
    rw [cut_mid] at h
    have hj' := (List.mem_range'_1.mp hj).2
    rw [List.getElem?_append_left (by simp [Str.length] at hj'; simp; omega)] at h
    exact ha (List.mem_of_getElem? h)
  unfold Txt.partition
  rw [e]
  dsimp only
  rw [cut_before, cut_behind]
theorem part_no (x : Str) (c : Nat) (hx : c ∉ x.cps.toList) : Txt.partition x (one c) = (x, Str.empty, Str.empty) := by
  have e := StrLaws.found_one x c
  rw [decide_eq_false hx] at e
  have e' : Builtin.Str.occurrences x (one c) 0 x.length 1 = [] := by
    cases h : Builtin.Str.occurrences x (one c) 0 x.length 1 with
    | nil => rfl
    | cons _ _ => rw [h] at e; cases e
  unfold Txt.partition
  rw [e']
theorem occ_no {x : Str} {c : Nat} (hx : c ∉ x.cps.toList) : (Builtin.Str.occurrences x (one c) 0 x.length 1).isEmpty = true := by
  have e := StrLaws.found_one x c
  rw [decide_eq_false hx] at e
  cases h : (Builtin.Str.occurrences x (one c) 0 x.length 1).isEmpty with
  | true => rfl
  | false => rw [h] at e; exact absurd e (by decide)
theorem occ_yes {x : Str} {c : Nat} (hx : c ∈ x.cps.toList) : (Builtin.Str.occurrences x (one c) 0 x.length 1).isEmpty = false := by
  have e := StrLaws.found_one x c
  rw [decide_eq_true hx] at e
  cases h : (Builtin.Str.occurrences x (one c) 0 x.length 1).isEmpty with
  | false => rfl
  | true => rw [h] at e; exact absurd e (by decide)
end Mine
end
section
open PySem PySem.W PySem.Calls PyProof.Rows
set_option Elab.async false
set_option maxRecDepth 100000
namespace Mine
def nz (U : Option Str) : Option Str := match U with
  | none => none
  | some x => if x.length = 0 then none else some x
abbrev sixL : List (Option Str) := [none, some (Str.ofString ""), some (Str.ofString "u"), some (Str.ofString "a b"), some (Str.ofString "a%20b"), some (Str.ofString "a%3Ab%40%C3%A9")]
abbrev twoL : List (Option Str) := [some (Str.ofString ""), some (Str.ofString "h%41.x")]
theorem at_one : Str.ofString "@" = one 64 := by decide +kernel
theorem colon_one : Str.ofString ":" = one 58 := by decide +kernel
theorem nil_empty : Str.ofString "" = Str.empty := by decide +kernel
/-- no @ and no colon, and short -/
def PlainW (x : Str) : Prop := x.length ≤ 100 ∧ 64 ∉ x.cps.toList ∧ 58 ∉ x.cps.toList
theorem six_plain : ∀ U ∈ sixL, ∀ x ∈ U, x.length ≤ 100 ∧ 64 ∉ x.cps.toList ∧ 58 ∉ x.cps.toList := by decide +kernel
theorem two_plain : ∀ U ∈ twoL, ∀ x ∈ U, x.length ≤ 100 ∧ 64 ∉ x.cps.toList ∧ 58 ∉ x.cps.toList := by decide +kernel
theorem nil_plain : PlainW (Str.ofString "") := ⟨by decide +kernel, by decide +kernel, by decide +kernel⟩
theorem mem_append {c : Nat} {a b : Str} : c ∈ (a ++ b).cps.toList ↔ c ∈ a.cps.toList ∨ c ∈ b.cps.toList := by
  show c ∈ (a.cps ++ b.cps).toList ↔ _
  simp
theorem len_append (a b : Str) : (a ++ b).length = a.length + b.length := by
  show (a.cps ++ b.cps).size = _
  simp [Str.length]
theorem one_len (c : Nat) : (one c).length = 1 := rfl
/-- a port's text -/
theorem port_text (n : Int) (h : some n ∈ portsL) : (Str.ofString (toString n)).length ≠ 0 ∧ (Str.ofString (toString n)).length ≤ 100 ∧ PySem.intText? (Str.ofString (toString n)) = some n ∧ 0 ≤ n ∧ n ≤ 65535 ∧ 64 ∉ (Str.ofString (toString n)).cps.toList := by
  have e : n = 0 ∨ n = 81 ∨ n = 65535 := by simpa [portsL] using h
  rcases e with rfl | rfl | rfl
  · decide +kernel
  · decide +kernel
  · decide +kernel
theorem tail_no {N : Option Int} (h : N ∈ portsL) : 64 ∉ (tailS N).cps.toList ∧ (tailS N).length ≤ 101 := by
  cases N with
  | none => exact ⟨nil_plain.2.1, Nat.le_trans nil_plain.1 (by decide)⟩
  | some n =>
    obtain ⟨_, h2, _, _, _, h6⟩ := port_text n h
    show 64 ∉ (Str.ofString ":" ++ Str.ofString (toString n)).cps.toList ∧ (Str.ofString ":" ++ Str.ofString (toString n)).length ≤ 101
    rw [len_append, mem_append, colon_one]
    exact ⟨fun x => x.elim (by decide) h6, by rw [one_len]; omega⟩
theorem port_part {h : Str} {N : Option Int} (hh : PlainW h) (hN : N ∈ portsL) : ∃ hn s2 ps, PortPart (h ++ tailS N) (nz (some h)) N hn s2 ps := by
  have hl := (tail_no hN).2
  have len : (h ++ tailS N).length ≤ sizeLine := Nat.le_trans (m := 600) (by rw [len_append]; have := hh.1; omega) (by decide +kernel)
  have lhn : h.length ≤ 600 := Nat.le_trans hh.1 (by decide)
  cases N with
  | none =>
    have e : h ++ tailS none = h := str_append_nil h
    rw [e] at len ⊢
    refine ⟨h, Str.ofString "", Str.ofString "", len, lhn, ?_, ?_, ?_, rfl, .inl ⟨rfl, rfl⟩⟩
    all_goals rw [colon_one, part_no h 58 hh.2.2]
    all_goals rw [nil_empty]
  | some n =>
    obtain ⟨h1, h2, h3, h4, h5, _⟩ := port_text n hN
    have e : h ++ tailS (some n) = h ++ one 58 ++ Str.ofString (toString n) := by
      show h ++ (Str.ofString ":" ++ Str.ofString (toString n)) = _
      rw [colon_one, Str.append_assoc]
    rw [e] at len ⊢
    refine ⟨h, Str.ofString ":", Str.ofString (toString n), len, lhn, ?_, ?_, ?_, rfl, .inr ⟨h1, Nat.le_trans h2 (by decide), n, h3, h4, h5, rfl⟩⟩
    all_goals rw [colon_one, part_at h _ 58 hh.2.2]
theorem user_part {D hi ui un sp pw : Str} {U P : Option Str} (hD : D = ui ++ one 64 ++ hi) (hhi : 64 ∉ hi.cps.toList) (lhi : hi.length ≤ 250) (lui : ui.length ≤ 250) (lun : un.length ≤ 600) (lpw : pw.length ≤ 600)
    (p : Txt.partition ui (one 58) = (un, sp, pw)) (user : U = if un.length = 0 then none else some un) (pass : (sp = Str.ofString "" ∧ P = none) ∨ (sp = Str.ofString ":" ∧ P = some pw)) : UserPart D hi U P ui un sp pw := by
  have r := rpart_at ui hi 64 hhi
  rw [← hD] at r
  refine ⟨Nat.le_trans (m := 600) (by rw [hD, len_append, len_append, one_len]; omega) (by decide +kernel), ?_, ?_, ?_, Nat.le_trans (m := 600) (by omega) (by decide +kernel), lun, lpw, ?_, ?_, ?_, user, pass⟩
  · rw [at_one, r]
  · rw [at_one, r]
  · rw [at_one, r]
  · rw [colon_one, p]
  · rw [colon_one, p]
  · rw [colon_one, p]
theorem split_at {U P H : Option Str} {N : Option Int} (hU : U ∈ sixL) (hP : P ∈ sixL) (hH : H ∈ twoL) (hN : N ∈ portsL) : SplitAs (dueS U P H N) (nz U) P (nz H) N := by
  obtain ⟨h, rfl⟩ : ∃ h, H = some h := by
    rcases List.mem_cons.mp hH with e | e
    · exact ⟨_, e⟩
    · exact ⟨_, List.mem_singleton.mp e⟩
  have hh : PlainW h := two_plain _ hH h rfl
  obtain ⟨hn, s2, ps, PP⟩ := port_part hh hN
  have t := tail_no hN
  have hhi : 64 ∉ (h ++ tailS N).cps.toList := fun x => (mem_append.mp x).elim hh.2.1 t.1
  have lhi : (h ++ tailS N).length ≤ 250 := by rw [len_append]; have := hh.1; have := t.2; omega
  have none' : ∀ D, D = h ++ tailS N → (Builtin.Str.occurrences D (Str.ofString "@") 0 D.length 1).isEmpty = true := fun D e => by rw [e, at_one]; exact occ_no hhi
  have some' : ∀ D ui, D = ui ++ one 64 ++ (h ++ tailS N) → (Builtin.Str.occurrences D (Str.ofString "@") 0 D.length 1).isEmpty = false := fun D ui e => by
    rw [e, at_one]
    exact occ_yes (by rw [cut_mid]; simp)
  cases P with
  | some p =>
    have hp : PlainW p := six_plain _ hP p rfl
    have hu : PlainW (U.getD (Str.ofString "")) := by
      cases U with
      | none => exact nil_plain
      | some u => exact six_plain _ hU u rfl
    have eU : nz U = if (U.getD (Str.ofString "")).length = 0 then none else some (U.getD (Str.ofString "")) := by
      cases U with
      | none => exact (if_pos (by decide +kernel)).symm
      | some u => rfl
    have eD : dueS U (some p) (some h) N = (U.getD (Str.ofString "") ++ one 58 ++ p) ++ one 64 ++ (h ++ tailS N) := by
      show (U.getD (Str.ofString "") ++ Str.ofString ":" ++ p ++ Str.ofString "@") ++ h ++ tailS N = _
      rw [colon_one, at_one]
      simp only [Str.append_assoc]
    refine .inr ⟨some' _ _ eD, _, _, _, _, _, hn, s2, ps, user_part eD hhi lhi ?_ (Nat.le_trans hu.1 (by decide)) (Nat.le_trans hp.1 (by decide)) (part_at _ _ 58 hu.2.2) eU (.inr ⟨colon_one.symm, rfl⟩), PP⟩
    rw [len_append, len_append, one_len]
    have := hu.1; have := hp.1; omega
  | none =>
    cases U with
    | none =>
      have eD : dueS none none (some h) N = h ++ tailS N := by
        show Str.ofString "" ++ h ++ tailS N = _
        rw [str_nil_append]
      exact .inl ⟨none' _ eD, rfl, rfl, hn, s2, ps, eD ▸ PP⟩
    | some u =>
      have hu : PlainW u := six_plain _ hU u rfl
      by_cases hz : u.length = 0
      · have eD : dueS (some u) none (some h) N = h ++ tailS N := by
          show (if u.length = 0 then Str.ofString "" else u ++ Str.ofString "@") ++ h ++ tailS N = _
          rw [if_pos hz, str_nil_append]
        exact .inl ⟨none' _ eD, if_pos hz, rfl, hn, s2, ps, eD ▸ PP⟩
      · have eD : dueS (some u) none (some h) N = u ++ one 64 ++ (h ++ tailS N) := by
          show (if u.length = 0 then Str.ofString "" else u ++ Str.ofString "@") ++ h ++ tailS N = _
          rw [if_neg hz, at_one, Str.append_assoc]
        have lu := hu.1
        exact .inr ⟨some' _ _ eD, _, _, _, _, _, hn, s2, ps, user_part eD hhi lhi (by omega) (by omega) (by decide +kernel) (part_no u 58 hu.2.2) rfl (.inl ⟨nil_empty.symm, rfl⟩), PP⟩
end Mine
end
section
open PySem PySem.W PySem.Calls PyProof.Rows
set_option Elab.async false
set_option maxRecDepth 100000
namespace Mine
theorem pair_at (i : Int) (h0 : 0 ≤ i) (h1 : i < 5) : ∃ U : Option Str, wordsL.getD i.toNat none = U ∧ writtenL.getD i.toNat none = U.map quoteS ∧ (∀ x, U = some x → IsWord x) ∧ U.map quoteS ∈ sixL ∧ (i ≠ 4 → U ∈ sixL) ∧ SmallO U := by
  have h : i = 0 ∨ i = 1 ∨ i = 2 ∨ i = 3 ∨ i = 4 := by omega
  rcases h with rfl | rfl | rfl | rfl | rfl
  · exact ⟨none, rfl, rfl, (by intro x e; cases e), by decide +kernel, fun _ => by decide +kernel, (by intro x e; cases e)⟩
  · exact ⟨some (Str.ofString ""), rfl, by decide +kernel, (by intro x e; cases e; exact .nil), by decide +kernel, fun _ => by decide +kernel, (by intro x e; cases e; decide +kernel)⟩
  · exact ⟨some (Str.ofString "u"), rfl, by decide +kernel, (by intro x e; cases e; exact .u), by decide +kernel, fun _ => by decide +kernel, (by intro x e; cases e; decide +kernel)⟩
  · exact ⟨some (Str.ofString "a b"), rfl, by decide +kernel, (by intro x e; cases e; exact .ab), by decide +kernel, fun _ => by decide +kernel, (by intro x e; cases e; decide +kernel)⟩
  · exact ⟨some (Str.ofString "a:b@é"), rfl, by decide +kernel, (by intro x e; cases e; exact .abe), by decide +kernel, fun h => absurd rfl h, (by intro x e; cases e; decide +kernel)⟩
theorem host_at (i : Int) (h0 : 0 ≤ i) (h1 : i < 3) : ∃ H : Option Str, hostsL.getD i.toNat none = H ∧ (H = none ∨ H ∈ twoL) ∧ SmallO H ∧ OkO H := by
  have h : i = 0 ∨ i = 1 ∨ i = 2 := by omega
  rcases h with rfl | rfl | rfl
  · exact ⟨none, rfl, .inl rfl, (by intro x e; cases e), (by intro x e; cases e)⟩
  · exact ⟨some (Str.ofString ""), rfl, .inr (by decide +kernel), (by intro x e; cases e; decide +kernel), (by intro x e; cases e; decide +kernel)⟩
  · exact ⟨some (Str.ofString "h%41.x"), rfl, .inr (by decide +kernel), (by intro x e; cases e; decide +kernel), (by intro x e; cases e; decide +kernel)⟩
theorem port_at (i : Int) (h0 : 0 ≤ i) (h1 : i < 4) : ∃ N : Option Int, portsL.getD i.toNat none = N ∧ N ∈ portsL ∧ SmallN N := by
  have h : i = 0 ∨ i = 1 ∨ i = 2 ∨ i = 3 := by omega
  rcases h with rfl | rfl | rfl | rfl
  · exact ⟨none, rfl, by decide +kernel, (by intro x e; cases e)⟩
  · exact ⟨some 0, rfl, by decide +kernel, (by intro x e; cases e; decide)⟩
  · exact ⟨some 81, rfl, by decide +kernel, (by intro x e; cases e; decide)⟩
  · exact ⟨some 65535, rfl, by decide +kernel, (by intro x e; cases e; decide)⟩
theorem six_all : ∀ U ∈ sixL, (∀ x ∈ U, x.length ≤ 100 ∧ PyData.strOk x = true) := by decide +kernel
theorem six_small {U : Option Str} (h : U ∈ sixL) : SmallO U := fun x e => (six_all U h x (by rw [e]; rfl)).1
theorem six_ok {U : Option Str} (h : U ∈ sixL) : OkO U := fun x e => (six_all U h x (by rw [e]; rfl)).2
theorem nz_ok {U : Option Str} (h : OkO U) : OkO (nz U) := by
  intro x e
  unfold nz at e
  split at e
  · cases e
  · rename_i y
    split at e
    · cases e
    · exact h x e
end Mine
end
section
open PySem PySem.W PySem.Calls PyProof.Rows
set_option Elab.async false
set_option maxRecDepth 100000
namespace Mine
theorem two_some {H : Option Str} (hH : H ∈ twoL) : ∃ h, H = some h := by
  rcases List.mem_cons.mp hH with e | e
  · exact ⟨_, e⟩
  · exact ⟨_, List.mem_singleton.mp e⟩
section
variable {prog : Program} {w : World} {A : Around} {E : Value → Shared → Prop} {s : Shared} {Q : Value → Shared → Prop}
theorem eq_same {x : Str} {t t' : Tok} (h : Q (.bool true) s) : wpAny (model prog w) A (compareOp .Eq (.str x t) (.str x t')) Q E s :=
  PyProof.Rows.eq_str (by rw [beq_self_eq_true]; exact h)
theorem eq_nil_no {x : Str} {t t' : Tok} (hx : x.length ≠ 0) (h : Q (.bool false) s) : wpAny (model prog w) A (compareOp .Eq (.str x t) (.str (Str.ofString "") t')) Q E s :=
  PyProof.Rows.eq_str (by rw [beq_eq_false_iff_ne.mpr (bne_iff_ne.mp (not_nil hx))]; exact h)
end
end Mine
end
section
open PySem PySem.W PySem.Calls PyProof.Rows
set_option Elab.async false
set_option maxRecDepth 100000
set_option maxHeartbeats 8000000
namespace Mine
local macro_rules | `(tactic| walk_at "tidy enter") => `(tactic| k_dflt (refine' codeC_def ?k1 ?k2 ?k3 ?k4 ?k5 ?kA ?kF ?kK ?k6 ?k7 ?k8 ?k9 ?kB ?_ ?c2 ?c3 ?c4 ?c5; (case kA => exact rfl); (case kF => exact rfl); (case kK => first | exact rfl | assumption); (case k1 => k_asm); (case k2 => k_asm); (case k3 => k_asm); (case k4 => k_asm); (case k5 => k_asm); (case k6 => k_is); (case k7 => k_is); (case k8 => ktr_room); (case k9 => first | exact BindsTo.of_eq rfl | exact binds_K (by k_in) rfl (by k_is) rfl rfl rfl); (case c5 => decide); (case kB => exact locs rfl); (case c2 => exact rfl); (case c3 => exact rfl); (case c4 => exact rfl); k_whole; intro g' L' h' FG' F' N' B' X' T'; (try dsimp only)))
local macro_rules | `(tactic| walk_at "tidy test") => `(tactic| (refine wpC_execs_cons (wpC_If ?_); (try k_fold); k_steps; try dsimp only))
local macro_rules | `(tactic| walk_at "tidy plain") => `(tactic| (refine wpC_execs_cons (wpC_any ?_); (try k_fold); k_steps; try dsimp only))
local macro_rules | `(tactic| walk_at "tidy turn") => `(tactic| (refine codeC_turn ?_; (try k_fold); k_steps; (try dsimp only); walk_at "tidy plain"; walk_at "tidy plain"; walk_at "tidy plain"; walk_at "tidy plain"; walk_at "tidy test"))
local macro_rules | `(tactic| walk_at "subscriptTail List cons Slice ref ref") => `(tactic| (k_here; (with_reducible show wpAny _ _ (subscriptTail _ (PySem.Expr.Slice (some _) none none _) (Value.ref _) (Value.ref _)) _ _ _); k_dflt (refine' menu_slice (ns := [57, 61, 1207, 99, 4444, 5]) ?F ?N ?l ?p ?x ?i ?n ?_ ?s; (case F => k_asm); (case N => k_asm); (case l => kmk_list); (case p => kmk_part); (case x => omega); (case i => (repeat (first | exact IntsAre.nil | refine IntsAre.cons _ _ ?_))); (case n => decide); (case s => with_unfolding_all rfl); k_whole); intro D' ws' h' ms' F' N' l1 hI' hL'; (try k_lt l1)))
local macro_rules | `(tactic| walk_at "pyIter ref") => `(tactic| (k_here; k_dflt (refine' pyIter_ints ?h ?l ?i ?F ?N ?m ?_; (case h => exact rfl); (case l => kmk_list); (case i => assumption); (case F => k_asm); (case N => k_asm); (case m => k_mem); k_whole); intro I' fp' wr' n' P' St' h' W' hLf' hwr' hst' F' hP'))
local macro_rules | `(tactic| walk_at "subscriptTail Call Name nil nil BinOp ref int") => `(tactic| (k_here; (with_reducible show wpAny _ _ (subscriptTail _ _ (Value.ref _) (Value.int _ _)) _ _ _); k_dflt (first
  | (refine' menu_opt (os := hostsL) ?N ?m ?d ?a ?b ?c ?_ ?s; (case N => k_asm); (case m => k_mem); (case d => with_reducible exact .non (.str _ _ (.str _ _ .nil))); (case a => exact fm_ge _ _ (of_decide_eq_true rfl)); (case b => exact fm_lt _ _ (of_decide_eq_true rfl)); (case c => exact Int.lt_trans (fm_lt _ _ (of_decide_eq_true rfl)) (of_decide_eq_true rfl)); (case s => with_unfolding_all rfl); k_whole)
  | (refine' menu_num (os := portsL) ?N ?m ?d ?a ?b ?c ?_ ?s; (case N => k_asm); (case m => k_mem); (case d => with_reducible exact .non (.int _ _ (.int _ _ (.int _ _ .nil)))); (case a => exact fm_ge _ _ (of_decide_eq_true rfl)); (case b => exact fm_lt _ _ (of_decide_eq_true rfl)); (case c => exact Int.lt_trans (fm_lt _ _ (of_decide_eq_true rfl)) (of_decide_eq_true rfl)); (case s => with_unfolding_all rfl); k_whole)); intro v' hv'))
local macro_rules | `(tactic| walk_at "subscriptTail Call Name nil nil Name ref int") => `(tactic| (k_here; (with_reducible show wpAny _ _ (subscriptTail _ _ (Value.ref _) (Value.int _ _)) _ _ _); k_dflt (first
  | (refine' menu_opt (os := wordsL) ?N ?m ?d ?a ?b ?c ?_ ?s; (case N => k_asm); (case m => k_mem); (case d => with_reducible exact .non (.str _ _ (.str _ _ (.str _ _ (.str _ _ .nil))))); (case a => exact fm_ge _ _ (of_decide_eq_true rfl)); (case b => exact fm_lt _ _ (of_decide_eq_true rfl)); (case c => exact Int.lt_trans (fm_lt _ _ (of_decide_eq_true rfl)) (of_decide_eq_true rfl)); (case s => with_unfolding_all rfl); k_whole)
  | (refine' menu_opt (os := writtenL) ?N ?m ?d ?a ?b ?c ?_ ?s; (case N => k_asm); (case m => k_mem); (case d => with_reducible exact .non (.str _ _ (.str _ _ (.str _ _ (.str _ _ .nil))))); (case a => exact fm_ge _ _ (of_decide_eq_true rfl)); (case b => exact fm_lt _ _ (of_decide_eq_true rfl)); (case c => exact Int.lt_trans (fm_lt _ _ (of_decide_eq_true rfl)) (of_decide_eq_true rfl)); (case s => with_unfolding_all rfl); k_whole)); intro v' hv'))
local macro_rules | `(tactic| walk_at "eval Name") => `(tactic| (k_here; k_dflt (refine' nameX_L ?F ?v ?_ ?a ?b; (case F => k_asm); (case a => rfl); (case b => rfl); (case v => first | rfl | assumption); k_whole)))
local macro_rules | `(tactic| walk_at "loadName") => `(tactic| (k_here; k_dflt (refine' ldn (F := ?F) ?hv ?_; (case F => k_asm); (case hv => first | rfl | assumption); k_whole)))
local macro_rules | `(tactic| walk_at "callWith ref nil nil") => `(tactic| (k_here; (with_reducible show wpAny _ _ (callWith _ (Value.ref _) [] (backTo _ (starEach [] _)) []) _ _ _); k_dflt (refine' callWith_K0 ?k1 ?k2 ?_; (case k1 => exact Frag.In.keeps (by k_asm) (Fr.keep (by k_asm))); (case k2 => k_is); k_whole)))
local macro_rules | `(tactic| walk_at "call ref cons nil") => `(tactic| (k_here; (try dsimp only [List.nil_append, List.cons_append]); first
  | ((with_reducible show wpAny _ _ (call (Value.ref 100) _) _ _ _); k_dflt (refine' due_spec ?z0 ?z1 ?z2 ?z3 ?z4 ?z5 ?z6 ?z7 ?z8 ?z9 ?z10 ?z11 ?z12 ?z13 ?_; (case z0 => assumption); (case z1 => assumption); (case z2 => assumption); (case z3 => assumption); (case z4 => assumption); (case z5 => assumption); (case z6 => assumption); (case z7 => assumption); (case z8 => k_asm); (case z9 => k_asm); (case z10 => k_asm); (case z11 => k_asm); (case z12 => k_asm); (case z13 => exact rfl); k_whole); intro t' h' k' F' N')
  | ((with_reducible show wpAny _ _ (call (Value.ref 65) [_, _, _, _, Value.bool false]) _ _ _); k_dflt (refine' make_plain ?z0 ?z1 ?z2 ?z3 ?z4 ?z5 ?z6 ?z7 ?z8 ?z9 ?z10 ?z11 ?z12 ?z13 ?_; (case z0 => assumption); (case z1 => assumption); (case z2 => assumption); (case z3 => assumption); (case z4 => assumption); (case z5 => assumption); (case z6 => assumption); (case z7 => assumption); (case z8 => k_asm); (case z9 => k_asm); (case z10 => k_asm); (case z11 => k_asm); (case z12 => k_asm); (case z13 => exact rfl); k_whole); intro t' h' k' F' N')
  | ((with_reducible show wpAny _ _ (call (Value.ref 57) _) _ _ _); k_dflt (refine' split_spec ?z0 ?z1 ?z2 ?z3 ?z4 ?z5 ?z6 ?_; (case z0 => assumption); (case z1 => k_asm); (case z2 => k_asm); (case z3 => k_asm); (case z4 => k_asm); (case z5 => k_asm); (case z6 => exact rfl); k_whole); intro r' v1' v2' v3' v4' h' k' a1' a2' a3' a4' F' N' l1')))
local macro_rules | `(tactic| walk_at "compareOp NotEq str str") => `(tactic| (k_here; (with_reducible refine ne_same ?_)))
local macro_rules | `(tactic| walk_at "compareOp NotEq ref ref") => `(tactic| (k_here; k_dflt (refine' four_ne ?N ?m ?n ?a1 ?a2 ?a3 ?a4 ?b1 ?b2 ?b3 ?b4 ?o1 ?o2 ?o3 ?u ?_; (case N => k_asm); (case m => k_mem); (case n => k_mem); (case a1 => assumption); (case a2 => assumption); (case a3 => assumption); (case a4 => assumption); (case b1 => first | assumption | exact rfl | exact ⟨_, rfl⟩); (case b2 => first | assumption | exact rfl | exact ⟨_, rfl⟩); (case b3 => first | assumption | exact rfl | exact ⟨_, rfl⟩); (case b4 => first | assumption | exact rfl | exact ⟨_, rfl⟩); (case o1 => assumption); (case o2 => assumption); (case o3 => assumption); (case u => ke_room); k_whole)))
local macro_rules | `(tactic| walk_at "compareOp Eq str str") => `(tactic| (k_here; first | (with_reducible refine eq_same ?_) | (with_reducible refine eq_nil_no (by assumption) ?_)))
theorem law_holds : PySem.Challenge.rw_aw6039_01.Holds := by
  w_on
  refine hd ?_
  w_strict (
    k_fill
    intro w s₀ s₁ mg mb G Y fa o pm cd doc dV kV ho hd hcd hD hmg hg args vals as hpre hlay hrd hwl hlo
    have KX := kIn_of Y
    have X := (Ground.X G).1
    have V := (Ground.X G).2
    try w_nolog (first | (have GL := glob_more (Ground.glob G (by first | k_qdec | decide +kernel) (by first | k_qdec | decide +kernel)) V) | (have GL := glob_more (Ground.glob G (by decide +kernel)) V))
    refine Ground.open G ?_
    intro T B D TE TW
    try (refine guard_noD D (by decide +kernel) ?_; clear D)
    obtain ⟨_, _, M⟩ := bmod_of_top T
    have TA := at_of_top T
    try (obtain ⟨_, _, he, B0⟩ := based_of_top T rfl hmg ho hd; have he' : cd = _ := he; subst he'; clear he)
    clear hmg
    wrow_args hpre hlay hrd hwl hlo
    refine ⟨?_, ?_⟩
    rotate_left
    · refine GoodW.toG ⟨.inl ⟨_, _, _, rfl, raisesW_false ?_, .bool true, ?_, unshared_nil⟩, fun _ _ h => h, rfl, hg⟩
      · wrow_none_raised
      · wrow_post
    · skip
      refine wpC_call ?_
      w_top on
      have K0 : Below callerA s₁.heap [] s₁.heap := below_caller _
      have he := Dflts.none hD rfl; subst he
      refine callC_full (by decide) ho hd (Top.nolimit T) hcd (BindsTo.of_eq rfl) (locs rfl) fun h₁ F => ?_
      w_binds F
      have N0 := (News.nil : News _ _ _ []).at F
      clear hd TA
      k_drop
      walk_at "tidy plain"
      refine wpC_execs_cons (wpC_any ?_)
      (try k_fold)
      k_steps
      (try dsimp only)
      refine wpC_execs_cons (wpC_For ?_)
      (try k_fold)
      k_steps
      (try dsimp only)
      k_dflt (refine' codeC_forLoop_fr ?zW ?zx ?zp ?zl ?zw ?zs ?zF ?zstep ?zR; (case zW => assumption); (case zx => exact rfl); (case zp => exact rfl); (case zl => assumption); (case zw => assumption); (case zs => assumption); (case zF => k_asm))
      case zR =>
        intro h' tk m' F'
        (try dsimp only); (try k_fold)
        walk_at "tidy plain"
        refine GoodW.toG ?_
        wrow_close
      case zstep =>
        intro i v m₁ own hh tk hi hPv F N
        obtain ⟨n, tn, rfl⟩ := ‹∀ i v, _ → ∃ (n : Int) (t : Tok), v = .int n t› _ _ hPv
        (try dsimp only)
        refine wpC_execs_cons (wpC_any ?_); (try k_fold)
        k_steps; (try dsimp only)
        walk_at "tidy plain"
        (rename Fr _ _ _ _ => F8); (rename News _ _ _ _ => N8)
        k_dflt (obtain ⟨m9, t1, t2, c9, F9, e1, e2, e3, e4, e5⟩ := forgetA F8 (by first | rfl | assumption) (by first | rfl | assumption) (by first | rfl | assumption) (by first | rfl | assumption) (by first | rfl | assumption) (by first | rfl | assumption))
        have N9 := cb_drop (news := own) N8 (fun p hp => by (repeat (first | exact hp | refine List.Mem.tail _ ?_)))
        clear F8 N8
        (repeat ((with_reducible rename OptV _ _ => x9); revert x9)); (repeat ((with_reducible rename OptN _ _ => x9); revert x9))
        revert e1 e2 e3 e4 e5; revert F9 N9; revert K0 KX T
        law_clear
        intros
        walk_at "tidy plain"
        walk_at "tidy plain"
        (rename Fr _ _ _ _ => F8); (rename News _ _ _ _ => N8)
        k_dflt (obtain ⟨m9, F9, e1, e2, e3, e4, e5, e6, e7, e8, e9⟩ := forgetC F8 (by first | rfl | assumption) (by first | rfl | assumption) (by first | rfl | assumption) (by first | rfl | assumption) (by first | rfl | assumption) (by first | rfl | assumption) (by first | rfl | assumption) (by first | rfl | assumption) (by first | rfl | assumption))
        have N9 := cb_drop (news := own) N8 (fun p hp => by (repeat (first | exact hp | refine List.Mem.tail _ ?_)))
        clear F8 N8
        (with_reducible rename OptV _ (writtenL.getD (n.fmod 5).toNat none) => o3); (with_reducible rename OptV _ (writtenL.getD ((n.fdiv 5).fmod 5).toNat none) => o4)
        (with_reducible rename OptV _ (wordsL.getD (n.fmod 5).toNat none) => o1); (with_reducible rename OptV _ (wordsL.getD ((n.fdiv 5).fmod 5).toNat none) => o2)
        (with_reducible rename OptV _ (hostsL.getD _ _) => oh); (with_reducible rename OptN _ (portsL.getD _ _) => on)
        obtain ⟨U, u1, u2, u3, u4, u5, u6⟩ := pair_at (n.fmod 5) (fm_ge _ _ (by decide)) (fm_lt _ _ (by decide))
        obtain ⟨P, p1, p2, p3, p4, p5, p6⟩ := pair_at ((n.fdiv 5).fmod 5) (fm_ge _ _ (by decide)) (fm_lt _ _ (by decide))
        obtain ⟨H, q1, q2, q3, q4⟩ := host_at ((n.fdiv 25).fmod 3) (fm_ge _ _ (by decide)) (fm_lt _ _ (by decide))
        obtain ⟨Np, r1, r2, r3⟩ := port_at ((n.fdiv 75).fmod 4) (fm_ge _ _ (by decide)) (fm_lt _ _ (by decide))
        rw [u1] at o1; rw [u2] at o3; rw [p1] at o2; rw [p2] at o4; rw [q1] at oh; rw [r1] at on
        clear u1 u2 p1 p2 q1 r1
        have u7 := six_small u4
        have p7 := six_small p4
        cases c9 with
        | false =>
          walk_at "tidy plain"
          walk_at "tidy plain"
          walk_at "tidy test"
          refine wpC_execs_nil ?_; (try dsimp only)
          rcases q2 with rfl | hH
          · cases oh
            walk_at "tidy test"
            refine wpC_execs_cons (wpC_any ?_); (try k_fold)
            walk1
            (try dsimp only)
            k_dflt (refine' step_end ?zF ?zN; (case zF => k_asm); (case zN => k_asm))
          · obtain ⟨h, rfl⟩ : ∃ h, H = some h := two_some hH
            obtain ⟨th, rfl⟩ := oh
            by_cases hf : n.fmod 5 = 4
            · rw [hf] at e1
              walk_at "tidy test"
              refine wpC_execs_cons (wpC_any ?_); (try k_fold)
              walk1
              (try dsimp only)
              k_dflt (refine' step_end ?zF ?zN; (case zF => k_asm); (case zN => k_asm))
            · by_cases hs : (n.fdiv 5).fmod 5 = 4
              · rw [hs] at e2
                walk_at "tidy test"
                any_goals (exfalso; contradiction)
                refine wpC_execs_cons (wpC_any ?_); (try k_fold)
                walk1
                (try dsimp only)
                k_dflt (refine' step_end ?zF ?zN; (case zF => k_asm); (case zN => k_asm))
              · have u8 := u5 hf
                have p8 := p5 hs
                walk_at "tidy test"
                any_goals (exfalso; contradiction)
                refine wpC_execs_nil ?_; (try dsimp only)
                have sp := split_at u8 p8 hH r2
                have okP := six_ok p8
                have okU := nz_ok (six_ok u8)
                have okH := nz_ok q4
                by_cases hz : h.length = 0
                · have zH : nz (some h) = none := if_pos hz
                  rw [zH] at sp okH
                  have hu := is_nil hz
                  subst hu
                  cases U with
                  | none =>
                    cases o1
                    change SplitAs _ none _ _ _ at sp
                    change OkO none at okU
                    walk_at "tidy plain"
                    walk_at "tidy plain"
                    walk_at "tidy plain"
                    walk_at "tidy test"
                    all_goals first | (exfalso; omega) | (
                      refine wpC_execs_nil ?_; (try dsimp only)
                      refine wpC_execs_nil ?_; (try dsimp only)
                      k_dflt (refine' step_end ?zF ?zN; (case zF => k_asm); (case zN => (refine' cb_drop ?zA ?zB; (case zA => k_asm); (case zB => (intro p hp; (repeat (first | exact hp | refine List.Mem.tail _ ?_))))))))
                  | some u =>
                    obtain ⟨tu, rfl⟩ := o1
                    by_cases hy : u.length = 0
                    · have zU : nz (some u) = none := if_pos hy
                      rw [zU] at sp okU
                      have hu := is_nil hy
                      subst hu
                      walk_at "tidy plain"
                      walk_at "tidy plain"
                      walk_at "tidy plain"
                      walk_at "tidy test"
                      all_goals first | (exfalso; omega) | (
                        refine wpC_execs_nil ?_; (try dsimp only)
                        refine wpC_execs_nil ?_; (try dsimp only)
                        k_dflt (refine' step_end ?zF ?zN; (case zF => k_asm); (case zN => (refine' cb_drop ?zA ?zB; (case zA => k_asm); (case zB => (intro p hp; (repeat (first | exact hp | refine List.Mem.tail _ ?_))))))))
                    · have zU : nz (some u) = some u := if_neg hy
                      rw [zU] at sp okU
                      have hne' := not_nil hy
                      have hyi : (u.length : Int) ≠ 0 := by omega
                      walk_at "tidy plain"
                      walk_at "tidy plain"
                      walk_at "tidy plain"
                      walk_at "tidy test"
                      all_goals first | (exfalso; omega) | (
                        refine wpC_execs_nil ?_; (try dsimp only)
                        refine wpC_execs_nil ?_; (try dsimp only)
                        k_dflt (refine' step_end ?zF ?zN; (case zF => k_asm); (case zN => (refine' cb_drop ?zA ?zB; (case zA => k_asm); (case zB => (intro p hp; (repeat (first | exact hp | refine List.Mem.tail _ ?_))))))))
                · have zH : nz (some h) = some h := if_neg hz
                  rw [zH] at sp okH
                  have hne := not_nil hz
                  have hzi : (h.length : Int) ≠ 0 := by omega
                  cases U with
                  | none =>
                    cases o1
                    change SplitAs _ none _ _ _ at sp
                    change OkO none at okU
                    walk_at "tidy plain"
                    walk_at "tidy plain"
                    walk_at "tidy plain"
                    walk_at "tidy test"
                    all_goals first | (exfalso; omega) | (
                      refine wpC_execs_nil ?_; (try dsimp only)
                      refine wpC_execs_nil ?_; (try dsimp only)
                      k_dflt (refine' step_end ?zF ?zN; (case zF => k_asm); (case zN => (refine' cb_drop ?zA ?zB; (case zA => k_asm); (case zB => (intro p hp; (repeat (first | exact hp | refine List.Mem.tail _ ?_))))))))
                  | some u =>
                    obtain ⟨tu, rfl⟩ := o1
                    by_cases hy : u.length = 0
                    · have zU : nz (some u) = none := if_pos hy
                      rw [zU] at sp okU
                      have hu := is_nil hy
                      subst hu
                      walk_at "tidy plain"
                      walk_at "tidy plain"
                      walk_at "tidy plain"
                      walk_at "tidy test"
                      all_goals first | (exfalso; omega) | (
                        refine wpC_execs_nil ?_; (try dsimp only)
                        refine wpC_execs_nil ?_; (try dsimp only)
                        k_dflt (refine' step_end ?zF ?zN; (case zF => k_asm); (case zN => (refine' cb_drop ?zA ?zB; (case zA => k_asm); (case zB => (intro p hp; (repeat (first | exact hp | refine List.Mem.tail _ ?_))))))))
                    · have zU : nz (some u) = some u := if_neg hy
                      rw [zU] at sp okU
                      have hne' := not_nil hy
                      have hyi : (u.length : Int) ≠ 0 := by omega
                      walk_at "tidy plain"
                      walk_at "tidy plain"
                      walk_at "tidy plain"
                      walk_at "tidy test"
                      all_goals first | (exfalso; omega) | (
                        refine wpC_execs_nil ?_; (try dsimp only)
                        refine wpC_execs_nil ?_; (try dsimp only)
                        k_dflt (refine' step_end ?zF ?zN; (case zF => k_asm); (case zN => (refine' cb_drop ?zA ?zB; (case zA => k_asm); (case zB => (intro p hp; (repeat (first | exact hp | refine List.Mem.tail _ ?_))))))))
        | true =>
          walk_at "tidy plain"
          refine wpC_execs_cons (wpC_Assign_Name (evalC_Call ?_)); (try k_fold); k_steps
          k_dflt (refine' callC_fn (K := hd.heap_39 w.params) (f := 65) ?k1 ?_; (case k1 => k_is)); (try k_fold); k_steps
          k_dflt (refine' make_coded ?z0 ?z1 ?z2 ?z3 ?z4 ?z5 ?z6 ?z7 ?z8 ?z9 ?z10 ?z11 ?z12 ?z13 ?_; (case z0 => assumption); (case z1 => assumption); (case z2 => assumption); (case z3 => assumption); (case z4 => assumption); (case z5 => assumption); (case z6 => assumption); (case z7 => assumption); (case z8 => k_asm); (case z9 => k_asm); (case z10 => k_asm); (case z11 => k_asm); (case z12 => k_asm); (case z13 => first | exact rfl | assumption); k_whole)
          intro t' h' k' F' N'; (try k_sweep); (try dsimp only); (try k_fold)
          k_steps
          (try dsimp only)
          walk_at "tidy test"
          refine wpC_execs_nil ?_; (try dsimp only)
          have o3' := o3
          have o4' := o4
          clear o1 o2 o3 o4 u3 u5 u6 p3 p5 p6
          generalize Option.map quoteS U = V at *
          generalize Option.map quoteS P = W at *
          rcases q2 with rfl | hH
          · cases oh
            walk_at "tidy test"
            refine wpC_execs_cons (wpC_any ?_); (try k_fold)
            walk1
            (try dsimp only)
            k_dflt (refine' step_end ?zF ?zN; (case zF => k_asm); (case zN => k_asm))
          · obtain ⟨h, rfl⟩ : ∃ h, H = some h := two_some hH
            obtain ⟨th, rfl⟩ := oh
            have u8 := u4
            have p8 := p4
            walk_at "tidy test"
            refine wpC_execs_nil ?_; (try dsimp only)
            have sp := split_at u8 p8 hH r2
            have okP := six_ok p8
            have okU := nz_ok (six_ok u8)
            have okH := nz_ok q4
            by_cases hz : h.length = 0
            · have zH : nz (some h) = none := if_pos hz
              rw [zH] at sp okH
              have hu := is_nil hz
              subst hu
              cases V with
              | none =>
                cases o3'
                change SplitAs _ none _ _ _ at sp
                change OkO none at okU
                walk_at "tidy plain"
                walk_at "tidy plain"
                walk_at "tidy plain"
                walk_at "tidy test"
                all_goals first | (exfalso; omega) | (
                  refine wpC_execs_nil ?_; (try dsimp only)
                  refine wpC_execs_nil ?_; (try dsimp only)
                  k_dflt (refine' step_end ?zF ?zN; (case zF => k_asm); (case zN => (refine' cb_drop ?zA ?zB; (case zA => k_asm); (case zB => (intro p hp; (repeat (first | exact hp | refine List.Mem.tail _ ?_))))))))
              | some u =>
                obtain ⟨tu, rfl⟩ := o3'
                by_cases hy : u.length = 0
                · have zU : nz (some u) = none := if_pos hy
                  rw [zU] at sp okU
                  have hu := is_nil hy
                  subst hu
                  walk_at "tidy plain"
                  walk_at "tidy plain"
                  walk_at "tidy plain"
                  walk_at "tidy test"
                  all_goals first | (exfalso; omega) | (
                    refine wpC_execs_nil ?_; (try dsimp only)
                    refine wpC_execs_nil ?_; (try dsimp only)
                    k_dflt (refine' step_end ?zF ?zN; (case zF => k_asm); (case zN => (refine' cb_drop ?zA ?zB; (case zA => k_asm); (case zB => (intro p hp; (repeat (first | exact hp | refine List.Mem.tail _ ?_))))))))
                · have zU : nz (some u) = some u := if_neg hy
                  rw [zU] at sp okU
                  have hne' := not_nil hy
                  have hyi : (u.length : Int) ≠ 0 := by omega
                  walk_at "tidy plain"
                  walk_at "tidy plain"
                  walk_at "tidy plain"
                  walk_at "tidy test"
                  all_goals first | (exfalso; omega) | (
                    refine wpC_execs_nil ?_; (try dsimp only)
                    refine wpC_execs_nil ?_; (try dsimp only)
                    k_dflt (refine' step_end ?zF ?zN; (case zF => k_asm); (case zN => (refine' cb_drop ?zA ?zB; (case zA => k_asm); (case zB => (intro p hp; (repeat (first | exact hp | refine List.Mem.tail _ ?_))))))))
            · have zH : nz (some h) = some h := if_neg hz
              rw [zH] at sp okH
              have hne := not_nil hz
              have hzi : (h.length : Int) ≠ 0 := by omega
              cases V with
              | none =>
                cases o3'
                change SplitAs _ none _ _ _ at sp
                change OkO none at okU
                walk_at "tidy plain"
                walk_at "tidy plain"
                walk_at "tidy plain"
                walk_at "tidy test"
                all_goals first | (exfalso; omega) | (
                  refine wpC_execs_nil ?_; (try dsimp only)
                  refine wpC_execs_nil ?_; (try dsimp only)
                  k_dflt (refine' step_end ?zF ?zN; (case zF => k_asm); (case zN => (refine' cb_drop ?zA ?zB; (case zA => k_asm); (case zB => (intro p hp; (repeat (first | exact hp | refine List.Mem.tail _ ?_))))))))
              | some u =>
                obtain ⟨tu, rfl⟩ := o3'
                by_cases hy : u.length = 0
                · have zU : nz (some u) = none := if_pos hy
                  rw [zU] at sp okU
                  have hu := is_nil hy
                  subst hu
                  walk_at "tidy plain"
                  walk_at "tidy plain"
                  walk_at "tidy plain"
                  walk_at "tidy test"
                  all_goals first | (exfalso; omega) | (
                    refine wpC_execs_nil ?_; (try dsimp only)
                    refine wpC_execs_nil ?_; (try dsimp only)
                    k_dflt (refine' step_end ?zF ?zN; (case zF => k_asm); (case zN => (refine' cb_drop ?zA ?zB; (case zA => k_asm); (case zB => (intro p hp; (repeat (first | exact hp | refine List.Mem.tail _ ?_))))))))
                · have zU : nz (some u) = some u := if_neg hy
                  rw [zU] at sp okU
                  have hne' := not_nil hy
                  have hyi : (u.length : Int) ≠ 0 := by omega
                  walk_at "tidy plain"
                  walk_at "tidy plain"
                  walk_at "tidy plain"
                  walk_at "tidy test"
                  all_goals first | (exfalso; omega) | (
                    refine wpC_execs_nil ?_; (try dsimp only)
                    refine wpC_execs_nil ?_; (try dsimp only)
                    k_dflt (refine' step_end ?zF ?zN; (case zF => k_asm); (case zN => (refine' cb_drop ?zA ?zB; (case zA => k_asm); (case zB => (intro p hp; (repeat (first | exact hp | refine List.Mem.tail _ ?_)))))))))
end Mine
end
theorem PySem.Challenge.cw_aw6039_01_holds : PySem.Challenge.rw_aw6039_01.Holds := by
  exact Mine.law_holds
