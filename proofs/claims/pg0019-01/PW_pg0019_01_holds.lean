import PyProof.Rows.All
import Wide.All
import OpenK.AllK
import Wide.FinOn
import PySem.Challenge.RW_pg0019_01

/-! C0 -/
section
open PySem PySem.W PyProof.Rows PySem.Calls
open Sem (wp)
set_option Elab.async false
set_option maxRecDepth 100000
set_option linter.unusedVariables false
namespace Mine

/-- the claim's caller stands at or beneath the code that runs -/
def Called (Γ : Ctx) : Prop := (Γ.code :: Γ.below.map (·.1)).any Code.isCaller = true
def CalledB (Γ : Ctx) : Prop := (Γ.below.map (·.1)).any Code.isCaller = true
theorem CalledB.of {Γ : Ctx} (h : CalledB Γ) : Called Γ := by
  unfold Called; rw [List.any_cons, Bool.or_eq_true]; exact .inr h
theorem Called.enter {Γ : Ctx} (h : Called Γ) (c : Code) (hd : Option Value) (p : Pos) : CalledB (Γ.enter c hd p) := h
theorem CalledB.goto {Γ : Ctx} (h : CalledB Γ) (c : Code) : CalledB (Γ.goto c) := h

/-- wpAny beneath the claim's caller -/
def wpC {α : Type} (M : Model) (A : Around) (t : Sem α) (Q : α → Shared → Prop) (E : Value → Shared → Prop) (s : Shared) : Prop :=
  ∀ Γ p, Γ.In A → Called Γ → wp M Γ t (fun a _ s' => Q a s') (fun e _ s' => E e s') p s
def codeC (M : Model) (A : Around) (c : Code) (R : Result → Shared → Prop) (s : Shared) : Prop :=
  ∀ Γ p, Γ.code = c → Γ.Below A → CalledB Γ → wpCode M Γ R p s

section
variable {α β : Type} {M : Model} {A : Around} {E E' : Value → Shared → Prop} {s : Shared}
theorem wpC.of {t : Sem α} {Q : α → Shared → Prop} (h : wpAny M A t Q E s) : wpC M A t Q E s := fun Γ p hΓ _ => h Γ p hΓ
theorem codeC.of {c : Code} {R : Result → Shared → Prop} (h : codeAny M A c R s) : codeC M A c R s := fun Γ p hc hΓ _ => h Γ p hc hΓ
theorem wpC_mono {t : Sem α} {Q Q' : α → Shared → Prop} (h : wpC M A t Q E s) (hQ : ∀ a s, Q a s → Q' a s) (hE : ∀ e s, E e s → E' e s) : wpC M A t Q' E' s :=
  fun Γ p hΓ hC => Sem.wp_mono M Γ t (fun a _ s => hQ a s) (fun e _ s => hE e s) p s (h Γ p hΓ hC)
theorem wpC_pure {a : α} {Q : α → Shared → Prop} (h : Q a s) : wpC M A (pure a) Q E s := fun _ _ _ _ => h
theorem wpC_bind {m : Sem α} {f : α → Sem β} {Q : β → Shared → Prop} (h : wpC M A m (fun a s' => wpC M A (f a) Q E s') E s) : wpC M A (m >>= f) Q E s := fun Γ p hΓ hC => by
  rw [Sem.wp_bind']
  exact Sem.wp_mono M Γ m (fun a p' s' h' => h' Γ p' hΓ hC) (fun _ _ _ h' => h') p s (h Γ p hΓ hC)
theorem wpC_onRaise {m : Sem α} {k : Value → Sem Unit} {Q : α → Shared → Prop}
    (h : wpC M A m Q (fun e s' => wpAny M A (k e) (fun _ s'' => E e s'') E s') s) : wpC M A (m.onRaise k) Q E s := fun Γ p hΓ hC => by
  rw [Sem.wp_onRaise]
  exact Sem.wp_mono M Γ m (fun _ _ _ h' => h') (fun e p' s' h' => h' Γ p' hΓ) p s (h Γ p hΓ hC)
theorem wpC_holding {vs : List Value} {m : Sem α} {Q : α → Shared → Prop} (h : wpC M A m Q E s) : wpC M A (holding vs m) Q E s :=
  fun Γ p hΓ hC => by rw [Sem.wp_holding]; exact h Γ p hΓ hC
theorem wpC_keep {vs : List Value} {m : Sem α} {Q : α → Shared → Prop} (h : wpC M A m Q E s) : wpC M A (m.keep vs) Q E s :=
  fun Γ p hΓ hC => by rw [Sem.wp_keep]; exact h Γ p hΓ hC
theorem wpC_standAt {pos : Pos} {Q : Unit → Shared → Prop} (h : Q () s) : wpC M A (standAt pos) Q E s := fun _ _ _ _ => h

theorem wpC_run {c : Code} {h : Option Value} {Q : Flow → Shared → Prop}
    (hc : codeC M (A.mark h) c (fun r s' => match r with | .ok f => Q f s' | .error e => E e s') s) (hnb : h ≠ some byPass := by intro x; cases x) :
    wpC M A (run c h) Q E s :=
  fun Γ p hΓ hC => by rw [Sem.wp_run]; exact hc _ p rfl (hΓ.enter c h p hnb) (hC.enter c h p)
theorem wpC_runValue {c : Code} {Q : Value → Shared → Prop}
    (hc : codeC M A c (fun r s' => match r with | .ok (.ret v) => Q v s' | .ok _ => False | .error e => E e s') s) :
    wpC M A (runValue c) Q E s := fun Γ p hΓ hC => by rw [Sem.wp_runValue]; exact hc _ p rfl (hΓ.enter c none p (by intro x; cases x)) (hC.enter c none p)
theorem wpC_call {f : Value} {pos : List Value} {kw : List (Str × Value)} {Q : Value → Shared → Prop}
    (hc : codeC M A (.call f ⟨pos, kw⟩) (fun r s' => match r with | .ok (.ret v) => Q v s' | .ok _ => False | .error e => E e s') s) :
    wpC M A (call f pos kw) Q E s := wpC_runValue hc
theorem codeC_of_tree {c : Code} {R : Result → Shared → Prop}
    (h : wpC M (A.under c) (M.den c) (fun fin s' => match fin with | .done f => R (.ok f) s' | .again c' => c'.quiet = true ∧ codeC M A c' R s')
      (fun e s' => R (.error e) s') s) : codeC M A c R s := fun Γ p hc hΓ hC => by
  rw [wpCode_iff_wp, hc]
  refine Sem.wp_mono M Γ _ (fun fin p' s' h' => ?_) (fun _ _ _ h' => h') p s (h Γ p (hc ▸ hΓ.in) hC.of)
  cases fin with
  | done f => exact h'
  | again c' => exact ⟨h'.1, h'.2 (Γ.goto c') p' rfl (hΓ.goto c') (hC.goto c')⟩
theorem codeC_mono {c : Code} {R R' : Result → Shared → Prop} (h : codeC M A c R s) (hR : ∀ r s, R r s → R' r s) : codeC M A c R' s :=
  fun Γ p hc hΓ hC => wpCode_mono hR (h Γ p hc hΓ hC)

variable {env : Env}
theorem wpC_execs_cons {st rest} {Q : Flow → Shared → Prop}
    (h : wpC M A (exec st env) (fun f s' => match f with | .next => wpC M A (execs rest env) Q E s' | f => Q f s') E s) :
    wpC M A (execs (st :: rest) env) Q E s := by
  rw [execs_cons]
  refine wpC_bind ?_
  refine wpC_mono h (fun f s' h' => ?_) fun _ _ x => x
  cases f <;> first | exact h' | exact wpC_pure h'
theorem wpC_execs_nil {Q : Flow → Shared → Prop} (h : Q .next s) : wpC M A (execs [] env) Q E s := wpC.of (wpAny_execs_nil h)
theorem wpC_If {test body orelse pos} {Q : Flow → Shared → Prop}
    (h : wpC M A (isTrue test env (eval test env)) (fun b s₂ => if b then wpC M A (execs body env) Q E s₂ else wpC M A (execs orelse env) Q E s₂) E s) :
    wpC M A (exec (.If test body orelse pos) env) Q E s := by
  rw [exec_If]
  refine wpC_bind ?_
  refine wpC_standAt ?_
  refine wpC_bind ?_
  refine wpC_mono h (fun b s₂ h₂ => ?_) fun _ _ x => x
  cases b <;> exact h₂
theorem wpC_isTrue_Compare1 {l op r pos whole} {Q : Bool → Shared → Prop}
    (h : wpC M A (eval l env) (fun a s₁ => wpC M A (eval r env) (fun b s₂ => wpC M A (compareOp op a b) (fun c s₃ => wpC M A (truthy c) Q E s₃) E s₂) E s₁) E s)
    (hm : behindInMarks op r = false := by with_unfolding_all rfl) : wpC M A (isTrue (.Compare l [op] [r] pos) env whole) Q E s := fun Γ p hΓ hC => by
  simp only [isTrue_Compare1, markedBehindIn_of_false hm, Sem.wp_bind', Sem.wp_holding, Sem.wp_cmd_standAt, Sem.wp_operate]
  exact Sem.wp_mono M Γ _ (fun a p₁ s₁ h₁ => Sem.wp_mono M Γ _ (fun b _ s₂ h₂ => Sem.wp_mono M Γ _ (fun c p₃ s₃ h₃ => h₃ Γ p₃ hΓ hC)
    (fun _ _ _ h' => h') _ _ (h₂ Γ _ hΓ hC)) (fun _ _ _ h' => h') _ _ (h₁ Γ p₁ hΓ hC)) (fun _ _ _ h' => h') _ _ (h Γ p hΓ hC)
theorem wpC_Assign_Name {x pos' value pos} {Q : Flow → Shared → Prop}
    (h : wpC M A (eval value env) (fun v s₁ => wpC M A (storeName env x v) (fun _ => Q .next) E s₁) E s)
    (hs : swapsWith value (some (.Name x pos')) pos.line env = pure false := by rfl) :
    wpC M A (exec (.Assign [.Name x pos'] value pos) env) Q E s := fun Γ p hΓ hC => by
  simp only [exec_Assign_Name env x pos' value pos hs, Sem.wp_bind', Sem.wp_cmd_standAt, Sem.wp_bindName, Sem.wp_pure']
  exact Sem.wp_mono M Γ _ (fun v _ s₁ h₁ => h₁ Γ _ hΓ hC) (fun _ _ _ h' => h') _ _ (h Γ _ hΓ hC)
theorem wpC_Return_some {e pos} {Q : Flow → Shared → Prop} (h : wpC M A (eval e env) (fun v => Q (.ret v)) E s) :
    wpC M A (exec (.Return (some e) pos) env) Q E s := by
  rw [exec_Return_some]
  exact wpC_bind (wpC_standAt (wpC_bind (wpC_mono h (fun v s' h' => wpC_pure h') fun _ _ x => x)))
theorem wpC_Call {func : Expr} {args : List Expr} {pos : Pos} {Q : Value → Shared → Prop}
    (h : wpAny M A (eval func env) (fun f s₁ => wpC M A (callWith pos f [] (backTo pos (starEach args env)) []) Q E s₁) E s)
    (he : eval (.Call func args [] pos) env = (do callWith pos (← eval func env) [] (backTo pos (starEach args env)) (backToKw pos (keywordEach [] env))) := by rfl) :
    wpC M A (eval (.Call func args [] pos) env) Q E s := by
  rw [he]; exact wpC_bind (wpC.of h)
theorem wpC_callMarked {mk f : Value} {pos : List Value} {kw : List (Str × Value)} {Q : Value → Shared → Prop} (h : wpC M A (call f pos kw) Q E s) : wpC M A (callMarked mk f pos kw) Q E s := wpC_keep h
theorem wpC_callWith_type {pos : Pos} {T : String} {first : List Value} {args : List (Bool × Sem Value)} {Q : Value → Shared → Prop} (hplain : args.any (·.1) = false)
    (h : wpAny M A (evalArgs (.type T) true args []) (fun a s₁ => wpC M A (call (.type T) (first ++ a.pos) a.kw) Q E s₁) E s) :
    wpC M A (callWith pos (.type T) first args []) Q E s := by
  unfold callWith
  refine wpC_bind ?_
  refine wpC_holding ?_
  refine wpC.of ?_
  refine wpAny_mono h (fun a s₁ h₁ => wpC_bind (wpC_standAt ?_)) fun _ _ x => x
  simp only [hplain, List.any_nil, Bool.or_false]
  refine wpC_bind ?_
  refine wpC_pure ?_
  exact wpC_bind (wpC_mono h₁ (fun r s₂ hr => wpC_bind (wpC_holding (wpC.of (wpAny_point (wpC_pure hr))))) fun _ _ x => x)
theorem wpC_callWith_type1 {pos : Pos} {T : String} {e : Expr} {rest : List Expr} {Q : Value → Shared → Prop}
    (h : wpAny M A (spliced (backTo pos (starEach (e :: rest) env))) (fun vs s₁ => wpC M A (call (.type T) vs) Q E s₁) E s)
    (he : starEach (e :: rest) env = (false, eval e env) :: starEach rest env := by rfl)
    (hplain : (backTo pos (starEach rest env)).any (·.1) = false := by rfl) :
    wpC M A (callWith pos (.type T) [] (backTo pos (starEach (e :: rest) env)) []) Q E s := by
  rw [he] at h ⊢
  exact wpC_callWith_type (by show (false || (backTo pos (starEach rest env)).any (·.1)) = false; rw [hplain]; rfl) (evalArgs_plain h)
theorem wpC_callWith_function {pos : Pos} {a : Addr} {o : Obj} {fd : FuncData} {first : List Value} {args : List (Bool × Sem Value)} {Q : Value → Shared → Prop}
    (h : wpAny M A (evalArgs (.ref a) true args []) (fun x s₁ => (s₁.heap.get? a = some o ∧ o.data = .func fd) ∧ wpC M A (call (.ref a) (first ++ x.pos) x.kw) Q E s₁) E s) :
    wpC M A (callWith pos (.ref a) first args []) Q E s := by
  unfold callWith
  refine wpC_bind ?_
  refine wpC_holding ?_
  refine wpC.of ?_
  refine wpAny_mono h (fun x s₁ h₁ => wpC_bind (wpC_standAt ?_)) fun _ _ x => x
  have tail : ∀ {t : Sem Value}, wpC M A t Q E s₁ → wpC M A (t >>= fun r => holding [r] point >>= fun _ => pure r) Q E s₁ :=
    fun ht => wpC_bind (wpC_mono ht (fun r s₂ hr => wpC.of (wpAny_bind (wpAny_holding (wpAny_point (wpAny_pure hr))))) fun _ _ x => x)
  have ite_ : ∀ {c : Prop} [Decidable c] {a b : Sem Value}, wpC M A a Q E s₁ → wpC M A b Q E s₁ → wpC M A (if c then a else b) Q E s₁ := by
    intro c _ a b ha hb; split <;> assumption
  cases hs : args.any (·.1) <;> simp only [List.any_nil, Bool.or_false] <;>
    refine wpC_bind (m := keeperOf (.ref a)) ?_ <;> unfold keeperOf <;>
    refine wpC_bind (wpC.of (wpAny_load h₁.1.1 ?_)) <;> rw [h₁.1.2] <;> refine wpC_pure ?_
  · first
      | exact ite_ (tail h₁.2) (tail (wpC_callMarked h₁.2))
      | (split <;> first | exact tail h₁.2 | exact tail (wpC_callMarked h₁.2) | exact ite_ (tail h₁.2) (tail (wpC_callMarked h₁.2)))
  · exact tail (wpC_callMarked h₁.2)
theorem wpC_callWith_def {pos : Pos} {f : Addr} {o : Obj} {fd : FuncData} {e : Expr} {rest : List Expr} {Q : Value → Shared → Prop} (hdat : o.data = .func fd)
    (h : wpAny M A (spliced (backTo pos (starEach (e :: rest) env))) (fun vs s₁ => s₁.heap.get? f = some o ∧ wpC M A (call (.ref f) vs) Q E s₁) E s)
    (he : starEach (e :: rest) env = (false, eval e env) :: starEach rest env := by rfl) :
    wpC M A (callWith pos (.ref f) [] (backTo pos (starEach (e :: rest) env)) []) Q E s := by
  rw [he] at h ⊢
  exact wpC_callWith_function (o := o) (fd := fd) (evalArgs_plain (wpAny_mono h (fun vs s₁ h₁ => ⟨⟨h₁.1, hdat⟩, h₁.2⟩) fun _ _ x => x))
theorem wpC_runOwn {c : Code} {h : Option Value} {Q : Flow → Shared → Prop}
    (hc : codeC M (A.mark h) c (fun r s' => match r with | .ok f => Q f s' | .error e => cameBackBy M A env E e s') s) (hnb : h ≠ some byPass := by intro x; cases x) :
    wpC M A (runOwn c env h) Q E s := by
  unfold runOwn
  exact wpC_onRaise (wpC_run hc hnb)
theorem wpC_For {target iter body orelse pos} {Q : Flow → Shared → Prop}
    (h : wpAny M A (eval iter env) (fun x s₁ => wpAny M A (pyIter x) (fun it s₂ =>
      codeC M A (.forLoop target it body orelse env) (fun r s' => match r with | .ok f => Q f s' | .error e => cameBackBy M A env E e s') s₂) E s₁) E s)
    (hs : ∀ x, foldedSetIterable iter env x = pure x := by intro _; rfl) :
    wpC M A (exec (.For target iter body orelse pos) env) Q E s := by
  rw [exec_For]
  exact wpC_bind (wpC_standAt (wpC_bind (wpC.of (wpAny_mono h (fun x s₁ h₁ => wpC_bind (wpC.of (wpAny_of_eq (hs x) (wpC_bind (wpC_standAt (wpC_bind (wpC_holding
    (wpC.of (wpAny_mono h₁ (fun it s₂ h₂ => wpC_runOwn h₂) fun _ _ h' => h'))))))))) fun _ _ h' => h'))))
end
end Mine
end

/-! C1 -/
section
open PySem PySem.W PyProof.Rows PySem.Calls
open Sem (wp)
set_option Elab.async false
set_option maxRecDepth 100000
set_option linter.unusedVariables false
namespace Mine
section
variable {prog : Program} {w : World} {A : Around} {E : Value → Shared → Prop} {R : Result → Shared → Prop} {s : Shared}

theorem codeC_func {body env}
    (h : wpC (model prog w) (A.deeper env) (execs body env) (fun f s' => R (.ok (.ret (match f with | .ret v => v | _ => .none))) s')
      (fun e s' => wpAny (model prog w) (A.deeper env) (leaving env e) (fun _ s'' => R (.error e) s'') (fun e' s'' => R (.error e') s'') s') s) :
    codeC (model prog w) A (.func body env) R s := by
  refine codeC_of_tree ?_
  show wpC _ (A.deeper env) (do point; match ← (execs body env).onRaise (leaving env) with | .ret v => ret v | _ => ret .none) _ _ s
  refine wpC_bind ?_
  refine wpC.of ?_
  refine wpAny_point ?_
  refine wpC_bind ?_
  refine wpC_onRaise ?_
  refine wpC_mono h (fun f s' h' => ?_) fun _ _ h' => h'
  cases f <;> exact wpC_pure h'

theorem codeC_call_function {a : Addr} {args : Args} {o : Obj} {fd : FuncData} {body : List Stmt} (hroom : A.depth < recursionLimit)
    (ho : s.heap.get? a = some o)
    (hd' : o.data = .func fd) (hco : fd.scope.isCoroutine = false) (hgen : fd.scope.isGenerator = false) (hbody : fd.body = .stmts body) (hcd : s.heap.CodeRec fd.code fd.qualname)
    (h : wpAny (model prog w) A.in1 (bindArgs fd args) (fun binds s₁ =>
      wpAny (model prog w) A.in1 (newFunctionEnv fd.scope fd.globals fd.closure binds (fd.qualname ++ ".<locals>.") (some a) fd.code none fd.builtins)
        (fun env s₂ => s₂.heap.NoLimit ∧ codeC (model prog w) A (.func body env) R s₂) (fun e s' => R (.error e) s') s₁) (fun e s' => R (.error e) s') s) :
    codeC (model prog w) A (.call (.ref a) args) R s := by
  refine codeC_of_tree ?_
  show wpC _ A.in1 (callAny (.ref a) args) _ _ s
  simp only [callAny]
  refine wpC.of ?_
  refine wpAny_bind ?_
  refine wpAny_load ho ?_
  obtain ⟨c, oc, vs, tq, hc, hoc, hdc, hq⟩ := hcd
  simp only [hd', callFunction, hco, hgen, hbody, hc]
  rw [hc] at h
  refine wpAny_bind (m := field (.ref c) 1) ?_
  refine wpAny_field hoc hdc hq ?_
  refine wpAny_bind ?_
  refine wpAny_pure ?_
  exact wpAny_bind (wpAny_mono h (fun binds s₁ h₁ => wpAny_bind (wpAny_mono h₁ (fun env s₂ h₂ => wpAny_bind (wpAny_enterFrame h₂.1 hroom
    (wpAny_pure (And.intro rfl h₂.2)))) fun _ _ h' => h')) fun _ _ h' => h')

theorem codeC_call_def {a : Addr} {o : Obj} {fd : FuncData} {body : List Stmt} {args : Args} {binds : List (Str × Value)}
    (hroom : A.depth < recursionLimit) (ho : s.heap.get? a = some o) (hdata : o.data = .func fd) (hlim : s.heap.NoLimit) (hcd : s.heap.CodeRec fd.code fd.qualname)
    (hbody : fd.body = .stmts body) (hbind : BindsTo s fd args binds)
    (hcell : ∀ x ∈ fd.scope.names, x.2 ≠ .cell) (hloc : ∀ x ∈ binds, fd.scope.names.lookup x.1 = some .local)
    (h : ∀ h₀, h₀.Ns s.heap.objs.size (fun x => binds.reverse.lookup x) → (∀ b o, s.heap.get? b = some o → h₀.get? b = some o) →
      wpC (model prog w) (A.deeper (callEnv fd s.heap.objs.size a)) (execs body (callEnv fd s.heap.objs.size a)) (fun f s' => R (.ok (.ret (match f with | .ret v => v | _ => .none))) s')
        (fun e s' => wpAny (model prog w) (A.deeper (callEnv fd s.heap.objs.size a)) (leaving (callEnv fd s.heap.objs.size a) e) (fun _ s'' => R (.error e) s'') (fun e' s'' => R (.error e') s'') s')
        { s with heap := h₀, toks := s.toks + binds.length })
    (hco : fd.scope.isCoroutine = false := by rfl) (hgen : fd.scope.isGenerator = false := by rfl) (hk : fd.scope.kind = .function := by rfl) :
    codeC (model prog w) A (.call (.ref a) args) R s := by
  refine codeC_call_function hroom ho hdata hco hgen hbody hcd ?_
  refine hbind _ _ _ _ ?_
  refine wpAny_newFunctionEnv hcell hloc (fun h₀ hns₀ hsb₀ => ⟨hlim.fresh _ hsb₀, codeC_func (h h₀ hns₀ fun b o e => ?_)⟩) hk
  exact hsb₀.extBut b o (Nat.ne_of_lt (Heap.lt_size e)) (Heap.get?_push_of_some _ e)

theorem codeC_loop {M : Model} {c : Code} (hq : c.quiet = true) (I : Nat → Shared → Prop)
    (turn : ∀ n s, I n s → wpC M (A.under c) (M.den c)
      (fun fin s' => match fin with
        | .done f => R (.ok f) s'
        | .again c' => (c' = c ∧ ∃ m, m < n ∧ I m s') ∨ (c'.quiet = true ∧ codeC M A c' R s')) (fun e s' => R (.error e) s') s)
    (n : Nat) (h : I n s) : codeC M A c R s := by
  induction n using Nat.strongRecOn generalizing s with
  | ind n ih =>
    refine codeC_of_tree ?_
    refine wpC_mono (turn n s h) (fun fin s' hf => ?_) fun _ _ h' => h'
    cases fin with
    | done f => exact hf
    | again c' =>
      rcases hf with ⟨rfl, m, hm, hI⟩ | hf
      · exact ⟨hq, ih m hm hI⟩
      · exact hf

/-- a for loop whose body lets nothing out -/
theorem codeC_forLoop {target it body env} (I : Nat → Shared → Prop)
    (turn : ∀ n s, I n s → wpAny (model prog w) A (pyNext it) (fun r s₁ => match r with
      | none => R (.ok .next) s₁
      | some v => wpAny (model prog w) A (assign target env v) (fun _ s₂ => wpC (model prog w) A (execs body env) (fun f s₃ => match f with
          | .next | .cont => ∃ m, m < n ∧ I m s₃
          | .brk => R (.ok .next) s₃
          | .ret v => R (.ok (.ret v)) s₃) (fun _ _ => False) s₂) (fun _ _ => False) s₁) (fun _ _ => False) s)
    (n : Nat) (h : I n s) (ht : ∀ v, letOwnedTupleGo target it v = pure () := by intro _; rfl) : codeC (model prog w) A (.forLoop target it body [] env) R s := by
  refine codeC_loop rfl I (fun n s hI => ?_) n h
  show wpC _ _ ((forTurn target it body [] env).onRaise (fun x => do noteFrame x env; theTreesLotGoes x)) _ _ s
  refine wpC_onRaise (E := _) ?_
  refine wpC_mono (E := fun _ _ => False) ?_ (fun _ _ x => x) (fun _ _ x => x.elim)
  simp only [forTurn]
  refine wpC_bind ?_
  refine wpC_standAt ?_
  refine wpC_bind ?_
  refine wpC_onRaise ?_
  refine wpC_mono (wpC.of (turn n s hI)) (fun r s₁ h₁ => ?_) fun _ _ h' => h'.elim
  cases r with
  | none => exact wpC_pure (.inr ⟨rfl, codeC.of (codeAny_block (wpAny_execs_nil h₁))⟩)
  | some v =>
    refine wpC_bind ?_
    refine wpC.of ?_
    refine wpAny_of_eq (ht v) ?_
    refine wpC_bind ?_
    refine wpC.of ?_
    refine wpAny_mono h₁ (fun _ s₂ h₂ => wpC_bind (wpC_mono h₂ (fun f s₃ h₃ => ?_) fun _ _ h' => h')) fun _ _ h' => h'
    cases f with
    | next => exact wpC_pure (.inl ⟨rfl, h₃⟩)
    | cont => exact wpC_pure (.inl ⟨rfl, h₃⟩)
    | brk => exact wpC_pure h₃
    | ret v => exact wpC_pure h₃

/-- the invariant of a walked loop: frame map and ledger at each turn -/
theorem forC {x : Str} {px : Pos} {body : List Stmt} {env : Env} {h₀ : Heap} {I : Addr} {fp wr : List Addr} {n : Nat} {P : Nat → Value → Prop} {St : Nat → Heap → Prop} {m : Str → Option Value}
    {news : List (Addr × Obj)} (W : Walks prog w A I fp wr n P St) (hx : env.kindOf x = some .local)
    (hp : (env.scope.kind == .class || (env.scope.kind == .module && env.locals != env.globals)) = false)
    (hLf : env.locals ∉ fp) (hwr : ∀ b ∈ wr, h₀.get? b = none) (hnw : ∀ p ∈ news, p.1 ∉ wr)
    (hst : St 0 s.heap) (F : Fr h₀ env.locals s.heap m) (N : News h₀ env.locals s.heap news)
    (J : Nat → (Str → Option Value) → Prop) (h0 : J 0 m)
    (step : ∀ i v m₁ own h tk, i < n → P i v → J i m₁ → Fr h₀ env.locals h (fun y => if y = x then some v else m₁ y) → News h₀ env.locals h (own ++ news) →
      wpC (model prog w) A (execs body env) (fun f s₂ => match f with
        | .ret v => R (.ok (.ret v)) s₂
        | .brk => R (.ok .next) s₂
        | _ => ∃ h' tk' m', s₂ = { s with heap := h', toks := tk' } ∧ Fr h₀ env.locals h' m' ∧ News h₀ env.locals h' (own ++ news) ∧ J (i + 1) m') (fun _ _ => False) { s with heap := h, toks := tk })
    (hR : ∀ h' tk m', Fr h₀ env.locals h' m' → News h₀ env.locals h' news → J n m' → R (.ok .next) { s with heap := h', toks := tk }) :
    codeC (model prog w) A (.forLoop (.Name x px) (.ref I) body [] env) R s := by
  have hLw : env.locals ∉ wr := fun h => hLf (W.sub _ h)
  have old : ∀ b o, h₀.get? b = some o → b ∉ wr := fun b o e hb => by rw [hwr b hb] at e; cases e
  refine codeC_forLoop (fun k s' => ∃ h' tk m' i, s' = { s with heap := h', toks := tk } ∧ St i h' ∧ Fr h₀ env.locals h' m' ∧ News h₀ env.locals h' news ∧ J i m' ∧ i ≤ n ∧ k = n + 1 - i) ?_ (n + 1)
    ⟨s.heap, s.toks, m, 0, rfl, hst, F, N, h0, Nat.zero_le _, rfl⟩
  rintro k s' ⟨h', tk, m', i, rfl, hst', F', N', hJ, hi, rfl⟩
  have next : ∀ h₁ : Heap, (∀ b o, b ∉ wr → h'.get? b = some o → h₁.get? b = some o) → Fr h₀ env.locals h₁ m' ∧ News h₀ env.locals h₁ news := fun h₁ hk₁ =>
    ⟨⟨F'.ns.at' fun o e => hk₁ _ o hLw e, fun b o e => hk₁ b o (old b o e) (F'.keep b o e), F'.above⟩, fun p hp => ⟨hk₁ _ _ (hnw p hp) (N' p hp).1, (N' p hp).2⟩⟩
  by_cases hlt : i < n
  · refine W.item i _ _ _ hlt hst' fun v h₁ tk₁ hP hst₁ hk₁ => ?_
    obtain ⟨F₁, N₁⟩ := next h₁ hk₁
    refine wpAny_assign_Name ?_
    refine wpAny_storeName_local hx F₁.ns (fun h₂ hn₂ hs₂ => ?_) hp
    have F₂ := F₁.set hn₂ hs₂
    have Nown : News h₀ env.locals h₂ (ownOf h₀ fp h₂) := news_ownOf hLf
    refine wpC_mono (step i v m' (ownOf h₀ fp h₂) h₂ _ hlt hP hJ F₂ (Nown.append (N₁.set hs₂))) (fun f s₃ h₃ => ?_) fun _ _ e => e
    have fin : (∃ h' tk' m', s₃ = { s with heap := h', toks := tk' } ∧ Fr h₀ env.locals h' m' ∧ News h₀ env.locals h' (ownOf h₀ fp h₂ ++ news) ∧ J (i + 1) m') → _ := fun ⟨h₃', tk₃, m₂, e₃, F₃, N₃, hJ₃⟩ =>
      (⟨n + 1 - (i + 1), by omega, h₃', tk₃, m₂, i + 1, e₃, by
        refine W.frame _ _ _ hst₁ fun b hb o e => ?_
        have e₂ : h₂.get? b = some o := (hs₂.2 b fun q => hLf (q ▸ hb)).trans e
        cases hn : h₀.get? b with
        | some o₀ =>
          have : o₀ = o := by have := F₂.keep b o₀ hn; rw [e₂] at this; exact (Option.some.inj this).symm
          exact this ▸ F₃.keep b o₀ hn
        | none => exact (N₃ _ (List.mem_append_left _ (mem_ownOf hb hn e₂))).1, F₃, N₃.right, hJ₃, hlt, rfl⟩ :
        ∃ m, m < n + 1 - i ∧ ∃ h' tk m' i, s₃ = { s with heap := h', toks := tk } ∧ St i h' ∧ Fr h₀ env.locals h' m' ∧ News h₀ env.locals h' news ∧ J i m' ∧ i ≤ n ∧ m = n + 1 - i)
    cases f with
    | ret v => exact h₃
    | brk => exact h₃
    | cont => exact fin h₃
    | next => exact fin h₃
  · have hin : i = n := by omega
    subst hin
    refine W.done _ _ _ hst' fun h₁ tk₁ hk₁ => ?_
    obtain ⟨F₁, N₁⟩ := next h₁ hk₁
    exact hR h₁ tk₁ m' F₁ N₁ hJ

theorem wpC_attempt {α : Type} {M : Model} {m : Sem α} {Q : Except Value α → Shared → Prop} (h : wpC M A m (fun a => Q (.ok a)) (fun e => Q (.error e)) s) :
    wpC M A m.attempt Q E s := fun Γ p hΓ hC => by rw [Sem.wp_attempt]; exact h Γ p hΓ hC
theorem wpC_Try_except {M : Model} {env : Env} {body orelse : List Stmt} {h₀ : ExceptHandler} {hs : List ExceptHandler} {pos : Pos} {Q : Flow → Shared → Prop}
    (h : wpC M A (execs body env) (fun f s₁ => match f with | .next => wpAny M A (execs orelse env) Q E s₁ | f => Q f s₁)
      (fun e s₁ => wpAny M A (noteFrame e env) (fun _ s₂ => wpAny M A (setFlight e none) (fun _ s₃ => wpAny M A (handleBy e env (h₀ :: hs)) Q E s₃) E s₂) E s₁) s) :
    wpC M A (exec (.Try body (h₀ :: hs) orelse [] pos) env) Q E s := by
  rw [arm_exec_Try]
  refine wpC_bind ?_
  refine wpC_standAt ?_
  unfold tryStmt
  simp only [List.isEmpty_nil, if_true, List.isEmpty_cons, Bool.false_and, Bool.false_eq_true, if_false]
  refine wpC_bind ?_
  refine wpC_attempt (wpC_mono h (fun f s₁ h₁ => ?_) fun e s₁ h₁ => ?_)
  · cases f <;> first | exact wpC.of h₁ | exact wpC_pure h₁
  · exact wpC.of (wpAny_bind (wpAny_mono h₁ (fun _ _ h₂ => wpAny_bind h₂) fun _ _ x => x))
end

section
variable {prog : Program} {w : World} {A₀ A : Around} {s : Shared} {base h₀ : Heap} {outer : List Env} {L a : Addr} {m : Str → Option Value} {cn : Str} {cs : Scope} {ccd : Value} {news : List (Addr × Obj)} {K : Frag} {p : Program} {loose : List Str} {mean : ExcName → Option Value} {mg mb : Str → Option Value}
    {R : Result → Shared → Prop} {name qual : Str} {params : Arguments} {body : List Stmt} {scope : Scope} {dV kV doc pm cdv ct oc : Value} {an od : Option Addr} {osl : Array (Option Value)} {f : Addr} {args : Args} {binds : List (Str × Value)}

/-- a def that is called from a function's frame: what its walk must show -/
theorem codeC_defS0 (B : Below A₀ base [] h₀) (F : Fr h₀ L s.heap m) (X₀ : K.In h₀) (N : News h₀ L s.heap news) (T : Top p loose mean mg mb h₀) (hA : A.frames = some [envOf cn cs L a ccd])
    (ho : K.lookup f = some ⟨oc, od, .func (fnOf name qual params body scope dV kV doc pm an cdv ct), osl⟩) (hcd : codeIn K cdv qual = true) (hroom : A.depth < recursionLimit)
    (hbind : BindsTo s (fnOf name qual params body scope dV kV doc pm an cdv ct) args binds) (hloc : ∀ y ∈ binds, scope.names.lookup y.1 = some .local)
    (h : ∀ g L' h₁, Fr h₀ L g m → Fr g L' h₁ (fun y => binds.reverse.lookup y) → News g L' h₁ news → Below A base [envOf cn cs L a ccd] g → K.In g → Top p loose mean mg mb g → KtsDicts ([envOf cn cs L a ccd].filterMap (·.frame)) g →
      wpC (model prog w) (A.deeper (envOf qual scope L' f cdv)) (execs body (envOf qual scope L' f cdv))
        (fun fl s' => LeaveS0 ([envOf cn cs L a ccd].filterMap (·.frame)) h₀ L m g R (match fl with | .ret v => v | _ => .none) s')
        (fun e s' => wpAny (model prog w) (A.deeper (envOf qual scope L' f cdv)) (leaving (envOf qual scope L' f cdv) e) (fun _ s'' => R (.error e) s'') (fun e' s'' => R (.error e') s'') s')
        { s with heap := h₁, toks := s.toks + binds.length })
    (hck : cs.kind = .function) (hco : scope.isCoroutine = false) (hgen : scope.isGenerator = false) (hk : scope.kind = .function)
    (hcell : ∀ x ∈ scope.names, x.2 ≠ .cell) : codeC (model prog w) A (.call (.ref f) args) R s := by
  have X := X₀.keeps F.keep
  refine codeC_call_def (fd := fnOf name qual params body scope dV kV doc pm an cdv ct) (body := body) (binds := binds) hroom (X _ _ ho) rfl (T.nolimit.keeps F.keep) (codeRec_of X hcd) rfl hbind hcell hloc (fun h₁ hns hk₁ => ?_) hco hgen hk
  obtain ⟨oL, es, ep, hLg, hLd, hN, hNs, st, B₂⟩ := kts_enter B F N hA hck
  refine wpC_mono (h _ s.heap.objs.size h₁ ⟨hN _ hLg, st, F.above⟩ ⟨hns, fun b o e => hk₁ b o (of_hideAll _ e), Nat.le_of_eq (hideAll_size _ _)⟩
    (fun p hp => ⟨hk₁ _ _ (N p hp).1, Nat.ne_of_lt (Heap.lt_size (N p hp).1), hideAll_none _ (List.mem_map_of_mem hp)⟩) B₂ (X₀.keeps st) (T.keeps st)
    (fun b hb => by
      obtain rfl : b = L := by rcases kts_mem hb with z | z; exact z; simp at z
      exact ⟨oL, es, ep, hLg, hLd⟩)) (fun fl s' hl => ?_) fun _ _ y => y
  obtain ⟨g', L', m', news', T', F', N', k⟩ := hl
  obtain ⟨sl, hs⟩ := T'.up hLg
  have other : ∀ b o, h₀.get? b = some o → g'.get? b = some o := fun b o e => T'.other b o (st b o e) fun q => by
    obtain rfl : b = L := by rcases kts_mem q with z | z; exact z; simp at z
    rw [kts_self F] at e; cases e
  refine k ⟨hNs sl _ (F'.keep _ _ hs), fun b o e => F'.keep b o (other b o e), F.above⟩ fun p hp => ⟨(N' p hp).1, fun q => ?_, ?_⟩
  · have z := (N' p hp).2.2; rw [q, hs] at z; cases z
  · cases q : h₀.get? p.1 with
    | none => rfl
    | some o => have z := (N' p hp).2.2; rw [other _ _ q] at z; cases z

theorem codeC_def {env : Env} (B : Below A₀ base outer h₀) (F : Fr h₀ L s.heap m) (X₀ : K.In h₀) (N : News h₀ L s.heap news) (T : Top p loose mean mg mb h₀) (hA : A.frames = some (env :: outer)) (hf : env.frame = some L) (hke : env.scope.kind = .function)
    (ho : K.lookup f = some ⟨oc, od, .func (fnOf name qual params body scope dV kV doc pm an cdv ct), osl⟩) (hcd : codeIn K cdv qual = true) (hroom : A.depth < recursionLimit)
    (hbind : BindsTo s (fnOf name qual params body scope dV kV doc pm an cdv ct) args binds) (hloc : ∀ y ∈ binds, scope.names.lookup y.1 = some .local)
    (h : ∀ g L' h₁, Fr h₀ L g m → Fr g L' h₁ (fun y => binds.reverse.lookup y) → News g L' h₁ news → Below A base (env :: outer) g → K.In g → Top p loose mean mg mb g →
      wpC (model prog w) (A.deeper (envOf qual scope L' f cdv)) (execs body (envOf qual scope L' f cdv))
        (fun fl s' => LeaveK h₀ L m g R (match fl with | .ret v => v | _ => .none) s')
        (fun e s' => wpAny (model prog w) (A.deeper (envOf qual scope L' f cdv)) (leaving (envOf qual scope L' f cdv) e) (fun _ s'' => R (.error e) s'') (fun e' s'' => R (.error e') s'') s')
        { s with heap := h₁, toks := s.toks + binds.length })
    (hco : scope.isCoroutine = false) (hgen : scope.isGenerator = false) (hk : scope.kind = .function)
    (hcell : ∀ x ∈ scope.names, x.2 ≠ .cell) : codeC (model prog w) A (.call (.ref f) args) R s := by
  obtain ⟨FG, BG, st, lv⟩ := groundX (R := R) B F N hA hf hke
  refine codeC_call_def (fd := fnOf name qual params body scope dV kV doc pm an cdv ct) (body := body) (binds := binds) hroom ((X₀.keeps F.keep) _ _ ho) rfl (T.nolimit.keeps F.keep) (codeRec_of (X₀.keeps F.keep) hcd) rfl hbind hcell hloc (fun h₁ hns hk₁ => ?_) hco hgen hk
  exact wpC_mono (h _ s.heap.objs.size h₁ FG ⟨hns, fun b o e => hk₁ b o (of_hideAll _ e), Nat.le_of_eq (hideAll_size _ _)⟩
    (fun p hp => ⟨hk₁ _ _ (N p hp).1, Nat.ne_of_lt (Heap.lt_size (N p hp).1), hideAll_none _ (List.mem_map_of_mem hp)⟩) BG (X₀.keeps st) (T.keeps st)) (fun fl s' hl => lv _ _ hl) fun _ _ y => y
end
end Mine
end

/-! C2 -/
section
open PySem PySem.W PyProof.Rows PySem.Calls
open Sem (wp)
set_option Elab.async false
set_option maxRecDepth 100000
set_option linter.unusedVariables false
namespace Mine
theorem wpC_enter_call {M : Model} {A : Around} {s : Shared} {f : Value} {pos : List Value} {kw : List (Str × Value)} {c : ClaimW} {cl : Str → Option Addr} {mean : ExcName → Option Value} {args : List WData} {s₁ : Shared}
    (h : codeC M A (.call f ⟨pos, kw⟩) (GoodW c cl mean args s₁) s) : wpC M A (PySem.call f pos kw) (fun v s' => GoodW c cl mean args s₁ (.ok (.ret v)) s') (fun e s' => GoodW c cl mean args s₁ (.error e) s') s :=
  wpC_call (codeC_mono h fun res s' g => by rcases g.1 with ⟨v, _, _, rfl, _⟩ | ⟨e, _, _, rfl, _⟩ <;> exact g)

theorem thread_endsC {prog : Program} {w : World} {t : Sem Fin} {s : Shared} {R : Result → Shared → Prop} (hreg : s.asleep)
    (h : wpC (model prog w) callerA t (fun fin s' => ∃ f, fin = .done f ∧ (R (.ok f) s' ∧ leftWithCleanup s'.gens = false)) (fun e s' => R (.error e) s' ∧ leftWithCleanup s'.gens = false) s) :
    ∃ n r s' s'', runN (denote table) prog w n s ⟨t, .builtin "claim.caller" {}, default, []⟩ = .halted (outcomeOf r) s' ∧
      schedN (denote table) prog w n (.single s ⟨t, .builtin "claim.caller" {}, default, []⟩) = .halted (outcomeOf r) s' ∧ s'.forget = s''.forget ∧ R r s'' := by
  have h1 : wp (model prog w) ⟨.builtin "claim.caller" {}, none, none, [], none⟩ t (Sem.finPost (model prog w) ⟨.builtin "claim.caller" {}, none, none, [], none⟩ fun r s' => R r s' ∧ leftWithCleanup s'.gens = false)
      (fun e _ s' => R (.error e) s' ∧ leftWithCleanup s'.gens = false) default s :=
    Sem.wp_mono _ _ t (fun fin p' s' h' => by obtain ⟨f, rfl, hf⟩ := h'; exact hf) (fun _ _ _ h' => h') _ _ (h _ default caller_in rfl)
  obtain ⟨n, r, s₁, s₂, hs, hn, hfo, hR⟩ := wp_halts_full (M := model prog w) (R := R) hreg h1
  exact ⟨n, r, s₂, s₁, hn, hs, hfo, hR⟩

theorem callFromC {c : ClaimW} {tree : List Value → Sem Fin} {w : World} {s : Shared} {free : Addr → Prop} {gens : Prop} {kept : Heap → Prop} (hz : s.asleep) (hgens : s.gens = #[])
    (hspec : ∀ args, c.pre args = true → WData.layableAll args = true → ∀ ord : List DictEntry → List DictEntry, (∀ l, (ord l).Perm l) →
      ∃ vs s₁, layAllW c.records (classAt s.heap) w.params ord args s = some (vs, s₁) ∧
        wpC (model c.prog w) callerA (tree vs) (fun fin s' => ∃ f, fin = .done f ∧ (c.Ends s args vs s₁ (.ok f) s' ∧ s'.os = s.os ∧ AllBare s'.gens ∧ kept s'.heap))
          (fun e s' => c.Ends s args vs s₁ (.error e) s' ∧ s'.os = s.os ∧ AllBare s'.gens ∧ kept s'.heap) s₁) :
    c.CallFrom (fun vs => ⟨tree vs, .builtin "claim.caller" {}, default, []⟩) w free gens kept s := by
  intro args hpre hlay ord hord
  obtain ⟨vs, s₁, hlaid, hcode⟩ := hspec args hpre hlay ord hord
  have hal := layAllW_rest _ _ _ hlaid
  obtain ⟨k, r, s', s'', hrun, hsched, hfo, hcase, hos, hkp⟩ := thread_endsC (prog := c.prog) (w := w) (t := tree vs) (s := s₁) (R := fun r s' => c.Ends s args vs s₁ r s' ∧ s'.os = s.os ∧ kept s'.heap)
    (Shared.asleep_of_life hal.2.2.2 hz)
    (wpC_mono hcode (fun _ _ ⟨f, e, h1, h2, h3, h4⟩ => ⟨f, e, ⟨h1, h2, h4⟩, leftWithCleanup_false_of_bare h3⟩) fun _ _ ⟨h1, h2, h3, h4⟩ => ⟨⟨h1, h2, h4⟩, leftWithCleanup_false_of_bare h3⟩)
  obtain ⟨eh, _, _, eo, _⟩ := Shared.forget_eq hfo
  have hcase := hcase.congr eh
  have hkp : kept s'.heap := by rw [eh]; exact hkp
  rw [← eo] at hos
  have hlife : s'.heap.life = s.heap.life := (runN_life _ _ _ hrun).trans hal.2.2.2
  refine ⟨vs, s₁, hlaid, k, _, s', hsched, ?_, (fun _ i x hx => by rw [hgens] at hx; simp at hx), hkp, by rw [hlife], Shared.rest_eq hos⟩
  rcases hcase with ⟨v, rfl, d1, d2, d3, d4, d5⟩ | ⟨e, ob, cls, rfl, d1, d2, d3, d4, d5⟩
  · exact .inl ⟨v, rfl, d1, d2, d3, fun b o y _ => d4 b o y, d5⟩
  · exact .inr ⟨e, ob, cls, rfl, d1, d2, d3, d4, fun b o y _ => d5 b o y⟩

abbrev WalkC (q : Program) (loose : List Str) (XP : (Str → Option Value) → Heap → Prop) (YP : World → Heap → Prop) (r : RowW) (d : DefRec) (kwd : List (Str × Expr)) (run : Value → List Value → Sem Value) : Prop :=
  ∀ (w : World) (s₀ s₁ : Shared) (mg mb : Str → Option Value), Ground q loose r.records XP w s₀ mg mb s₁.heap → YP w s₁.heap → ∀ (a : Addr) (o : Obj) (pm cd doc dV kV : Value), s₁.heap.get? a = some o →
    o.data = .func { docDef d.name d.params d.body d.scope pm cd doc with defaults := dV, kwdefaults := kV } → s₁.heap.CodeRec cd d.name → Dflts mg s₁.heap d.params kwd dV kV → mg d.name = some (.ref a) → s₁.gens = #[] →
    ∀ (args : List WData) (vals : List Value) (as : List Addr), r.claim.pre args = true → WData.layableAll args = true → ReadsAllW r.records (classAt s₀.heap) s₁.heap vals args as → WellAll w.params s₁.heap vals args → (∀ a ∈ as, (a == sysModules) = false) →
      wpC (model r.prog w) callerA (run (.ref a) vals) (fun v s' => GoodW r.claim (classAt s₀.heap) (ExcName.means s₀.heap) args s₁ (.ok (.ret v)) s')
        (fun e s' => GoodW r.claim (classAt s₀.heap) (ExcName.means s₀.heap) args s₁ (.error e) s') s₁

theorem PySem.W.holds_open {r : OpenRow} {q : Program} {loose : List Str} {Xt : Shared → Bool} {XP : (Str → Option Value) → Heap → Prop} {α : Type} {Yf : Shared → α} {Ya : World → α} {YP : World → Heap → Prop} {d : DefRec} {kwd : List (Str × Expr)} {N : Nat}
    (left : LeftO r.prog q loose Xt Yf Ya N) (hY : ∀ w s, Yf s = Ya w → YP w s.heap) (hYk : ∀ w h h', YP w h → (∀ b o, h.get? b = some o → h'.get? b = some o) → YP w h')
    (hX : ∀ s, Xt s = true → XP (s.heap.nsMap mainGlobals) s.heap) (hXk : ∀ mg h h', XP mg h → (∀ b o, h.get? b = some o → h'.get? b = some o) → XP mg h')
    (hdef : defOf q r.name = some (d, kwd)) (hp : r.prog.theDef r.name = some (d.params, d.body, d.scope)) (hk : kwWritten? d.params.kwonlyargs d.params.kw_defaults = some kwd) (hRf : ∀ s, Xt s = true → RecFacts r.records s.heap) (hwr : (!r.writes || r.records.isEmpty) = true)
    (k1 : r.wellSaid = true) (ok : (chainsOk q && opensWell r.prog && (frees r.toRowW && r.within.isEmpty)) = true) (hb : r.prog.bare) (hw : r.toRowW.promised)
    (call : WalkC q loose XP YP r.toRowW d kwd fun f vs => PySem.call f vs) : r.Holds := by
  obtain ⟨ok, k5⟩ := Bool.and_eq_true_iff.mp ok
  obtain ⟨hch, o1⟩ := Bool.and_eq_true_iff.mp ok
  obtain ⟨k5, k6⟩ := Bool.and_eq_true_iff.mp k5
  obtain ⟨hsame, hu, ha, hap, hm⟩ := frees_parts k5
  refine ⟨k1, hw, ⟨hb, o1, by show r.makers.map _ = []; rw [hm]; rfl⟩, hw.witness, fun w => ⟨(left.behind hX hch w).1, fun s' hs' => ?_⟩⟩
  obtain ⟨s₀, hf, hg0, s, hT, hz, hgens, hg, G00, y⟩ := (left.behind (XP := fun mg h => XP mg h ∧ RecFacts r.records h) (fun s hs => ⟨hX s hs, hRf s hs⟩) hch w).2 s' hs'
  have G0 : Ground q loose [] XP w s (s.heap.nsMap mainGlobals) (s.heap.nsMap builtinsNs) s.heap := ⟨G00.T, G00.B, G00.D, G00.TE, G00.TD, G00.W, G00.X.1, G00.cls, G00.has, G00.apart, G00.once, G00.K⟩
  have RF := G00.X.2
  refine ⟨s₀, hf, hg0, s, hT, (fun n hn => ?_), RF.1, RF.2.1, ?_⟩
  · obtain rfl : n = r.name := by split at hn <;> simp_all
    exact pinned_of_view hg G0 hdef hp hk
  have hgens : s.gens = #[] := Array.eq_empty_of_size_eq_zero (beq_iff_eq.mp hgens)
  have G : Ground q loose r.records XP w s _ _ s.heap := RF.ground G0
  refine callFromC (c := r.toRowW.claim) hz hgens fun args hpre hlay ord hord => ?_
  obtain ⟨⟨vs, s₁⟩, hlaid⟩ := Option.isSome_iff_exists.mp (layAllW_isSome (P := w.params) (ord := ord) G.has args r.args s (pre_splitW hpre).1)
  have keeps := layAllW_keeps _ _ _ hlaid
  have hal := layAllW_rest _ _ _ hlaid
  obtain ⟨as, hrd, hin, hold⟩ := reads_layAllW hord _ _ _ hlaid hlay s₁.heap (fun _ _ e => e)
  have L : Laid r.records w s s₁ args vs as := ⟨⟨ord, hord, hlaid⟩, hrd, hin, hold, keeps, hal.1.trans hgens, hal.2.2.1⟩
  have G₁ := G.keeps hXk keeps
  obtain ⟨fa, o, pm, cd, doc, dV, kV, h1, h2, h3, h4, h5⟩ := G₁.fn hdef
  have h := call w s s₁ _ _ G₁ (hYk _ _ _ (hY w s y) keeps) fa o pm cd doc dV kV h2 h3 h4 h5 (defOf_name hdef ▸ h1) L.gens args vs as hpre hlay L.reads L.well (L.low G.low)
  have hi := ident_freeW hu ha hap
  have hwi : r.claim.within = [] := List.isEmpty_iff.mp k6
  have fin : ∀ kps res s', GoodW r.toRowW.claim (classAt s.heap) (ExcName.means s.heap) args s₁ res s' → _ := fun kps res s' g => (
    have z := g.toG.laid (c := r.claim) hsame hwi hi L
    ⟨z.1, z.2.1, z.2.2, fun q => ⟨namesKept_of hT hg kps keeps g.toG.2.1.old, noTable hwr q⟩⟩ :
    r.toRowW.claim.Ends s args vs s₁ res s' ∧ s'.os = s.os ∧ AllBare s'.gens ∧ (r.writes = true → namesKept r.prog kps s.heap s'.heap ∧ ∀ x ∈ r.records, ∀ a, classAt s.heap x.1 = some a → recordClass s'.heap a x.1 (x.2.map (·.1)) = true))
  refine ⟨vs, s₁, hlaid, wpC_bind (wpC.of (wpAny_nsGet G₁.T.g ?_))⟩
  rw [h1]
  exact wpC_bind (wpC_mono h (fun v s' g => wpC_pure ⟨_, rfl, fin _ _ _ g⟩) fun e s' g => fin _ _ _ g)
end Mine
end

/-! HdC -/
section
open PySem PySem.W PyProof.Rows
set_option Elab.async false
set_option maxRecDepth 100000
set_option maxHeartbeats 8000000
namespace Mine
open_top hdC for PySem.Challenge.rw_pg0019_01
end Mine
end

/-! R1 -/
section
open PySem PySem.W PyProof.Rows PySem.Calls
set_option Elab.async false
set_option maxRecDepth 100000
set_option maxHeartbeats 8000000
set_option pp.maxSteps 20000
namespace Mine

noncomputable def applyPairs : List Str → Str → Str
  | a :: b :: r, x => applyPairs r (Txt.join b (Txt.split x a))
  | _, x => x
noncomputable def PairsOk : List Str → Str → Prop
  | a :: b :: r, x => (a.length == 0) = false ∧ x.length ≤ 100 ∧ JoinOk b (Txt.split x a) = true ∧ PairsOk r (Txt.join b (Txt.split x a))
  | [], _ => True
  | _, _ => False

abbrev tupOf (vs : List Value) : Obj := { cls := .type "tuple", data := .seq vs.toArray }

theorem bind_replace (name : Str) (body : List Stmt) (sc : Scope) (doc pm cd ct : Value) (x : Str) (tk : Tok) (vs : List Value) (p1 p2 : Pos) :
  bindArgs (fnOf name (Str.ofString "replace") { posonlyargs := [], args := [{ arg := Str.ofString "text", annotation := none, pos := p1 }], vararg := some { arg := Str.ofString "pairs", annotation := none, pos := p2 }, kwonlyargs := [], kw_defaults := [], kwarg := none, defaults := [] } body sc .none .none doc pm none cd ct) ⟨.str x tk :: vs, []⟩
   = (newTuple vs >>= fun t => pure [(Str.ofString "text", .str x tk), (Str.ofString "pairs", t)]) := by
  cases vs <;> rfl

theorem enter_rest {prog : Program} {w : World} {A A₀ : Around} {s : Shared} {K : Frag} {L : Addr} {h₀ base : Heap} {m mg mb : Str → Option Value} {news : List (Addr × Obj)} {p : Program} {loose : List Str} {mean : ExcName → Option Value}
    {env : Env} {outer : List Env} {R : Result → Shared → Prop} {name qual : Str} {params : Arguments} {body : List Stmt} {scope : Scope} {dV kV doc pm cdv ct oc : Value} {an od : Option Addr} {osl : Array (Option Value)} {f : Addr} {args : Args} {vs : List Value} {binds : Value → List (Str × Value)}
    (B : Below A₀ base outer h₀) (F : Fr h₀ L s.heap m) (X₀ : K.In h₀) (N : News h₀ L s.heap news) (T : Top p loose mean mg mb h₀) (hA : A.frames = some (env :: outer)) (hf : env.frame = some L) (hke : env.scope.kind = .function)
    (ho : K.lookup f = some ⟨oc, od, .func (fnOf name qual params body scope dV kV doc pm an cdv ct), osl⟩) (hcd : codeIn K cdv qual = true) (hroom : A.depth < recursionLimit)
    (hb : bindArgs (fnOf name qual params body scope dV kV doc pm an cdv ct) args = (newTuple vs >>= fun t => pure (binds t))) (hsz : vs.length ≤ sizeLine)
    (hloc : ∀ D, ∀ y ∈ binds D, scope.names.lookup y.1 = some .local)
    (h : ∀ D g L' h₁ tk, Fr h₀ L g m → Fr g L' h₁ (fun y => (binds (.ref D)).reverse.lookup y) → News g L' h₁ ((D, tupOf vs) :: news) → Below A base (env :: outer) g → K.In g → Top p loose mean mg mb g →
      wpAny (model prog w) (A.deeper (envOf qual scope L' f cdv)) (execs body (envOf qual scope L' f cdv))
        (fun fl s' => LeaveK h₀ L m g R (match fl with | .ret v => v | _ => .none) s')
        (fun e s' => wpAny (model prog w) (A.deeper (envOf qual scope L' f cdv)) (leaving (envOf qual scope L' f cdv) e) (fun _ s'' => R (.error e) s'') (fun e' s'' => R (.error e') s'') s')
        { s with heap := h₁, toks := tk })
    (hco : scope.isCoroutine = false) (hgen : scope.isGenerator = false) (hk : scope.kind = .function)
    (hcell : ∀ x ∈ scope.names, x.2 ≠ .cell) : codeAny (model prog w) A (.call (.ref f) args) R s := by
  refine codeAny_call_function (fd := fnOf name qual params body scope dV kV doc pm an cdv ct) (body := body) hroom ((X₀.keeps F.keep) _ _ ho) rfl hco hgen rfl (codeRec_of (X₀.keeps F.keep) hcd) ?_
  rw [hb]
  refine wpAny_bind ?_
  refine newTuple_N F N (fun h' F' N' => ?_) hsz
  refine wpAny_pure ?_
  exact kp_frame (cl := []) (s := { s with heap := h' }) B F' N' T.nolimit hA hf hke (hloc _) (fun g L' h₁ FG FL NG BG st => h _ g L' h₁ _ FG FL NG BG (X₀.keeps st) (T.keeps st)) hcell hk

theorem mul2 {prog : Program} {w : World} {A : Around} {E : Value → Shared → Prop} {s : Shared} {b : Int} {t u : Tok} {Q : Value → Shared → Prop} (h : Q (.int (2 * b) s.toks) { s with toks := s.toks + 1 }) :
    wpAny (model prog w) A (binaryOp .Mult (.int 2 t) (.int b u)) Q E s := mul_int h (PySem.IntMulOk.of_left (by decide))
theorem ite_no {b : Bool} {T F : Prop} (h : b = false) (f : F) : if b = true then T else F := by subst h; exact f
theorem ite_yes {b : Bool} {T F : Prop} (h : b = true) (t : T) : if b = true then T else F := by subst h; exact t

structure RepS where
  x : Str
  t : Tok
  D : Addr
  vs : List Value
  ys : List Str

theorem told_replace {w : World} {p : Program} {loose : List Str} {mean : ExcName → Option Value} {mg mb : Str → Option Value}
   (dp un : Nat) (gd : Option (List Code)) (cn : Str) (cs : Scope) (a : Addr) (ccd : Value) (cl : List (Str × Addr)) (outer : List Env) (A₀ : Around) (base h₀ : Heap) (L : Addr) (m : Str → Option Value) (news : List (Addr × Obj)) (s : Shared)
    (Q E : Value → Shared → Prop) (x : Str) (tk : Tok) (vs : List Value) (ys : List Str)
    (B : Below A₀ base outer h₀) (F : Fr h₀ L s.heap m) (X : (hdC.heap_39 w.params).In h₀) (N : News h₀ L s.heap news) (T : Top p loose mean mg mb h₀) (hk : cs.kind = .function)
    (hs : StrsAre vs ys) (hlen : ys.length ≤ 100) (hok : PairsOk ys x)
    (hdp : dp + 3 < recursionLimit) (hu : un + 20 < cLine)
    (hret : ∀ t h' tk', Fr h₀ L h' m → News h₀ L h' news → Q (.str (applyPairs ys x) t) { s with heap := h', toks := tk' }) :
    wpAny (model PySem.Challenge.rw_pg0019_01.row.prog w) (ktrTop dp un gd cn cs L a ccd cl outer) (call (.ref 21) (.str x tk :: vs)) Q E s := by
  revert X; k_fill; intro X
  have hvl : vs.length = ys.length := hs.len_eq
  refine wpAny_call ?_
  refine' enter_rest (vs := vs) B F X N T rfl rfl hk ?k6 ?k7 ?kr ?kb ?kz ?kl ?_ ?c2 ?c3 ?c4 ?c5
  case k6 => k_is
  case k7 => k_is
  case kr => ktr_room
  case kb => exact bind_replace ..
  case kz => rw [sizeLine_eq]; omega
  case kl => exact fun D => locs rfl
  case c2 => rfl
  case c3 => rfl
  case c4 => rfl
  case c5 => decide
  intro D g L' h₁ tk' FG FL NG BG X' T'
  refine wpAny_execs_cons ?_
  refine ksw_while (σ := RepS) (fun c => (c.D, tupOf c.vs) :: news) (fun c => [(Str.ofString "text", .str c.x c.t), (Str.ofString "pairs", .ref c.D)]) (fun c => StrsAre c.vs c.ys)
    [] (fun c => c.ys.length ≤ 100 ∧ PairsOk c.ys c.x ∧ applyPairs c.ys c.x = applyPairs ys x) (fun c => c.ys.length) ⟨x, tk, D, vs, ys⟩ FL NG hs (by kst_all) ⟨hlen, hok, rfl⟩ ?_
  rintro ⟨x1, t1, D1, vs1, ys1⟩ u h tk1 hs1 ⟨hl1, ho1, he1⟩ F1 N1
  dsimp only at hs1 hl1 ho1 he1 F1 N1 
  refine isTrue_plain ?_
  refine ld F1 rfl ?_
  dsimp only
  cases hs1 with
  | nil =>
    refine ktl_truthyK N1 (.head _) (by simp) ?_
    refine ite_no rfl ?_
    refine wpAny_execs_cons ?_
    refine wpAny_Return_some ?_
    refine ld F1 rfl ?_
    dsimp only
    refine leaveK_ F1 N1 fun F2 N2 => ?_
    dsimp only
    have he2 : x1 = applyPairs ys x := he1
    subst he2
    exact hret _ _ _ F2 fun p hp => N2 p (.tail _ hp)
  | cons y1 t2 hs2 =>
    cases hs2 with
    | nil => exact ho1.elim
    | cons y2 t3 hs3 =>
    rename_i vs3 ys3
    obtain ⟨hy, hx, hj, hr⟩ := ho1
    refine ktl_truthyK N1 (.head _) (by have := hs3.len_eq; simp only [List.length_cons] at *; omega) ?_
    refine ite_yes rfl ?_
    refine wpAny_execs_cons ?_
    refine wpAny_Assign_Name ?_
    refine MethodCall_ ?_
    refine Subscript_ ?_
    refine ld F1 rfl ?_
    refine wpAny_Constant_int ?_
    refine item_tupleT (j := 1) (News.isTup N1 (.head _)) (by decide) (by decide) (StrLaws.seqIndex_nonneg (by decide) (by simp only [List.length_cons]; omega)) rfl ?_
    dsimp only
    with_reducible refine GM.join ?_
    refine callWith_method1 ?_
    refine args_cons ?_
    refine MethodCall_ ?_
    refine ld F1 rfl ?_
    with_reducible refine GM.split ?_
    refine callWith_method1 ?_
    refine args_cons ?_
    refine Subscript_ ?_
    refine ld F1 rfl ?_
    refine wpAny_Constant_int ?_
    refine item_tupleT (j := 0) (News.isTup N1 (.head _)) (by decide) (by decide) (StrLaws.seqIndex_nonneg (by decide) (by simp only [List.length_cons]; omega)) rfl ?_
    dsimp only
    refine args_nil ?_
    refine splitN1 (x := x1) F1 N1 hy (fun l h2 k2 hl F2 N2 => ?_) (by rw [sizeLine_eq]; omega)
    refine args_nil ?_
    refine SC.join (News.isList N2 (.head _)) hl hj (fun t4 k4 => ?_)
    refine stN F2 N2 ?_
    intro h3 F3 N3
    dsimp only
    refine wpAny_execs_cons ?_
    refine wpAny_Assign_Name ?_
    refine Subscript_ ?_
    refine ld F3 rfl ?_
    dsimp only
    refine wpAny_Slice ?_
    refine wpAny_evalPart_some ?_
    refine wpAny_Constant_int ?_
    refine wpAny_evalPart_none ?_
    refine wpAny_evalPart_none ?_
    dsimp only
    refine slice_tuple_from (s := { s with heap := h3, toks := _ }) (a := 2) (items := (Value.str y1 t2 :: Value.str y2 t3 :: vs3).toArray) F3 N3 (News.isTup N3 (.tail _ (.head _))) (by decide) (by simp) ?_ (hsz := by have := hs3.len_eq; rw [sizeLine_eq]; simp only [List.size_toArray, List.length_cons] at *; omega)
    intro h4 F4 N4
    refine stN F4 N4 ?_
    intro h5 F5 N5
    dsimp only
    refine wpAny_execs_nil ?_
    refine ksw_end (⟨_, t4, h3.objs.size + 1, vs3, ys3⟩ : RepS) F5 N5 ?_ hs3 (by kst_all) ?_ ⟨?_, hr, he1⟩ ?_
    · intro p hp
      rcases List.mem_cons.mp hp with rfl | hp
      · exact .head _
      · exact .tail _ (.tail _ (.tail _ hp))
    · intro z hz _
      have e1 := hz _ (.head _)
      have e2 := hz _ (.tail _ (.head _))
      dsimp only at e1 e2 ⊢
      rw [if_neg e2, if_neg e1]
      simp only [kstB, if_neg e1, if_neg e2]
      rfl
    · simp only [List.length_cons] at hl1 ⊢; omega
    · simp only [List.length_cons]; omega
end Mine
end

/-! H3 -/
section
open PySem PySem.W PyProof.Rows PySem.Calls
set_option Elab.async false
set_option maxRecDepth 100000
set_option maxHeartbeats 8000000
set_option pp.maxSteps 20000
set_option linter.unusedVariables false
namespace Mine

def fig (n : Int) : Str := Str.ofString (toString n)
def letters : Str := Str.ofString "abcdefghij"
def hpiece (done f : Int) (odd : Bool) : Str × Bool :=
  if done ≤ f then (fig f, odd)
  else if done ≤ 10 + f then (Txt.item letters f, odd)
  else if odd && decide (20 + f.fdiv 2 < done) then (fig (f.fdiv 2 + 5), false)
  else (fig (f.fdiv 2), odd)
def hstep (done : Int) (st : Str × Bool) (f : Int) : Str × Bool :=
  ((if (hpiece done f st.2).2 then st.1 ++ Str.ofString "-" else st.1) ++ (hpiece done f st.2).1, f.fmod 2 == 1 && decide (10 + f < done))
def hfold (done : Int) (ns : List Int) : Str × Bool := ns.foldl (hstep done) (Str.ofString "", false)
def halvingS (ns : List Int) (done : Int) : Str := if (hfold done ns).2 && decide (done < 26) then (hfold done ns).1 ++ Str.ofString "-" else (hfold done ns).1

theorem len_fig {n : Int} (h0 : 0 ≤ n) (h1 : n ≤ 19) : (fig n).length ≤ 2 := by
  obtain ⟨k, rfl⟩ := Int.eq_ofNat_of_zero_le h0
  have h2 : k ≤ 19 := by omega
  clear h0 h1
  revert k
  decide +kernel

theorem Fr.same {h₀ h : Heap} {L : Addr} {m m' : Str → Option Value} (F : Fr h₀ L h m) (e : ∀ y, m y = m' y) : Fr h₀ L h m' := by
  have : m = m' := funext e
  subst this; exact F

theorem shown100 {a : Int} (h1 : -100 < a) (h2 : a < 100) : a.natAbs.log2 < 1920 := shown (N := 100) h1 h2 (by decide +kernel)
theorem lk_ne {M : Str → Option Value} {x y : Str} {v w : Value} (h : x ≠ y) (e : M x = some w) : (fun z => if z = y then some v else M z) x = some w := (if_neg h).trans e
theorem lk_eq {M : Str → Option Value} {x : Str} {v : Value} : (fun z => if z = x then some v else M z) x = some v := if_pos rfl

structure HS where
  x : Str
  t : Tok
  o : Bool

theorem told_halving {w : World} {p : Program} {loose : List Str} {mean : ExcName → Option Value} {mg mb : Str → Option Value} 
   (dp un : Nat) (gd : Option (List Code)) (cn : Str) (cs : Scope) (a : Addr) (ccd : Value) (cl : List (Str × Addr)) (outer : List Env) (A₀ : Around) (base h₀ : Heap) (L : Addr) (m : Str → Option Value) (news : List (Addr × Obj)) (s : Shared)
    (Q E : Value → Shared → Prop) (l : Addr) (vs : List Value) (ns : List Int) (nn : Nat) (done : Int) (tk : Tok)
    (B : Below A₀ base outer h₀) (F : Fr h₀ L s.heap m) (X : (hdC.heap_39 w.params).In h₀) (N : News h₀ L s.heap news) (hl : (l, W.listOf vs.toArray nn) ∈ news) (T : Top p loose mean mg mb h₀) (hk : cs.kind = .function)
    (hi : IntsAre vs ns) (hlen : ns.length ≤ 7) (hdig : ∀ x ∈ ns, 0 ≤ x ∧ x ≤ 9) 
    (hdp : dp + 3 < recursionLimit) (hu : un + 20 < cLine)
    (hret : ∀ t h' tk', Fr h₀ L h' m → News h₀ L h' news → Q (.str (halvingS ns done) t) { s with heap := h', toks := tk' }) :
    wpAny (model PySem.Challenge.rw_pg0019_01.row.prog w) (ktrTop dp un gd cn cs L a ccd cl outer) (call (.ref 93) [.ref l, .int done tk]) Q E s := by
  revert X; k_fill; intro X
  refine wpAny_call ?_
  refine' code_def (binds := [(Str.ofString "figures", .ref l), (Str.ofString "done", .int done tk)]) B F X N T rfl rfl hk ?k6 ?k7 ?kr ?kb ?kl ?_ ?c2 ?c3 ?c4 ?c5
  case k6 => k_is
  case k7 => k_is
  case kr => ktr_room
  case kb => exact BindsTo.of_eq rfl
  case kl => exact locs rfl
  case c2 => rfl
  case c3 => rfl
  case c4 => rfl
  case c5 => decide
  intro g L' h₁ FG F1 N1 B1 X1 T1
  refine wpAny_execs_cons ?_
  refine wpAny_Assign_Name ?_
  refine Constant_str ?_
  refine stN F1 N1 ?_
  intro h2 F2 N2
  dsimp only
  refine wpAny_execs_cons ?_
  refine wpAny_Assign_Name ?_
  refine Constant_bool ?_
  refine stN F2 N2 ?_
  intro h3 F3 N3
  dsimp only
  obtain ⟨M0, F3, a1, a2, a3, a4⟩ : ∃ M : Str → Option Value, Fr g L' h3 M ∧ M (Str.ofString "done") = some (.int done tk) ∧ M (Str.ofString "figures") = some (.ref l) ∧ M (Str.ofString "odd") = some (.bool false) ∧ M (Str.ofString "text") = some (.str (Str.ofString "") _) :=
    ⟨_, F3, rfl, rfl, rfl, rfl⟩
  refine wpAny_execs_cons ?_
  refine For_invVF F3 rfl rfl ?_
  refine ld F3 a2 ?_
  refine kst_listL (σ := HS) (fun c => news) (fun c => [(Str.ofString "text", .str c.x c.t), (Str.ofString "odd", .bool c.o)]) (fun _ => True) [Str.ofString "piece"]
    (fun pre c => (c.x, c.o) = hfold done pre ∧ c.x.length ≤ 4 * pre.length) ⟨_, _, _⟩ rfl (fun _ => hl) hi F3 N3 trivial (List.forall_mem_cons.mpr ⟨a4, List.forall_mem_cons.mpr ⟨a3, List.forall_mem_nil _⟩⟩) ⟨rfl, Nat.zero_le _⟩ ?_ ?_
  · rintro ⟨x, t, o⟩ pre post f tf u h tk1 own ens hmem hoff _ ⟨hP, hlx⟩ F4 N4
    dsimp only at hP hlx F4 N4
    have hf := hdig f hmem
    have hpl : pre.length ≤ 6 := by rw [ens] at hlen; simp at hlen; omega
    replace N4 : News g L' h (news ++ own) := N4
    obtain ⟨M, F5, m1, m2, m3, m4, m5⟩ : ∃ M : Str → Option Value, Fr g L' h M ∧ M (Str.ofString "done") = some (.int done tk) ∧ M (Str.ofString "figure") = some (.int f tf) ∧ M (Str.ofString "odd") = some (.bool o) ∧ M (Str.ofString "text") = some (.str x t) ∧
        (∀ z, z ≠ Str.ofString "figure" → z ≠ Str.ofString "text" → z ≠ Str.ofString "odd" → z ≠ Str.ofString "piece" → M z = M0 z) := by
      refine ⟨_, F4, a1, rfl, rfl, rfl, ?_⟩
      intro z z1 z2 z3 z4
      simp only [kstB, if_neg z1, if_neg z2, if_neg z3]
      rw [if_neg]
      simpa using z4
    clear F4
    dsimp only
    refine wpAny_execs_cons ?_
    refine wpAny_mono (Q := fun fl s' => fl = .next ∧ ∃ h' tk' t', s' = { s with heap := h', toks := tk' } ∧ Fr g L' h' (fun y => if y = Str.ofString "odd" then some (.bool (hpiece done f o).2) else if y = Str.ofString "piece" then some (.str (hpiece done f o).1 t') else M y) ∧ News g L' h' (news ++ own)) ?_ ?_ (fun _ _ z => z)
    · have keepOdd : ∀ {h' t' pc}, Fr g L' h' (fun y => if y = Str.ofString "piece" then some (.str pc t') else M y) → Fr g L' h' (fun y => if y = Str.ofString "odd" then some (.bool o) else if y = Str.ofString "piece" then some (.str pc t') else M y) := by
        intro h' t' pc FF
        refine Fr.same FF fun y => ?_
        by_cases hy : y = Str.ofString "odd"
        · subst hy; rw [if_pos rfl, if_neg (by decide)]; exact m3
        · rw [if_neg hy]
      refine wpAny_If ?_
      refine wpAny_isTrue_Compare1 ?_
      refine ld F5 m1 ?_
      refine ld F5 m2 ?_
      refine le_int ?_
      refine wpAny_truthy_bool ?_
      by_cases c1 : done ≤ f
      · refine ite_yes (decide_eq_true c1) ?_
        refine wpAny_execs_cons ?_
        refine wpAny_Assign_Name ?_
        refine Call_ ?_
        refine name_B F5 X1 (topRead_of T1) (by k_is) PyProof.Rows.boot_str (by decide) ?_
        refine PyProof.Rows.callWith_type1 ?_
        refine args_cons ?_
        refine ld F5 m2 ?_
        refine args_nil ?_
        refine P.str_of_int (shown100 (by omega) (by omega)) ?_
        refine stN F5 N4 ?_
        intro h6 F6 N6
        have e : hpiece done f o = (fig f, o) := by unfold hpiece; rw [if_pos c1]
        rw [e]
        exact wpAny_execs_nil ⟨rfl, h6, _, _, rfl, keepOdd F6, N6⟩
      · refine ite_no (decide_eq_false c1) ?_
        refine wpAny_execs_cons ?_
        refine wpAny_If ?_
        refine wpAny_isTrue_Compare1 ?_
        refine ld F5 m1 ?_
        refine wpAny_BinOp ?_
        refine wpAny_Constant_int ?_
        refine ld F5 m2 ?_
        with_reducible refine add_int ?_
        refine le_int ?_
        refine wpAny_truthy_bool ?_
        by_cases c2 : done ≤ 10 + f
        · refine ite_yes (decide_eq_true c2) ?_
          refine wpAny_execs_cons ?_
          refine wpAny_Assign_Name ?_
          refine Subscript_ ?_
          refine Constant_str ?_
          refine ld F5 m2 ?_
          refine item_str (fitsSsize_of (N := 9223372036854775808) (by omega) (by omega) (Int.le_refl _)) (by omega) (by show f < (10 : Nat); omega) (fun _ => ?_)
          dsimp only
          refine stN F5 N4 ?_
          intro h6 F6 N6
          have e : hpiece done f o = (Txt.item letters f, o) := by unfold hpiece; rw [if_neg c1, if_pos c2]
          rw [e]
          exact wpAny_execs_nil (wpAny_execs_nil ⟨rfl, h6, _, _, rfl, keepOdd F6, N6⟩)
        · refine ite_no (decide_eq_false c2) ?_
          have hd2 : f.fdiv 2 = f / 2 := Int.fdiv_eq_ediv_of_nonneg _ (by decide)
          refine wpAny_execs_cons ?_
          refine wpAny_If ?_
          refine isTrue_and ?_
          refine isTrue_plain ?_
          refine ld F5 m3 ?_
          refine wpAny_truthy_bool ?_
          cases o with
          | false =>
            refine ite_no rfl ?_
            refine ite_no rfl ?_
            refine wpAny_execs_cons ?_
            refine wpAny_Assign_Name ?_
            refine Call_ ?_
            refine name_B F5 X1 (topRead_of T1) (by k_is) PyProof.Rows.boot_str (by decide) ?_
            refine PyProof.Rows.callWith_type1 ?_
            refine args_cons ?_
            refine wpAny_BinOp ?_
            refine ld F5 m2 ?_
            refine wpAny_Constant_int ?_
            refine floordiv_int (by decide) ?_ (.inl (PyProof.noPylong_of_log2 (by decide +kernel)))
            refine args_nil ?_
            refine P.str_of_int (shown100 (by omega) (by omega)) ?_
            refine stN F5 N4 ?_
            intro h6 F6 N6
            have e : hpiece done f false = (fig (f.fdiv 2), false) := by unfold hpiece; rw [if_neg c1, if_neg c2]; rfl
            rw [e]
            exact wpAny_execs_nil (wpAny_execs_nil (wpAny_execs_nil ⟨rfl, h6, _, _, rfl, keepOdd F6, N6⟩))
          | true =>
            refine ite_yes rfl ?_
            refine isTrue_and ?_
            refine wpAny_isTrue_Compare1 ?_
            refine ld F5 m1 ?_
            refine wpAny_BinOp ?_
            refine wpAny_Constant_int ?_
            refine wpAny_BinOp ?_
            refine ld F5 m2 ?_
            refine wpAny_Constant_int ?_
            refine floordiv_int (by decide) ?_ (.inl (PyProof.noPylong_of_log2 (by decide +kernel)))
            with_reducible refine add_int ?_
            refine gt_int ?_
            refine wpAny_truthy_bool ?_
            dsimp only
            by_cases c3 : 20 + f.fdiv 2 < done
            · refine ite_yes (decide_eq_true c3) ?_
              refine isTrue_and_nil ?_
              refine ite_yes rfl ?_
              refine wpAny_execs_cons ?_
              refine wpAny_Assign_Name ?_
              refine Call_ ?_
              refine name_B F5 X1 (topRead_of T1) (by k_is) PyProof.Rows.boot_str (by decide) ?_
              refine PyProof.Rows.callWith_type1 ?_
              refine args_cons ?_
              refine wpAny_BinOp ?_
              refine wpAny_BinOp ?_
              refine ld F5 m2 ?_
              refine wpAny_Constant_int ?_
              refine floordiv_int (by decide) ?_ (.inl (PyProof.noPylong_of_log2 (by decide +kernel)))
              refine wpAny_Constant_int ?_
              with_reducible refine add_int ?_
              refine args_nil ?_
              refine P.str_of_int (shown100 (by omega) (by omega)) ?_
              refine stN F5 N4 ?_
              intro h6 F6 N6
              dsimp only
              refine wpAny_execs_cons ?_
              refine wpAny_Assign_Name ?_
              refine Constant_bool ?_
              refine stN F6 N6 ?_
              intro h7 F7 N7
              have e : hpiece done f true = (fig (f.fdiv 2 + 5), false) := by unfold hpiece; rw [if_neg c1, if_neg c2, Bool.true_and, if_pos (decide_eq_true c3)]
              rw [e]
              exact wpAny_execs_nil (wpAny_execs_nil (wpAny_execs_nil ⟨rfl, h7, _, _, rfl, F7, N7⟩))
            · refine ite_no (decide_eq_false c3) ?_
              refine ite_no rfl ?_
              refine wpAny_execs_cons ?_
              refine wpAny_Assign_Name ?_
              refine Call_ ?_
              refine name_B F5 X1 (topRead_of T1) (by k_is) PyProof.Rows.boot_str (by decide) ?_
              refine PyProof.Rows.callWith_type1 ?_
              refine args_cons ?_
              refine wpAny_BinOp ?_
              refine ld F5 m2 ?_
              refine wpAny_Constant_int ?_
              refine floordiv_int (by decide) ?_ (.inl (PyProof.noPylong_of_log2 (by decide +kernel)))
              refine args_nil ?_
              refine P.str_of_int (shown100 (by omega) (by omega)) ?_
              refine stN F5 N4 ?_
              intro h6 F6 N6
              have e : hpiece done f true = (fig (f.fdiv 2), true) := by unfold hpiece; rw [if_neg c1, if_neg c2, Bool.true_and, if_neg (by rw [decide_eq_false c3]; decide)]
              rw [e]
              exact wpAny_execs_nil (wpAny_execs_nil (wpAny_execs_nil ⟨rfl, h6, _, _, rfl, keepOdd F6, N6⟩))
    · rintro fl s5 ⟨rfl, h6, tk6, t6, rfl, F6, N6⟩
      dsimp only
      have lp : (hpiece done f o).1.length ≤ 2 := by
        unfold hpiece
        have hd2 : f.fdiv 2 = f / 2 := Int.fdiv_eq_ediv_of_nonneg _ (by decide)
        split
        · exact len_fig (by omega) (by omega)
        · split
          · rw [len_item]; omega
          · split
            · exact len_fig (by omega) (by omega)
            · exact len_fig (by omega) (by omega)
      have hstep_eq : hfold done (pre ++ [f]) = hstep done (x, o) f := by
        unfold hfold at hP ⊢
        rw [List.foldl_append, ← hP]; rfl
      generalize hpc : hpiece done f o = pc at F6 lp
      obtain ⟨M6, F7, n1, n2, n3, n4, n5, n6⟩ : ∃ M : Str → Option Value, Fr g L' h6 M ∧ M (Str.ofString "done") = some (.int done tk) ∧ M (Str.ofString "figure") = some (.int f tf) ∧ M (Str.ofString "odd") = some (.bool pc.2) ∧ M (Str.ofString "text") = some (.str x t) ∧ M (Str.ofString "piece") = some (.str pc.1 t6) ∧
        (∀ z, z ≠ Str.ofString "figure" → z ≠ Str.ofString "text" → z ≠ Str.ofString "odd" → z ≠ Str.ofString "piece" → M z = M0 z) := by
        refine ⟨_, F6, m1, m2, lk_eq, m4, rfl, ?_⟩
        intro z z1 z2 z3 z4
        simp only [if_neg z3, if_neg z4]
        exact m5 z z1 z2 z3 z4
      clear F6
      refine wpAny_execs_cons ?_
      refine wpAny_mono (Q := fun fl s' => fl = .next ∧ ∃ h' tk' t', s' = { s with heap := h', toks := tk' } ∧ Fr g L' h' (fun y => if y = Str.ofString "text" then some (.str (if pc.2 then x ++ Str.ofString "-" else x) t') else M6 y) ∧ News g L' h' (news ++ own)) ?_ ?_ (fun _ _ z => z)
      · refine wpAny_If ?_
        refine isTrue_plain ?_
        refine ld F7 n3 ?_
        refine wpAny_truthy_bool ?_
        cases hb : pc.2 with
        | true =>
          refine ite_yes rfl ?_
          refine wpAny_execs_cons ?_
          refine wpAny_Assign_Name ?_
          refine wpAny_BinOp ?_
          refine ld F7 n4 ?_
          refine Constant_str ?_
          refine add_str (fun t8 k8 => ?_) (by rw [sizeLine_eq]; show _ + 1 ≤ _; omega)
          refine stN F7 N6 ?_
          intro h8 F8 N8
          exact wpAny_execs_nil ⟨rfl, h8, _, _, rfl, F8, N8⟩
        | false =>
          refine ite_no rfl ?_
          refine wpAny_execs_nil ⟨rfl, h6, _, t, rfl, Fr.same F7 fun y => ?_, N6⟩
          by_cases hy : y = Str.ofString "text"
          · subst hy; rw [if_pos rfl]; exact n4
          · rw [if_neg hy]
      · rintro fl s5 ⟨rfl, h8, tk8, t8, rfl, F8, N8⟩
        dsimp only
        refine wpAny_execs_cons ?_
        refine wpAny_Assign_Name ?_
        refine wpAny_BinOp ?_
        refine ld F8 lk_eq ?_
        refine ld F8 (lk_ne (by decide) n5) ?_
        have lx : (if pc.2 then x ++ Str.ofString "-" else x).length ≤ x.length + 1 := by
          split
          · rw [Str.length_append]; exact Nat.le_refl _
          · omega
        refine add_str (fun t9 k9 => ?_) (by rw [sizeLine_eq]; omega)
        refine stN F8 N8 ?_
        intro h9 F9 N9
        dsimp only
        obtain ⟨M9, F10, q1, q2, q4, q6⟩ : ∃ M : Str → Option Value, Fr g L' h9 M ∧ M (Str.ofString "done") = some (.int done tk) ∧ M (Str.ofString "figure") = some (.int f tf) ∧ M (Str.ofString "text") = some (.str ((if pc.2 then x ++ Str.ofString "-" else x) ++ pc.1) t9) ∧
          (∀ z, z ≠ Str.ofString "figure" → z ≠ Str.ofString "text" → z ≠ Str.ofString "odd" → z ≠ Str.ofString "piece" → M z = M0 z) := by
          refine ⟨_, F9, n1, n2, if_pos rfl, ?_⟩
          intro z z1 z2 z3 z4
          simp only [if_neg z2]
          exact n6 z z1 z2 z3 z4
        clear F9
        have fin : ∀ {h' : Heap} {tk' : Nat} {bo : Bool}, bo = (f.fmod 2 == 1 && decide (10 + f < done)) → Fr g L' h' (fun y => if y = Str.ofString "odd" then some (.bool bo) else M9 y) → News g L' h' (news ++ own) → 
            InvEndN g L' (KstS (fun c : HS => news) (fun c => [(Str.ofString "text", .str c.x c.t), (Str.ofString "odd", .bool c.o)]) (fun _ => True) (Str.ofString "figure") [Str.ofString "piece"] M0
              (fun pre c => (c.x, c.o) = hfold done pre ∧ c.x.length ≤ 4 * pre.length) (pre ++ [f])) own (List.map (fun x => x.fst) news) { s with heap := h, toks := tk1 } { s with heap := h', toks := tk' } := by
          intro h' tk' bo hbo FF NN
          refine kst_end (⟨_, t9, bo⟩ : HS) FF NN (fun p hp => List.mem_append_left _ hp) (fun p hp => List.mem_append_right _ hp) rfl trivial (List.forall_mem_cons.mpr ⟨(lk_ne (by decide) q4 : _), List.forall_mem_cons.mpr ⟨lk_eq, List.forall_mem_nil _⟩⟩) ?_ ⟨?_, ?_⟩
          · intro z z1 hz z4
            have z2 := hz _ (.head _)
            have z3 := hz _ (.tail _ (.head _))
            dsimp only at z2 z3 ⊢
            rw [if_neg z3]
            exact q6 z z1 z2 z3 (by simpa using z4)
          · rw [hstep_eq]
            unfold hstep
            dsimp only
            rw [hpc, hbo]
          · dsimp only
            rw [Str.length_append, List.length_append]
            show _ + _ ≤ 4 * (_ + 1)
            omega
        refine wpAny_execs_cons ?_
        refine wpAny_Assign_Name ?_
        refine BoolOp_and ?_
        refine wpAny_Compare1 ?_
        refine wpAny_BinOp ?_
        refine ld F10 q2 ?_
        refine wpAny_Constant_int ?_
        refine mod_int' (by decide) ?_
        refine wpAny_Constant_int ?_
        refine eq_int ?_
        refine wpAny_truthy_bool ?_
        dsimp only
        cases hb : f.fmod 2 == 1 with
        | false =>
          refine ite_no rfl ?_
          refine stN F10 N9 ?_
          intro h11 F11 N11
          refine wpAny_execs_nil ?_
          exact fin (by rw [hb]; rfl) F11 N11
        | true =>
          refine ite_yes rfl ?_
          refine BoolOp_one ?_
          refine wpAny_Compare1 ?_
          refine ld F10 q1 ?_
          refine wpAny_BinOp ?_
          refine wpAny_Constant_int ?_
          refine ld F10 q2 ?_
          with_reducible refine add_int ?_
          refine gt_int ?_
          refine stN F10 N9 ?_
          intro h11 F11 N11
          refine wpAny_execs_nil ?_
          exact fin (by rw [hb]; rfl) F11 N11
  · rintro ⟨x, t, o⟩ u h tk1 _ ⟨hP, hlx⟩ F4 N4
    dsimp only at hP hlx F4 N4 ⊢
    replace N4 : News g L' h news := N4
    obtain ⟨M, F5, m1, m3, m4⟩ : ∃ M : Str → Option Value, Fr g L' h M ∧ M (Str.ofString "done") = some (.int done tk) ∧ M (Str.ofString "odd") = some (.bool o) ∧ M (Str.ofString "text") = some (.str x t) :=
      ⟨_, F4, a1, rfl, rfl⟩
    have eh : halvingS ns done = if o && decide (done < 26) then x ++ Str.ofString "-" else x := by unfold halvingS; rw [← hP]
    refine wpAny_execs_cons ?_
    refine wpAny_If ?_
    refine isTrue_and ?_
    refine isTrue_plain ?_
    refine ld F5 m3 ?_
    refine wpAny_truthy_bool ?_
    cases o with
    | false =>
      refine ite_no rfl ?_
      refine ite_no rfl ?_
      refine wpAny_execs_nil ?_
      refine wpAny_execs_cons ?_
      refine wpAny_Return_some ?_
      refine ld F5 m4 ?_
      refine leaveK_ F5 N4 fun F2 N2 => ?_
      have e : halvingS ns done = x := eh
      rw [← e]
      exact hret _ _ _ F2 N2
    | true =>
      refine ite_yes rfl ?_
      refine isTrue_and ?_
      refine wpAny_isTrue_Compare1 ?_
      refine ld F5 m1 ?_
      refine wpAny_Constant_int ?_
      refine lt_int ?_
      refine wpAny_truthy_bool ?_
      dsimp only
      by_cases c : done < 26
      · refine ite_yes (decide_eq_true c) ?_
        refine isTrue_and_nil ?_
        refine ite_yes rfl ?_
        refine wpAny_execs_cons ?_
        refine wpAny_Assign_Name ?_
        refine wpAny_BinOp ?_
        refine ld F5 m4 ?_
        refine Constant_str ?_
        refine add_str (fun t8 k8 => ?_) (by rw [sizeLine_eq]; show _ + 1 ≤ _; omega)
        refine stN F5 N4 ?_
        intro h8 F8 N8
        refine wpAny_execs_nil ?_
        refine wpAny_execs_cons ?_
        refine wpAny_Return_some ?_
        refine ld F8 lk_eq ?_
        refine leaveK_ F8 N8 fun F2 N2 => ?_
        have e : halvingS ns done = x ++ Str.ofString "-" := by rw [eh, Bool.true_and, if_pos (decide_eq_true c)]
        rw [← e]
        exact hret _ _ _ F2 N2
      · refine ite_no (decide_eq_false c) ?_
        refine ite_no rfl ?_
        refine wpAny_execs_nil ?_
        refine wpAny_execs_cons ?_
        refine wpAny_Return_some ?_
        refine ld F5 m4 ?_
        refine leaveK_ F5 N4 fun F2 N2 => ?_
        have e : halvingS ns done = x := by rw [eh, Bool.true_and, if_neg (by rw [decide_eq_false c]; decide)]
        rw [← e]
        exact hret _ _ _ F2 N2
end Mine
end

/-! D3 -/
section
open PySem PySem.W PyProof.Rows PySem.Calls
set_option Elab.async false
set_option maxRecDepth 100000
set_option maxHeartbeats 8000000
set_option pp.maxSteps 20000
set_option linter.unusedVariables false
namespace Mine

def dcarry (ns : List Int) (bit done : Int) (place : Nat) : Bool := match ns[place + 1]? with
  | some g => decide (4 < g) && decide (10 + g < done)
  | none => bit == 1
def dpiece (done f : Int) (c : Bool) : Str × Bool :=
  if done ≤ f then (fig f, c)
  else if done ≤ 10 + f then (Txt.item letters f, c)
  else if c && decide (20 + f.fmod 5 < done) then (fig ((2 * f).fmod 10 + 1), false)
  else (fig ((2 * f).fmod 10), c)
def dput (x : Str) (p : Str × Bool) : Str := if p.2 then (x ++ p.1) ++ Str.ofString "+" else x ++ p.1
def dstep (ns : List Int) (bit done : Int) (x : Str) (place : Int) : Str := dput x (dpiece done (ns.getD place.toNat 0) (dcarry ns bit done place.toNat))
def doublingS (ns : List Int) (bit done : Int) : Str := (rangeKs 0 ns.length).foldl (dstep ns bit done) (Str.ofString "")

structure DS where
  x : Str
  t : Tok

theorem told_doubling {w : World} {p : Program} {loose : List Str} {mean : ExcName → Option Value} {mg mb : Str → Option Value} 
   (dp un : Nat) (gd : Option (List Code)) (cn : Str) (cs : Scope) (a : Addr) (ccd : Value) (cl : List (Str × Addr)) (outer : List Env) (A₀ : Around) (base h₀ : Heap) (L : Addr) (m : Str → Option Value) (news : List (Addr × Obj)) (s : Shared)
    (Q E : Value → Shared → Prop) (l : Addr) (vs : List Value) (ns : List Int) (nn : Nat) (bit done : Int) (tb tk : Tok)
    (B : Below A₀ base outer h₀) (F : Fr h₀ L s.heap m) (X : (hdC.heap_39 w.params).In h₀) (N : News h₀ L s.heap news) (hl : (l, W.listOf vs.toArray nn) ∈ news) (T : Top p loose mean mg mb h₀) (hk : cs.kind = .function)
    (hi : IntsAre vs ns) (hlen : ns.length ≤ 7) (hdig : ∀ x ∈ ns, 0 ≤ x ∧ x ≤ 9) 
    (hdp : dp + 3 < recursionLimit) (hu : un + 20 < cLine)
    (hret : ∀ t h' tk', Fr h₀ L h' m → News h₀ L h' news → Q (.str (doublingS ns bit done) t) { s with heap := h', toks := tk' }) :
    wpAny (model PySem.Challenge.rw_pg0019_01.row.prog w) (ktrTop dp un gd cn cs L a ccd cl outer) (call (.ref 86) [.ref l, .int bit tb, .int done tk]) Q E s := by
  revert X; k_fill; intro X
  have hvl : vs.length = ns.length := hi.length
  refine wpAny_call ?_
  refine' code_def (binds := [(Str.ofString "figures", .ref l), (Str.ofString "bit", .int bit tb), (Str.ofString "done", .int done tk)]) B F X N T rfl rfl hk ?k6 ?k7 ?kr ?kb ?kl ?_ ?c2 ?c3 ?c4 ?c5
  case k6 => k_is
  case k7 => k_is
  case kr => ktr_room
  case kb => exact BindsTo.of_eq rfl
  case kl => exact locs rfl
  case c2 => rfl
  case c3 => rfl
  case c4 => rfl
  case c5 => decide
  intro g L' h₁ FG F1 N1 B1 X1 T1
  refine wpAny_execs_cons ?_
  refine wpAny_Assign_Name ?_
  refine Constant_str ?_
  refine stN F1 N1 ?_
  intro h2 F2 N2
  dsimp only
  obtain ⟨M0, F3, a1, a2, a3, a4⟩ : ∃ M : Str → Option Value, Fr g L' h2 M ∧ M (Str.ofString "done") = some (.int done tk) ∧ M (Str.ofString "figures") = some (.ref l) ∧ M (Str.ofString "bit") = some (.int bit tb) ∧ M (Str.ofString "text") = some (.str (Str.ofString "") _) :=
    ⟨_, F2, rfl, rfl, rfl, rfl⟩
  clear F2
  refine wpAny_execs_cons ?_
  refine For_invVF F3 rfl rfl ?_
  refine Call_ ?_
  refine name_B F3 X1 (topRead_of T1) (by k_is) PyProof.Rows.boot_range (by decide) ?_
  refine PyProof.Rows.callWith_type1 ?_
  refine args_cons ?_
  refine Call_ ?_
  refine name_B F3 X1 (topRead_of T1) (by k_is) boot_len (by decide) ?_
  refine PyProof.Rows.callWith_builtin1 ?_
  refine args_cons ?_
  refine ld F3 a2 ?_
  refine args_nil ?_
  refine len_list (News.isList N2 hl) (by simp; omega) ?_
  refine args_nil ?_
  refine call_range_1 ?_
  have hsz : ((vs.toArray.size : Nat) : Int) = (ns.length : Int) := by rw [List.size_toArray, hvl]
  rw [hsz]
  refine kst_range (σ := DS) (fun c => news) (fun c => [(Str.ofString "text", .str c.x c.t)]) (fun _ => True) [Str.ofString "figure", Str.ofString "carry"]
    (fun pre c => c.x = pre.foldl (dstep ns bit done) (Str.ofString "") ∧ c.x.length ≤ 4 * pre.length) ⟨_, _⟩ rfl (Heap.get?_push_size _ rfl) (small_one (by omega) (by omega) (by omega) (by omega)) (n := ns.length) (by rw [rangeSize_one]; split <;> omega)
    (F3.push _) (N2.pushKeep _) trivial (List.forall_mem_cons.mpr ⟨a4, List.forall_mem_nil _⟩) ⟨rfl, Nat.zero_le _⟩ ?_ ?_
  · rintro ⟨x, t⟩ pre k tkk u h tk1 own ek hkn hoff _ ⟨hP, hlx⟩ F4 N4
    dsimp only at hP hlx F4 N4
    replace N4 : News g L' h (news ++ own) := N4
    have hl4 : (l, W.listOf vs.toArray nn) ∈ news ++ own := List.mem_append_left _ hl
    have ek' : k = (pre.length : Int) := by omega
    clear ek
    subst ek'
    obtain ⟨M, F5, m1, m2, m3, m4, m6, m5⟩ : ∃ M : Str → Option Value, Fr g L' h M ∧ M (Str.ofString "done") = some (.int done tk) ∧ M (Str.ofString "figures") = some (.ref l) ∧ M (Str.ofString "bit") = some (.int bit tb) ∧ M (Str.ofString "text") = some (.str x t) ∧ M (Str.ofString "place") = some (.int pre.length tkk) ∧
        (∀ z, z ≠ Str.ofString "place" → z ≠ Str.ofString "text" → z ≠ Str.ofString "figure" → z ≠ Str.ofString "carry" → M z = M0 z) := by
      refine ⟨_, F4, a1, a2, a3, rfl, rfl, ?_⟩
      intro z z1 z2 z3 z4
      simp only [kstB, if_neg z1, if_neg z2]
      rw [if_neg]
      simp [z3, z4]
    clear F4
    have hnf : ns[pre.length]? = some (ns.getD pre.length 0) := by simp [List.getD_eq_getElem?_getD, hkn]
    generalize hfe : ns.getD pre.length 0 = f at hnf
    have hf : 0 ≤ f ∧ f ≤ 9 := hdig f (List.mem_of_getElem? hnf)
    obtain ⟨tf, hvf⟩ := hi.get pre.length f hnf
    dsimp only
    refine wpAny_execs_cons ?_
    refine wpAny_Assign_Name ?_
    refine Subscript_ ?_
    refine ld F5 m2 ?_
    refine ld F5 m6 ?_
    refine item_listL (News.isList N4 hl4) (by omega) (by omega) (by simpa using hvf) ?_
    refine stN F5 N4 ?_
    intro h6 F6 N6
    dsimp only
    obtain ⟨M, F5, m1, m2, m3, m4, m6, m7, m5⟩ : ∃ M : Str → Option Value, Fr g L' h6 M ∧ M (Str.ofString "done") = some (.int done tk) ∧ M (Str.ofString "figures") = some (.ref l) ∧ M (Str.ofString "bit") = some (.int bit tb) ∧ M (Str.ofString "text") = some (.str x t) ∧ M (Str.ofString "place") = some (.int pre.length tkk) ∧ M (Str.ofString "figure") = some (.int f tf) ∧
        (∀ z, z ≠ Str.ofString "place" → z ≠ Str.ofString "text" → z ≠ Str.ofString "figure" → z ≠ Str.ofString "carry" → M z = M0 z) := by
      refine ⟨_, F6, m1, m2, m3, m4, m6, if_pos rfl, ?_⟩
      intro z z1 z2 z3 z4
      simp only [if_neg z3]
      exact m5 z z1 z2 z3 z4
    clear F6
    refine wpAny_execs_cons ?_
    refine wpAny_mono (Q := fun fl s' => fl = .next ∧ ∃ h' tk', s' = { s with heap := h', toks := tk' } ∧ Fr g L' h' (fun y => if y = Str.ofString "carry" then some (.bool (dcarry ns bit done pre.length)) else M y) ∧ News g L' h' (news ++ own)) ?_ ?_ (fun _ _ z => z)
    · refine wpAny_If ?_
      refine wpAny_isTrue_Compare1 ?_
      refine wpAny_BinOp ?_
      refine ld F5 m6 ?_
      refine wpAny_Constant_int ?_
      with_reducible refine add_int ?_
      refine Call_ ?_
      refine name_B F5 X1 (topRead_of T1) (by k_is) boot_len (by decide) ?_
      refine PyProof.Rows.callWith_builtin1 ?_
      refine args_cons ?_
      refine ld F5 m2 ?_
      refine args_nil ?_
      refine len_list (News.isList N6 hl4) (by simp; omega) ?_
      refine lt_int ?_
      refine wpAny_truthy_bool ?_
      dsimp only
      rw [hsz]
      by_cases c1 : pre.length + 1 < ns.length
      · refine ite_yes (decide_eq_true (by omega)) ?_
        have hng : ns[pre.length + 1]? = some (ns.getD (pre.length + 1) 0) := by simp [List.getD_eq_getElem?_getD, c1]
        generalize hge : ns.getD (pre.length + 1) 0 = gg at hng
        obtain ⟨tg, hvg⟩ := hi.get (pre.length + 1) gg hng
        have e : dcarry ns bit done pre.length = (decide (4 < gg) && decide (10 + gg < done)) := by unfold dcarry; rw [hng]
        rw [e]
        refine wpAny_execs_cons ?_
        refine wpAny_Assign_Name ?_
        refine BoolOp_and ?_
        refine wpAny_Compare1 ?_
        refine Subscript_ ?_
        refine ld F5 m2 ?_
        refine wpAny_BinOp ?_
        refine ld F5 m6 ?_
        refine wpAny_Constant_int ?_
        with_reducible refine add_int ?_
        refine item_listL (x := .int gg tg) (News.isList N6 hl4) (by omega) (by omega) (by rw [show ((pre.length : Int) + 1).toNat = pre.length + 1 by omega]; exact hvg) ?_
        refine wpAny_Constant_int ?_
        refine gt_int ?_
        refine wpAny_truthy_bool ?_
        dsimp only
        cases hb : decide (4 < gg) with
        | false =>
          refine ite_no rfl ?_
          refine stN F5 N6 ?_
          intro h7 F7 N7
          exact wpAny_execs_nil ⟨rfl, h7, _, rfl, F7, N7⟩
        | true =>
          refine ite_yes rfl ?_
          refine BoolOp_one ?_
          refine wpAny_Compare1 ?_
          refine ld F5 m1 ?_
          refine wpAny_BinOp ?_
          refine wpAny_Constant_int ?_
          refine Subscript_ ?_
          refine ld F5 m2 ?_
          refine wpAny_BinOp ?_
          refine ld F5 m6 ?_
          refine wpAny_Constant_int ?_
          with_reducible refine add_int ?_
          refine item_listL (x := .int gg tg) (News.isList N6 hl4) (by omega) (by omega) (by rw [show ((pre.length : Int) + 1).toNat = pre.length + 1 by omega]; exact hvg) ?_
          with_reducible refine add_int ?_
          refine gt_int ?_
          dsimp only
          refine stN F5 N6 ?_
          intro h7 F7 N7
          exact wpAny_execs_nil ⟨rfl, h7, _, rfl, F7, N7⟩
      · refine ite_no (decide_eq_false (by omega)) ?_
        have e : dcarry ns bit done pre.length = (bit == 1) := by unfold dcarry; rw [List.getElem?_eq_none (by omega)]
        rw [e]
        refine wpAny_execs_cons ?_
        refine wpAny_Assign_Name ?_
        refine wpAny_Compare1 ?_
        refine ld F5 m3 ?_
        refine wpAny_Constant_int ?_
        refine eq_int ?_
        dsimp only
        refine stN F5 N6 ?_
        intro h7 F7 N7
        exact wpAny_execs_nil ⟨rfl, h7, _, rfl, F7, N7⟩
    · rintro fl s5 ⟨rfl, h7, tk7, rfl, F7, N7⟩
      generalize hce : dcarry ns bit done pre.length = ca at F7
      obtain ⟨M, F5, m1, m4, m7, m8, m5⟩ : ∃ M : Str → Option Value, Fr g L' h7 M ∧ M (Str.ofString "done") = some (.int done tk) ∧ M (Str.ofString "text") = some (.str x t) ∧ M (Str.ofString "figure") = some (.int f tf) ∧ M (Str.ofString "carry") = some (.bool ca) ∧
        (∀ z, z ≠ Str.ofString "place" → z ≠ Str.ofString "text" → z ≠ Str.ofString "figure" → z ≠ Str.ofString "carry" → M z = M0 z) := by
        refine ⟨_, F7, m1, m4, m7, if_pos rfl, ?_⟩
        intro z z1 z2 z3 z4
        simp only [if_neg z4]
        exact m5 z z1 z2 z3 z4
      clear F7
      dsimp only
      refine wpAny_execs_cons ?_
      refine wpAny_mono (Q := fun fl s' => fl = .next ∧ ∃ h' tk' t', s' = { s with heap := h', toks := tk' } ∧ Fr g L' h' (fun y => if y = Str.ofString "carry" then some (.bool (dpiece done f ca).2) else if y = Str.ofString "text" then some (.str (x ++ (dpiece done f ca).1) t') else M y) ∧ News g L' h' (news ++ own)) ?_ ?_ (fun _ _ z => z)
      · have keepC : ∀ {h' t' pc}, Fr g L' h' (fun y => if y = Str.ofString "text" then some (.str (x ++ pc) t') else M y) → Fr g L' h' (fun y => if y = Str.ofString "carry" then some (.bool ca) else if y = Str.ofString "text" then some (.str (x ++ pc) t') else M y) := by
          intro h' t' pc FF
          refine Fr.same FF fun y => ?_
          by_cases hy : y = Str.ofString "carry"
          · subst hy; rw [if_pos rfl, if_neg (by decide)]; exact m8
          · rw [if_neg hy]
        have hm10 : (2 * f).fmod 10 = (2 * f) % 10 := Int.fmod_eq_emod_of_nonneg _ (by decide)
        have hm5 : f.fmod 5 = f % 5 := Int.fmod_eq_emod_of_nonneg _ (by decide)
        refine wpAny_If ?_
        refine wpAny_isTrue_Compare1 ?_
        refine ld F5 m1 ?_
        refine ld F5 m7 ?_
        refine le_int ?_
        refine wpAny_truthy_bool ?_
        by_cases c1 : done ≤ f
        · refine ite_yes (decide_eq_true c1) ?_
          refine wpAny_execs_cons ?_
          refine wpAny_Assign_Name ?_
          refine wpAny_BinOp ?_
          refine ld F5 m4 ?_
          refine Call_ ?_
          refine name_B F5 X1 (topRead_of T1) (by k_is) PyProof.Rows.boot_str (by decide) ?_
          refine PyProof.Rows.callWith_type1 ?_
          refine args_cons ?_
          refine ld F5 m7 ?_
          refine args_nil ?_
          refine P.str_of_int (shown100 (by omega) (by omega)) ?_
          have lf : (fig f).length ≤ 2 := len_fig (by omega) (by omega)
          refine add_str (y := fig f) (fun t8 k8 => ?_) (by rw [sizeLine_eq]; omega)
          refine stN F5 N7 ?_
          intro h8 F8 N8
          have e : dpiece done f ca = (fig f, ca) := by unfold dpiece; rw [if_pos c1]
          rw [e]
          exact wpAny_execs_nil ⟨rfl, h8, _, _, rfl, keepC F8, N8⟩
        · refine ite_no (decide_eq_false c1) ?_
          refine wpAny_execs_cons ?_
          refine wpAny_If ?_
          refine wpAny_isTrue_Compare1 ?_
          refine ld F5 m1 ?_
          refine wpAny_BinOp ?_
          refine wpAny_Constant_int ?_
          refine ld F5 m7 ?_
          with_reducible refine add_int ?_
          refine le_int ?_
          refine wpAny_truthy_bool ?_
          by_cases c2 : done ≤ 10 + f
          · refine ite_yes (decide_eq_true c2) ?_
            refine wpAny_execs_cons ?_
            refine wpAny_Assign_Name ?_
            refine wpAny_BinOp ?_
            refine ld F5 m4 ?_
            refine Subscript_ ?_
            refine Constant_str ?_
            refine ld F5 m7 ?_
            refine item_str (fitsSsize_of (N := 9223372036854775808) (by omega) (by omega) (Int.le_refl _)) (by omega) (by show f < (10 : Nat); omega) (fun _ => ?_)
            refine add_str (fun t8 k8 => ?_) (by rw [sizeLine_eq, len_item]; omega)
            dsimp only
            refine stN F5 N7 ?_
            intro h8 F8 N8
            have e : dpiece done f ca = (Txt.item letters f, ca) := by unfold dpiece; rw [if_neg c1, if_pos c2]
            rw [e]
            exact wpAny_execs_nil (wpAny_execs_nil ⟨rfl, h8, _, _, rfl, keepC F8, N8⟩)
          · refine ite_no (decide_eq_false c2) ?_
            refine wpAny_execs_cons ?_
            refine wpAny_If ?_
            refine isTrue_and ?_
            refine isTrue_plain ?_
            refine ld F5 m8 ?_
            refine wpAny_truthy_bool ?_
            cases ca with
            | false =>
              refine ite_no rfl ?_
              refine ite_no rfl ?_
              refine wpAny_execs_cons ?_
              refine wpAny_Assign_Name ?_
              refine wpAny_BinOp ?_
              refine ld F5 m4 ?_
              refine Call_ ?_
              refine name_B F5 X1 (topRead_of T1) (by k_is) PyProof.Rows.boot_str (by decide) ?_
              refine PyProof.Rows.callWith_type1 ?_
              refine args_cons ?_
              refine wpAny_BinOp ?_
              refine wpAny_BinOp ?_
              refine wpAny_Constant_int ?_
              refine ld F5 m7 ?_
              with_reducible refine mul2 ?_
              refine wpAny_Constant_int ?_
              refine mod_int' (by decide) ?_
              refine args_nil ?_
              refine P.str_of_int (shown100 (by omega) (by omega)) ?_
              have lf : (fig ((2 * f).fmod 10)).length ≤ 2 := len_fig (by omega) (by omega)
              refine add_str (y := fig ((2 * f).fmod 10)) (fun t8 k8 => ?_) (by rw [sizeLine_eq]; omega)
              dsimp only
              refine stN F5 N7 ?_
              intro h8 F8 N8
              have e : dpiece done f false = (fig ((2 * f).fmod 10), false) := by unfold dpiece; rw [if_neg c1, if_neg c2]; rfl
              rw [e]
              exact wpAny_execs_nil (wpAny_execs_nil (wpAny_execs_nil ⟨rfl, h8, _, _, rfl, keepC F8, N8⟩))
            | true =>
              refine ite_yes rfl ?_
              refine isTrue_and ?_
              refine wpAny_isTrue_Compare1 ?_
              refine ld F5 m1 ?_
              refine wpAny_BinOp ?_
              refine wpAny_Constant_int ?_
              refine wpAny_BinOp ?_
              refine ld F5 m7 ?_
              refine wpAny_Constant_int ?_
              refine mod_int' (by decide) ?_
              with_reducible refine add_int ?_
              refine gt_int ?_
              refine wpAny_truthy_bool ?_
              dsimp only
              by_cases c3 : 20 + f.fmod 5 < done
              · refine ite_yes (decide_eq_true c3) ?_
                refine isTrue_and_nil ?_
                refine ite_yes rfl ?_
                refine wpAny_execs_cons ?_
                refine wpAny_Assign_Name ?_
                refine wpAny_BinOp ?_
                refine ld F5 m4 ?_
                refine Call_ ?_
                refine name_B F5 X1 (topRead_of T1) (by k_is) PyProof.Rows.boot_str (by decide) ?_
                refine PyProof.Rows.callWith_type1 ?_
                refine args_cons ?_
                refine wpAny_BinOp ?_
                refine wpAny_BinOp ?_
                refine wpAny_BinOp ?_
                refine wpAny_Constant_int ?_
                refine ld F5 m7 ?_
                with_reducible refine mul2 ?_
                refine wpAny_Constant_int ?_
                refine mod_int' (by decide) ?_
                refine wpAny_Constant_int ?_
                with_reducible refine add_int ?_
                refine args_nil ?_
                refine P.str_of_int (shown100 (by omega) (by omega)) ?_
                have lf : (fig ((2 * f).fmod 10 + 1)).length ≤ 2 := len_fig (by omega) (by omega)
                refine add_str (y := fig ((2 * f).fmod 10 + 1)) (fun t8 k8 => ?_) (by rw [sizeLine_eq]; omega)
                dsimp only
                refine stN F5 N7 ?_
                intro h8 F8 N8
                dsimp only
                refine wpAny_execs_cons ?_
                refine wpAny_Assign_Name ?_
                refine Constant_bool ?_
                refine stN F8 N8 ?_
                intro h9 F9 N9
                have e : dpiece done f true = (fig ((2 * f).fmod 10 + 1), false) := by unfold dpiece; rw [if_neg c1, if_neg c2, Bool.true_and, if_pos (decide_eq_true c3)]
                rw [e]
                exact wpAny_execs_nil (wpAny_execs_nil (wpAny_execs_nil ⟨rfl, h9, _, _, rfl, F9, N9⟩))
              · refine ite_no (decide_eq_false c3) ?_
                refine ite_no rfl ?_
                refine wpAny_execs_cons ?_
                refine wpAny_Assign_Name ?_
                refine wpAny_BinOp ?_
                refine ld F5 m4 ?_
                refine Call_ ?_
                refine name_B F5 X1 (topRead_of T1) (by k_is) PyProof.Rows.boot_str (by decide) ?_
                refine PyProof.Rows.callWith_type1 ?_
                refine args_cons ?_
                refine wpAny_BinOp ?_
                refine wpAny_BinOp ?_
                refine wpAny_Constant_int ?_
                refine ld F5 m7 ?_
                with_reducible refine mul2 ?_
                refine wpAny_Constant_int ?_
                refine mod_int' (by decide) ?_
                refine args_nil ?_
                refine P.str_of_int (shown100 (by omega) (by omega)) ?_
                have lf : (fig ((2 * f).fmod 10)).length ≤ 2 := len_fig (by omega) (by omega)
                refine add_str (y := fig ((2 * f).fmod 10)) (fun t8 k8 => ?_) (by rw [sizeLine_eq]; omega)
                dsimp only
                refine stN F5 N7 ?_
                intro h8 F8 N8
                have e : dpiece done f true = (fig ((2 * f).fmod 10), true) := by unfold dpiece; rw [if_neg c1, if_neg c2, Bool.true_and, if_neg (by rw [decide_eq_false c3]; decide)]
                rw [e]
                exact wpAny_execs_nil (wpAny_execs_nil (wpAny_execs_nil ⟨rfl, h8, _, _, rfl, keepC F8, N8⟩))
      · rintro fl s5 ⟨rfl, h8, tk8, t8, rfl, F8, N8⟩
        have lp : (dpiece done f ca).1.length ≤ 2 := by
          unfold dpiece
          have hm10 : (2 * f).fmod 10 = (2 * f) % 10 := Int.fmod_eq_emod_of_nonneg _ (by decide)
          split
          · exact len_fig (by omega) (by omega)
          · split
            · rw [len_item]; omega
            · split
              · exact len_fig (by omega) (by omega)
              · exact len_fig (by omega) (by omega)
        have hst : (pre ++ [(pre.length : Int)]).foldl (dstep ns bit done) (Str.ofString "") = dput x (dpiece done f ca) := by
          rw [List.foldl_append, ← hP]
          show dstep ns bit done x _ = _
          unfold dstep
          rw [Int.toNat_natCast, hfe, hce]
        generalize dpiece done f ca = pc at F8 lp hst
        have fin : ∀ {h' : Heap} {tk' : Nat} {xx : Str} {t' : Tok} {M' : Str → Option Value}, xx = dput x pc → M' (Str.ofString "text") = some (.str xx t') → (∀ z, z ≠ Str.ofString "place" → z ≠ Str.ofString "text" → z ≠ Str.ofString "figure" → z ≠ Str.ofString "carry" → M' z = M0 z) → Fr g L' h' M' → News g L' h' (news ++ own) → 
            InvEndN g L' (KstS (fun c : DS => news) (fun c => [(Str.ofString "text", .str c.x c.t)]) (fun _ => True) (Str.ofString "place") [Str.ofString "figure", Str.ofString "carry"] M0
              (fun pre c => c.x = pre.foldl (dstep ns bit done) (Str.ofString "") ∧ c.x.length ≤ 4 * pre.length) (pre ++ [(pre.length : Int)])) own (List.map (fun x => x.fst) news) { s with heap := h, toks := tk1 } { s with heap := h', toks := tk' } := by
          intro h' tk' xx t' M' hxx hm hz FF NN
          refine kst_end (⟨xx, t'⟩ : DS) FF NN (fun p hp => List.mem_append_left _ hp) (fun p hp => List.mem_append_right _ hp) rfl trivial (List.forall_mem_cons.mpr ⟨hm, List.forall_mem_nil _⟩) ?_ ⟨?_, ?_⟩
          · intro z z1 hz' z4
            have z2 := hz' _ (.head _)
            simp at z4
            exact hz z z1 z2 z4.1 z4.2
          · exact hxx.trans hst.symm
          · have lx : (dput x pc).length ≤ x.length + 3 := by
              unfold dput
              split
              · rw [Str.length_append, Str.length_append]; show _ + 1 ≤ _; omega
              · rw [Str.length_append]; omega
            subst hxx
            rw [List.length_append]
            show _ ≤ 4 * (_ + 1)
            dsimp only
            omega
        have lx : (x ++ pc.1).length ≤ x.length + 2 := by rw [Str.length_append]; omega
        dsimp only
        refine wpAny_execs_cons ?_
        refine wpAny_If ?_
        refine isTrue_plain ?_
        refine ld F8 lk_eq ?_
        refine wpAny_truthy_bool ?_
        cases hb : pc.2 with
        | true =>
          refine ite_yes rfl ?_
          refine wpAny_execs_cons ?_
          refine wpAny_Assign_Name ?_
          refine wpAny_BinOp (ld F8 (v := .str (x ++ pc.1) t8) rfl (Constant_str ?_))
          refine add_str (fun t9 k9 => ?_) (by rw [sizeLine_eq]; show _ + 1 ≤ _; omega)
          dsimp only
          refine stN F8 N8 ?_
          intro h9 F9 N9
          refine wpAny_execs_nil ?_
          refine wpAny_execs_nil ?_
          refine fin (xx := (x ++ pc.1) ++ Str.ofString "+") (by unfold dput; rw [hb]; rfl) (if_pos rfl) ?_ F9 N9
          intro z z1 z2 z3 z4
          simp only [if_neg z2, if_neg z4]
          exact m5 z z1 z2 z3 z4
        | false =>
          refine ite_no rfl ?_
          refine wpAny_execs_nil ?_
          refine wpAny_execs_nil ?_
          refine fin (xx := x ++ pc.1) (by unfold dput; rw [hb]; rfl) (t' := t8) rfl ?_ F8 N8
          intro z z1 z2 z3 z4
          simp only [if_neg z2, if_neg z4]
          exact m5 z z1 z2 z3 z4
  · rintro ⟨x, t⟩ u h tk1 _ ⟨hP, hlx⟩ F4 N4
    dsimp only at hP hlx F4 N4 ⊢
    replace N4 : News g L' h news := N4
    replace F4 : Fr g L' h _ := F4
    refine wpAny_execs_cons ?_
    refine wpAny_Return_some (ld F4 (v := .str x t) rfl ?_)
    refine leaveK_ F4 N4 fun F2 N2 => ?_
    have e : doublingS ns bit done = x := hP.symm
    rw [← e]
    exact hret _ _ _ F2 N2
end Mine
end

/-! S1 -/
section
open PySem PySem.W PyProof.Rows PySem.Calls PySem.Builtin PySem.Builtin.Str
set_option Elab.async false
set_option maxRecDepth 100000
set_option linter.unusedVariables false
namespace Mine

theorem str_eq {a b : Str} (h : a.cps.toList = b.cps.toList) : a = b := Str.ext' (Array.toList_inj.mp h)
theorem len_toList (x : Str) : x.cps.toList.length = x.length := by simp [Str.length]
theorem app_toList (a b : Str) : (a ++ b).cps.toList = a.cps.toList ++ b.cps.toList := by rw [Str.cps_append, Array.toList_append]
def ofL (l : List Nat) : Str := ⟨l.toArray⟩
theorem ofL_toList (l : List Nat) : (ofL l).cps.toList = l := rfl
theorem ofL_self (x : Str) : ofL x.cps.toList = x := str_eq rfl

/-- texts free of c, joined by c, fix themselves -/
noncomputable def joinL (c : Nat) : List (List Nat) → List Nat
  | [] => []
  | [p] => p
  | p :: q :: r => p ++ c :: joinL c (q :: r)
theorem join_toList (z : Str) : ∀ ps : List Str, (Str.join z ps).cps.toList = (match ps with | [] => [] | p :: r => p.cps.toList ++ r.flatMap fun q => z.cps.toList ++ q.cps.toList)
  | [] => rfl
  | [p] => by simp [Str.join]
  | p :: q :: r => by
    have ih := join_toList z (q :: r)
    show (p ++ z ++ Str.join z (q :: r)).cps.toList = _
    rw [app_toList, app_toList, ih]
    simp

theorem split_ne (x y : Str) : Txt.split x y ≠ [] := by
  unfold Txt.split
  split
  · simp
  · split
    · simp
    · rw [StrLaws.partsBetween_eq]
      obtain ⟨p, r, e⟩ := StrLaws.partsFrom_ne x y.length 0 (occurrences x y 0 x.length (x.length + 1))
      rw [e]; simp

theorem free_flat {c : Nat} (g : Nat → List Nat) (hg : ∀ k, k ≠ c → g k = [k]) : ∀ l : List Nat, c ∉ l → l.flatMap g = l
  | [], _ => rfl
  | k :: r, h => by
    rw [List.flatMap_cons, hg k (fun e => h (e ▸ List.mem_cons_self ..)), free_flat g hg r (fun m => h (List.mem_cons_of_mem _ m))]; rfl

/-- join behind split by one sign: the sign turned wherever it stands -/
theorem join_split_one (x z : Str) (c : Nat) : (Txt.join z (Txt.split x ⟨#[c]⟩)).cps.toList = x.cps.toList.flatMap (fun k => if k = c then z.cps.toList else [k]) := by
  have hf := StrLaws.split_free x c
  have hj := StrLaws.join_split x ⟨#[c]⟩
  show (glued z (Txt.split x ⟨#[c]⟩)).cps.toList = _
  rw [StrLaws.glued_eq_join]
  have hx : x.cps.toList = (Str.join ⟨#[c]⟩ (Txt.split x ⟨#[c]⟩)).cps.toList := by rw [hj]
  rw [hx]
  generalize Txt.split x ⟨#[c]⟩ = ps at hf
  clear hx hj
  have g1 : ∀ k, k ≠ c → (fun k => if k = c then z.cps.toList else [k]) k = [k] := fun k h => if_neg h
  rw [join_toList, join_toList]
  cases ps with
  | nil => rfl
  | cons p r =>
    simp only
    rw [List.flatMap_append, free_flat _ g1 _ (hf p (List.mem_cons_self ..))]
    congr 1
    have hr : ∀ q ∈ r, c ∉ q.cps.toList := fun q hq => hf q (List.mem_cons_of_mem _ hq)
    clear hf
    induction r with
    | nil => rfl
    | cons q t ih =>
      rw [List.flatMap_cons, List.flatMap_cons, List.flatMap_append, ← ih (fun a ha => hr a (List.mem_cons_of_mem _ ha)), List.flatMap_append]
      congr 2
      · show _ = List.flatMap _ [c]
        simp
      · exact (free_flat _ g1 _ (hr q (List.mem_cons_self ..))).symm

theorem count_join (c : Nat) : ∀ ps : List Str, ps ≠ [] → (∀ p ∈ ps, c ∉ p.cps.toList) → ps.length = (Str.join ⟨#[c]⟩ ps).cps.toList.count c + 1
  | [], h, _ => absurd rfl h
  | [p], _, h => by
    show 1 = p.cps.toList.count c + 1
    rw [List.count_eq_zero_of_not_mem (h p (List.mem_singleton.mpr rfl))]
  | p :: q :: r, _, h => by
    have ih := count_join c (q :: r) (by simp) (fun a ha => h a (List.mem_cons_of_mem _ ha))
    show (q :: r).length + 1 = (p ++ ⟨#[c]⟩ ++ Str.join ⟨#[c]⟩ (q :: r)).cps.toList.count c + 1
    rw [app_toList, app_toList, List.count_append, List.count_append, List.count_eq_zero_of_not_mem (h p (List.mem_cons_self ..)), ih]
    show _ = 0 + List.count c [c] + _ + 1
    simp; omega

theorem split_count (x : Str) (c : Nat) : (Txt.split x ⟨#[c]⟩).length = x.cps.toList.count c + 1 := by
  have := count_join c _ (split_ne x ⟨#[c]⟩) (StrLaws.split_free x c)
  rw [StrLaws.join_split] at this
  exact this

theorem cut_uniq {c : Nat} : ∀ {a b r t : List Nat}, c ∉ a → c ∉ b → a ++ c :: r = b ++ c :: t → a = b ∧ r = t
  | [], [], r, t, _, _, e => ⟨rfl, (List.cons.inj e).2⟩
  | [], k :: b, r, t, _, hb, e => absurd (List.cons.inj e).1 (fun q => hb (q ▸ List.mem_cons_self ..))
  | k :: a, [], r, t, ha, _, e => absurd (List.cons.inj e).1 (fun q => ha (q ▸ List.mem_cons_self ..))
  | k :: a, l :: b, r, t, ha, hb, e => by
    obtain ⟨e1, e2⟩ := List.cons.inj e
    obtain ⟨e3, e4⟩ := cut_uniq (fun m => ha (List.mem_cons_of_mem _ m)) (fun m => hb (List.mem_cons_of_mem _ m)) e2
    exact ⟨by rw [e1, e3], e4⟩
theorem cut_none {c : Nat} {a b r : List Nat} (hb : c ∉ b) (e : a ++ c :: r = b) : False := hb (e ▸ List.mem_append_right _ (List.mem_cons_self ..))

theorem join_uniq (c : Nat) : ∀ ps qs : List Str, ps ≠ [] → qs ≠ [] → (∀ p ∈ ps, c ∉ p.cps.toList) → (∀ p ∈ qs, c ∉ p.cps.toList) → Str.join ⟨#[c]⟩ ps = Str.join ⟨#[c]⟩ qs → ps = qs
  | [], _, h, _, _, _, _ => absurd rfl h
  | _ :: _, [], _, h, _, _, _ => absurd rfl h
  | [p], [q], _, _, _, _, e => by have e' : p = q := e; rw [e']
  | [p], q :: q' :: t, _, _, hp, hq, e => by
    exfalso
    have e1 := congrArg (fun s : Str => s.cps.toList) e
    have e2 : (q ++ ⟨#[c]⟩ ++ Str.join ⟨#[c]⟩ (q' :: t)).cps.toList = p.cps.toList := e1.symm
    rw [app_toList, app_toList, List.append_assoc] at e2
    exact cut_none (hp p (List.mem_singleton.mpr rfl)) e2
  | p :: p' :: r, [q], _, _, hp, hq, e => by
    exfalso
    have e1 := congrArg (fun s : Str => s.cps.toList) e
    have e2 : (p ++ ⟨#[c]⟩ ++ Str.join ⟨#[c]⟩ (p' :: r)).cps.toList = q.cps.toList := e1
    rw [app_toList, app_toList, List.append_assoc] at e2
    exact cut_none (hq q (List.mem_singleton.mpr rfl)) e2
  | p :: p' :: r, q :: q' :: t, _, _, hp, hq, e => by
    have e1 := congrArg (fun s : Str => s.cps.toList) e
    have e2 : (p ++ ⟨#[c]⟩ ++ Str.join ⟨#[c]⟩ (p' :: r)).cps.toList = (q ++ ⟨#[c]⟩ ++ Str.join ⟨#[c]⟩ (q' :: t)).cps.toList := e1
    rw [app_toList, app_toList, List.append_assoc, app_toList, app_toList, List.append_assoc] at e2
    obtain ⟨e3, e4⟩ := cut_uniq (hp p (List.mem_cons_self ..)) (hq q (List.mem_cons_self ..)) e2
    rw [str_eq e3, join_uniq c (p' :: r) (q' :: t) (by simp) (by simp) (fun a ha => hp a (List.mem_cons_of_mem _ ha)) (fun a ha => hq a (List.mem_cons_of_mem _ ha)) (str_eq e4)]

theorem split_is (x : Str) (c : Nat) (qs : List Str) (h0 : qs ≠ []) (hq : ∀ p ∈ qs, c ∉ p.cps.toList) (hj : Str.join ⟨#[c]⟩ qs = x) : Txt.split x ⟨#[c]⟩ = qs :=
  join_uniq c _ qs (split_ne x _) h0 (StrLaws.split_free x c) hq ((StrLaws.join_split x ⟨#[c]⟩).trans hj.symm)

/-- the reply -/
structure Reply (r : Str) (mk : Nat) (t : List Nat) : Prop where
  is : r.cps.toList = [50, 50, 57, 32, 40, mk, mk, mk] ++ t ++ [mk, 41]
  mk1 : mk ≠ 40
  mk2 : mk ≠ 41
  t1 : 40 ∉ t
  t2 : 41 ∉ t

section
variable {r : Str} {mk : Nat} {t : List Nat} (R : Reply r mk t)
include R
theorem Reply.len : r.length = t.length + 10 := by
  rw [← len_toList, R.is]; simp
theorem Reply.head : Txt.slice r none (some 3) = Str.ofString "229" := by
  have h : StrLaws.sliceText r none (some 3) = _ := StrLaws.sliceText_to ⟨by decide, by rw [len_toList, R.len]; omega⟩
  refine Eq.trans h ?_
  refine str_eq ?_
  show List.take 3 (List.drop 0 r.cps.toList) = _
  rw [R.is]
  rfl
theorem Reply.find1 : Txt.find r (Str.ofString "(") = 4 := by
  show (match occurrences r ⟨#[40]⟩ 0 r.length 1 with | i :: _ => (i : Int) | [] => -1) = 4
  have h4 : StrLaws.At r ⟨#[40]⟩ r.length 4 := (StrLaws.subAt_one r 40 4).mpr (by rw [R.is]; rfl)
  rcases StrLaws.occ_head r ⟨#[40]⟩ 1 (Nat.le_refl 1) with ⟨h0, hn⟩ | ⟨i, q, h0, hi, hn⟩
  · exact absurd h4 (hn 4)
  · rw [h0]
    have hi' := (StrLaws.subAt_one r 40 i).mp hi
    have h5 : i ≤ 4 := by
      apply Nat.le_of_not_lt
      intro h
      exact hn 4 h h4
    rw [R.is] at hi'
    have : i = 4 := by
      rcases i with _ | _ | _ | _ | i
      · simp at hi'
      · simp at hi'
      · simp at hi'
      · simp at hi'
      · omega
    subst this; rfl
theorem Reply.at_tail (i : Nat) : r.cps.toList[8 + t.length + i]? = [mk, 41][i]? := by
  rw [R.is]
  rw [List.getElem?_append_right (by simp; omega)]
  congr 1
  simp; omega
theorem Reply.find2 : Txt.find3 r (Str.ofString ")") (4 + 1) = (t.length : Int) + 9 := by
  have e : Str.ofString ")" = ⟨#[41]⟩ := by decide +kernel
  have h9 : r.cps.toList[t.length + 9]? = some 41 := by
    have := R.at_tail 1
    rw [show t.length + 9 = 8 + t.length + 1 by omega, this]; rfl
  have hlen := R.len
  have e5 : fromIndex r.length (4 + 1) = 5 := rfl
  rw [e]
  rcases StrLaws.find3_spec r 41 (4 + 1) with ⟨_, hn⟩ | ⟨k, hk, hlo, hlt, hc, hn⟩
  · exact absurd (StrLaws.getD_of_getElem? h9) (hn (t.length + 9) (by rw [e5]; omega) (by omega))
  · rw [hk]
    rw [e5] at hlo hn
    have hle : k ≤ t.length + 9 := by
      apply Nat.le_of_not_lt
      intro h
      exact hn (t.length + 9) (by omega) h (StrLaws.getD_of_getElem? h9)
    have hck := StrLaws.getElem?_of_getD hlt hc
    have hge : t.length + 9 ≤ k := by
      apply Nat.le_of_not_lt
      intro h
      have hm : r.cps.toList[k]? = ([mk, mk, mk] ++ t ++ [mk])[k - 5]? := by
        rw [R.is, show [50, 50, 57, 32, 40, mk, mk, mk] ++ t ++ [mk, 41] = [50, 50, 57, 32, 40] ++ (([mk, mk, mk] ++ t ++ [mk]) ++ [41]) by simp,
          List.getElem?_append_right (by simpa using hlo), List.getElem?_append_left (by simp; omega)]
        rfl
      rw [hm] at hck
      have := List.mem_of_getElem? hck
      simp at this
      rcases this with h1 | h1
      · exact R.mk2 h1.symm
      · rcases h1 with h1 | h1
        · exact R.t2 h1
        · exact R.mk2 h1.symm
    omega
theorem Reply.item1 : Txt.item r (4 + 1) = ⟨#[mk]⟩ := by
  have h : (Txt.charAt r (4 + 1)) = some mk := by
    unfold Txt.charAt
    refine StrLaws.at_nonneg (by decide) ?_
    rw [← Array.getElem?_toList, R.is]; rfl
  unfold Txt.item
  rw [h]; rfl
theorem Reply.item2 : Txt.item r ((t.length : Int) + 9 - 1) = ⟨#[mk]⟩ := by
  have h : (Txt.charAt r ((t.length : Int) + 9 - 1)) = some mk := by
    unfold Txt.charAt
    refine StrLaws.at_nonneg (by omega) ?_
    rw [← Array.getElem?_toList, show ((t.length : Int) + 9 - 1).toNat = 8 + t.length + 0 by omega, R.at_tail 0]; rfl
  unfold Txt.item
  rw [h]; rfl
theorem Reply.mid : Txt.slice r (some (4 + 1)) (some ((t.length : Int) + 9)) = ofL ([mk, mk, mk] ++ t ++ [mk]) := by
  have h : StrLaws.sliceText r (some (4 + 1)) (some ((t.length : Int) + 9)) = _ := StrLaws.sliceText_plain ⟨by decide, by omega, by rw [len_toList, R.len]; omega⟩
  refine Eq.trans h ?_
  refine str_eq ?_
  show List.take _ (List.drop 5 r.cps.toList) = [mk, mk, mk] ++ t ++ [mk]
  rw [R.is, show [50, 50, 57, 32, 40, mk, mk, mk] ++ t ++ [mk, 41] = [50, 50, 57, 32, 40] ++ (([mk, mk, mk] ++ t ++ [mk]) ++ [41]) by simp]
  rw [List.drop_left' (by rfl)]
  rw [List.take_left' (by simp; omega)]
end
theorem mid_split {mk : Nat} {t : List Nat} (h : mk ∉ t) : Txt.split (ofL ([mk, mk, mk] ++ t ++ [mk])) ⟨#[mk]⟩ = [Str.empty, Str.empty, Str.empty, ofL t, Str.empty] := by
  refine split_is _ _ _ (by simp) ?_ (str_eq ?_)
  · intro p hp
    simp at hp
    rcases hp with rfl | rfl | rfl
    · simp [Str.empty]
    · exact h
    · simp [Str.empty]
  · rw [join_toList]
    simp [ofL, Str.empty]
theorem mid_count {mk : Nat} {t : List Nat} (h : mk ∈ t) : 5 < (Txt.split (ofL ([mk, mk, mk] ++ t ++ [mk])) ⟨#[mk]⟩).length := by
  rw [split_count, ofL_toList, List.count_append, List.count_append]
  have : 0 < List.count mk t := List.count_pos_iff.mpr h
  simp
  omega
end Mine
end

/-! I1 -/
section
open PySem PySem.W PyProof.Rows PySem.Calls
open Sem (wp)
set_option Elab.async false
set_option maxRecDepth 100000
set_option maxHeartbeats 4000000
namespace Mine
variable {prog : Program} {w : World} {A : Around} {E : Value → Shared → Prop} {s : Shared}
theorem new_text {x : PySem.Str} {u : Tok} : Builtin.«int.__new__» ⟨[.type "int", .str x u], []⟩ = (int_private% "intFromObject") (.str x u) >>= fun v => ret v := by
  unfold Builtin.«int.__new__»
  have f1 := F.conv_sub_int
  have f2 := F.madeHere_int
  have f0 : isType (.type "int") = pure true := by rfl
  simp only [f0, f1, f2, pure_bind, Bool.not_true, Bool.false_eq_true, if_false]
  rfl
theorem obj_text {x : PySem.Str} {u : Tok} : (int_private% "intFromObject") (.str x u) = (int_private% "intFromText") (.str x u) (numTextOf x) 10 := by
  have f6 : typeOf (.str x u) = pure (.type "str") := rfl
  have f3 : specialOf (.str x u) "__int__" = pure none := by simp only [specialOf, f6, pure_bind]; exact KIN.str_int
  have f4 : specialOf (.str x u) "__index__" = pure none := by simp only [specialOf, f6, pure_bind]; exact KIN.str_idx
  have f5 : specialOf (.str x u) "__trunc__" = pure none := by simp only [specialOf, f6, pure_bind]; exact KIN.str_trunc
  have g3 : callSpecial? (.str x u) "__int__" [] [] = pure none := by simp only [callSpecial?, f3, pure_bind]
  refine Eq.trans (b := callSpecial? (.str x u) "__int__" [] [] >>= _) rfl ?_
  rw [g3, pure_bind]
  refine Eq.trans (b := specialOf (.str x u) "__index__" >>= _) rfl ?_
  rw [f4, pure_bind]
  refine Eq.trans (b := specialOf (.str x u) "__trunc__" >>= _) rfl ?_
  rw [f5, pure_bind]
  rfl
theorem call_tree {x : Value} : ∃ k : Value → Sem Fin, Builtin.«type.__call__» ⟨[.type "int", x], []⟩ = holding [.builtin "int.__new__"] (call (.builtin "int.__new__") [.type "int", x] []) >>= k := by
  unfold Builtin.«type.__call__»
  have h1 := F.called_int.notType
  have h2 := F.called_int.canCreate
  have h3 := F.typeCall_int_1 x
  have h4 := F.mro_int
  have h5 := F.called_int.made
  simp only [h1, h2, h3, h4, h5, pure_bind, Bool.false_eq_true, if_false, List.isEmpty_cons]
  exact ⟨_, rfl⟩

theorem text_fails {x : PySem.Str} {u : Tok} (hs : (numSeenOf x).length ≤ 640) (hn : PySem.intText? x = none) : ∃ f : Str → Str, (∀ y, (f y).length ≤ 40 + 200) ∧
    (int_private% "intFromText") (.str x u) (numTextOf x) 10 = (rule "int.__new__.invalid-literal" >>= fun _ => pyRepr (.str x u) >>= fun shown => mkStr (f shown) >>= fun v => newExc (.type "ValueError") [v] >>= fun e =>
      markTheRefusal ["int.__new__"] e >>= fun _ => raiseNew e) := by
  refine ⟨fun shown => ((s!"invalid literal for int() with base {10}: " : String) ++ ⟨shown.cps.extract 0 200⟩ : Str), ?_, ?_⟩
  · intro y
    show (Str.ofString (toString "invalid literal for int() with base " ++ toString 10 ++ toString ": ") ++ (⟨y.cps.extract 0 200⟩ : Str)).cps.size ≤ 240
    rw [Str.cps_append, Array.size_append, Array.size_extract, show (Str.ofString (toString "invalid literal for int() with base " ++ toString 10 ++ toString ": ")).cps.size = 40 from by decide +kernel]
    omega
  refine Eq.trans (b := if (numSeenOf x).length ≤ 640 then _ else _) rfl ?_
  rw [if_pos hs]
  rcases read0 x hs with ⟨m, h1, _, _⟩ | ⟨_, h1 | ⟨i, h1, h2⟩⟩
  · rw [hn] at h1; cases h1
  · have h1' : (int_private% "readNumeral") 0 10 ((numTextOf x).takeWhile (fun x => x != 0)) = int_private% "Numeral.invalid" := h1
    simp only [pure_bind, h1']
    rfl
  · have h1' : (int_private% "readNumeral") 0 10 ((numTextOf x).takeWhile (fun x => x != 0)) = (int_private% "Numeral.value") i := h1
    have h2' : ¬ (((numTextOf x).takeWhile (fun x => x != 0)).length == (numTextOf x).length) = true := h2
    simp only [pure_bind, h1', if_neg h2']
    rfl

theorem not_made {own : List String} {codes : List Code} (h : codes.any Code.isCaller = true) : pythonCodeMadeTheCall own codes = false := by
  show ((!codes.any Code.isCaller && codes.any (·.env?.isSome)) && _) = false
  rw [h]; rfl
theorem markC {own : List String} {e : Value} {A : Around} {Q : Unit → Shared → Prop} (h : Q () s) : wpC (model prog w) A (markTheRefusal own e) Q E s := by
  intro Γ p hΓ hC
  unfold markTheRefusal
  rw [Sem.wp_bind']
  show wp _ _ (if pythonCodeMadeTheCall own (((Γ.code, p) :: Γ.below).map (·.1)) = true then _ else _) _ _ _ _
  have hz : pythonCodeMadeTheCall own (((Γ.code, p) :: Γ.below).map (·.1)) = false := by
    have q : ((((Γ.code, p) :: Γ.below).map (·.1)).any Code.isCaller) = true := hC
    exact not_made q
  rw [if_neg (by rw [hz]; exact Bool.false_ne_true)]
  exact h
theorem codeC_builtin {id : String} {args : Args} {b : Builtin} {R : Result → Shared → Prop} (hb : entryFor table id = some b)
    (h : wpC (model prog w) (A.under (.builtin id args)) (b args)
      (fun fin s' => match fin with | .done f => R (.ok f) s' | .again c' => c'.quiet = true ∧ codeC (model prog w) A c' R s') (fun e s' => R (.error e) s') s) :
    codeC (model prog w) A (.builtin id args) R s := by
  refine codeC_of_tree ?_
  show wpC _ _ (match entryFor table id with | some b => b args | none => unsupported ((withoutEnding? id "#data").getD id)) _ _ s
  rw [hb]; exact h

/-- int of a text that is no numeral, beneath the claim's caller: ValueError, and nothing marked -/
theorem int_failsC {x : PySem.Str} {u : Tok} {Q : Value → Shared → Prop} (hl : x.length ≤ 640) (hr : (reprText x).length ≤ sizeLine) (hn : PySem.intText? x = none) (hh : A.handled = none)
    (h : ∀ h' e tk, Heap.NewExc s.heap h' e "ValueError" → E (.ref e) { s with heap := h', toks := tk }) : wpC (model prog w) A (call (.type "int") [.str x u]) Q E s := by
  refine wpC_call ?_
  refine codeC_of_tree ?_
  show wpC _ _ (callAny (.type "int") _) _ _ _
  refine wpC_pure ⟨Code.quiet_builtin _ (by decide +kernel), codeC_builtin F.entry_type_call ?_⟩
  obtain ⟨k, ek⟩ := call_tree (x := .str x u)
  rw [ek]
  refine wpC_bind ?_
  refine wpC_holding ?_
  refine wpC_call ?_
  refine codeC_of_tree ?_
  show wpC _ _ (checkBuiltinCall "int.__new__" _ >>= fun _ => again (.builtin "int.__new__" _)) _ _ _
  rw [F.newCall_int_1, pure_bind]
  refine wpC_pure ⟨Code.quiet_builtin _ (by decide +kernel), codeC_builtin F.entry_int_new ?_⟩
  obtain ⟨f, hf, ef⟩ := text_fails (u := u) (Nat.le_trans (seen_length x) hl) hn
  rw [new_text, obj_text, ef]
  refine wpC_bind ?_
  refine wpC_bind ?_
  refine wpC.of ?_
  refine wpAny_rule ?_
  refine wpC_bind ?_
  refine wpC.of ?_
  refine wpAny_pyRepr_str ?_ hr
  refine wpC_bind ?_
  refine wpC.of ?_
  refine wpAny_mkStr ?_ (Nat.le_trans (hf _) (by decide))
  refine wpC_bind ?_
  refine wpC.of ?_
  refine wpAny_newExc_plain plainExc_ValueError fun h' e hx => ?_
  refine wpC_bind ?_
  refine markC ?_
  refine wpC.of ?_
  refine wpAny_raiseNew_none hh ?_
  exact h _ _ _ hx.newExc
end Mine
end

/-! O1 -/
section
open PySem PySem.W PyProof.Rows PySem.Calls
open Builtin Builtin.Str Builtin.BaseException Builtin.Exceptions
set_option Elab.async false
set_option maxRecDepth 100000
set_option maxHeartbeats 4000000
set_option linter.unusedVariables false
namespace Mine
/-- an exception of the program's own class, with one text for an argument -/
structure OwnExc (h : Heap) (e t0 : Addr) (C : Addr) (m : PySem.Str) (tk : Tok) : Prop where
  obj : ∃ o ws, h.get? e = some o ∧ o.cls = .ref C ∧ o.data = .fields ws ∧ ws[0]? = some (.ref t0)
  tup : h.TupAt t0 [.str m tk]
  str : ∀ M : Model, Looks M h (typeLookup (.ref C) "__str__") (some (.builtin "BaseException.__str__"))
  sub : ∀ M : Model, Looks M h (isSubtype (.ref C) (.type "BaseException")) true
section
variable {prog : Program} {w : World} {A : Around} {E : Value → Shared → Prop} {s : Shared} {e t0 C : Addr} {m : PySem.Str} {tk : Tok}
theorem OwnExc.ty (x : OwnExc s.heap e t0 C m tk) {M : Model} {A : Around} {Q : Value → Shared → Prop} (h : Q (.ref C) s) : wpAny M A (typeOf (.ref e)) Q E s := by
  obtain ⟨o, ws, ho, hc, hd, h0⟩ := x.obj
  simp only [typeOf]
  exact wpAny_bind (wpAny_load ho (wpAny_pure (hc ▸ h)))
theorem own_entry {Q : Fin → Shared → Prop} (x : OwnExc s.heap e t0 C m tk) (hq : Q (.done (.ret (.str m tk))) s) :
    wpAny (model prog w) A (Builtin.«BaseException.__str__» ⟨[.ref e], []⟩) Q E s := by
  obtain ⟨o, ws, ho, hc, hd, h0⟩ := x.obj
  obtain ⟨ot, k, hto, _, htd⟩ := x.tup
  have ba : ∀ {A : Around} {Q : Value × List Value → Shared → Prop} {E : Value → Shared → Prop}, Q (.ref t0, [.str m tk]) s → wpAny (model prog w) A (bexcArgs (.ref e)) Q E s := fun hq => by
    unfold bexcArgs
    exact wpAny_bind (wpAny_field ho hd h0 (wpAny_bind (wpAny_seqItems hto htd (wpAny_pure hq))))
  unfold Builtin.«BaseException.__str__»
  repeat (first | with_reducible refine ba ?_ | wp_step)
  exact hq
theorem own_check {Q : Unit → Shared → Prop} (x : OwnExc s.heap e t0 C m tk) (hq : Q () s) : wpAny (model prog w) A (checkBuiltinCall "BaseException.__str__" ⟨[.ref e], []⟩) Q E s := by
  have hsplit : splitId "BaseException.__str__" = some ("BaseException", "__str__") := by decide +kernel
  have hk : builtinKind "BaseException.__str__" = some .slot := by decide +kernel
  simp only [checkBuiltinCall, hk, hsplit]
  have hi : wpAny (model prog w) A (isInstance (.ref e) (.type "BaseException")) (fun b s' => b = true ∧ s' = s) E s := by
    simp only [isInstance]
    exact wpAny_bind (x.ty ((x.sub _).here ⟨rfl, rfl⟩))
  refine wpAny_bind ?_
  refine wpAny_mono hi (fun b s' hb => ?_) fun _ _ z => z
  obtain ⟨rfl, rfl⟩ := hb
  simp only [Bool.not_true, Bool.false_eq_true, if_false]
  have ha := F.args_bexc_str (.ref e)
  cases hsig : Manifest.signature? "BaseException.__str__" with
  | none => exact wpAny_pure hq
  | some sig =>
    simp only [argsOk, hsig] at ha
    have h2 : Bind.checkArgs "BaseException.__str__" sig ⟨[.ref e], []⟩ = pure () := ha
    show wpAny _ A (Bind.checkArgs "BaseException.__str__" sig ⟨[.ref e], []⟩) Q E s'
    rw [h2]; exact wpAny_pure hq
theorem own_call {Q : Value → Shared → Prop} (x : OwnExc s.heap e t0 C m tk) (hq : Q (.str m tk) s) : wpAny (model prog w) A (call (.builtin "BaseException.__str__") [.ref e]) Q E s :=
  wpAny_call (codeAny_call_builtin (by decide +kernel) F.entry_bexc_str (own_check x (own_entry x hq)))
theorem own_special {Q : Option Value → Shared → Prop} (x : OwnExc s.heap e t0 C m tk) (hq : Q (some (.str m tk)) s) : wpAny (model prog w) A (callSpecial? (.ref e) "__str__") Q E s := by
  have hb : bindSpecial (.builtin "BaseException.__str__") (.ref e) = pure (.builtin "BaseException.__str__", [.ref e]) := by
    have hop : withoutEnding? "BaseException.__str__" "#opaque" = none := by decide +kernel
    have hdat : withoutEnding? "BaseException.__str__" "#data" = none := by decide +kernel
    have hk : builtinKind "BaseException.__str__" = some .slot := by decide +kernel
    simp only [bindSpecial, typeOf, builtinType, hop, hdat, hk]; rfl
  simp only [callSpecial?]
  have hsp : wpAny (model prog w) A (specialOf (.ref e) "__str__") (fun r s' => r = some (.builtin "BaseException.__str__") ∧ s' = s) E s := by
    simp only [specialOf]
    exact wpAny_bind (x.ty ((x.str _).here ⟨rfl, rfl⟩))
  refine wpAny_bind ?_
  refine wpAny_mono hsp (fun r s' hr => ?_) fun _ _ z => z
  obtain ⟨rfl, rfl⟩ := hr
  simp only [hb]
  exact wpAny_holding (wpAny_bind (wpAny_pure (wpAny_bind (own_call x (wpAny_pure hq)))))
theorem own_strOf {Q : Value → Shared → Prop} (hu : A.units < cLine) (x : OwnExc s.heap e t0 C m tk) (hq : Q (.str m tk) s) : wpAny (model prog w) A (Builtin.Str.strOf (.ref e)) Q E s := by
  unfold Builtin.Str.strOf
  repeat (first | with_reducible refine wpAny_cRoomFor hu ?_ | with_reducible refine own_special x ?_ | wp_step)
  exact hq
theorem str_of_own {Q : Value → Shared → Prop} (hu : A.units + 2 < cLine) (x : OwnExc s.heap e t0 C m tk) (h : Q (.str m tk) s) : wpAny (model prog w) A (call (.type "str") [.ref e]) Q E s :=
  callType_new F.called_str (by decide) (F.typeCall_str_1 _) (F.newCall_str_1 _) (fun obj => F.args_object_init_2 obj _) F.entry_str_new
    (meets_str_new (S := fun A' R s' => A'.units + 1 < cLine ∧ OwnExc s'.heap e t0 C m tk ∧ R (.ok (.ret (.str m tk))) s')
      fun _ _ A' _ _ hq => own_strOf (A := A'.in1) hq.1 hq.2.1 hq.2.2)
    ⟨(show A.units + 1 + 1 < cLine from hu), x, typeIs_str _ _ _, h⟩
end
end Mine
end

/-! P1 -/
section
open PySem PySem.W PyProof.Rows PySem.Calls
set_option Elab.async false
set_option maxRecDepth 100000
set_option maxHeartbeats 8000000
set_option pp.maxSteps 20000
set_option linter.unusedVariables false
namespace Mine
variable {w : World} {p : Program} {loose : List Str} {mean : ExcName → Option Value} {mg mb : Str → Option Value}

theorem told_parse (dp un : Nat) (gd : Option (List Code)) (cn : Str) (cs : Scope) (a : Addr) (ccd : Value) (outer : List Env) (A₀ : Around) (base h₀ : Heap) (L : Addr) (m : Str → Option Value) (news : List (Addr × Obj)) (s : Shared)
    (Q E : Value → Shared → Prop) (r : Str) (tr : Tok) (mk : Nat) (t : List Nat) (peer : Addr) (tb ti : Tok)
    (B : Below A₀ base outer h₀) (F : Fr h₀ L s.heap m) (X : (hdC.heap_39 w.params).In h₀) (N : News h₀ L s.heap news) (T : Top p loose mean mg mb h₀) (hk : cs.kind = .function)
    (rp : Reply r mk t) (hlen : t.length ≤ 100) (hch : ∀ c ∈ t, c < 128) (hpr : (peer, tupOf [.str (Str.ofString "b") tb, .int 21 ti]) ∈ news)
    (hdp : dp + 3 < recursionLimit) (hu : un + 20 < cLine)
    (hnum : ∀ n, mk ∉ t → PySem.intText? (ofL t) = some n → ∀ h' tk' t1 t2 q, Fr h₀ L h' m → News h₀ L h' ((q, tupOf [.str (Str.ofString "b") t1, .int n t2]) :: news) → Q (.ref q) { s with heap := h', toks := tk' })
    (hproto : mk ∈ t → ∀ G e t' h' tk', Fr h₀ L G m → RaisedS base G (envOf cn cs L a ccd :: outer) e (.ref 56) t' [.str r tr] news h' → G.UpToSlots h' → E (.ref e) { s with heap := h', toks := tk' })
    (hvalue : mk ∉ t → PySem.intText? (ofL t) = none → ∀ G e h' tk', Fr h₀ L G m → RaisedSN base G (envOf cn cs L a ccd :: outer) e (.type "ValueError") news h' → G.UpToSlots h' → E (.ref e) { s with heap := h', toks := tk' }) :
    wpC (model PySem.Challenge.rw_pg0019_01.row.prog w) (ktrTop dp un gd cn cs L a ccd [] outer) (call (.ref 65) [.str r tr, .ref peer]) Q E s := by
  revert X; k_fill; intro X
  refine wpC_call ?_
  refine' codeC_def (binds := [(Str.ofString "resp", .str r tr), (Str.ofString "peer", .ref peer)]) B F X N T rfl rfl hk ?k6 ?k7 ?kr ?kb ?kl ?_ ?c2 ?c3 ?c4 ?c5
  case k6 => k_is
  case k7 => k_is
  case kr => ktr_room
  case kb => exact BindsTo.of_eq rfl
  case kl => exact locs rfl
  case c2 => rfl
  case c3 => rfl
  case c4 => rfl
  case c5 => decide
  intro g L' h₁ FG F1 N1 B1 X1 T1
  obtain ⟨M, F2, m1, m2⟩ : ∃ M : Str → Option Value, Fr g L' h₁ M ∧ M (Str.ofString "resp") = some (.str r tr) ∧ M (Str.ofString "peer") = some (.ref peer) := ⟨_, F1, rfl, rfl⟩
  clear F1
  have hlr := rp.len
  refine wpC_execs_cons ?_
  refine wpC.of ?_
  refine wpAny_If ?_
  refine wpAny_isTrue_Compare1 ?_
  refine Subscript_ ?_
  refine ld F2 m1 ?_
  refine wpAny_Slice ?_
  refine wpAny_evalPart_none ?_
  refine wpAny_evalPart_some ?_
  refine wpAny_Constant_int ?_
  refine wpAny_evalPart_none ?_
  dsimp only
  refine slice_strN_ns (s := { s with heap := h₁, toks := _ }) F2 N1 (fun h2 t2 k2 F3 N2 => ?_) (hsz := by rw [sizeLine_eq]; omega)
  rw [rp.head]
  refine Constant_str ?_
  refine ne_str ?_
  refine wpAny_truthy_bool ?_
  refine ite_no (by decide) ?_
  refine wpAny_execs_nil ?_
  dsimp only
  refine wpC_execs_cons ?_
  refine wpC.of ?_
  refine wpAny_Assign_Name ?_
  refine MethodCall_ ?_
  refine ld F3 m1 ?_
  with_reducible refine GM.find ?_
  refine callWith_method1 ?_
  refine args_cons ?_
  refine Constant_str ?_
  refine args_nil ?_
  refine SC.find ?_
  rw [rp.find1]
  refine stN F3 N2 (fun h3 F4 N3 => ?_)
  dsimp only
  obtain ⟨M, F2, m1, m2, m3⟩ : ∃ M : Str → Option Value, Fr g L' h3 M ∧ M (Str.ofString "resp") = some (.str r tr) ∧ M (Str.ofString "peer") = some (.ref peer) ∧ ∃ u, M (Str.ofString "left") = some (.int 4 u) := ⟨_, F4, m1, m2, _, rfl⟩
  obtain ⟨u3, m3⟩ := m3
  clear F4 F3
  refine wpC_execs_cons ?_
  refine wpC.of ?_
  refine wpAny_If ?_
  refine wpAny_isTrue_Compare1 ?_
  refine ld F2 m3 ?_
  refine wpAny_Constant_int ?_
  refine lt_int ?_
  refine wpAny_truthy_bool ?_
  refine ite_no rfl ?_
  refine wpAny_execs_nil ?_
  dsimp only
  refine wpC_execs_cons ?_
  refine wpC.of ?_
  refine wpAny_Assign_Name ?_
  refine MethodCall_ ?_
  refine ld F2 m1 ?_
  with_reducible refine GM.find ?_
  refine callWith_method1 ?_
  refine args_cons ?_
  refine Constant_str ?_
  refine args_cons ?_
  refine wpAny_BinOp ?_
  refine ld F2 m3 ?_
  refine wpAny_Constant_int ?_
  with_reducible refine add_int ?_
  refine args_nil ?_
  refine SC.find3 ?_
  rw [rp.find2]
  refine stN F2 N3 (fun h4 F4 N4 => ?_)
  dsimp only
  obtain ⟨M, F2, m1, m2, m3, m4⟩ : ∃ M : Str → Option Value, Fr g L' h4 M ∧ M (Str.ofString "resp") = some (.str r tr) ∧ M (Str.ofString "peer") = some (.ref peer) ∧ M (Str.ofString "left") = some (.int 4 u3) ∧ ∃ u, M (Str.ofString "right") = some (.int ((t.length : Int) + 9) u) := ⟨_, F4, m1, m2, m3, _, rfl⟩
  obtain ⟨u4, m4⟩ := m4
  clear F4
  refine wpC_execs_cons ?_
  refine wpC.of ?_
  refine wpAny_If ?_
  refine wpAny_isTrue_Compare1 ?_
  refine ld F2 m4 ?_
  refine wpAny_Constant_int ?_
  refine lt_int ?_
  refine wpAny_truthy_bool ?_
  refine ite_no (decide_eq_false (by omega)) ?_
  refine wpAny_execs_nil ?_
  dsimp only
  refine wpC_execs_cons ?_
  refine wpC.of ?_
  refine wpAny_If ?_
  refine wpAny_isTrue_Compare1 ?_
  refine Subscript_ ?_
  refine ld F2 m1 ?_
  refine wpAny_BinOp ?_
  refine ld F2 m3 ?_
  refine wpAny_Constant_int ?_
  with_reducible refine add_int ?_
  refine item_str (by decide) (by omega) (by omega) (fun _ => ?_)
  rw [rp.item1]
  refine Subscript_ ?_
  refine ld F2 m1 ?_
  refine wpAny_BinOp ?_
  refine ld F2 m4 ?_
  refine wpAny_Constant_int ?_
  with_reducible refine sub_int ?_
  refine item_str (fitsSsize_of (N := 9223372036854775808) (by omega) (by omega) (Int.le_refl _)) (by omega) (by omega) (fun _ => ?_)
  rw [rp.item2]
  refine ne_str ?_
  refine wpAny_truthy_bool ?_
  refine ite_no (by simp) ?_
  refine wpAny_execs_nil ?_
  dsimp only
  refine wpC_execs_cons ?_
  refine wpC.of ?_
  refine wpAny_Assign_Name ?_
  refine MethodCall_ ?_
  refine Subscript_ ?_
  refine ld F2 m1 ?_
  refine wpAny_Slice ?_
  refine wpAny_evalPart_some ?_
  refine wpAny_BinOp ?_
  refine ld F2 m3 ?_
  refine wpAny_Constant_int ?_
  with_reducible refine add_int ?_
  refine wpAny_evalPart_some ?_
  refine ld F2 m4 ?_
  refine wpAny_evalPart_none ?_
  dsimp only
  refine slice_strN_ss (s := { s with heap := h4, toks := _ }) F2 N4 (fun h5 t5 k5 F5 N5 => ?_) (hsz := by rw [sizeLine_eq]; omega)
  rw [rp.mid]
  with_reducible refine GM.split ?_
  refine callWith_method1 ?_
  refine args_cons ?_
  refine Subscript_ ?_
  refine ld F5 m1 ?_
  refine wpAny_BinOp ?_
  refine ld F5 m3 ?_
  refine wpAny_Constant_int ?_
  with_reducible refine add_int ?_
  refine item_str (by decide) (by omega) (by omega) (fun _ => ?_)
  rw [rp.item1]
  refine args_nil ?_
  refine splitN1 (x := ofL ([mk, mk, mk] ++ t ++ [mk])) F5 N5 rfl (fun l h6 k6 hl F6 N6 => ?_) (by rw [sizeLine_eq, ← len_toList, ofL_toList]; simp; omega)
  dsimp only
  refine stN F6 N6 (fun h7 F7 N7 => ?_)
  dsimp only
  obtain ⟨M, F2, m1, m2, m5⟩ : ∃ M : Str → Option Value, Fr g L' h7 M ∧ M (Str.ofString "resp") = some (.str r tr) ∧ M (Str.ofString "peer") = some (.ref peer) ∧ M (Str.ofString "parts") = some (.ref h5.objs.size) := ⟨_, F7, m1, m2, rfl⟩
  clear F7 F6 F5
  have hll : (strValues l).toArray.size = (Txt.split (ofL ([mk, mk, mk] ++ t ++ [mk])) ⟨#[mk]⟩).length := by rw [← hl]; simp [strValues]
  refine wpC_execs_cons ?_
  refine wpC.of ?_
  refine wpAny_If ?_
  refine wpAny_isTrue_Compare1 ?_
  refine Call_ ?_
  refine name_B F2 X1 (topRead_of T1) (by k_is) boot_len (by decide) ?_
  refine PyProof.Rows.callWith_builtin1 ?_
  refine args_cons ?_
  refine ld F2 m5 ?_
  refine args_nil ?_
  have hsp : (Txt.split (ofL ([mk, mk, mk] ++ t ++ [mk])) ⟨#[mk]⟩).length ≤ 200 := by
    rw [split_count, ofL_toList]
    have := List.count_le_length (a := mk) (l := [mk, mk, mk] ++ t ++ [mk])
    simp at this ⊢
    omega
  refine len_list (News.isList N7 (.head _)) (by rw [hll]; omega) ?_
  rw [hll]
  refine wpAny_Constant_int ?_
  refine ne_int ?_
  refine wpAny_truthy_bool ?_
  dsimp only
  by_cases hm : mk ∈ t
  · have h5 := mid_count hm
    refine ite_yes (by rw [bne_iff_ne]; omega) ?_
    refine wpAny_execs_cons ?_
    refine' Raise_own F2 (TopRead.g (topRead_of T1)) ?O PySem.F.excBase_Exception rfl ?_ rfl rfl rfl rfl (by decide)
    case O => exact own_of_in X1 (topRead_of T1) (by k_is) (by k_exc)
    refine args_cons ?_
    refine ld F2 m1 ?_
    refine args_nil ?_
    refine ⟨by rw [sizeLine_eq]; exact Nat.le_of_ble_eq_true rfl, F2.keep, fun h' e hx => ?_⟩
    refine leave_raiseS B1 hx F2 (fun q hq => N7 q (.tail _ hq)) (fun h8 t8 R8 _ U8 => ?_) rfl
    exact hproto hm g e t8 h8 _ FG R8 U8
  · have hsl := mid_split hm
    rw [hsl] at hl ⊢
    refine ite_no rfl ?_
    refine wpAny_execs_nil ?_
    obtain ⟨t4, e4⟩ : ∃ t4, (strValues l)[3]? = some (.str (ofL t) t4) := by
      have e : (l.map (·.1))[3]? = some (ofL t) := by rw [hl]; rfl
      rw [List.getElem?_map] at e
      obtain ⟨q, hq, e2⟩ := Option.map_eq_some_iff.mp e
      exact ⟨q.2, by simp [strValues, hq, e2]⟩
    dsimp only
    refine wpC_execs_cons ?_
    refine wpC.of ?_
    refine wpAny_Assign_Name ?_
    refine Subscript_ ?_
    refine ld F2 m2 ?_
    refine wpAny_Constant_int ?_
    refine item_tupleT (j := 0) (News.isTup N7 (.tail _ hpr)) (by decide) (by decide) (StrLaws.seqIndex_nonneg (by decide) (by simp)) rfl ?_
    refine stN F2 N7 (fun h8 F8 N8 => ?_)
    dsimp only
    obtain ⟨M, F2, m6, m5⟩ : ∃ M : Str → Option Value, Fr g L' h8 M ∧ M (Str.ofString "host") = some (.str (Str.ofString "b") tb) ∧ M (Str.ofString "parts") = some (.ref h5.objs.size) := ⟨_, F8, rfl, m5⟩
    clear F8
    refine wpC_execs_cons ?_
    refine wpC_Assign_Name ?_
    refine wpC_Call ?_
    refine name_B F2 X1 (topRead_of T1) (by k_is) PyProof.Rows.boot_int (by decide) ?_
    refine wpC_callWith_type1 ?_
    refine args_cons ?_
    refine Subscript_ ?_
    refine ld F2 m5 ?_
    refine wpAny_Constant_int ?_
    refine item_listL (x := .str (ofL t) t4) (News.isList N8 (.head _)) (by decide) (by decide) e4 ?_
    refine args_nil ?_
    have hlt : (ofL t).length ≤ 100 := by rw [← len_toList, ofL_toList]; exact hlen
    cases hn : PySem.intText? (ofL t) with
    | some n =>
      refine wpC.of ?_
      refine KIN.call_text hn (by omega) ?_
      refine wpC.of ?_
      refine stN F2 N8 (fun h9 F9 N9 => ?_)
      dsimp only
      refine wpC_execs_cons ?_
      refine wpC.of ?_
      refine wpAny_Return_some ?_
      refine Tuple_ ?_
      refine args_cons (ld F9 (v := .str (Str.ofString "b") tb) m6 (args_cons (ld F9 rfl (args_nil ?_))))
      refine newTuple_N F9 N9 (fun h10 F10 N10 => ?_) (by rw [sizeLine_eq]; exact Nat.le_of_ble_eq_true rfl)
      refine leaveK_ F10 (fun q hq => N10 q hq) fun F11 N11 => ?_
      exact hnum n hm hn _ _ _ _ _ F11 (fun q hq => N11 q (by
        rcases List.mem_cons.mp hq with rfl | hq
        · exact .head _
        · exact .tail _ (.tail _ hq)))
    | none =>
      refine int_failsC (by omega) ?_ hn rfl (fun h9 e tk9 hx => ?_)
      · refine Nat.le_trans (StrLaws.reprText_len _ fun c hc => Nat.lt_trans (hch c hc) (by decide)) (by rw [sizeLine_eq]; omega)
      refine leave_newS B1 hx F2 (fun q hq => N8 q (.tail _ hq)) (fun h10 R10 _ U10 => ?_) rfl
      exact hvalue hm hn g e h10 _ FG R10 U10
end Mine
end

/-! T2 -/
section
open PySem PySem.W PyProof.Rows PySem.Calls
set_option Elab.async false
set_option maxRecDepth 100000
set_option maxHeartbeats 8000000
set_option pp.maxSteps 20000
set_option linter.unusedVariables false
namespace Mine
variable {w : World} {p : Program} {loose : List Str} {mean : ExcName → Option Value} {mg mb : Str → Option Value}

/-- what the law is told of a reply -/
inductive Told (r : Str) (mk : Nat) (t : List Nat) : Value → Value → Prop
  | proto (t1 t2 : Tok) : mk ∈ t → Told r mk t (.str (Str.ofString "proto") t1) (.str r t2)
  | value (t1 t2 : Tok) : mk ∉ t → PySem.intText? (ofL t) = none → Told r mk t (.str (Str.ofString "value") t1) (.str (Str.ofString "") t2)
  | num (n : Int) (t1 t2 : Tok) : mk ∉ t → PySem.intText? (ofL t) = some n → Told r mk t (.str (Str.ofString "b") t1) (.int n t2)

theorem news_keep {h₀ h : Heap} {L : Addr} {q : Addr × Obj} {l l' : List (Addr × Obj)} (N : News h₀ L h (q :: l)) (hs : ∀ y ∈ l', y ∈ l) : News h₀ L h (q :: l') := fun y hy => N y (by
  rcases List.mem_cons.mp hy with rfl | hy
  · exact .head _
  · exact .tail _ (hs y hy))

theorem told_told (dp un : Nat) (gd : Option (List Code)) (cn : Str) (cs : Scope) (a : Addr) (ccd : Value) (A₀ : Around) (base h₀ : Heap) (L : Addr) (m : Str → Option Value) (news : List (Addr × Obj)) (s : Shared)
    (Q E : Value → Shared → Prop) (r : Str) (tr : Tok) (mk : Nat) (t : List Nat)
    (B : Below A₀ base [] h₀) (F : Fr h₀ L s.heap m) (X : (hdC.heap_39 w.params).In h₀) (N : News h₀ L s.heap news) (T : Top p loose mean mg mb h₀) (XB : (hdC.heap_39 w.params).In base) (TB : Top p loose mean mg mb base) (hk : cs.kind = .function)
    (rp : Reply r mk t) (hlen : t.length ≤ 100) (hch : ∀ c ∈ t, c < 128)
    (hdp : dp + 6 < recursionLimit) (hu : un + 40 < cLine)
    (hret : ∀ x y q h' tk', Told r mk t x y → Fr h₀ L h' m → News h₀ L h' ((q, tupOf [x, y]) :: news) → Q (.ref q) { s with heap := h', toks := tk' }) :
    wpC (model PySem.Challenge.rw_pg0019_01.row.prog w) (ktrTop dp un gd cn cs L a ccd [] []) (call (.ref 72) [.str r tr]) Q E s := by
  revert X XB; k_fill; intro X XB
  refine wpC_call ?_
  refine' codeC_defS0 (cn := cn) (cs := cs) (a := a) (ccd := ccd) (binds := [(Str.ofString "reply", .str r tr)]) B F X N T rfl ?k6 ?k7 ?kr ?kb ?kl ?_ hk ?c2 ?c3 ?c4 ?c5
  case k6 => k_is
  case k7 => k_is
  case kr => ktr_room
  case kb => exact BindsTo.of_eq rfl
  case kl => exact locs rfl
  case c2 => rfl
  case c3 => rfl
  case c4 => rfl
  case c5 => decide
  intro g L' h₁ FG F1 N1 B1 X1 T1 D1
  refine wpC_execs_cons ?_
  refine wpC_Try_except ?_
  refine wpC_execs_cons ?_
  refine wpC_Return_some ?_
  refine wpC_Call ?_
  refine name_K F1 X1 (topRead_of T1) (by k_is) ?_
  dsimp only
  obtain ⟨o65, fd65, k65, d65⟩ : ∃ (o : Obj) (fd : FuncData), (hdC.heap_39 w.params).lookup 65 = some o ∧ o.data = .func fd := ⟨_, _, by k_is, rfl⟩
  refine wpC_callWith_def (o := o65) (fd := fd65) d65 ?_
  refine args_cons (ld F1 (v := .str r tr) rfl (args_cons (Tuple_ (args_cons (Constant_str (args_cons (wpAny_Constant_int (args_nil ?_))))))))
  refine newTuple_N F1 N1 (fun h2 F2 N2 => ?_) (by rw [sizeLine_eq]; exact Nat.le_of_ble_eq_true rfl)
  refine args_nil ⟨(X1.keeps F2.keep) _ _ k65, ?_⟩
  dsimp only
  refine told_parse (dp + 1) (un + 3) gd _ _ _ _ [envOf cn cs L a ccd] (ktrTop dp un gd cn cs L a ccd [] []) base g L' _ _ _ _ _ r tr mk t h₁.objs.size _ _ B1 F2 X1 N2 T1 rfl rp hlen hch (.head _) (by omega) (by omega) ?_ ?_ ?_
  · intro n hm hn h' tk' t1 t2 q F3 N3
    refine leaveS0_ F3 (fun x hx => N3 x hx) KtsTurn.refl fun F4 N4 => ?_
    exact hret _ _ q h' tk' (.num n t1 t2 hm hn) F4 (fun x hx => N4 x (by
      rcases List.mem_cons.mp hx with rfl | hx
      · exact .head _
      · exact .tail _ (.tail _ hx)))
  · intro hm G e t' h' tk' F3 R3 U3
    dsimp only
    refine' caught_SOB (g₀ := g) R3 F3 B1 U3 XB TB D1 KtsTurn.refl ?ex ?q ?_
    case ex => k_is
    case q => kts_isx
    intro h4 g' news₂ tk4 T4 F4 N4 G4 N5 K5 X5 P5 D5
    have N6 : News g' L' h4 (news₂ ++ _) := fun q hq => (List.mem_append.mp hq).elim (N4 q) (N5 q)
    refine wpAny_execs_cons ?_
    refine wpAny_Return_some ?_
    refine Tuple_ ?_
    refine args_cons ?_
    refine Constant_str ?_
    refine args_cons ?_
    refine Call_ ?_
    refine name_B F4 X5 (topRead_of P5) (by k_is) PyProof.Rows.boot_str (by decide) ?_
    refine PyProof.Rows.callWith_type1 ?_
    refine args_cons (ld F4 (v := .ref e) rfl (args_nil ?_))
    refine str_of_own (e := e) (t0 := t') (C := 56) (m := r) (tk := tr) (by show un + 3 + 2 < cLine; omega) ?_ ?_
    · obtain ⟨oe, ot, ws, nt, g1, g2, g3, g4, g5, g6, g7⟩ := G4
      refine ⟨⟨oe, ws, (N4 _ g1).1, g3, g4, g5⟩, ⟨ot, nt, (N4 _ g2).1, g6, g7⟩, fun M => (looks_findIn X5 ?_).keeps F4.keep, fun M => (looks_subIn X5 ?_).keeps F4.keep⟩
      · k_is
      · k_is
    refine args_nil ?_
    refine newTuple_N F4 N6 (fun h5 F5 N7 => ?_) (by rw [sizeLine_eq]; exact Nat.le_of_ble_eq_true rfl)
    dsimp only
    refine name_goes_keeps F5 N7 (fun h6 v6 F6 N8 => ?_)
    dsimp only
    refine leaveS0_ F6 N8 T4 fun F7 N9 => ?_
    exact hret _ _ _ _ _ (.proto _ _ hm) F7 (news_keep N9 fun y hy => List.mem_append_right _ (.tail _ hy))
  · intro hm hn G e h' tk' F3 R3 U3
    dsimp only
    refine kts_lookSN R3 F3 B1 U3 D1 (fun h4 R4 U4 => ?_)
    refine pass_SN R4 F3 B1 U4 XB TB D1 (by kts_test) (fun h5 R5 U5 => ?_)
    refine hit_SN0 (g₀ := g) R5 F3 B1 U5 XB TB D1 KtsTurn.refl (by kts_test) (fun h6 g' T6 F6 N6 K6 X6 P6 D6 => ?_)
    refine wpAny_execs_cons ?_
    refine wpAny_Return_some ?_
    refine Tuple_ ?_
    refine args_cons ?_
    refine Constant_str ?_
    refine args_cons ?_
    refine Constant_str ?_
    refine args_nil ?_
    refine newTuple_N F6 N6 (fun h7 F7 N7 => ?_) (by rw [sizeLine_eq]; exact Nat.le_of_ble_eq_true rfl)
    dsimp only
    refine leaveS0_ F7 N7 T6 fun F8 N9 => ?_
    exact hret _ _ _ _ _ (.value _ _ hm hn) F8 (news_keep N9 fun y hy => .tail _ hy)
end Mine
end

/-! L1 -/
section
open PySem PySem.W PyProof.Rows PySem.Calls
set_option Elab.async false
set_option maxRecDepth 100000
set_option linter.unusedVariables false
namespace Mine
abbrev adrs (l : List (Addr × Obj)) : List Addr := l.map fun p => p.1
section
variable {prog : Program} {w : World} {A : Around} {E : Value → Shared → Prop} {R : Result → Shared → Prop} {s : Shared}
/-- the invariant of a walked loop: frame map and ledger at each turn; the ledger's places stay -/
theorem forL {x : Str} {px : Pos} {body : List Stmt} {env : Env} {h₀ : Heap} {I : Addr} {fp wr : List Addr} {n : Nat} {P : Nat → Value → Prop} {St : Nat → Heap → Prop} {m : Str → Option Value}
    {news : List (Addr × Obj)} (W : Walks prog w A I fp wr n P St) (hx : env.kindOf x = some .local)
    (hp : (env.scope.kind == .class || (env.scope.kind == .module && env.locals != env.globals)) = false)
    (hLf : env.locals ∉ fp) (hwr : ∀ b ∈ wr, h₀.get? b = none) (hnw : ∀ q ∈ adrs news, q ∉ wr)
    (hst : St 0 s.heap) (F : Fr h₀ env.locals s.heap m) (N : News h₀ env.locals s.heap news)
    (J : Nat → (Str → Option Value) → List (Addr × Obj) → Prop) (h0 : J 0 m news)
    (step : ∀ i v m₁ news₁ own h tk, i < n → P i v → J i m₁ news₁ → adrs news₁ = adrs news → (∀ p ∈ own, p.1 ∈ fp) → Fr h₀ env.locals h (fun y => if y = x then some v else m₁ y) → News h₀ env.locals h (own ++ news₁) →
      wpC (model prog w) A (execs body env) (fun f s₂ => match f with
        | .ret v => R (.ok (.ret v)) s₂
        | .brk => R (.ok .next) s₂
        | _ => ∃ h' tk' m' news', s₂ = { s with heap := h', toks := tk' } ∧ Fr h₀ env.locals h' m' ∧ News h₀ env.locals h' (own ++ news') ∧ adrs news' = adrs news ∧ J (i + 1) m' news') (fun _ _ => False) { s with heap := h, toks := tk })
    (hR : ∀ h' tk m' news', Fr h₀ env.locals h' m' → News h₀ env.locals h' news' → adrs news' = adrs news → J n m' news' → R (.ok .next) { s with heap := h', toks := tk }) :
    codeC (model prog w) A (.forLoop (.Name x px) (.ref I) body [] env) R s := by
  have hLw : env.locals ∉ wr := fun h => hLf (W.sub _ h)
  have old : ∀ b o, h₀.get? b = some o → b ∉ wr := fun b o e hb => by rw [hwr b hb] at e; cases e
  refine codeC_forLoop (fun k s' => ∃ h' tk m' news' i, s' = { s with heap := h', toks := tk } ∧ St i h' ∧ Fr h₀ env.locals h' m' ∧ News h₀ env.locals h' news' ∧ adrs news' = adrs news ∧ J i m' news' ∧ i ≤ n ∧ k = n + 1 - i) ?_ (n + 1)
    ⟨s.heap, s.toks, m, news, 0, rfl, hst, F, N, rfl, h0, Nat.zero_le _, rfl⟩
  rintro k s' ⟨h', tk, m', news', i, rfl, hst', F', N', hadr, hJ, hi, rfl⟩
  have hnw' : ∀ p ∈ news', p.1 ∉ wr := fun p hp => hnw _ (hadr ▸ List.mem_map_of_mem hp)
  have next : ∀ h₁ : Heap, (∀ b o, b ∉ wr → h'.get? b = some o → h₁.get? b = some o) → Fr h₀ env.locals h₁ m' ∧ News h₀ env.locals h₁ news' := fun h₁ hk₁ =>
    ⟨⟨F'.ns.at' fun o e => hk₁ _ o hLw e, fun b o e => hk₁ b o (old b o e) (F'.keep b o e), F'.above⟩, fun p hp => ⟨hk₁ _ _ (hnw' p hp) (N' p hp).1, (N' p hp).2⟩⟩
  by_cases hlt : i < n
  · refine W.item i _ _ _ hlt hst' fun v h₁ tk₁ hP hst₁ hk₁ => ?_
    obtain ⟨F₁, N₁⟩ := next h₁ hk₁
    refine wpAny_assign_Name ?_
    refine wpAny_storeName_local hx F₁.ns (fun h₂ hn₂ hs₂ => ?_) hp
    have F₂ := F₁.set hn₂ hs₂
    have Nown : News h₀ env.locals h₂ (ownOf h₀ fp h₂) := news_ownOf hLf
    refine wpC_mono (step i v m' news' (ownOf h₀ fp h₂) h₂ _ hlt hP hJ hadr ownOf_sub F₂ (Nown.append (N₁.set hs₂))) (fun f s₃ h₃ => ?_) fun _ _ e => e
    have fin : (∃ (h' : Heap) (tk' : Nat) (m' : Str → Option Value) (news' : List (Addr × Obj)), s₃ = { s with heap := h', toks := tk' } ∧ Fr h₀ env.locals h' m' ∧ News h₀ env.locals h' (ownOf h₀ fp h₂ ++ news') ∧ adrs news' = adrs news ∧ J (i + 1) m' news') → _ := fun ⟨h₃', tk₃, m₂, news₃, e₃, F₃, N₃, ha₃, hJ₃⟩ =>
      (⟨n + 1 - (i + 1), by omega, h₃', tk₃, m₂, news₃, i + 1, e₃, by
        refine W.frame _ _ _ hst₁ fun b hb o e => ?_
        have e₂ : h₂.get? b = some o := (hs₂.2 b fun q => hLf (q ▸ hb)).trans e
        cases hn : h₀.get? b with
        | some o₀ =>
          have : o₀ = o := by have := F₂.keep b o₀ hn; rw [e₂] at this; exact (Option.some.inj this).symm
          exact this ▸ F₃.keep b o₀ hn
        | none => exact (N₃ _ (List.mem_append_left _ (mem_ownOf hb hn e₂))).1, F₃, N₃.right, ha₃, hJ₃, hlt, rfl⟩ :
        ∃ k', k' < n + 1 - i ∧ ∃ (h' : Heap) (tk : Nat) (m' : Str → Option Value) (news' : List (Addr × Obj)) (i : Nat), s₃ = { s with heap := h', toks := tk } ∧ St i h' ∧ Fr h₀ env.locals h' m' ∧ News h₀ env.locals h' news' ∧ adrs news' = adrs news ∧ J i m' news' ∧ i ≤ n ∧ k' = n + 1 - i)
    cases f with
    | ret v => exact h₃
    | brk => exact h₃
    | cont => exact fin h₃
    | next => exact fin h₃
  · have hin : i = n := by omega
    subst hin
    refine W.done _ _ _ hst' fun h₁ tk₁ hk₁ => ?_
    obtain ⟨F₁, N₁⟩ := next h₁ hk₁
    exact hR h₁ tk₁ m' news' F₁ N₁ hadr hJ

/-- a loop over a range -/
theorem forRange {x : Str} {px : Pos} {body : List Stmt} {env : Env} {h₀ : Heap} {r : Addr} {a b c : Int} {t u v : Tok} {n : Nat} {m : Str → Option Value} {news : List (Addr × Obj)} {Q : Flow → Shared → Prop} {M' : Model} {E' : Value → Shared → Prop}
    (hh : A.handled = none) (hr : IsRange s.heap r a b c t u v) (hsmall : Builtin.Range.small a b c = true) (hn : Builtin.Range.rangeSize a b c = (n : Int)) (hx : env.kindOf x = some .local)
    (hp : (env.scope.kind == .class || (env.scope.kind == .module && env.locals != env.globals)) = false) (F : Fr h₀ env.locals s.heap m) (N : News h₀ env.locals s.heap news)
    (J : Nat → (Str → Option Value) → List (Addr × Obj) → Prop) (h0 : J 0 m news)
    (step : ∀ i m₁ news₁ own h tk t', i < n → J i m₁ news₁ → adrs news₁ = adrs news → (∀ p ∈ own, p.1 ∉ adrs news) → Fr h₀ env.locals h (fun y => if y = x then some (.int (a + i * c) t') else m₁ y) → News h₀ env.locals h (own ++ news₁) →
      wpC (model prog w) A (execs body env) (fun f s₂ => match f with
        | .ret v => Q (.ret v) s₂
        | .brk => Q .next s₂
        | _ => ∃ h' tk' m' news', s₂ = { s with heap := h', toks := tk' } ∧ Fr h₀ env.locals h' m' ∧ News h₀ env.locals h' (own ++ news') ∧ adrs news' = adrs news ∧ J (i + 1) m' news') (fun _ _ => False) { s with heap := h, toks := tk })
    (hR : ∀ h' tk m' news', Fr h₀ env.locals h' m' → News h₀ env.locals h' news' → adrs news' = adrs news → J n m' news' → Q .next { s with heap := h', toks := tk }) :
    wpAny (model prog w) A (pyIter (.ref r)) (fun it s₂ => codeC (model prog w) A (.forLoop (.Name x px) it body [] env) (fun r s' => match r with | .ok f => Q f s' | .error e => cameBackBy M' A env E' e s') s₂) E s := by
  refine wpAny_pyIter_range hr hsmall ?_
  have hN : ∀ q ∈ adrs news, q ≠ s.heap.objs.size := fun q hq e => by
    obtain ⟨p, hp, rfl⟩ := List.mem_map.mp hq
    exact absurd (Heap.lt_size (N p hp).1) (e ▸ Nat.lt_irrefl _)
  refine forL (R := fun r s' => match r with | .ok f => Q f s' | .error e => cameBackBy M' A env E' e s') (Walks.range hh s.heap.objs.size a c n) hx hp (fun hm => absurd F.ns.lt ((List.mem_singleton.mp hm) ▸ Nat.lt_irrefl _)) (fun b hb => by rw [List.mem_singleton.mp hb]; exact next_is_new F)
    (fun q hq hm => hN q hq (List.mem_singleton.mp hm)) (by show IsRangeIter _ _ _ _ _; rw [hn]; simpa using Heap.get?_push_size _ rfl) (F.push _) (fun p hp => ⟨Heap.get?_push_of_some _ (N p hp).1, (N p hp).2⟩) J h0 ?_ ?_
  · rintro i v m₁ news₁ own h tk hi ⟨t', rfl⟩ hJ hadr hown F₁ N₁
    exact step i m₁ news₁ own h tk t' hi hJ hadr (fun p hp hm => hN _ hm (List.mem_singleton.mp (hown p hp))) F₁ N₁
  · intro h' tk m' news' F' N' ha hJ
    exact hR h' tk m' news' F' N' ha hJ
end
end Mine
end

/-! G1 -/
section
open PySem PySem.W PyProof.Rows PySem.Calls
set_option Elab.async false
set_option maxRecDepth 100000
set_option maxHeartbeats 8000000
set_option pp.maxSteps 20000
set_option linter.unusedVariables false
namespace Mine
variable {w : World} {p : Program} {loose : List Str} {mean : ExcName → Option Value} {mg mb : Str → Option Value}
abbrev letS (k : Int) : Str := Txt.item letters k
def rowA (k : Int) : List Str := [fig k, letS k]
def rowB (tw : Bool) (k : Int) : List Str := if tw then [letS k, Txt.mul (Str.ofString "+") (k.fdiv 5) ++ fig ((2 * k).fmod 10)] else [letS k, fig (k.fdiv 2) ++ Txt.mul (Str.ofString "-") (k.fmod 2)]
def rowC (k : Int) : List Str := [fig k ++ Str.ofString "+", fig (k + 1)]
def rowD (k : Int) : List Str := [Str.ofString "-" ++ fig k, fig (k + 5)]
def upTo (f : Int → List Str) (n : Nat) : List Str := (List.range n).flatMap fun (i : Nat) => f (i : Int)
theorem upTo_succ (f : Int → List Str) (n : Nat) : upTo f (n + 1) = upTo f n ++ f (n : Int) := by
  unfold upTo; rw [List.range_succ, List.flatMap_append]; simp
theorem upTo_len {f : Int → List Str} {k : Nat} (h : ∀ i, (f i).length = k) (n : Nat) : (upTo f n).length = n * k := by
  induction n with
  | zero => simp [upTo]
  | succ n ih => rw [upTo_succ, List.length_append, ih, h, Nat.succ_mul]
def rowS (tw : Bool) : List Str := if tw then upTo rowA 10 ++ upTo (rowB true) 10 ++ upTo (fun i => rowC (0 + i * 2)) 5 else upTo rowA 10 ++ upTo (rowB false) 10 ++ upTo rowD 5 ++ [Str.ofString "-", Str.ofString ""]

/-- row.extend of two texts -/
theorem ext_two {prog : Program} {A : Around} {E : Value → Shared → Prop} {s : Shared} {Q : Value → Shared → Prop} {g : Heap} {L l : Addr} {M : Str → Option Value} {own news : List (Addr × Obj)} {vs : List Value} {nn : Nat} {v1 v2 : Value} {ys zs : List Str}
    (F : Fr g L s.heap M) (N : News g L s.heap (own ++ (l, W.listOf vs.toArray nn) :: news)) (ho : ∀ q ∈ own, q.1 ≠ l) (hn : ∀ q ∈ news, q.1 ≠ l) (hl : vs.length ≤ 60) (hs : StrsAre vs ys) (hz : StrsAre [v1, v2] zs)
    (h : ∀ h' vs', Fr g L h' M → News g L h' (own ++ (l, W.listOf vs'.toArray (nn + 1)) :: news) → StrsAre vs' (ys ++ zs) → Q .none { s with heap := h' }) :
    wpAny (model prog w) A (newList [v1, v2]) (fun b s₁ => wpAny (model prog w) A (call (.builtin "list.extend") [.ref l, b]) Q E s₁) E s := by
  refine newList_N F N (fun h' F' N' => ?_) (by rw [sizeLine_eq]; exact Nat.le_of_ble_eq_true rfl)
  have hb : s.heap.objs.size ≠ l := fun e => by
    have z := Heap.lt_size (N (l, _) (List.mem_append_right _ (.head _))).1
    exact absurd z (by rw [← e]; exact Nat.lt_irrefl _)
  refine kl_extend (its := vs.toArray) (its2 := [v1, v2].toArray) (n2 := 0) (news := (s.heap.objs.size, W.listOf [v1, v2].toArray 0) :: (l, W.listOf vs.toArray nn) :: (own ++ news)) (news' := (s.heap.objs.size, W.listOf [v1, v2].toArray 0) :: (l, W.listOf (vs ++ [v1, v2]).toArray (nn + 1)) :: (own ++ news))
    F' ?_ (.head _) (by simp) (by simp) (.tail hb (.head fun q hq => (List.mem_append.mp hq).elim (ho q) (hn q))) (extend_door (by rw [sizeLine_eq]; simp; omega)) (by rw [sizeLine_eq]; simp; omega) (by rw [sizeLine_eq]; simp; omega) (fun h2 F2 N2 => ?_)
  · intro q hq
    refine N' q ?_
    rcases List.mem_cons.mp hq with rfl | hq
    · exact .head _
    · refine .tail _ ?_
      rcases List.mem_cons.mp hq with rfl | hq
      · exact List.mem_append_right _ (.head _)
      · exact (List.mem_append.mp hq).elim (List.mem_append_left _) fun z => List.mem_append_right _ (.tail _ z)
  · refine h h2 (vs ++ [v1, v2]) F2 (fun q hq => N2 q ?_) (hs.append' hz)
    refine .tail _ ?_
    rcases List.mem_append.mp hq with hq | hq
    · exact .tail _ (List.mem_append_left _ hq)
    · rcases List.mem_cons.mp hq with rfl | hq
      · exact .head _
      · exact .tail _ (List.mem_append_right _ hq)

def RowJ (tw : Bool) (l : Addr) (tl : Tok) (news : List (Addr × Obj)) (pt : Nat → List Str) (i : Nat) (m : Str → Option Value) (nl : List (Addr × Obj)) : Prop :=
  m (Str.ofString "twice") = some (.bool tw) ∧ m (Str.ofString "row") = some (.ref l) ∧ m (Str.ofString "letters") = some (.str letters tl) ∧ ∃ vs nn, StrsAre vs (pt i) ∧ nl = (l, W.listOf vs.toArray nn) :: news
theorem no_dict_list {g h : Heap} {L l : Addr} {vs : Array Value} {nn : Nat} {nl : List (Addr × Obj)} (N : News g L h nl) (hm : (l, W.listOf vs nn) ∈ nl) : h.NoDictAt (.ref l) := ⟨_, (N _ hm).1, rfl⟩
theorem own_off {l : Addr} {own nl nl' : List (Addr × Obj)} {o : Obj} (h : ∀ q ∈ own, q.1 ∉ adrs nl) (e : adrs nl' = adrs nl) (hm : (l, o) ∈ nl') : ∀ q ∈ own, q.1 ≠ l := fun q hq z => h q hq (z ▸ e ▸ List.mem_map_of_mem (f := fun p => p.1) hm)

theorem told_row (dp un : Nat) (gd : Option (List Code)) (cn : Str) (cs : Scope) (a : Addr) (ccd : Value) (outer : List Env) (A₀ : Around) (base h₀ : Heap) (L : Addr) (m : Str → Option Value) (news : List (Addr × Obj)) (s : Shared)
    (Q E : Value → Shared → Prop) (tw : Bool)
    (B : Below A₀ base outer h₀) (F : Fr h₀ L s.heap m) (X : (hdC.heap_39 w.params).In h₀) (N : News h₀ L s.heap news) (T : Top p loose mean mg mb h₀) (hk : cs.kind = .function)
    (hdp : dp + 3 < recursionLimit) (hu : un + 20 < cLine)
    (hret : ∀ l nn vs h' tk', StrsAre vs (rowS tw) → Fr h₀ L h' m → News h₀ L h' ((l, W.listOf vs.toArray nn) :: news) → Q (.ref l) { s with heap := h', toks := tk' }) :
    wpC (model PySem.Challenge.rw_pg0019_01.row.prog w) (ktrTop dp un gd cn cs L a ccd [] outer) (call (.ref 79) [.bool tw]) Q E s := by
  revert X; k_fill; intro X
  refine wpC_call ?_
  refine' codeC_def (binds := [(Str.ofString "twice", .bool tw)]) B F X N T rfl rfl hk ?k6 ?k7 ?kr ?kb ?kl ?_ ?c2 ?c3 ?c4 ?c5
  case k6 => k_is
  case k7 => k_is
  case kr => ktr_room
  case kb => exact BindsTo.of_eq rfl
  case kl => exact locs rfl
  case c2 => rfl
  case c3 => rfl
  case c4 => rfl
  case c5 => decide
  intro g L' h₁ FG F1 N1 B1 X1 T1
  refine wpC_execs_cons ?_
  refine wpC.of ?_
  refine wpAny_Assign_Name ?_
  refine Constant_str ?_
  refine stN F1 N1 (fun h2 F2 N2 => ?_)
  dsimp only
  refine wpC_execs_cons ?_
  refine wpC.of ?_
  refine wpAny_Assign_Name ?_
  refine List_ ?_
  refine args_nil ?_
  refine newList_N F2 N2 (fun h3 F3 N3 => stN F3 N3 (fun h4 F4 N4 => ?_)) (by rw [sizeLine_eq]; exact Nat.zero_le _)
  dsimp only
  generalize hel : h2.objs.size = l at F4 N4
  have hnl : ∀ q ∈ news, q.1 ≠ l := fun q hq e => absurd (Heap.lt_size (N2 q hq).1) (by rw [e, hel]; exact Nat.lt_irrefl _)
  obtain ⟨M, F5, m1, m2, tl, m3⟩ : ∃ M : Str → Option Value, Fr g L' h4 M ∧ M (Str.ofString "twice") = some (.bool tw) ∧ M (Str.ofString "row") = some (.ref l) ∧ ∃ tl, M (Str.ofString "letters") = some (.str letters tl) := ⟨_, F4, rfl, rfl, _, rfl⟩
  clear F4 F3 N3
  -- the first ten pairs
  refine wpC_execs_cons ?_
  refine wpC_For ?_
  refine Call_ ?_
  refine name_B F5 X1 (topRead_of T1) (by k_is) PyProof.Rows.boot_range (by decide) ?_
  refine PyProof.Rows.callWith_type1 ?_
  refine args_cons ?_
  refine wpAny_Constant_int ?_
  refine args_nil ?_
  refine call_range_1 ?_
  refine forRange (n := 10) rfl (Heap.get?_push_size _ rfl) (small_one (by omega) (by omega) (by omega) (by omega)) (by rw [rangeSize_one]; rfl) rfl rfl (F5.push _) (N4.pushKeep _) (RowJ tw l tl news (upTo rowA)) ⟨m1, m2, m3, [], 0, .nil, rfl⟩ ?_ ?_
  · rintro i M1 nl own h tk t' hi ⟨j1, j2, j3, vs, nn, hs, rfl⟩ hadr hown F6 N6
    have ho := own_off hown hadr (.head _)
    have hvl : vs.length ≤ 60 := by rw [hs.len_eq, upTo_len (k := 2) (fun _ => rfl)]; omega
    replace N6 : News g L' h (own ++ (l, W.listOf vs.toArray nn) :: news) := N6
    have hm : (l, W.listOf vs.toArray nn) ∈ own ++ (l, W.listOf vs.toArray nn) :: news := List.mem_append_right _ (.head _)
    have e0 : (0 : Int) + (i : Int) * 1 = i := by omega
    rw [e0] at F6
    obtain ⟨M2, F7, k1, k2, k3, k4⟩ : ∃ M : Str → Option Value, Fr g L' h M ∧ M (Str.ofString "twice") = some (.bool tw) ∧ M (Str.ofString "row") = some (.ref l) ∧ M (Str.ofString "letters") = some (.str letters tl) ∧ M (Str.ofString "figure") = some (.int i t') := ⟨_, F6, j1, j2, j3, if_pos rfl⟩
    clear F6
    refine wpC_execs_cons ?_
    refine wpC.of ?_
    refine wpAny_Expr ?_
    refine MethodCall_ ?_
    refine ld F7 k2 ?_
    refine getMethod_list_of PySem.F.slot_list_extend PySem.F.type_list_extend (News.isList N6 hm) (no_dict_list N6 hm) ?_
    refine callWith_method1 ?_
    refine args_cons ?_
    refine List_ ?_
    refine args_cons ?_
    refine Call_ ?_
    refine name_B F7 X1 (topRead_of T1) (by k_is) PyProof.Rows.boot_str (by decide) ?_
    refine PyProof.Rows.callWith_type1 ?_
    refine args_cons ?_
    refine ld F7 k4 ?_
    refine args_nil ?_
    refine P.str_of_int (shown100 (by omega) (by omega)) ?_
    refine args_cons ?_
    refine Subscript_ ?_
    refine ld F7 k3 ?_
    refine ld F7 k4 ?_
    refine item_str (fitsSsize_of (N := 9223372036854775808) (by omega) (by omega) (Int.le_refl _)) (by omega) (by show (i : Int) < (10 : Nat); omega) (fun _ => args_nil ?_)
    refine wpAny_mono ?_ (fun b s₁ z => args_nil z) (fun _ _ z => z)
    refine ext_two F7 N6 ho hnl hvl hs (.cons (fig i) _ (.cons (letS i) _ .nil)) ?_
    intro h7 vs' F8 N8 hs'
    refine wpC_execs_nil ⟨h7, _, M2, _, rfl, F8, N8, hadr, k1, k2, k3, vs', _, ?_, rfl⟩
    rw [upTo_succ]; exact hs'
  · rintro h5 tk5 M1 nl F6 N6 hadr ⟨j1, j2, j3, vs, nn, hs, rfl⟩
    dsimp only
    replace F6 : Fr g L' h5 M1 := F6
    replace N6 : News g L' h5 ((l, W.listOf vs.toArray nn) :: news) := N6
    clear hadr F5 m1 m2 m3
    refine wpC_execs_cons ?_
    refine wpC_For ?_
    refine Call_ ?_
    refine name_B F6 X1 (topRead_of T1) (by k_is) PyProof.Rows.boot_range (by decide) ?_
    refine PyProof.Rows.callWith_type1 ?_
    refine args_cons ?_
    refine wpAny_Constant_int ?_
    refine args_nil ?_
    refine call_range_1 ?_
    refine forRange (n := 10) rfl (Heap.get?_push_size _ rfl) (small_one (by omega) (by omega) (by omega) (by omega)) (by rw [rangeSize_one]; rfl) rfl rfl (F6.push _) (N6.pushKeep _) (RowJ tw l tl news (fun i => upTo rowA 10 ++ upTo (rowB tw) i)) ⟨j1, j2, j3, vs, nn, (by show StrsAre vs (_ ++ []); rw [List.append_nil]; exact hs), rfl⟩ ?_ ?_
    · rintro i M1 nl own h tk t' hi ⟨j1, j2, j3, vs, nn, hs, rfl⟩ hadr hown F6 N6
      have ho := own_off hown hadr (.head _)
      have hvl : vs.length ≤ 60 := by rw [hs.len_eq]; rw [List.length_append, upTo_len (k := 2) (fun _ => rfl), upTo_len (k := 2) (fun _ => by unfold rowB; split <;> rfl)]; omega
      replace N6 : News g L' h (own ++ (l, W.listOf vs.toArray nn) :: news) := N6
      have hm : (l, W.listOf vs.toArray nn) ∈ own ++ (l, W.listOf vs.toArray nn) :: news := List.mem_append_right _ (.head _)
      have e0 : (0 : Int) + (i : Int) * 1 = i := by omega
      rw [e0] at F6
      obtain ⟨M2, F7, k1, k2, k3, k4⟩ : ∃ M : Str → Option Value, Fr g L' h M ∧ M (Str.ofString "twice") = some (.bool tw) ∧ M (Str.ofString "row") = some (.ref l) ∧ M (Str.ofString "letters") = some (.str letters tl) ∧ M (Str.ofString "figure") = some (.int i t') := ⟨_, F6, j1, j2, j3, if_pos rfl⟩
      clear F6
      refine wpC_execs_cons ?_
      refine wpC.of ?_
      refine wpAny_If ?_
      refine isTrue_plain ?_
      refine ld F7 k1 ?_
      refine wpAny_truthy_bool ?_
      cases tw with
      | true =>
        refine ite_yes rfl ?_
        refine wpAny_execs_cons ?_
        refine wpAny_Expr ?_
        refine MethodCall_ ?_
        refine ld F7 k2 ?_
        refine getMethod_list_of PySem.F.slot_list_extend PySem.F.type_list_extend (News.isList N6 hm) (no_dict_list N6 hm) ?_
        refine callWith_method1 ?_
        refine args_cons ?_
        refine List_ ?_
        refine args_cons ?_
        refine Subscript_ ?_
        refine ld F7 k3 ?_
        refine ld F7 k4 ?_
        refine item_str (fitsSsize_of (N := 9223372036854775808) (by omega) (by omega) (Int.le_refl _)) (by omega) (by show (i : Int) < (10 : Nat); omega) (fun _ => ?_)
        refine args_cons ?_
        refine wpAny_BinOp ?_
        refine wpAny_BinOp ?_
        refine Constant_str ?_
        refine wpAny_BinOp ?_
        refine ld F7 k4 ?_
        refine wpAny_Constant_int ?_
        refine floordiv_int (by decide) ?_ (.inl (PyProof.noPylong_of_log2 (by decide +kernel)))
        refine SB.mul (mulOk_of 1 9 (Nat.le_refl 1) (by rw [Int.fdiv_eq_ediv_of_nonneg _ (by decide)]; omega) (by rw [Int.fdiv_eq_ediv_of_nonneg _ (by decide)]; omega) (by decide) (by decide)) (fun t8 k8 => Call_ ?_)
        refine name_B F7 X1 (topRead_of T1) (by k_is) PyProof.Rows.boot_str (by decide) ?_
        refine PyProof.Rows.callWith_type1 ?_
        refine args_cons ?_
        refine wpAny_BinOp ?_
        refine wpAny_BinOp ?_
        refine wpAny_Constant_int ?_
        refine ld F7 k4 ?_
        with_reducible refine mul2 ?_
        refine wpAny_Constant_int ?_
        refine mod_int' (by decide) ?_
        refine args_nil ?_
        have hm10 : (2 * (i : Int)).fmod 10 = (2 * i) % 10 := Int.fmod_eq_emod_of_nonneg _ (by decide)
        refine P.str_of_int (shown100 (by omega) (by omega)) ?_
        have lf : (fig ((2 * (i : Int)).fmod 10)).length ≤ 2 := len_fig (by omega) (by omega)
        refine add_str (y := fig ((2 * (i : Int)).fmod 10)) (fun t9 k9 => args_nil ?_) (by rw [sizeLine_eq]; have := len_mul_leN (x := Str.ofString "+") (n := (i : Int).fdiv 5) (L := 1) (N := 9) (Nat.le_refl 1) (by rw [Int.fdiv_eq_ediv_of_nonneg _ (by decide)]; omega); omega)
        refine wpAny_mono ?_ (fun b s₁ z => args_nil z) (fun _ _ z => z)
        refine ext_two F7 N6 ho hnl hvl hs (.cons (letS i) _ (.cons (Txt.mul (Str.ofString "+") ((i : Int).fdiv 5) ++ fig ((2 * (i : Int)).fmod 10)) _ .nil)) ?_
        intro h7 vs' F8 N8 hs'
        refine wpAny_execs_nil ?_
        refine wpC_execs_nil ⟨h7, _, M2, _, rfl, F8, N8, hadr, k1, k2, k3, vs', _, ?_, rfl⟩
        show StrsAre _ (_ ++ upTo _ (i + 1)); rw [upTo_succ _ i, ← List.append_assoc]; exact hs'
      | false =>
        refine ite_no rfl ?_
        refine wpAny_execs_cons ?_
        refine wpAny_Expr ?_
        refine MethodCall_ ?_
        refine ld F7 k2 ?_
        refine getMethod_list_of PySem.F.slot_list_extend PySem.F.type_list_extend (News.isList N6 hm) (no_dict_list N6 hm) ?_
        refine callWith_method1 ?_
        refine args_cons ?_
        refine List_ ?_
        refine args_cons ?_
        refine Subscript_ ?_
        refine ld F7 k3 ?_
        refine ld F7 k4 ?_
        refine item_str (fitsSsize_of (N := 9223372036854775808) (by omega) (by omega) (Int.le_refl _)) (by omega) (by show (i : Int) < (10 : Nat); omega) (fun _ => ?_)
        refine args_cons ?_
        refine wpAny_BinOp ?_
        refine Call_ ?_
        refine name_B F7 X1 (topRead_of T1) (by k_is) PyProof.Rows.boot_str (by decide) ?_
        refine PyProof.Rows.callWith_type1 ?_
        refine args_cons ?_
        refine wpAny_BinOp ?_
        refine ld F7 k4 ?_
        refine wpAny_Constant_int ?_
        refine floordiv_int (by decide) ?_ (.inl (PyProof.noPylong_of_log2 (by decide +kernel)))
        refine args_nil ?_
        have hm2 : (i : Int).fdiv 2 = i / 2 := Int.fdiv_eq_ediv_of_nonneg _ (by decide)
        refine P.str_of_int (shown100 (by omega) (by omega)) ?_
        refine wpAny_BinOp ?_
        refine Constant_str ?_
        refine wpAny_BinOp ?_
        refine ld F7 k4 ?_
        refine wpAny_Constant_int ?_
        refine mod_int' (by decide) ?_
        refine SB.mul (mulOk_of 1 9 (Nat.le_refl 1) (by rw [Int.fmod_eq_emod_of_nonneg _ (by decide)]; omega) (by rw [Int.fmod_eq_emod_of_nonneg _ (by decide)]; omega) (by decide) (by decide)) (fun t8 k8 => ?_)
        have lf : (fig ((i : Int).fdiv 2)).length ≤ 2 := len_fig (by omega) (by omega)
        refine add_str (x := fig ((i : Int).fdiv 2)) (fun t9 k9 => args_nil ?_) (by rw [sizeLine_eq]; have := len_mul_leN (x := Str.ofString "-") (n := (i : Int).fmod 2) (L := 1) (N := 9) (Nat.le_refl 1) (by rw [Int.fmod_eq_emod_of_nonneg _ (by decide)]; omega); omega)
        refine wpAny_mono ?_ (fun b s₁ z => args_nil z) (fun _ _ z => z)
        refine ext_two F7 N6 ho hnl hvl hs (.cons (letS i) _ (.cons (fig ((i : Int).fdiv 2) ++ Txt.mul (Str.ofString "-") ((i : Int).fmod 2)) _ .nil)) ?_
        intro h7 vs' F8 N8 hs'
        refine wpAny_execs_nil ?_
        refine wpC_execs_nil ⟨h7, _, M2, _, rfl, F8, N8, hadr, k1, k2, k3, vs', _, ?_, rfl⟩
        show StrsAre _ (_ ++ upTo _ (i + 1)); rw [upTo_succ _ i, ← List.append_assoc]; exact hs'
    · rintro h6 tk6 M2 nl F7 N7 hadr ⟨j1, j2, j3, vs, nn, hs, rfl⟩
      dsimp only
      replace F7 : Fr g L' h6 M2 := F7
      replace N7 : News g L' h6 ((l, W.listOf vs.toArray nn) :: news) := N7
      clear hadr F6 N6
      refine wpC_execs_cons ?_
      refine wpC_If ?_
      refine wpC.of ?_
      refine isTrue_plain ?_
      refine ld F7 j1 ?_
      refine wpAny_truthy_bool ?_
      cases tw with
      | true =>
        refine ite_yes rfl ?_
        refine wpC_execs_cons ?_
        refine wpC_For ?_
        refine Call_ ?_
        refine name_B F7 X1 (topRead_of T1) (by k_is) PyProof.Rows.boot_range (by decide) ?_
        refine PyProof.Rows.callWith_type1 ?_ rfl rfl
        refine args_cons ?_
        refine wpAny_Constant_int ?_
        refine args_cons ?_
        refine wpAny_Constant_int ?_
        refine args_cons ?_
        refine wpAny_Constant_int ?_
        refine args_nil ?_
        refine call_range_3 (by decide) ?_ (.inl (PyProof.noPylong_small (by decide)))
        refine forRange (n := 5) rfl (Heap.get?_push_size _ rfl) (by decide +kernel) (by decide +kernel) rfl rfl (F7.push _) (N7.pushKeep _) (RowJ true l tl news (fun i => upTo rowA 10 ++ upTo (rowB true) 10 ++ upTo (fun i => rowC (0 + i * 2)) i)) ⟨j1, j2, j3, vs, nn, (by show StrsAre vs (_ ++ []); rw [List.append_nil]; exact hs), rfl⟩ ?_ ?_
        · rintro i M1 nl own h tk t' hi ⟨j1, j2, j3, vs, nn, hs, rfl⟩ hadr hown F6 N6
          have ho := own_off hown hadr (.head _)
          have hvl : vs.length ≤ 60 := by rw [hs.len_eq]; rw [List.length_append, List.length_append, upTo_len (k := 2) (fun _ => rfl), upTo_len (k := 2) (fun _ => rfl), upTo_len (k := 2) (fun _ => rfl)]; omega
          replace N6 : News g L' h (own ++ (l, W.listOf vs.toArray nn) :: news) := N6
          have hm : (l, W.listOf vs.toArray nn) ∈ own ++ (l, W.listOf vs.toArray nn) :: news := List.mem_append_right _ (.head _)
          skip
          obtain ⟨M2, F7, k1, k2, k3, k4⟩ : ∃ M : Str → Option Value, Fr g L' h M ∧ M (Str.ofString "twice") = some (.bool true) ∧ M (Str.ofString "row") = some (.ref l) ∧ M (Str.ofString "letters") = some (.str letters tl) ∧ M (Str.ofString "figure") = some (.int (0 + i * 2) t') := ⟨_, F6, j1, j2, j3, if_pos rfl⟩
          clear F6
          refine wpC_execs_cons ?_
          refine wpC.of ?_
          refine wpAny_Expr ?_
          refine MethodCall_ ?_
          refine ld F7 k2 ?_
          refine getMethod_list_of PySem.F.slot_list_extend PySem.F.type_list_extend (News.isList N6 hm) (no_dict_list N6 hm) ?_
          refine callWith_method1 ?_
          refine args_cons ?_
          refine List_ ?_
          refine args_cons ?_
          refine wpAny_BinOp ?_
          refine Call_ ?_
          refine name_B F7 X1 (topRead_of T1) (by k_is) PyProof.Rows.boot_str (by decide) ?_
          refine PyProof.Rows.callWith_type1 ?_
          refine args_cons ?_
          refine ld F7 k4 ?_
          refine args_nil ?_
          refine P.str_of_int (shown100 (by omega) (by omega)) ?_
          have lf : (fig (0 + (i : Int) * 2)).length ≤ 2 := len_fig (by omega) (by omega)
          refine Constant_str ?_
          refine add_str (x := fig (0 + (i : Int) * 2)) (fun t9 k9 => args_cons (Call_ ?_)) (by rw [sizeLine_eq]; show _ + 1 ≤ _; omega)
          refine name_B F7 X1 (topRead_of T1) (by k_is) PyProof.Rows.boot_str (by decide) ?_
          refine PyProof.Rows.callWith_type1 ?_
          refine args_cons ?_
          refine wpAny_BinOp ?_
          refine ld F7 k4 ?_
          refine wpAny_Constant_int ?_
          with_reducible refine add_int ?_
          refine args_nil ?_
          refine P.str_of_int (shown100 (by omega) (by omega)) ?_
          refine args_nil ?_
          refine wpAny_mono ?_ (fun b s₁ z => args_nil z) (fun _ _ z => z)
          refine ext_two F7 N6 ho hnl hvl hs (.cons (fig (0 + (i : Int) * 2) ++ Str.ofString "+") _ (.cons (fig (0 + (i : Int) * 2 + 1)) _ .nil)) ?_
          intro h7 vs' F8 N8 hs'
          refine wpC_execs_nil ⟨h7, _, M2, _, rfl, F8, N8, hadr, k1, k2, k3, vs', _, ?_, rfl⟩
          show StrsAre _ (_ ++ upTo _ (i + 1)); rw [upTo_succ _ i, ← List.append_assoc]; exact hs'
        · rintro h7 tk7 M3 nl F8 N8 hadr ⟨j1, j2, j3, vs, nn, hs, rfl⟩
          dsimp only
          refine wpC_execs_cons ?_
          refine wpC.of ?_
          refine wpAny_Return_some ?_
          refine ld F8 j2 ?_
          refine leaveK_ F8 N8 fun F9 N9 => ?_
          exact hret l nn vs _ _ hs F9 N9
      | false =>
        refine ite_no rfl ?_
        refine wpC_execs_nil ?_
        dsimp only
        refine wpC_execs_cons ?_
        refine wpC_For ?_
        refine Call_ ?_
        refine name_B F7 X1 (topRead_of T1) (by k_is) PyProof.Rows.boot_range (by decide) ?_
        refine PyProof.Rows.callWith_type1 ?_
        refine args_cons ?_
        refine wpAny_Constant_int ?_
        refine args_nil ?_
        refine call_range_1 ?_
        refine forRange (n := 5) rfl (Heap.get?_push_size _ rfl) (small_one (by omega) (by omega) (by omega) (by omega)) (by rw [rangeSize_one]; rfl) rfl rfl (F7.push _) (N7.pushKeep _) (RowJ false l tl news (fun i => upTo rowA 10 ++ upTo (rowB false) 10 ++ upTo rowD i)) ⟨j1, j2, j3, vs, nn, (by show StrsAre vs (_ ++ []); rw [List.append_nil]; exact hs), rfl⟩ ?_ ?_
        · rintro i M1 nl own h tk t' hi ⟨j1, j2, j3, vs, nn, hs, rfl⟩ hadr hown F6 N6
          have ho := own_off hown hadr (.head _)
          have hvl : vs.length ≤ 60 := by rw [hs.len_eq]; rw [List.length_append, List.length_append, upTo_len (k := 2) (fun _ => rfl), upTo_len (k := 2) (fun _ => rfl), upTo_len (k := 2) (fun _ => rfl)]; omega
          replace N6 : News g L' h (own ++ (l, W.listOf vs.toArray nn) :: news) := N6
          have hm : (l, W.listOf vs.toArray nn) ∈ own ++ (l, W.listOf vs.toArray nn) :: news := List.mem_append_right _ (.head _)
          have e0 : (0 : Int) + (i : Int) * 1 = i := by omega
          rw [e0] at F6
          obtain ⟨M2, F7, k1, k2, k3, k4⟩ : ∃ M : Str → Option Value, Fr g L' h M ∧ M (Str.ofString "twice") = some (.bool false) ∧ M (Str.ofString "row") = some (.ref l) ∧ M (Str.ofString "letters") = some (.str letters tl) ∧ M (Str.ofString "figure") = some (.int i t') := ⟨_, F6, j1, j2, j3, if_pos rfl⟩
          clear F6
          refine wpC_execs_cons ?_
          refine wpC.of ?_
          refine wpAny_Expr ?_
          refine MethodCall_ ?_
          refine ld F7 k2 ?_
          refine getMethod_list_of PySem.F.slot_list_extend PySem.F.type_list_extend (News.isList N6 hm) (no_dict_list N6 hm) ?_
          refine callWith_method1 ?_
          refine args_cons ?_
          refine List_ ?_
          refine args_cons ?_
          refine wpAny_BinOp ?_
          refine Constant_str ?_
          refine Call_ ?_
          refine name_B F7 X1 (topRead_of T1) (by k_is) PyProof.Rows.boot_str (by decide) ?_
          refine PyProof.Rows.callWith_type1 ?_
          refine args_cons ?_
          refine ld F7 k4 ?_
          refine args_nil ?_
          refine P.str_of_int (shown100 (by omega) (by omega)) ?_
          have lf : (fig (i : Int)).length ≤ 2 := len_fig (by omega) (by omega)
          refine add_str (y := fig (i : Int)) (fun t9 k9 => args_cons (Call_ ?_)) (by rw [sizeLine_eq]; show 1 + _ ≤ _; omega)
          refine name_B F7 X1 (topRead_of T1) (by k_is) PyProof.Rows.boot_str (by decide) ?_
          refine PyProof.Rows.callWith_type1 ?_
          refine args_cons ?_
          refine wpAny_BinOp ?_
          refine ld F7 k4 ?_
          refine wpAny_Constant_int ?_
          with_reducible refine add_int ?_
          refine args_nil ?_
          refine P.str_of_int (shown100 (by omega) (by omega)) ?_
          refine args_nil ?_
          refine wpAny_mono ?_ (fun b s₁ z => args_nil z) (fun _ _ z => z)
          refine ext_two F7 N6 ho hnl hvl hs (.cons (Str.ofString "-" ++ fig (i : Int)) _ (.cons (fig ((i : Int) + 5)) _ .nil)) ?_
          intro h7 vs' F8 N8 hs'
          refine wpC_execs_nil ⟨h7, _, M2, _, rfl, F8, N8, hadr, k1, k2, k3, vs', _, ?_, rfl⟩
          show StrsAre _ (_ ++ upTo _ (i + 1)); rw [upTo_succ _ i, ← List.append_assoc]; exact hs'
        · rintro h7 tk7 M3 nl F8 N8 hadr ⟨j1, j2, j3, vs, nn, hs, rfl⟩
          dsimp only
          replace F8 : Fr g L' h7 M3 := F8
          replace N8 : News g L' h7 ((l, W.listOf vs.toArray nn) :: news) := N8
          refine wpC_execs_cons ?_
          refine wpC.of ?_
          refine wpAny_Return_some ?_
          refine wpAny_BinOp ?_
          refine ld F8 j2 ?_
          refine List_ ?_
          refine args_cons ?_
          refine Constant_str ?_
          refine args_cons ?_
          refine Constant_str ?_
          refine args_nil ?_
          refine newList_N F8 N8 (fun h8 F9 N9 => ?_) (by rw [sizeLine_eq]; exact Nat.le_of_ble_eq_true rfl)
          have hvl : vs.length ≤ 60 := by rw [hs.len_eq, List.length_append, List.length_append, upTo_len (k := 2) (fun _ => rfl), upTo_len (k := 2) (fun _ => rfl), upTo_len (k := 2) (fun _ => rfl)]; decide
          refine kmk_add_lit F9 N9 (News.isList N9 (.tail _ (.head _))) (News.isList N9 (.head _)) rfl (fun D h9 F10 N10 _ => ?_) (by rw [sizeLine_eq]; simp; omega)
          refine leaveK_ F10 N10 fun F11 N11 => ?_
          refine hret D 0 _ _ _ (hs.append' (.cons _ _ (.cons _ _ .nil))) F11 (news_keep N11 fun y hy => .tail _ (.tail _ hy))
end Mine
end

/-! S2 -/
section
open PySem PySem.W PyProof.Rows PySem.Calls PySem.Builtin PySem.Builtin.Str
set_option Elab.async false
set_option maxRecDepth 100000
set_option linter.unusedVariables false
namespace Mine
/-- two signs turned wherever they stand side by side, from the left -/
noncomputable def rep2 (a b : Nat) (z : List Nat) : List Nat → List Nat
  | x :: y :: r => if x = a ∧ y = b then z ++ rep2 a b z r else x :: rep2 a b z (y :: r)
  | l => l
theorem rep2_pass {a b : Nat} {z : List Nat} {x : Nat} {r : List Nat} (h : ¬ (x = a ∧ r.head? = some b)) : rep2 a b z (x :: r) = x :: rep2 a b z r := by
  cases r with
  | nil => rfl
  | cons y r => rw [rep2, if_neg (fun e => h ⟨e.1, by rw [e.2]; rfl⟩)]
theorem rep2_hit {a b : Nat} {z r : List Nat} : rep2 a b z (a :: b :: r) = z ++ rep2 a b z r := by rw [rep2, if_pos ⟨rfl, rfl⟩]

variable {x : Str} {a b : Nat}
theorem at_two (k : Nat) : StrLaws.At x ⟨#[a, b]⟩ x.length k ↔ (x.cps.toList.drop k).take 2 = [a, b] := by
  unfold StrLaws.At
  rw [StrLaws.subAt_eq, beq_iff_eq]
  show k + 2 ≤ x.length ∧ _ ↔ _
  constructor
  · exact fun h => h.2
  · intro h
    refine ⟨?_, h⟩
    have e := congrArg List.length h
    simp at e
    have := len_toList x
    simp at this
    omega
theorem rep2_to {z : List Nat} : ∀ (n s : Nat), (∀ k, s ≤ k → k < s + n → ¬ StrLaws.At x ⟨#[a, b]⟩ x.length k) → rep2 a b z (x.cps.toList.drop s) = (x.cps.toList.drop s).take n ++ rep2 a b z (x.cps.toList.drop (s + n))
  | 0, s, _ => by simp
  | n + 1, s, h => by
    have ih := rep2_to (z := z) n (s + 1) (fun k h1 h2 => h k (by omega) (by omega))
    have h0 := h s (Nat.le_refl _) (by omega)
    rw [at_two] at h0
    have e1 : x.cps.toList.drop (s + 1) = (x.cps.toList.drop s).tail := by simp [List.tail_drop]
    rw [show s + 1 + n = s + (n + 1) by omega] at ih
    cases hd : x.cps.toList.drop s with
    | nil =>
      have : x.cps.toList.drop (s + (n + 1)) = [] := by
        rw [← List.drop_drop, hd]; simp
      rw [this]; rfl
    | cons y r =>
      rw [hd] at e1 h0
      rw [e1] at ih
      rw [rep2_pass (fun e => h0 (by
        obtain ⟨rfl, e2⟩ := e
        cases r with
        | nil => cases e2
        | cons q r => cases e2; rfl)), List.take_succ_cons, List.cons_append]
      exact congrArg _ ih
theorem chain_rep {z : Str} : ∀ (cuts : List Nat) (s f : Nat), s ≤ x.length → StrLaws.ChainG x ⟨#[a, b]⟩ x.length s cuts f → (∀ k, f ≤ k → ¬ StrLaws.At x ⟨#[a, b]⟩ x.length k) →
    (Str.join z (StrLaws.partsFrom x 2 s cuts)).cps.toList = rep2 a b z.cps.toList (x.cps.toList.drop s)
  | [], s, f, hs, h, hn => by
    have e : f = s := h
    subst e
    have := rep2_to (x := x) (a := a) (b := b) (z := z.cps.toList) (x.length - f) f (fun k h1 _ => hn k h1)
    rw [this, show f + (x.length - f) = x.length by omega]
    have e2 : x.cps.toList.drop x.length = [] := List.drop_eq_nil_of_le (by rw [len_toList]; exact Nat.le_refl _)
    rw [e2]
    show (strSub x f x.length).cps.toList = _ ++ []
    rw [StrLaws.strSub_toList, List.append_nil]
  | c :: r, s, f, hs, h, hn => by
    obtain ⟨h1, h2, h3, h4⟩ := h
    have hc : c + 2 ≤ x.length := h2.1
    have ih := chain_rep (z := z) r (c + 2) f hc h4 hn
    have hd : x.cps.toList.drop c = a :: b :: x.cps.toList.drop (c + 2) := by
      have e := (at_two c).mp h2
      have e3 := List.take_append_drop 2 (x.cps.toList.drop c)
      rw [e, List.drop_drop] at e3
      exact e3.symm
    have := rep2_to (x := x) (a := a) (b := b) (z := z.cps.toList) (c - s) s (fun k q1 q2 => h3 k q1 (by omega))
    rw [this, show s + (c - s) = c by omega, hd, rep2_hit, ← ih]
    obtain ⟨p, t, e⟩ := StrLaws.partsFrom_ne x 2 (c + 2) r
    show (Str.join z (strSub x s c :: StrLaws.partsFrom x 2 (c + 2) r)).cps.toList = _
    rw [e]
    show (strSub x s c ++ z ++ Str.join z (p :: t)).cps.toList = _
    rw [app_toList, app_toList, StrLaws.strSub_toList, List.append_assoc]
theorem join_split_two (x z : Str) (a b : Nat) (ha : a < 256) (hb : b < 256) : (Txt.join z (Txt.split x ⟨#[a, b]⟩)).cps.toList = rep2 a b z.cps.toList x.cps.toList := by
  obtain ⟨f, hG, hn⟩ := StrLaws.occ_tight x ⟨#[a, b]⟩ (by show 1 ≤ 2; omega)
  show (glued z (Txt.split x ⟨#[a, b]⟩)).cps.toList = _
  rw [StrLaws.glued_eq_join]
  have none_ : occurrences x ⟨#[a, b]⟩ 0 x.length (x.length + 1) = [] → (Str.join z [x]).cps.toList = rep2 a b z.cps.toList x.cps.toList := fun e0 => by
    rw [e0] at hG
    have := chain_rep (z := z) [] 0 f (Nat.zero_le _) hG hn
    rw [List.drop_zero] at this
    rw [← this]
    show x.cps.toList = (strSub x 0 x.length).cps.toList
    rw [StrLaws.sub_whole]
  unfold Txt.split
  split
  · rename_i hc
    rw [Bool.or_eq_true, decide_eq_true_eq, decide_eq_true_eq] at hc
    rcases hc with h | h
    · refine none_ ?_
      cases hcut : occurrences x ⟨#[a, b]⟩ 0 x.length (x.length + 1) with
      | nil => rfl
      | cons c r =>
        rw [hcut] at hG
        have := hG.2.1.1
        omega
    · exfalso
      have k : strKind (⟨#[a, b]⟩ : Str) ≤ strKind x := by
        have e : (#[a, b] : Array Nat).all (· < 256) = true := by simp [ha, hb]
        unfold Builtin.Str.strKind
        simp only [e, if_true]
        split
        · omega
        · split <;> omega
      omega
  · split
    · rename_i he
      exact none_ (List.isEmpty_iff.mp he)
    · rw [StrLaws.partsBetween_eq]
      have := chain_rep (z := z) _ 0 f (Nat.zero_le _) hG hn
      rw [List.drop_zero] at this
      exact this
end Mine
end

/-! V1 -/
section
open PySem PySem.W PyProof.Rows PySem.Calls
set_option Elab.async false
set_option maxRecDepth 100000
set_option linter.unusedVariables false
namespace Mine
/-! the texts on the way, as lists of signs -/
def dC (bit d : Nat) : List Nat → Bool
  | [] => bit == 1
  | g :: _ => decide (4 < g) && decide (10 + g < d)
def dP (d f : Nat) (c : Bool) : Nat × Bool :=
  if d ≤ f then (48 + f, c) else if d ≤ 10 + f then (97 + f, c) else if c && decide (20 + f % 5 < d) then (48 + 2 * f % 10 + 1, false) else (48 + 2 * f % 10, c)
def plus (c : Bool) : List Nat := if c then [43] else []
def minus (c : Bool) : List Nat := if c then [45] else []
noncomputable def dL (bit d : Nat) : List Nat → List Nat
  | [] => []
  | f :: r => (dP d f (dC bit d r)).1 :: (plus (dP d f (dC bit d r)).2 ++ dL bit d r)
def hP (d f : Nat) (o : Bool) : Nat × Bool :=
  if d ≤ f then (48 + f, o) else if d ≤ 10 + f then (97 + f, o) else if o && decide (20 + f / 2 < d) then (48 + f / 2 + 5, false) else (48 + f / 2, o)
def hO (d f : Nat) : Bool := f % 2 == 1 && decide (10 + f < d)
noncomputable def hL (d : Nat) : Bool → List Nat → List Nat
  | o, [] => minus (o && decide (d < 26))
  | o, f :: r => minus (hP d f o).2 ++ (hP d f o).1 :: hL d (hO d f) r

theorem fig_list : ∀ k : Nat, k < 10 → (fig (k : Int)).cps.toList = [48 + k] := by decide +kernel
theorem let_list : ∀ k : Nat, k < 10 → (Txt.item letters (k : Int)).cps.toList = [97 + k] := by decide +kernel
abbrev natInts (ns : List Nat) : List Int := ns.map fun (n : Nat) => (n : Int)

theorem dpiece_list {d f : Nat} (hf : f < 10) (c : Bool) : (dpiece (d : Int) (f : Int) c).1.cps.toList = [(dP d f c).1] ∧ (dpiece (d : Int) (f : Int) c).2 = (dP d f c).2 := by
  unfold dpiece dP
  have e5 : (f : Int).fmod 5 = ((f % 5 : Nat) : Int) := by rw [Int.fmod_eq_emod_of_nonneg _ (by decide)]; omega
  have e10 : (2 * (f : Int)).fmod 10 = ((2 * f % 10 : Nat) : Int) := by rw [Int.fmod_eq_emod_of_nonneg _ (by decide)]; omega
  by_cases h1 : d ≤ f
  · rw [if_pos (by omega), if_pos h1]; exact ⟨fig_list f hf, rfl⟩
  · rw [if_neg (by omega), if_neg h1]
    by_cases h2 : d ≤ 10 + f
    · rw [if_pos (by omega), if_pos h2]; exact ⟨let_list f hf, rfl⟩
    · rw [if_neg (by omega), if_neg h2, e5, e10]
      have e : decide (20 + ((f % 5 : Nat) : Int) < (d : Int)) = decide (20 + f % 5 < d) := by
        rw [decide_eq_decide]; omega
      rw [e]
      cases hc : (c && decide (20 + f % 5 < d)) with
      | true => exact ⟨by
          rw [if_pos rfl, if_pos rfl]
          show (fig (((2 * f % 10 : Nat) : Int) + 1)).cps.toList = _
          rw [show (((2 * f % 10 : Nat) : Int) + 1) = ((2 * f % 10 + 1 : Nat) : Int) by omega, fig_list _ (by omega)]
          rfl, rfl⟩
      | false => exact ⟨fig_list _ (by omega), rfl⟩

theorem dput_list (x : Str) (p : Str × Bool) : (dput x p).cps.toList = x.cps.toList ++ (p.1.cps.toList ++ plus p.2) := by
  unfold dput plus
  cases p.2 with
  | true => rw [if_pos rfl, if_pos rfl, app_toList, app_toList, List.append_assoc]; rfl
  | false => rw [if_neg (by decide), if_neg (by decide), app_toList, List.append_nil]

theorem rangeKs_cons (a : Int) (n : Nat) : rangeKs a (n + 1) = a :: rangeKs (a + 1) n := by
  unfold rangeKs
  rw [List.range_succ_eq_map, List.map_cons, List.map_map]
  congr 1
  · simp
  · apply List.map_congr_left
    intro k hk
    show a + ((k + 1 : Nat) : Int) = a + 1 + (k : Int)
    omega

theorem doubling_go (bit d : Nat) (ns : List Nat) (hd : ∀ f ∈ ns, f < 10) : ∀ (suf pre : List Nat) (x : Str), ns = pre ++ suf → ((rangeKs (pre.length : Int) suf.length).foldl (dstep (natInts ns) (bit : Int) (d : Int)) x).cps.toList = x.cps.toList ++ dL bit d suf
  | [], pre, x, e => by simp [rangeKs, dL]
  | f :: r, pre, x, e => by
    have hf : f < 10 := hd f (by rw [e]; simp)
    rw [List.length_cons, rangeKs_cons, List.foldl_cons]
    have ih := doubling_go bit d ns hd r (pre ++ [f]) (dstep (natInts ns) (bit : Int) (d : Int) x (pre.length : Int)) (by rw [e]; simp)
    rw [show (((pre ++ [f]).length : Nat) : Int) = (pre.length : Int) + 1 by simp] at ih
    rw [ih]
    unfold dstep
    have e1 : (natInts ns).getD (pre.length : Int).toNat 0 = (f : Int) := by
      rw [Int.toNat_natCast, e]; simp [natInts, List.getD_eq_getElem?_getD]
    have e2 : dcarry (natInts ns) (bit : Int) (d : Int) (pre.length : Int).toNat = dC bit d r := by
      rw [Int.toNat_natCast]
      unfold dcarry
      have : (natInts ns)[pre.length + 1]? = (natInts r)[0]? := by
        rw [e, natInts, List.map_append, List.map_cons, List.getElem?_append_right (by simp)]; simp [natInts]
      rw [this]
      cases r with
      | nil =>
        show ((bit : Int) == 1) = (bit == 1)
        rw [Bool.eq_iff_iff, beq_iff_eq, beq_iff_eq]; omega
      | cons g r =>
        show (decide (4 < (g : Int)) && decide (10 + (g : Int) < (d : Int))) = (decide (4 < g) && decide (10 + g < d))
        congr 1 <;> rw [decide_eq_decide] <;> omega
    rw [e1, e2, dput_list]
    obtain ⟨p1, p2⟩ := dpiece_list (d := d) hf (dC bit d r)
    rw [p1, p2, List.append_assoc]
    rfl
theorem doubling_list (bit d : Nat) (ns : List Nat) (hd : ∀ f ∈ ns, f < 10) : (doublingS (natInts ns) (bit : Int) (d : Int)).cps.toList = dL bit d ns := by
  have := doubling_go bit d ns hd ns [] (Str.ofString "") rfl
  unfold doublingS
  rw [show (natInts ns).length = ns.length by simp [natInts]]
  exact this

theorem hpiece_list {d f : Nat} (hf : f < 10) (o : Bool) : (hpiece (d : Int) (f : Int) o).1.cps.toList = [(hP d f o).1] ∧ (hpiece (d : Int) (f : Int) o).2 = (hP d f o).2 := by
  unfold hpiece hP
  have e2 : (f : Int).fdiv 2 = ((f / 2 : Nat) : Int) := by rw [Int.fdiv_eq_ediv_of_nonneg _ (by decide)]; omega
  by_cases h1 : d ≤ f
  · rw [if_pos (by omega), if_pos h1]; exact ⟨fig_list f hf, rfl⟩
  · rw [if_neg (by omega), if_neg h1]
    by_cases h2 : d ≤ 10 + f
    · rw [if_pos (by omega), if_pos h2]; exact ⟨let_list f hf, rfl⟩
    · rw [if_neg (by omega), if_neg h2, e2]
      have e : decide (20 + ((f / 2 : Nat) : Int) < (d : Int)) = decide (20 + f / 2 < d) := by
        rw [decide_eq_decide]; omega
      rw [e]
      cases hc : (o && decide (20 + f / 2 < d)) with
      | true => exact ⟨by
          rw [if_pos rfl, if_pos rfl]
          show (fig (((f / 2 : Nat) : Int) + 5)).cps.toList = _
          rw [show (((f / 2 : Nat) : Int) + 5) = ((f / 2 + 5 : Nat) : Int) by omega, fig_list _ (by omega)]
          rfl, rfl⟩
      | false => exact ⟨fig_list _ (by omega), rfl⟩
theorem halving_go (d : Nat) : ∀ (ns : List Nat) (hd : ∀ f ∈ ns, f < 10) (x : Str) (o : Bool),
    (let st := (natInts ns).foldl (hstep (d : Int)) (x, o); (if st.2 && decide ((d : Int) < 26) then st.1 ++ Str.ofString "-" else st.1).cps.toList) = x.cps.toList ++ hL d o ns
  | [], hd, x, o => by
    have e : decide ((d : Int) < 26) = decide (d < 26) := by rw [decide_eq_decide]; omega
    show (if (o && decide ((d : Int) < 26)) = true then x ++ Str.ofString "-" else x).cps.toList = x.cps.toList ++ minus (o && decide (d < 26))
    rw [e]
    cases (o && decide (d < 26)) with
    | true => rw [if_pos rfl, app_toList]; rfl
    | false => rw [if_neg (by decide)]; simp [minus]
  | f :: r, hd, x, o => by
    have hf : f < 10 := hd f (by simp)
    have ih := halving_go d r (fun g hg => hd g (by simp [hg])) (hstep (d : Int) (x, o) (f : Int)).1 (hstep (d : Int) (x, o) (f : Int)).2
    rw [show natInts (f :: r) = (f : Int) :: natInts r from rfl, List.foldl_cons]
    have e0 : (hstep (d : Int) (x, o) (f : Int)).2 = hO d f := by
      show ((f : Int).fmod 2 == 1 && decide (10 + (f : Int) < (d : Int))) = (f % 2 == 1 && decide (10 + f < d))
      congr 1
      · rw [Int.fmod_eq_emod_of_nonneg _ (by decide), Bool.eq_iff_iff, beq_iff_eq, beq_iff_eq]; omega
      · rw [decide_eq_decide]; omega
    refine ih.trans ?_
    rw [e0]
    obtain ⟨p1, p2⟩ := hpiece_list (d := d) hf o
    show ((if (hpiece (d : Int) (f : Int) o).2 = true then x ++ Str.ofString "-" else x) ++ (hpiece (d : Int) (f : Int) o).1).cps.toList ++ _ = x.cps.toList ++ (minus (hP d f o).2 ++ (hP d f o).1 :: hL d (hO d f) r)
    rw [app_toList, p1, p2]
    cases (hP d f o).2 with
    | true => rw [if_pos rfl, app_toList]; simp [minus]; rfl
    | false => rw [if_neg (by decide)]; simp [minus]
theorem halving_list (d : Nat) (ns : List Nat) (hd : ∀ f ∈ ns, f < 10) : (halvingS (natInts ns) (d : Int)).cps.toList = hL d false ns := halving_go d ns hd (Str.ofString "") false
end Mine
end

/-! V2 -/
section
open PySem PySem.W PyProof.Rows PySem.Calls
set_option Elab.async false
set_option maxRecDepth 100000
set_option linter.unusedVariables false
namespace Mine
def rep1 (c : Nat) (z l : List Nat) : List Nat := l.flatMap fun k => if k = c then z else [k]
theorem rep1_app (c : Nat) (z a b : List Nat) : rep1 c z (a ++ b) = rep1 c z a ++ rep1 c z b := List.flatMap_append
theorem rep1_cons (c : Nat) (z : List Nat) (x : Nat) (r : List Nat) : rep1 c z (x :: r) = (if x = c then z else [x]) ++ rep1 c z r := List.flatMap_cons
/-- the d-th pair (from 0) -/
def pat (tw : Bool) (d : Nat) : List Nat × List Nat :=
  if d < 10 then ([48 + d], [97 + d])
  else if d < 20 then ([97 + (d - 10)], if tw then plus (decide (5 ≤ d - 10)) ++ [48 + 2 * (d - 10) % 10] else (48 + (d - 10) / 2) :: minus ((d - 10) % 2 == 1))
  else if tw then ([48 + 2 * (d - 20), 43], [48 + 2 * (d - 20) + 1])
  else if d < 25 then ([45, 48 + (d - 20)], [48 + (d - 20) + 5]) else ([45], [])
noncomputable def put (p : List Nat × List Nat) (l : List Nat) : List Nat := match p.1 with
  | [c] => rep1 c p.2 l
  | [a, b] => rep2 a b p.2 l
  | _ => l
def patC (tw : Bool) (d : Nat) : Nat := (pat tw d).1.headD 0
theorem pat_one : ∀ tw : Bool, ∀ d : Nat, d < 20 → (pat tw d).1 = [patC tw d] ∧ patC tw d ≠ 43 ∧ patC tw d ≠ 45 := by decide +kernel
def dBase (d f : Nat) : Nat := (dP d f false).1
def hBase (d f : Nat) : Nat := (hP d f false).1

/-! doubling -/
theorem cellD : ∀ d : Nat, d < 20 → ∀ f : Nat, f < 10 → rep1 (patC true d) (pat true d).2 (plus (decide (4 < f) && decide (10 + f < d)) ++ [dBase d f]) = plus (decide (4 < f) && decide (10 + f < d + 1)) ++ [dBase (d + 1) f] := by decide +kernel
theorem dP_low {d f : Nat} (h : d ≤ 20) (c : Bool) : dP d f c = (dBase d f, c) := by
  unfold dBase dP
  split
  · rfl
  · split
    · rfl
    · have : decide (20 + f % 5 < d) = false := decide_eq_false (by omega)
      rw [this, Bool.and_false, Bool.false_and]; rfl
noncomputable def dL' (bit d : Nat) (ns : List Nat) : List Nat := plus (dC bit d ns) ++ dL bit d ns
theorem dL'_cons {bit d f : Nat} {r : List Nat} (h : d ≤ 20) : dL' bit d (f :: r) = (plus (decide (4 < f) && decide (10 + f < d)) ++ [dBase d f]) ++ dL' bit d r := by
  unfold dL'
  show plus (decide (4 < f) && decide (10 + f < d)) ++ ((dP d f (dC bit d r)).1 :: (plus (dP d f (dC bit d r)).2 ++ dL bit d r)) = _
  rw [dP_low h]
  simp
theorem stepD_low {bit d : Nat} (h : d < 20) : ∀ ns : List Nat, (∀ f ∈ ns, f < 10) → rep1 (patC true d) (pat true d).2 (dL' bit d ns) = dL' bit (d + 1) ns
  | [], _ => by
    show rep1 _ _ (plus (bit == 1) ++ []) = plus (bit == 1) ++ []
    obtain ⟨_, h1, _⟩ := pat_one true d h
    unfold plus rep1
    cases (bit == 1) <;> simp
    intro e; exact absurd e.symm h1
  | f :: r, hd => by
    rw [dL'_cons (by omega), dL'_cons (by omega), rep1_app, cellD d h f (hd f (by simp)), stepD_low h r (fun g hg => hd g (by simp [hg]))]
theorem dC_high {bit d : Nat} (h : 20 ≤ d) : ∀ {ns : List Nat}, (∀ f ∈ ns, f < 10) → dC bit d ns = dC bit 20 ns
  | [], _ => rfl
  | g :: r, hd => by
    have := hd g (by simp)
    show (decide (4 < g) && decide (10 + g < d)) = (decide (4 < g) && decide (10 + g < 20))
    rw [decide_eq_true (show 10 + g < d by omega), decide_eq_true (show 10 + g < 20 by omega)]
theorem dL_head {bit d : Nat} (h : 20 ≤ d) : ∀ {ns : List Nat}, (∀ f ∈ ns, f < 10) → (dL bit d ns).head? ≠ some 43
  | [], _ => by simp [dL]
  | f :: r, hd => by
    have := hd f (by simp)
    show some (dP d f (dC bit d r)).1 ≠ some 43
    unfold dP
    rw [if_neg (by omega), if_neg (by omega)]
    split <;> (intro e; injection e with e; simp only at e; omega)
theorem stepD_high {bit d : Nat} (h0 : 20 ≤ d) (h1 : d < 25) : ∀ ns : List Nat, (∀ f ∈ ns, f < 10) → rep2 (48 + 2 * (d - 20)) 43 [48 + 2 * (d - 20) + 1] (dL bit d ns) = dL bit (d + 1) ns
  | [], _ => rfl
  | f :: r, hd => by
    have hf := hd f (by simp)
    have hr : ∀ g ∈ r, g < 10 := fun g hg => hd g (by simp [hg])
    have ih := stepD_high (bit := bit) h0 h1 r hr
    have hh := dL_head (bit := bit) h0 hr
    show rep2 _ _ _ ((dP d f (dC bit d r)).1 :: (plus (dP d f (dC bit d r)).2 ++ dL bit d r)) = (dP (d + 1) f (dC bit (d + 1) r)).1 :: (plus (dP (d + 1) f (dC bit (d + 1) r)).2 ++ dL bit (d + 1) r)
    rw [dC_high h0 hr, dC_high (d := d + 1) (by omega) hr, ← ih]
    generalize dC bit 20 r = c
    generalize dL bit d r = rest at hh
    have e2 : 2 * f % 10 = 2 * (f % 5) := by omega
    have e1 : dP d f c = if c && decide (20 + f % 5 < d) then (48 + 2 * (f % 5) + 1, false) else (48 + 2 * (f % 5), c) := by
      unfold dP; rw [if_neg (by omega), if_neg (by omega), e2]
    have e3 : dP (d + 1) f c = if c && decide (20 + f % 5 < d + 1) then (48 + 2 * (f % 5) + 1, false) else (48 + 2 * (f % 5), c) := by
      unfold dP; rw [if_neg (by omega), if_neg (by omega), e2]
    rw [e1, e3]
    have pass : ∀ x : Nat, rep2 (48 + 2 * (d - 20)) 43 [48 + 2 * (d - 20) + 1] (x :: rest) = x :: rep2 (48 + 2 * (d - 20)) 43 [48 + 2 * (d - 20) + 1] rest := fun x => rep2_pass fun e => hh e.2
    cases c with
    | false =>
      rw [Bool.false_and, Bool.false_and, if_neg (by decide)]
      exact pass _
    | true =>
      rw [Bool.true_and, Bool.true_and]
      by_cases k1 : 20 + f % 5 < d
      · rw [if_pos (decide_eq_true k1), if_pos (decide_eq_true (by omega))]
        exact pass _
      · rw [if_neg (by simpa using k1)]
        by_cases k2 : 20 + f % 5 < d + 1
        · rw [if_pos (decide_eq_true k2)]
          have : f % 5 = d - 20 := by omega
          rw [this]
          exact rep2_hit
        · rw [if_neg (by simpa using k2)]
          show rep2 _ _ _ ((48 + 2 * (f % 5)) :: 43 :: rest) = (48 + 2 * (f % 5)) :: 43 :: rep2 _ _ _ rest
          rw [rep2_pass (fun e => by omega)]
          rw [rep2_pass (fun e => by omega)]
theorem stepD {bit d : Nat} (h : d < 25) (ns : List Nat) (hd : ∀ f ∈ ns, f < 10) : put (pat true d) (dL bit d (0 :: ns)) = dL bit (d + 1) (0 :: ns) := by
  have hd' : ∀ f ∈ 0 :: ns, f < 10 := fun f hf => by
    rcases List.mem_cons.mp hf with rfl | hf
    · omega
    · exact hd f hf
  by_cases h1 : d < 20
  · have := stepD_low (bit := bit) h1 (0 :: ns) hd'
    unfold put
    rw [(pat_one true d h1).1]
    exact this
  · have := stepD_high (bit := bit) (by omega) h (0 :: ns) hd'
    unfold put
    have e : pat true d = ([48 + 2 * (d - 20), 43], [48 + 2 * (d - 20) + 1]) := by
      unfold pat; rw [if_neg (by omega), if_neg h1]; rfl
    rw [e]
    exact this
/-! halving -/
theorem cellH : ∀ d : Nat, d < 20 → ∀ f : Nat, f < 10 → rep1 (patC false d) (pat false d).2 (hBase d f :: minus (hO d f)) = hBase (d + 1) f :: minus (hO (d + 1) f) := by decide +kernel
theorem hP_low {d f : Nat} (h : d ≤ 20) (o : Bool) : hP d f o = (hBase d f, o) := by
  unfold hBase hP
  split
  · rfl
  · split
    · rfl
    · have : decide (20 + f / 2 < d) = false := decide_eq_false (by omega)
      rw [this, Bool.and_false, Bool.false_and]; rfl
theorem hL_odd {d : Nat} (h : d ≤ 20) (o : Bool) : ∀ ns : List Nat, hL d o ns = minus o ++ hL d false ns
  | [] => by
    show minus (o && decide (d < 26)) = minus o ++ minus (false && decide (d < 26))
    rw [decide_eq_true (show d < 26 by omega)]; cases o <;> rfl
  | f :: r => by
    show minus (hP d f o).2 ++ (hP d f o).1 :: hL d (hO d f) r = minus o ++ (minus (hP d f false).2 ++ (hP d f false).1 :: hL d (hO d f) r)
    rw [hP_low h, hP_low h]; rfl
theorem hL_cons {d f : Nat} {r : List Nat} (h : d ≤ 20) : hL d false (f :: r) = (hBase d f :: minus (hO d f)) ++ hL d false r := by
  show minus (hP d f false).2 ++ (hP d f false).1 :: hL d (hO d f) r = _
  rw [hP_low h, hL_odd h]; rfl
theorem stepH_low {d : Nat} (h : d < 20) : ∀ ns : List Nat, (∀ f ∈ ns, f < 10) → rep1 (patC false d) (pat false d).2 (hL d false ns) = hL (d + 1) false ns
  | [], _ => rfl
  | f :: r, hd => by
    rw [hL_cons (by omega), hL_cons (by omega), rep1_app, cellH d h f (hd f (by simp)), stepH_low h r (fun g hg => hd g (by simp [hg]))]
theorem hO_high {d f : Nat} (h : 20 ≤ d) (hf : f < 10) : hO d f = (f % 2 == 1) := by
  unfold hO; rw [decide_eq_true (show 10 + f < d by omega), Bool.and_true]
theorem hP_high {d f : Nat} (h : 20 ≤ d) (hf : f < 10) (o : Bool) : hP d f o = if o && decide (20 + f / 2 < d) then (48 + f / 2 + 5, false) else (48 + f / 2, o) := by
  unfold hP; rw [if_neg (by omega), if_neg (by omega)]
theorem stepH_high {d : Nat} (h0 : 20 ≤ d) (h1 : d < 25) : ∀ (o : Bool) (ns : List Nat), (∀ f ∈ ns, f < 10) → rep2 45 (48 + (d - 20)) [48 + (d - 20) + 5] (hL d o ns) = hL (d + 1) o ns
  | o, [], _ => by
    show rep2 _ _ _ (minus (o && decide (d < 26))) = minus (o && decide (d + 1 < 26))
    rw [decide_eq_true (show d < 26 by omega), decide_eq_true (show d + 1 < 26 by omega)]
    cases o <;> rfl
  | o, f :: r, hd => by
    have hf := hd f (by simp)
    have ih := stepH_high h0 h1 (f % 2 == 1) r (fun g hg => hd g (by simp [hg]))
    show rep2 _ _ _ (minus (hP d f o).2 ++ (hP d f o).1 :: hL d (hO d f) r) = minus (hP (d + 1) f o).2 ++ (hP (d + 1) f o).1 :: hL (d + 1) (hO (d + 1) f) r
    rw [hO_high h0 hf, hO_high (d := d + 1) (by omega) hf, ← ih, hP_high h0 hf, hP_high (d := d + 1) (by omega) hf]
    generalize hL d (f % 2 == 1) r = rest
    have pass : ∀ x : Nat, x ≠ 45 → ∀ l, rep2 45 (48 + (d - 20)) [48 + (d - 20) + 5] (x :: l) = x :: rep2 45 (48 + (d - 20)) [48 + (d - 20) + 5] l := fun x hx l => rep2_pass fun e => hx e.1
    cases o with
    | false =>
      rw [Bool.false_and, Bool.false_and, if_neg (by decide)]
      exact pass _ (by show 48 + f / 2 ≠ 45; omega) _
    | true =>
      rw [Bool.true_and, Bool.true_and]
      by_cases k1 : 20 + f / 2 < d
      · rw [if_pos (decide_eq_true k1), if_pos (decide_eq_true (by omega))]
        exact pass _ (by show 48 + f / 2 + 5 ≠ 45; omega) _
      · rw [if_neg (by simpa using k1)]
        by_cases k2 : 20 + f / 2 < d + 1
        · rw [if_pos (decide_eq_true k2)]
          have : f / 2 = d - 20 := by omega
          rw [this]
          exact rep2_hit
        · rw [if_neg (by simpa using k2)]
          show rep2 _ _ _ (45 :: (48 + f / 2) :: rest) = 45 :: (48 + f / 2) :: rep2 _ _ _ rest
          rw [rep2_pass (fun e => by have e2 : some (48 + f / 2) = some (48 + (d - 20)) := e.2; injection e2 with e2; omega)]
          rw [pass _ (by omega)]
theorem stepH_last : ∀ (o : Bool) (ns : List Nat), (∀ f ∈ ns, f < 10) → rep1 45 [] (hL 25 o ns) = hL 26 o ns
  | o, [], _ => by cases o <;> rfl
  | o, f :: r, hd => by
    have hf := hd f (by simp)
    have ih := stepH_last (f % 2 == 1) r (fun g hg => hd g (by simp [hg]))
    show rep1 _ _ (minus (hP 25 f o).2 ++ (hP 25 f o).1 :: hL 25 (hO 25 f) r) = minus (hP 26 f o).2 ++ (hP 26 f o).1 :: hL 26 (hO 26 f) r
    rw [hO_high (by omega) hf, hO_high (by omega) hf, ← ih, hP_high (by omega) hf, hP_high (by omega) hf, decide_eq_true (show 20 + f / 2 < 25 by omega), decide_eq_true (show 20 + f / 2 < 26 by omega), Bool.and_true]
    cases o with
    | false =>
      show rep1 45 [] ((48 + f / 2) :: _) = (48 + f / 2) :: _
      rw [rep1_cons, if_neg (by omega)]; rfl
    | true =>
      show rep1 45 [] ((48 + f / 2 + 5) :: _) = (48 + f / 2 + 5) :: _
      rw [rep1_cons, if_neg (by omega)]; rfl
theorem stepH {d : Nat} (h : d < 26) (ns : List Nat) (hd : ∀ f ∈ ns, f < 10) : put (pat false d) (hL d false ns) = hL (d + 1) false ns := by
  by_cases h1 : d < 20
  · have := stepH_low h1 ns hd
    unfold put
    rw [(pat_one false d h1).1]
    exact this
  · by_cases h2 : d < 25
    · have := stepH_high (by omega) h2 false ns hd
      have e : pat false d = ([45, 48 + (d - 20)], [48 + (d - 20) + 5]) := by
        unfold pat; rw [if_neg (by omega), if_neg h1, if_neg (by decide), if_pos h2]
      unfold put
      rw [e]
      exact this
    · obtain rfl : d = 25 := by omega
      exact stepH_last false ns hd
end Mine
end

/-! V3 -/
section
open PySem PySem.W PyProof.Rows PySem.Calls
set_option Elab.async false
set_option maxRecDepth 100000
set_option linter.unusedVariables false
namespace Mine
noncomputable def numR : List Nat → Nat
  | [] => 0
  | f :: r => f * 10 ^ r.length + numR r
def isDig (c : Nat) : Bool := decide (48 ≤ c) && decide (c ≤ 57)
abbrev dv (acc : Nat) (l : List Nat) : Nat := l.foldl (fun acc c => acc * 10 + (c - 48)) acc
theorem numR_fold : ∀ (ns : List Nat) (a : Nat), ns.foldl (fun n f => 10 * n + f) a = a * 10 ^ ns.length + numR ns
  | [], a => by simp [numR]
  | f :: r, a => by
    rw [List.foldl_cons, numR_fold r, numR, List.length_cons, Nat.pow_succ]
    have : (10 * a + f) * 10 ^ r.length = a * (10 ^ r.length * 10) + f * 10 ^ r.length := by
      rw [Nat.add_mul, Nat.mul_comm 10 a, Nat.mul_assoc, Nat.mul_comm 10]
    omega
/-- the figures as they stand -/
theorem val_plain : ∀ (ns : List Nat) (acc : Nat), dv acc (ns.map (48 + ·)) = acc * 10 ^ ns.length + numR ns
  | [], acc => by simp [numR, dv]
  | f :: r, acc => by
    show dv (acc * 10 + (48 + f - 48)) (r.map (48 + ·)) = _
    rw [val_plain r, numR, List.length_cons, Nat.pow_succ, show 48 + f - 48 = f by omega, Nat.add_mul, Nat.mul_assoc, Nat.mul_comm 10 (10 ^ r.length)]
    omega
/-! doubling -/
def ov (b : Bool) : Nat := if b then 1 else 0
theorem val_dbl {bit d : Nat} (hb : bit ≤ 1) (h10 : 10 < d) : ∀ (ns : List Nat) (acc : Nat), (∀ f ∈ ns, f < 10) → (∀ c ∈ dL bit d ns, isDig c = true) → dv acc (dL bit d ns) + ov (dC bit d ns) * 10 ^ ns.length = acc * 10 ^ ns.length + 2 * numR ns + bit
  | [], acc, _, _ => by
    show acc + ov (bit == 1) * 1 = acc * 1 + 0 + bit
    have : bit = 0 ∨ bit = 1 := by omega
    rcases this with rfl | rfl <;> simp [ov]
  | f :: r, acc, hd, hc => by
    have hf := hd f (by simp)
    have hc' : ∀ c ∈ dL bit d r, isDig c = true := fun c h => hc c (by
      show c ∈ (dP d f (dC bit d r)).1 :: (plus (dP d f (dC bit d r)).2 ++ dL bit d r)
      exact .tail _ (List.mem_append_right _ h))
    have h0 : isDig (dP d f (dC bit d r)).1 = true := hc _ (by
      show _ ∈ (dP d f (dC bit d r)).1 :: (plus (dP d f (dC bit d r)).2 ++ dL bit d r)
      exact .head _)
    have h1 : (dP d f (dC bit d r)).2 = false := by
      cases e : (dP d f (dC bit d r)).2 with
      | false => rfl
      | true =>
        have := hc 43 (by
          show _ ∈ (dP d f (dC bit d r)).1 :: (plus (dP d f (dC bit d r)).2 ++ dL bit d r)
          rw [e]; exact .tail _ (.head _))
        cases this
    have ih := val_dbl hb h10 r (acc * 10 + (2 * f % 10 + ov (dC bit d r))) (fun g hg => hd g (by simp [hg])) hc'
    have h2 : 10 + f < d := by
      refine Nat.lt_of_not_le fun h => ?_
      unfold dP at h0
      rw [if_neg (by omega), if_pos h] at h0
      simp [isDig] at h0
      omega
    have h3 : (dP d f (dC bit d r)).1 = 48 + (2 * f % 10 + ov (dC bit d r)) := by
      unfold dP at h1 ⊢
      rw [if_neg (by omega), if_neg (by omega)] at h1 ⊢
      cases hcc : (dC bit d r && decide (20 + f % 5 < d)) with
      | true =>
        rw [Bool.and_eq_true] at hcc
        rw [if_pos rfl, hcc.1]; rfl
      | false =>
        rw [hcc, if_neg (by decide)] at h1
        rw [if_neg (by decide)]
        show _ = 48 + (2 * f % 10 + ov (dC bit d r))
        rw [show dC bit d r = false from h1]; rfl
    have h4 : dC bit d (f :: r) = decide (4 < f) := by
      show (decide (4 < f) && decide (10 + f < d)) = _
      rw [decide_eq_true h2, Bool.and_true]
    show dv acc ((dP d f (dC bit d r)).1 :: (plus (dP d f (dC bit d r)).2 ++ dL bit d r)) + _ = _
    rw [h1, h3, h4]
    show dv (acc * 10 + (48 + (2 * f % 10 + ov (dC bit d r)) - 48)) (dL bit d r) + _ = _
    rw [show 48 + (2 * f % 10 + ov (dC bit d r)) - 48 = 2 * f % 10 + ov (dC bit d r) by omega, numR, List.length_cons, Nat.pow_succ]
    generalize dv (acc * 10 + (2 * f % 10 + ov (dC bit d r))) (dL bit d r) = V at ih ⊢
    generalize ov (dC bit d r) = o at ih
    generalize 10 ^ r.length = P at ih ⊢
    have hov : 2 * f = 2 * f % 10 + 10 * ov (decide (4 < f)) := by
      unfold ov
      by_cases h : 4 < f
      · rw [decide_eq_true h, if_pos rfl]; omega
      · rw [decide_eq_false h, if_neg (by decide)]; omega
    generalize ov (decide (4 < f)) = q at hov ⊢
    have e1 : (acc * 10 + (2 * f % 10 + o)) * P = acc * (P * 10) + 2 * f % 10 * P + o * P := by
      rw [Nat.add_mul, Nat.add_mul, Nat.mul_assoc, Nat.mul_comm 10 P]; omega
    have e2 : 2 * (f * P) = 2 * f % 10 * P + q * (P * 10) := by
      rw [← Nat.mul_assoc, hov, Nat.add_mul]
      have : 10 * q * P = q * (P * 10) := by rw [Nat.mul_comm 10 q, Nat.mul_assoc, Nat.mul_comm 10 P]
      have e3 : (2 * f % 10 + 10 * q) % 10 = 2 * f % 10 := by omega
      rw [e3, this]
    omega
/-! halving -/
theorem val_hlv {d : Nat} (h10 : 10 < d) : ∀ (o : Bool) (ns : List Nat) (acc : Nat), (∀ f ∈ ns, f < 10) → (∀ c ∈ hL d o ns, isDig c = true) → dv acc (hL d o ns) = acc * 10 ^ ns.length + (ov o * 10 ^ ns.length + numR ns) / 2
  | o, [], acc, _, hc => by
    have : (o && decide (d < 26)) = false := by
      cases e : (o && decide (d < 26)) with
      | false => rfl
      | true =>
        have := hc 45 (by show _ ∈ minus (o && decide (d < 26)); rw [e]; exact .head _)
        cases this
    show dv acc (minus (o && decide (d < 26))) = acc * 1 + (ov o * 1 + 0) / 2
    rw [this]
    show acc = _
    cases o <;> simp [ov]
  | o, f :: r, acc, hd, hc => by
    have hf := hd f (by simp)
    have hc' : ∀ c ∈ hL d (hO d f) r, isDig c = true := fun c h => hc c (by
      show c ∈ minus (hP d f o).2 ++ (hP d f o).1 :: hL d (hO d f) r
      exact List.mem_append_right _ (.tail _ h))
    have h0 : isDig (hP d f o).1 = true := hc _ (by
      show _ ∈ minus (hP d f o).2 ++ (hP d f o).1 :: hL d (hO d f) r
      exact List.mem_append_right _ (.head _))
    have h1 : (hP d f o).2 = false := by
      cases e : (hP d f o).2 with
      | false => rfl
      | true =>
        have := hc 45 (by
          show _ ∈ minus (hP d f o).2 ++ (hP d f o).1 :: hL d (hO d f) r
          rw [e]; exact .head _)
        cases this
    have h2 : 10 + f < d := by
      refine Nat.lt_of_not_le fun h => ?_
      unfold hP at h0
      rw [if_neg (by omega), if_pos h] at h0
      simp [isDig] at h0
      omega
    have h3 : (hP d f o).1 = 48 + (f / 2 + 5 * ov o) := by
      unfold hP at h1 ⊢
      rw [if_neg (by omega), if_neg (by omega)] at h1 ⊢
      cases hcc : (o && decide (20 + f / 2 < d)) with
      | true =>
        rw [Bool.and_eq_true] at hcc
        rw [if_pos rfl, hcc.1]; rfl
      | false =>
        rw [hcc, if_neg (by decide)] at h1
        rw [if_neg (by decide), show o = false from h1]; rfl
    have h4 : hO d f = (f % 2 == 1) := by unfold hO; rw [decide_eq_true h2, Bool.and_true]
    have ih := val_hlv h10 (hO d f) r (acc * 10 + (f / 2 + 5 * ov o)) (fun g hg => hd g (by simp [hg])) hc'
    show dv acc (minus (hP d f o).2 ++ (hP d f o).1 :: hL d (hO d f) r) = _
    rw [h1, h3]
    show dv (acc * 10 + (48 + (f / 2 + 5 * ov o) - 48)) (hL d (hO d f) r) = _
    rw [show 48 + (f / 2 + 5 * ov o) - 48 = f / 2 + 5 * ov o by omega, ih, numR, List.length_cons, Nat.pow_succ, h4]
    have hq : ov (f % 2 == 1) = f % 2 := by
      have : f % 2 = 0 ∨ f % 2 = 1 := by omega
      rcases this with e | e <;> rw [e] <;> rfl
    rw [hq]
    generalize ov o = q
    generalize numR r = N
    generalize 10 ^ r.length = P
    have e1 : (acc * 10 + (f / 2 + 5 * q)) * P = acc * (P * 10) + (f / 2) * P + 5 * q * P := by
      rw [Nat.add_mul, Nat.add_mul, Nat.mul_assoc, Nat.mul_comm 10 P]; omega
    have e2 : q * (P * 10) = 2 * (5 * q * P) := by
      rw [← Nat.mul_assoc, Nat.mul_comm (q * P) 10, ← Nat.mul_assoc, show (10 : Nat) = 2 * 5 by rfl, Nat.mul_assoc 2 5 q, Nat.mul_assoc]
    have e3 : f * P = 2 * ((f / 2) * P) + f % 2 * P := by
      conv => lhs; rw [← Nat.div_add_mod f 2, Nat.add_mul, Nat.mul_assoc]
    rw [e1, e2, e3]
    omega
end Mine
end

/-! V4 -/
section
open PySem PySem.W PyProof.Rows PySem.Calls PySem.NumText
set_option Elab.async false
set_option maxRecDepth 100000
set_option linter.unusedVariables false
namespace Mine
/-- the signs of the texts on the way -/
def Sgn (c : Nat) : Prop := c = 43 ∨ c = 45 ∨ (48 ≤ c ∧ c ≤ 57) ∨ (97 ≤ c ∧ c ≤ 106)
theorem digits_fail : ∀ (l : List Nat) (st : Array Nat × Bool), (∀ c ∈ l, Sgn c) → (∃ c ∈ l, isDig c = false) → l.foldlM (NumText.step 10) st = none
  | [], st, _, h => by obtain ⟨c, hc, _⟩ := h; cases hc
  | c :: r, st, hs, h => by
    have hc : Sgn c := hs c (by simp)
    rw [List.foldlM_cons]
    cases hd : isDig c with
    | true =>
      have hd' : 48 ≤ c ∧ c ≤ 57 := by simpa [isDig] using hd
      have hr : ∃ e ∈ r, isDig e = false := by
        obtain ⟨e, he, h2⟩ := h
        rcases List.mem_cons.mp he with rfl | he
        · rw [hd] at h2; cases h2
        · exact ⟨e, he, h2⟩
      cases hstep : NumText.step 10 st c with
      | none => rfl
      | some st' => exact digits_fail r st' (fun e he => hs e (by simp [he])) hr
    | false =>
      have hd' : ¬ (48 ≤ c ∧ c ≤ 57) := by
        intro e
        have : isDig c = true := by simp [isDig, e.1, e.2]
        rw [this] at hd; cases hd
      have : NumText.step 10 st c = none := by
        unfold NumText.step NumText.digit?
        rw [if_neg (by rw [beq_iff_eq]; rcases hc with h | h | h | h <;> omega)]
        rw [if_neg (by simp; omega)]
        rcases hc with rfl | rfl | h | h
        · rfl
        · rfl
        · exact absurd h hd'
        · rw [if_pos (by simp; omega)]
          show (if c - 87 < 10 then _ else none) = none
          rw [if_neg (by omega)]
      rw [this]; rfl
theorem not_blank {c : Nat} (h : Sgn c) : NumText.blank c = false := by
  unfold NumText.blank
  rcases h with rfl | rfl | h | h
  · rfl
  · rfl
  · simp; omega
  · simp; omega
theorem drop_blank : ∀ {l : List Nat}, (∀ c ∈ l, Sgn c) → l.dropWhile NumText.blank = l
  | [], _ => rfl
  | c :: r, h => by rw [List.dropWhile_cons, not_blank (h c (by simp))]; rfl
theorem take_all {p : Nat → Bool} : ∀ {l : List Nat}, (∀ c ∈ l, p c = true) → l.takeWhile p = l
  | [], _ => rfl
  | c :: r, h => by rw [List.takeWhile_cons, h c (by simp), if_pos rfl, take_all fun e he => h e (by simp [he])]
theorem int_none {x : Str} {c0 : Nat} {r : List Nat} (e : x.cps.toList = c0 :: r) (h0 : c0 ≠ 43 ∧ c0 ≠ 45) (hs : ∀ c ∈ x.cps.toList, Sgn c) (hn : ∃ c ∈ x.cps.toList, isDig c = false) : PySem.intText? x = none := by
  have ha : x.cps.all (· < 128) = true := by
    rw [← Array.all_toList, List.all_eq_true]
    intro c hc
    rcases hs c hc with h | h | h | h <;> (rw [decide_eq_true_eq]; omega)
  have h1 : numTextOf x = x.cps.toList := if_pos ha
  have h2 : numSeenOf x = x.cps.toList := by
    show (numTextOf x).takeWhile (· != 0) = _
    rw [h1]
    exact take_all fun c hc => by
      rw [bne_iff_ne]
      rcases hs c hc with h | h | h | h <;> omega
  have h3 : NumText.core x.cps.toList = x.cps.toList := by
    unfold NumText.core
    rw [drop_blank hs]
    have : NumText.sign x.cps.toList = (false, x.cps.toList) := by
      rw [e]
      unfold NumText.sign
      split
      · rename_i q; injection q with q _; exact absurd q h0.2
      · rename_i q; injection q with q _; exact absurd q h0.1
      · rfl
    rw [this]
    show (x.cps.toList.reverse.dropWhile NumText.blank).reverse = _
    rw [drop_blank (fun c hc => hs c (List.mem_reverse.mp hc)), List.reverse_reverse]
  unfold PySem.intText?
  rw [h2, h3]
  have h4 : NumText.digits? 10 x.cps.toList = none := by
    unfold NumText.digits?
    rw [digits_fail _ _ hs hn]; rfl
  rw [h4, ite_self]
theorem int_some {x : Str} (hne : x.cps.toList ≠ []) (hl : x.length ≤ 100) (hd : ∀ c ∈ x.cps.toList, isDig c = true) : PySem.intText? x = some ((dv 0 x.cps.toList : Nat) : Int) :=
  intText_digits (fun c hc => by simpa [isDig] using hd c hc) hne (by omega)

/-! the two texts -/
theorem dP_sgn {d f : Nat} (hf : f < 10) (c : Bool) : Sgn (dP d f c).1 ∧ (dP d f c).1 ≠ 43 ∧ (dP d f c).1 ≠ 45 ∧ (dP d f c).1 ≠ 124 := by
  unfold dP Sgn
  split
  · refine ⟨.inr (.inr (.inl ⟨?_, ?_⟩)), ?_, ?_, ?_⟩ <;> dsimp only <;> omega
  · split
    · refine ⟨.inr (.inr (.inr ⟨?_, ?_⟩)), ?_, ?_, ?_⟩ <;> dsimp only <;> omega
    · split
      · refine ⟨.inr (.inr (.inl ⟨?_, ?_⟩)), ?_, ?_, ?_⟩ <;> dsimp only <;> omega
      · refine ⟨.inr (.inr (.inl ⟨?_, ?_⟩)), ?_, ?_, ?_⟩ <;> dsimp only <;> omega
theorem hP_sgn {d f : Nat} (hf : f < 10) (c : Bool) : Sgn (hP d f c).1 ∧ (hP d f c).1 ≠ 43 ∧ (hP d f c).1 ≠ 45 ∧ (hP d f c).1 ≠ 124 := by
  unfold hP Sgn
  split
  · refine ⟨.inr (.inr (.inl ⟨?_, ?_⟩)), ?_, ?_, ?_⟩ <;> dsimp only <;> omega
  · split
    · refine ⟨.inr (.inr (.inr ⟨?_, ?_⟩)), ?_, ?_, ?_⟩ <;> dsimp only <;> omega
    · split
      · refine ⟨.inr (.inr (.inl ⟨?_, ?_⟩)), ?_, ?_, ?_⟩ <;> dsimp only <;> omega
      · refine ⟨.inr (.inr (.inl ⟨?_, ?_⟩)), ?_, ?_, ?_⟩ <;> dsimp only <;> omega
theorem plus_sgn {b : Bool} {c : Nat} (h : c ∈ plus b) : Sgn c := by
  unfold plus at h
  cases b with
  | true => rw [List.mem_singleton.mp h]; exact .inl rfl
  | false => cases h
theorem minus_sgn {b : Bool} {c : Nat} (h : c ∈ minus b) : Sgn c := by
  unfold minus at h
  cases b with
  | true => rw [List.mem_singleton.mp h]; exact .inr (.inl rfl)
  | false => cases h
theorem dL_sgn (bit d : Nat) : ∀ ns : List Nat, (∀ f ∈ ns, f < 10) → ∀ c ∈ dL bit d ns, Sgn c
  | [], _, c, h => by cases h
  | f :: r, hd, c, h => by
    rcases List.mem_cons.mp h with rfl | h
    · exact (dP_sgn (hd f (by simp)) _).1
    · rcases List.mem_append.mp h with h | h
      · exact plus_sgn h
      · exact dL_sgn bit d r (fun g hg => hd g (by simp [hg])) c h
theorem hL_sgn (d : Nat) : ∀ (o : Bool) (ns : List Nat), (∀ f ∈ ns, f < 10) → ∀ c ∈ hL d o ns, Sgn c
  | o, [], _, c, h => minus_sgn (b := o && decide (d < 26)) h
  | o, f :: r, hd, c, h => by
    rcases List.mem_append.mp h with h | h
    · exact minus_sgn h
    · rcases List.mem_cons.mp h with rfl | h
      · exact (hP_sgn (hd f (by simp)) _).1
      · exact hL_sgn d _ r (fun g hg => hd g (by simp [hg])) c h
theorem plus_len (b : Bool) : (plus b).length ≤ 1 := by cases b <;> decide
theorem minus_len (b : Bool) : (minus b).length ≤ 1 := by cases b <;> decide
theorem dL_len (bit d : Nat) : ∀ ns : List Nat, (dL bit d ns).length ≤ 2 * ns.length
  | [] => Nat.le_refl 0
  | f :: r => by
    show ((dP d f (dC bit d r)).1 :: (plus (dP d f (dC bit d r)).2 ++ dL bit d r)).length ≤ _
    have := dL_len bit d r
    have := plus_len (dP d f (dC bit d r)).2
    simp only [List.length_cons, List.length_append]
    omega
theorem hL_len (d : Nat) : ∀ (o : Bool) (ns : List Nat), (hL d o ns).length ≤ 2 * ns.length + 1
  | o, [] => minus_len (o && decide (d < 26))
  | o, f :: r => by
    show (minus (hP d f o).2 ++ (hP d f o).1 :: hL d (hO d f) r).length ≤ _
    have := hL_len d (hO d f) r
    have := minus_len (hP d f o).2
    simp only [List.length_cons, List.length_append]
    omega
theorem dL_early {bit d : Nat} (h : d ≤ 10) : ∀ ns : List Nat, (∀ f ∈ ns, f < 10) → (∀ c ∈ dL bit d ns, isDig c = true) → dL bit d ns = ns.map (48 + ·)
  | [], _, _ => rfl
  | f :: r, hd, hc => by
    have ih := dL_early h r (fun g hg => hd g (by simp [hg])) (fun c hc' => hc c (.tail _ (List.mem_append_right _ hc')))
    have h0 : isDig (dP d f (dC bit d r)).1 = true := hc _ (.head _)
    have h1 : d ≤ f := by
      refine Classical.byContradiction fun q => ?_
      unfold dP at h0
      rw [if_neg q, if_pos (by omega)] at h0
      simp [isDig] at h0
      omega
    have e : dP d f (dC bit d r) = (48 + f, dC bit d r) := by unfold dP; rw [if_pos h1]
    have h2 : dC bit d r = false := by
      cases q : dC bit d r with
      | false => rfl
      | true =>
        have := hc 43 (.tail _ (List.mem_append_left _ (by rw [e, q]; exact .head _)))
        cases this
    show (dP d f (dC bit d r)).1 :: (plus (dP d f (dC bit d r)).2 ++ dL bit d r) = _
    rw [e, h2, ih]; rfl
theorem hL_early {d : Nat} (h : d ≤ 10) : ∀ ns : List Nat, (∀ f ∈ ns, f < 10) → (∀ c ∈ hL d false ns, isDig c = true) → hL d false ns = ns.map (48 + ·)
  | [], _, _ => rfl
  | f :: r, hd, hc => by
    rw [hL_cons (by omega)] at hc ⊢
    have h0 : isDig (hBase d f) = true := hc _ (.head _)
    have h1 : d ≤ f := by
      refine Classical.byContradiction fun q => ?_
      unfold hBase hP at h0
      rw [if_neg q, if_pos (by omega)] at h0
      simp [isDig] at h0
      omega
    have e : hBase d f = 48 + f := by unfold hBase hP; rw [if_pos h1]
    have h2 : hO d f = false := by unfold hO; rw [decide_eq_false (by omega), Bool.and_false]
    rw [h2] at hc
    have ih := hL_early h r (fun g hg => hd g (by simp [hg])) (fun c hc' => hc c (List.mem_append_right _ hc'))
    rw [e, h2, ih]; rfl
/-- the text at the d-th pair -/
noncomputable def txt (tw : Bool) (bit d : Nat) (ns : List Nat) : List Nat := if tw then dL bit d (0 :: ns) else hL d false ns
noncomputable def worthOf (tw : Bool) (bit : Nat) (ns : List Nat) : Nat := if tw then 2 * numR ns + bit else numR ns / 2
theorem cons_dig {ns : List Nat} (hd : ∀ f ∈ ns, f < 10) : ∀ f ∈ 0 :: ns, f < 10 := fun f hf => by
  rcases List.mem_cons.mp hf with rfl | hf
  · omega
  · exact hd f hf
theorem txt_sgn {tw : Bool} {bit d : Nat} {ns : List Nat} (hd : ∀ f ∈ ns, f < 10) : ∀ c ∈ txt tw bit d ns, Sgn c := by
  cases tw with
  | true => exact dL_sgn bit d (0 :: ns) (cons_dig hd)
  | false => exact hL_sgn d false ns hd
theorem txt_len {tw : Bool} {bit d : Nat} {ns : List Nat} (h : ns.length ≤ 6) : (txt tw bit d ns).length ≤ 14 := by
  cases tw with
  | true => have := dL_len bit d (0 :: ns); simp only [List.length_cons] at this; show (dL bit d (0 :: ns)).length ≤ 14; omega
  | false => have := hL_len d false ns; show (hL d false ns).length ≤ 14; omega
theorem txt_head {tw : Bool} {bit d : Nat} {ns : List Nat} (hd : ∀ f ∈ ns, f < 10) (h0 : ns ≠ []) : ∃ c r, txt tw bit d ns = c :: r ∧ c ≠ 43 ∧ c ≠ 45 := by
  cases tw with
  | true => exact ⟨_, _, rfl, (dP_sgn (by omega) _).2.1, (dP_sgn (by omega) _).2.2.1⟩
  | false =>
    cases ns with
    | nil => exact absurd rfl h0
    | cons f r =>
      have h2 : (hP d f false).2 = false := by unfold hP; rw [Bool.false_and]; split; rfl; split; rfl; rfl
      refine ⟨(hP d f false).1, hL d (hO d f) r, ?_, (hP_sgn (hd f (by simp)) _).2.1, (hP_sgn (hd f (by simp)) _).2.2.1⟩
      show minus (hP d f false).2 ++ (hP d f false).1 :: hL d (hO d f) r = _
      rw [h2]; rfl
/-- what int tells of the text on the way -/
theorem txt_int {tw : Bool} {bit d : Nat} {ns : List Nat} (hb : bit ≤ 1) (hd : ∀ f ∈ ns, f < 10) (h0 : ns ≠ []) (hl : ns.length ≤ 6) {x : Str} (hx : x.cps.toList = txt tw bit d ns) :
    PySem.intText? x = if (txt tw bit d ns).all isDig then some (((if 10 < d then worthOf tw bit ns else numR ns) : Nat) : Int) else none := by
  obtain ⟨c, r, e, h1, h2⟩ := txt_head (tw := tw) (bit := bit) (d := d) hd h0
  have hxl : x.length ≤ 100 := by rw [← len_toList, hx]; have := txt_len (tw := tw) (bit := bit) (d := d) hl; omega
  by_cases ha : (txt tw bit d ns).all isDig = true
  · rw [if_pos ha]
    have hdg : ∀ c ∈ txt tw bit d ns, isDig c = true := List.all_eq_true.mp ha
    rw [int_some (by rw [hx, e]; simp) hxl (by rw [hx]; exact hdg), hx]
    congr 2
    cases tw with
    | true =>
      show dv 0 (dL bit d (0 :: ns)) = _
      by_cases h10 : 10 < d
      · rw [if_pos h10]
        have := val_dbl hb h10 (0 :: ns) 0 (cons_dig hd) hdg
        have e1 : dC bit d (0 :: ns) = false := rfl
        rw [e1] at this
        simp [ov, numR] at this
        rw [this]; rfl
      · rw [if_neg h10, dL_early (by omega) _ (cons_dig hd) hdg, val_plain]
        simp [numR]
    | false =>
      show dv 0 (hL d false ns) = _
      by_cases h10 : 10 < d
      · rw [if_pos h10, val_hlv h10 false ns 0 hd hdg]
        simp [ov, worthOf]
      · rw [if_neg h10, hL_early (by omega) _ hd hdg, val_plain]
        simp
  · rw [if_neg ha]
    refine int_none (hx.trans e) ⟨h1, h2⟩ (by rw [hx]; exact txt_sgn hd) ?_
    rw [hx]
    have : ¬ ∀ c ∈ txt tw bit d ns, isDig c = true := fun q => ha (List.all_eq_true.mpr q)
    refine Classical.byContradiction fun q => this fun c hc => ?_
    cases hi : isDig c with
    | true => rfl
    | false => exact absurd ⟨c, hc, hi⟩ q
end Mine
end

/-! V5 -/
section
open PySem PySem.W PyProof.Rows PySem.Calls
set_option Elab.async false
set_option maxRecDepth 100000
set_option linter.unusedVariables false
namespace Mine
theorem join_weight (y : Str) : ∀ (p : Str) (r : List Str), (Str.join y (p :: r)).length = ((p :: r).map (·.length)).sum + r.length * y.length
  | p, [] => by simp [Str.join]
  | p, q :: r => by
    show (p ++ y ++ Str.join y (q :: r)).length = _
    rw [Str.length_append, Str.length_append, join_weight y q r]
    simp only [List.map_cons, List.sum_cons, List.length_cons, Nat.succ_mul]
    omega
theorem split_weight {x y : Str} (hy : 1 ≤ y.length) : ((Txt.split x y).map (·.length)).sum + (Txt.split x y).length ≤ 2 * x.length + 1 := by
  have hj := StrLaws.join_split x y
  have hne := split_ne x y
  generalize Txt.split x y = ps at hj hne
  cases ps with
  | nil => exact absurd rfl hne
  | cons p r =>
    have := join_weight y p r
    rw [hj] at this
    have h2 : r.length ≤ r.length * y.length := Nat.le_mul_of_pos_right _ hy
    simp only [List.length_cons]
    omega
/-- the row's pairs, in signs -/
theorem row_pairs : ∀ tw : Bool, ∀ d : Nat, d < (if tw then 25 else 26) → ((rowS tw)[2 * d]?.map (·.cps.toList) = some (pat tw d).1 ∧ (rowS tw)[2 * d + 1]?.map (·.cps.toList) = some (pat tw d).2) := by decide +kernel
theorem row_len : ∀ tw : Bool, (rowS tw).length = 2 * (if tw then 25 else 26) := by decide +kernel
theorem pat_ok : ∀ tw : Bool, ∀ d : Nat, d < 26 → (1 ≤ (pat tw d).1.length ∧ (pat tw d).1.length ≤ 2 ∧ (pat tw d).2.length ≤ 2) ∧ ∀ c ∈ (pat tw d).1, c < 256 := by decide +kernel
theorem str_of_list {x : Str} {l : List Nat} (h : x.cps.toList = l) : x = ofL l := str_eq h
theorem step_txt {tw : Bool} {bit d : Nat} {ns : List Nat} (hd : ∀ f ∈ ns, f < 10) (h : d < (if tw then 25 else 26)) {x a b : Str} (hx : x.cps.toList = txt tw bit d ns) (ha : a.cps.toList = (pat tw d).1) (hb : b.cps.toList = (pat tw d).2) :
    (Txt.join b (Txt.split x a)).cps.toList = txt tw bit (d + 1) ns := by
  have hput : (Txt.join b (Txt.split x a)).cps.toList = put (pat tw d) x.cps.toList := by
    have hok := pat_ok tw d (by cases tw <;> simp at h <;> omega)
    unfold put
    rw [← hb]
    generalize he : (pat tw d).1 = q at *
    match q, hok with
    | [c], _ =>
      rw [str_of_list ha]; exact join_split_one x b c
    | [c, e], hok =>
      rw [str_of_list ha]; exact join_split_two x b c e (hok.2 c (by simp)) (hok.2 e (by simp))
    | [], hok => exact absurd hok.1.1 (by decide)
    | c :: e :: f :: r, hok => exact absurd hok.1.2.1 (by simp)
  rw [hput, hx]
  cases tw with
  | true => exact stepD h ns hd
  | false => exact stepH h ns hd
theorem pair_ok {tw : Bool} {bit d : Nat} {ns : List Nat} (hl : ns.length ≤ 6) (h : d < 26) {x a b : Str} (hx : x.cps.toList = txt tw bit d ns) (ha : a.cps.toList = (pat tw d).1) (hb : b.cps.toList = (pat tw d).2) :
    (a.length == 0) = false ∧ x.length ≤ 100 ∧ JoinOk b (Txt.split x a) = true := by
  have hok := pat_ok tw d h
  have la : a.length = (pat tw d).1.length := by rw [← len_toList, ha]
  have lb : b.length = (pat tw d).2.length := by rw [← len_toList, hb]
  have lx : x.length ≤ 14 := by rw [← len_toList, hx]; exact txt_len hl
  refine ⟨?_, by omega, joinOk_of_weight ?_ (by omega)⟩
  · have : 1 ≤ a.length := by omega
    rw [beq_eq_false_iff_ne]; omega
  · have := split_weight (x := x) (y := a) (by omega)
    omega
/-- the texts in one call -/
theorem all_pairs {tw : Bool} {bit : Nat} {ns : List Nat} (hd : ∀ f ∈ ns, f < 10) (hl : ns.length ≤ 6) : ∀ (k d : Nat), d + k = (if tw then 25 else 26) → ∀ x : Str, x.cps.toList = txt tw bit d ns →
    PairsOk ((rowS tw).drop (2 * d)) x ∧ (applyPairs ((rowS tw).drop (2 * d)) x).cps.toList = txt tw bit (d + k) ns
  | 0, d, e, x, hx => by
    have : (rowS tw).drop (2 * d) = [] := List.drop_eq_nil_of_le (by rw [row_len]; omega)
    rw [this]
    exact ⟨trivial, hx⟩
  | k + 1, d, e, x, hx => by
    have hlt : d < (if tw then 25 else 26) := by omega
    obtain ⟨r1, r2⟩ := row_pairs tw d hlt
    obtain ⟨a, ea, ha⟩ := Option.map_eq_some_iff.mp r1
    obtain ⟨b, eb, hb⟩ := Option.map_eq_some_iff.mp r2
    have hdrop : (rowS tw).drop (2 * d) = a :: b :: (rowS tw).drop (2 * (d + 1)) := by
      obtain ⟨h1, e1⟩ := List.getElem?_eq_some_iff.mp ea
      obtain ⟨h2, e2⟩ := List.getElem?_eq_some_iff.mp eb
      rw [List.drop_eq_getElem_cons h1, e1, List.drop_eq_getElem_cons h2, e2, show 2 * d + 1 + 1 = 2 * (d + 1) by omega]
    have hs := step_txt (bit := bit) hd hlt hx ha hb
    obtain ⟨i1, i2⟩ := all_pairs hd hl k (d + 1) (by omega) _ hs
    obtain ⟨p1, p2, p3⟩ := pair_ok hl (by cases tw <;> simp at hlt <;> omega) hx ha hb
    rw [hdrop]
    refine ⟨⟨p1, p2, p3, i1⟩, ?_⟩
    rw [show d + (k + 1) = d + 1 + k by omega]
    exact i2
end Mine
end

/-! V6 -/
section
open PySem PySem.W PyProof.Rows PySem.Calls
set_option Elab.async false
set_option maxRecDepth 100000
set_option linter.unusedVariables false
namespace Mine
theorem dP_zero (f : Nat) (c : Bool) : dP 0 f c = (48 + f, c) := by unfold dP; rw [if_pos (Nat.zero_le _)]
theorem dL_zero (bit : Nat) : ∀ (f : Nat) (ns : List Nat), dL bit 0 (f :: ns) = (48 + f) :: (ns.map (48 + ·) ++ plus (bit == 1))
  | f, [] => by
    show (dP 0 f (bit == 1)).1 :: (plus (dP 0 f (bit == 1)).2 ++ []) = _
    rw [dP_zero]; simp
  | f, g :: r => by
    have e : dC bit 0 (g :: r) = false := by show (decide (4 < g) && decide (10 + g < 0)) = false; rw [decide_eq_false (show ¬ 10 + g < 0 by omega), Bool.and_false]
    show (dP 0 f (dC bit 0 (g :: r))).1 :: (plus (dP 0 f (dC bit 0 (g :: r))).2 ++ dL bit 0 (g :: r)) = _
    rw [e, dP_zero, dL_zero bit g r]; rfl
theorem hL_zero : ∀ ns : List Nat, hL 0 false ns = ns.map (48 + ·)
  | [] => rfl
  | f :: r => by
    rw [hL_cons (by omega), hL_zero r]
    have e1 : hBase 0 f = 48 + f := by unfold hBase hP; rw [if_pos (Nat.zero_le _)]
    have e2 : hO 0 f = false := by unfold hO; rw [decide_eq_false (show ¬ 10 + f < 0 by omega), Bool.and_false]
    rw [e1, e2]; rfl
theorem txt_zero_t (bit : Nat) (ns : List Nat) : txt true bit 0 ns = 48 :: (ns.map (48 + ·) ++ plus (bit == 1)) := dL_zero bit 0 ns
theorem txt_zero_f (bit : Nat) (ns : List Nat) : txt false bit 0 ns = ns.map (48 + ·) := hL_zero ns
/-- the figures' texts side by side -/
theorem figs_join : ∀ ns : List Nat, (∀ f ∈ ns, f < 10) → (Str.join (Str.ofString "") (ns.map fun (n : Nat) => fig (n : Int))).cps.toList = ns.map (48 + ·)
  | [], _ => rfl
  | [f], hd => fig_list f (hd f (by simp))
  | f :: g :: r, hd => by
    have ih := figs_join (g :: r) (fun q hq => hd q (by simp at hq ⊢; exact .inr hq))
    show (fig (f : Int) ++ Str.ofString "" ++ Str.join (Str.ofString "") ((g :: r).map fun (n : Nat) => fig (n : Int))).cps.toList = _
    rw [app_toList, app_toList, ih, fig_list f (hd f (by simp))]
    rfl
end Mine
end

/-! L2 -/
section
open PySem PySem.W PyProof.Rows PySem.Calls
set_option Elab.async false
set_option maxRecDepth 100000
set_option linter.unusedVariables false
namespace Mine
section
variable {prog : Program} {w : World} {A : Around} {E : Value → Shared → Prop} {s : Shared}
variable {x : Str} {px : Pos} {body : List Stmt} {env : Env} {h₀ : Heap} {D : Addr} {m : Str → Option Value} {news : List (Addr × Obj)} {Q : Flow → Shared → Prop} {M' : Model} {E' : Value → Shared → Prop}

theorem forSeq {cl icl : String} {items : Array Value} {nn : Nat} {St : Nat → Heap → Prop}
    (hm : (D, ({ cls := .type cl, data := .seq items nn } : Obj)) ∈ news)
    (W : ∀ I, D ≠ I → ∃ St : Nat → Heap → Prop, Walks prog w A I [I, D] [I] items.size (fun i v => items[i]? = some v) St ∧ ∀ h : Heap, (∃ o, h.get? I = some o ∧ o.cls = .type icl ∧ o.data = .fields #[.ref D, .int 0 0]) → h.get? D = some { cls := .type cl, data := .seq items nn } → St 0 h)
    (hit : ∀ (Q : Value → Shared → Prop), Q (.ref s.heap.objs.size) { s with heap := s.heap.push { cls := .type icl, data := .fields #[.ref D, .int 0 0] } } → wpAny (model prog w) A (pyIter (.ref D)) Q E s)
    (hx : env.kindOf x = some .local)
    (hp : (env.scope.kind == .class || (env.scope.kind == .module && env.locals != env.globals)) = false) (F : Fr h₀ env.locals s.heap m) (N : News h₀ env.locals s.heap news)
    (J : Nat → (Str → Option Value) → Prop) (h0 : J 0 m)
    (step : ∀ i v m₁ own h tk, items[i]? = some v → J i m₁ → Fr h₀ env.locals h (fun y => if y = x then some v else m₁ y) → News h₀ env.locals h (own ++ news) →
      wpC (model prog w) A (execs body env) (fun f s₂ => match f with
        | .ret v => Q (.ret v) s₂
        | .brk => Q .next s₂
        | _ => ∃ h' tk' m', s₂ = { s with heap := h', toks := tk' } ∧ Fr h₀ env.locals h' m' ∧ News h₀ env.locals h' (own ++ news) ∧ J (i + 1) m') (fun _ _ => False) { s with heap := h, toks := tk })
    (hR : ∀ h' tk m', Fr h₀ env.locals h' m' → News h₀ env.locals h' news → J items.size m' → Q .next { s with heap := h', toks := tk }) :
    wpAny (model prog w) A (pyIter (.ref D)) (fun it s₂ => codeC (model prog w) A (.forLoop (.Name x px) it body [] env) (fun r s' => match r with | .ok f => Q f s' | .error e => cameBackBy M' A env E' e s') s₂) E s := by
  refine hit _ ?_
  have hlt : D < s.heap.objs.size := Heap.lt_size (N _ hm).1
  have hN : ∀ q ∈ adrs news, q ≠ s.heap.objs.size := fun q hq e => by
    obtain ⟨p, hp, rfl⟩ := List.mem_map.mp hq
    exact absurd (Heap.lt_size (N p hp).1) (e ▸ Nat.lt_irrefl _)
  obtain ⟨St, W, hSt⟩ := W s.heap.objs.size (Nat.ne_of_lt hlt)
  refine forL (R := fun r s' => match r with | .ok f => Q f s' | .error e => cameBackBy M' A env E' e s') W hx hp ?_ (fun b hb => by rw [List.mem_singleton.mp hb]; exact next_is_new F)
    (fun q hq hm' => hN q hq (List.mem_singleton.mp hm')) (hSt _ ⟨_, Heap.get?_push_size _ rfl, rfl, rfl⟩ (Heap.get?_push_of_some _ (N _ hm).1)) (F.push _) (fun p hp => ⟨Heap.get?_push_of_some _ (N p hp).1, (N p hp).2⟩) (fun i m nl => J i m ∧ nl = news) ⟨h0, rfl⟩ ?_ ?_
  · intro hL
    rcases List.mem_cons.mp hL with e | hL
    · exact absurd F.ns.lt (e ▸ Nat.lt_irrefl _)
    · exact (N _ hm).2.1 (List.mem_singleton.mp hL).symm
  · rintro i v m₁ news₁ own h tk hi hv ⟨hJ, rfl⟩ hadr hown F₁ N₁
    refine wpC_mono (step i v m₁ own h tk hv hJ F₁ N₁) (fun f s₂ h₂ => ?_) fun _ _ z => z
    cases f with
    | ret v => exact h₂
    | brk => exact h₂
    | next => obtain ⟨h', tk', m', e, F', N', hJ'⟩ := h₂; exact ⟨h', tk', m', news₁, e, F', N', rfl, hJ', rfl⟩
    | cont => obtain ⟨h', tk', m', e, F', N', hJ'⟩ := h₂; exact ⟨h', tk', m', news₁, e, F', N', rfl, hJ', rfl⟩
  · rintro h' tk m' news' F' N' ha ⟨hJ, rfl⟩
    exact hR h' tk m' F' N' hJ

/-- a loop over a list that stays as it is -/
theorem forList {ys : List Value} {nn : Nat} (hh : A.handled = none) (hm : (D, W.listOf ys.toArray nn) ∈ news) (hx : env.kindOf x = some .local)
    (hp : (env.scope.kind == .class || (env.scope.kind == .module && env.locals != env.globals)) = false) (F : Fr h₀ env.locals s.heap m) (N : News h₀ env.locals s.heap news)
    (J : Nat → (Str → Option Value) → Prop) (h0 : J 0 m)
    (step : ∀ i v m₁ own h tk, ys[i]? = some v → J i m₁ → Fr h₀ env.locals h (fun y => if y = x then some v else m₁ y) → News h₀ env.locals h (own ++ news) →
      wpC (model prog w) A (execs body env) (fun f s₂ => match f with
        | .ret v => Q (.ret v) s₂
        | .brk => Q .next s₂
        | _ => ∃ h' tk' m', s₂ = { s with heap := h', toks := tk' } ∧ Fr h₀ env.locals h' m' ∧ News h₀ env.locals h' (own ++ news) ∧ J (i + 1) m') (fun _ _ => False) { s with heap := h, toks := tk })
    (hR : ∀ h' tk m', Fr h₀ env.locals h' m' → News h₀ env.locals h' news → J ys.length m' → Q .next { s with heap := h', toks := tk }) :
    wpAny (model prog w) A (pyIter (.ref D)) (fun it s₂ => codeC (model prog w) A (.forLoop (.Name x px) it body [] env) (fun r s' => match r with | .ok f => Q f s' | .error e => cameBackBy M' A env E' e s') s₂) E s :=
  forSeq (cl := "list") (icl := "list_iterator") (items := ys.toArray) (St := fun _ _ => True) hm
    (fun I hne => ⟨_, Walks.list hh I D hne ys.toArray, fun h ⟨o, ho, hc, hd⟩ hD => ⟨⟨o, ho, hc, hd⟩, ⟨_, hD, rfl, _, rfl⟩⟩⟩)
    (fun Q hQ => wpAny_pyIter_list ⟨_, (N _ hm).1, rfl, _, rfl⟩ hQ) hx hp F N J h0 (fun i v m₁ own h tk hv => step i v m₁ own h tk (by simpa using hv)) (by simpa using hR)
/-- a loop over a tuple -/
theorem forTuple {ys : List Value} (hh : A.handled = none) (hm : (D, ({ cls := .type "tuple", data := .seq ys.toArray } : Obj)) ∈ news) (hx : env.kindOf x = some .local)
    (hp : (env.scope.kind == .class || (env.scope.kind == .module && env.locals != env.globals)) = false) (F : Fr h₀ env.locals s.heap m) (N : News h₀ env.locals s.heap news)
    (J : Nat → (Str → Option Value) → Prop) (h0 : J 0 m)
    (step : ∀ i v m₁ own h tk, ys[i]? = some v → J i m₁ → Fr h₀ env.locals h (fun y => if y = x then some v else m₁ y) → News h₀ env.locals h (own ++ news) →
      wpC (model prog w) A (execs body env) (fun f s₂ => match f with
        | .ret v => Q (.ret v) s₂
        | .brk => Q .next s₂
        | _ => ∃ h' tk' m', s₂ = { s with heap := h', toks := tk' } ∧ Fr h₀ env.locals h' m' ∧ News h₀ env.locals h' (own ++ news) ∧ J (i + 1) m') (fun _ _ => False) { s with heap := h, toks := tk })
    (hR : ∀ h' tk m', Fr h₀ env.locals h' m' → News h₀ env.locals h' news → J ys.length m' → Q .next { s with heap := h', toks := tk }) :
    wpAny (model prog w) A (pyIter (.ref D)) (fun it s₂ => codeC (model prog w) A (.forLoop (.Name x px) it body [] env) (fun r s' => match r with | .ok f => Q f s' | .error e => cameBackBy M' A env E' e s') s₂) E s :=
  forSeq (cl := "tuple") (icl := "tuple_iterator") (items := ys.toArray) (St := fun _ _ => True) hm
    (fun I hne => ⟨_, Walks.tuple hh I D hne ys.toArray, fun h ⟨o, ho, hc, hd⟩ hD => ⟨⟨o, ho, hc, hd⟩, ⟨_, hD, rfl, _, rfl⟩⟩⟩)
    (fun Q hQ => wpAny_pyIter_tuple ⟨_, (N _ hm).1, rfl, _, rfl⟩ hQ) hx hp F N J h0 (fun i v m₁ own h tk hv => step i v m₁ own h tk (by simpa using hv)) (by simpa using hR)
end
end Mine
end

/-! W1 -/
section
open PySem PySem.W PyProof.Rows PySem.Calls
set_option Elab.async false
set_option maxRecDepth 100000
set_option maxHeartbeats 8000000
set_option linter.unusedVariables false
namespace Mine
/-! the law's own text, in parts -/
def lawD : Option (Arguments × List Stmt × Scope) := PySem.Challenge.rw_pg0019_01.row.prog.theDef (Str.ofString "law")
def turnB : List Stmt := match lawD with | some (_, [_, _, _, _, _, .For _ _ b _ _, _], _) => b | _ => []
def doneB : List Stmt := match turnB with | [_, _, _, _, _, .For _ _ b _ _, _] => b | _ => []
def lawS : Scope := match lawD with | some (_, _, s) => s | _ => default
abbrev lawE (L a : Addr) (cd : Value) : Env := envOf (Str.ofString "law") lawS L a cd

def mkAt (q : Nat) : Nat := [124, 43, 45, 97, 98, 99, 100, 101, 102, 103, 104, 105, 106].getD q 0
theorem mark_item : ∀ q : Nat, q < 13 → Txt.item (Str.ofString "|+-abcdefghij") (q : Int) = ⟨#[mkAt q]⟩ := by decide +kernel
theorem mark_ok : ∀ q : Nat, q < 13 → mkAt q ≠ 40 ∧ mkAt q ≠ 41 := by decide +kernel

/-- the names that a turn does not change -/
structure TM (D R : Addr) (tw : Bool) (bit num wor : Int) (mk st : Str) (M : Str → Option Value) : Prop where
  fig : M (Str.ofString "figures") = some (.ref D)
  bit : ∃ t, M (Str.ofString "bit") = some (.int bit t)
  mark : ∃ t, M (Str.ofString "mark") = some (.str mk t)
  num : ∃ t, M (Str.ofString "number") = some (.int num t)
  twi : M (Str.ofString "twice") = some (.bool tw)
  row : M (Str.ofString "row") = some (.ref R)
  sta : ∃ t, M (Str.ofString "start") = some (.str st t)
  wor : ∃ t, M (Str.ofString "worth") = some (.int wor t)
def tmNames : List Str := ["figures", "bit", "mark", "number", "twice", "row", "start", "worth"].map Str.ofString
theorem TM.set {D R : Addr} {tw : Bool} {bit num wor : Int} {mk st : Str} {M : Str → Option Value} (h : TM D R tw bit num wor mk st M) {x : Str} {v : Value} (hx : tmNames.all (fun y => y != x) = true) :
    TM D R tw bit num wor mk st (fun y => if y = x then some v else M y) := by
  have hne : ∀ y ∈ tmNames, y ≠ x := fun y hy => by
    have := List.all_eq_true.mp hx y hy
    exact bne_iff_ne.mp this
  have put : ∀ y ∈ tmNames, ∀ z, M y = some z → (if y = x then some v else M y) = some z := fun y hy z e => (if_neg (hne y hy)).trans e
  obtain ⟨h1, ⟨t2, h2⟩, ⟨t3, h3⟩, ⟨t4, h4⟩, h5, h6, ⟨t7, h7⟩, ⟨t8, h8⟩⟩ := h
  exact ⟨put _ (by decide) _ h1, ⟨t2, put _ (by decide) _ h2⟩, ⟨t3, put _ (by decide) _ h3⟩, ⟨t4, put _ (by decide) _ h4⟩, put _ (by decide) _ h5, put _ (by decide) _ h6, ⟨t7, put _ (by decide) _ h7⟩, ⟨t8, put _ (by decide) _ h8⟩⟩

/-! plain facts of a turn -/
theorem dig_found (c : Nat) : (!(Builtin.Str.occurrences (Str.ofString "0123456789") ⟨#[c]⟩ 0 (Str.ofString "0123456789").length 1).isEmpty) = isDig c := by
  rw [StrLaws.found_one]
  have e : (Str.ofString "0123456789").cps.toList = [48, 49, 50, 51, 52, 53, 54, 55, 56, 57] := by decide +kernel
  rw [e, Bool.eq_iff_iff]
  unfold isDig
  simp only [decide_eq_true_eq, Bool.and_eq_true, List.mem_cons, List.not_mem_nil, or_false]
  omega
theorem reply_of {tw : Bool} {bit d q : Nat} {ns : List Nat} (hd : ∀ f ∈ ns, f < 10) (hq : q < 13) {x : Str} (hx : x.cps.toList = txt tw bit d ns) :
    Reply (Str.ofString "229 (" ++ Txt.mul ⟨#[mkAt q]⟩ 3 ++ x ++ ⟨#[mkAt q]⟩ ++ Str.ofString ")") (mkAt q) (txt tw bit d ns) := by
  obtain ⟨m1, m2⟩ := mark_ok q hq
  refine ⟨?_, m1, m2, ?_, ?_⟩
  · rw [app_toList, app_toList, app_toList, app_toList, hx]
    have e1 : (Str.ofString "229 (").cps.toList = [50, 50, 57, 32, 40] := by decide +kernel
    have e2 : (Txt.mul ⟨#[mkAt q]⟩ 3).cps.toList = [mkAt q, mkAt q, mkAt q] := rfl
    have e3 : (Str.ofString ")").cps.toList = [41] := by decide +kernel
    rw [e1, e2, e3]
    simp
  · intro h; rcases txt_sgn hd _ h with e | e | e | e <;> omega
  · intro h; rcases txt_sgn hd _ h with e | e | e | e <;> omega
theorem txt_ascii {tw : Bool} {bit d : Nat} {ns : List Nat} (hd : ∀ f ∈ ns, f < 10) : ∀ c ∈ txt tw bit d ns, c < 128 := fun c hc => by
  rcases txt_sgn hd c hc with e | e | e | e <;> omega
end Mine
end

/-! W1b -/
section
open PySem PySem.W PyProof.Rows PySem.Calls
set_option Elab.async false
set_option maxRecDepth 100000
set_option maxHeartbeats 8000000
set_option linter.unusedVariables false
namespace Mine
/-- what the law holds against what it is told -/
inductive Due (r : Str) (mk : Nat) (t : List Nat) (n : Int) : Value → Value → Prop
  | proto (t1 t2 : Tok) : mk ∈ t → Due r mk t n (.str (Str.ofString "proto") t1) (.str r t2)
  | value (t1 t2 : Tok) : mk ∉ t → t.all isDig = false → Due r mk t n (.str (Str.ofString "value") t1) (.str (Str.ofString "") t2)
  | num (t1 t2 : Tok) : mk ∉ t → t.all isDig = true → Due r mk t n (.str (Str.ofString "b") t1) (.int n t2)
theorem strOk_small {x : Str} (h : ∀ c ∈ x.cps.toList, c < 128) : PySem.PyData.strOk x = true := by
  unfold PySem.PyData.strOk
  rw [← Array.all_toList, List.all_eq_true]
  intro c hc
  have := h c hc
  rw [decide_eq_true_eq]; omega
theorem two_ok {a b : PyData} (ha : a.canLay0 = true) (hb : b.canLay0 = true) (da : a.depth = 0) (db : b.depth = 0) : SeqAt.shaped (.tuple [a, b]) = true ∧ PyData.eqv (.tuple [a, b]) (.tuple [a, b]) = true := by
  have hc : PyData.canLay0 (.tuple [a, b]) = true := by simp [PyData.canLay0, PyData.canLayAll0, ha, hb]
  refine ⟨?_, SeqAt.eqv_refl _ hc⟩
  unfold SeqAt.shaped
  rw [hc]
  simp [PyData.depth, PyData.depthAll, da, db]
theorem told_due {r : Str} {mk : Nat} {t : List Nat} {n : Int} {x y u v : Value} (ho : ∀ c ∈ r.cps.toList, c < 128) (hi : PySem.intText? (ofL t) = if t.all isDig then some n else none)
    (h1 : Told r mk t x y) (h2 : Due r mk t n u v) : ∃ a b : PyData, CarriedAll [x, y] [a, b] ∧ CarriedAll [u, v] [a, b] ∧ SeqAt.shaped (.tuple [a, b]) = true ∧ PyData.eqv (.tuple [a, b]) (.tuple [a, b]) = true := by
  cases h1 with
  | proto t1 t2 hm =>
    cases h2 with
    | proto t3 t4 _ =>
      exact ⟨_, _, .cons (.str _ _) (.cons (.str _ _) .nil), .cons (.str _ _) (.cons (.str _ _) .nil), two_ok (strOk_small (by decide +kernel)) (strOk_small ho) rfl rfl⟩
    | value _ _ h => exact absurd hm h
    | num _ _ h => exact absurd hm h
  | value t1 t2 hm hn =>
    cases h2 with
    | proto _ _ h => exact absurd h hm
    | value t3 t4 _ _ =>
      exact ⟨_, _, .cons (.str _ _) (.cons (.str _ _) .nil), .cons (.str _ _) (.cons (.str _ _) .nil), two_ok (strOk_small (by decide +kernel)) (strOk_small (by decide +kernel)) rfl rfl⟩
    | num _ _ _ h => rw [h, if_pos rfl] at hi; rw [hi] at hn; cases hn
  | num k t1 t2 hm hn =>
    cases h2 with
    | proto _ _ h => exact absurd h hm
    | value _ _ _ h => rw [h, if_neg (by decide)] at hi; rw [hi] at hn; cases hn
    | num t3 t4 _ h =>
      rw [h, if_pos rfl, hn] at hi
      cases hi
      exact ⟨_, _, .cons (.str _ _) (.cons (.int _ _) .nil), .cons (.str _ _) (.cons (.int _ _) .nil), two_ok (strOk_small (by decide +kernel)) rfl rfl rfl⟩
/-! the signs that are no figures -/
theorem strs_shaped : ∀ l : List Str, (∀ a ∈ l, PySem.PyData.strOk a = true) → PyData.canLayAll0 (l.map .str) = true ∧ PyData.depthAll (l.map .str) = 0
  | [], _ => ⟨rfl, rfl⟩
  | a :: r, h => by
    obtain ⟨i1, i2⟩ := strs_shaped r (fun b hb => h b (by simp [hb]))
    refine ⟨?_, ?_⟩
    · simp only [List.map_cons, PyData.canLayAll0, PyData.canLay0, i1, h a (by simp), Bool.and_self]
    · simp only [List.map_cons, PyData.depthAll, PyData.depth, i2]; rfl
theorem list_shaped (l : List Str) (h : ∀ a ∈ l, PySem.PyData.strOk a = true) : SeqAt.shaped (.list (l.map .str)) = true := by
  obtain ⟨i1, i2⟩ := strs_shaped l h
  simp [SeqAt.shaped, PyData.canLay0, PyData.depth, i1, i2]
abbrev noFig (a : Str) : Bool := !(!(Builtin.Str.occurrences (Str.ofString "0123456789") a 0 (Str.ofString "0123456789").length 1).isEmpty)
theorem noFig_filter (x : Str) : (signs x).filter noFig = (x.cps.toList.filter fun c => !isDig c).map fun c => ⟨#[c]⟩ := by
  unfold signs
  rw [List.filter_map]
  congr 1
  apply List.filter_congr
  intro c _
  show (!(!(Builtin.Str.occurrences (Str.ofString "0123456789") ⟨#[c]⟩ 0 (Str.ofString "0123456789").length 1).isEmpty)) = !isDig c
  rw [dig_found]
theorem noFig_none (x : Str) : PyData.eqv (.list (((signs x).filter noFig).map .str)) (.list []) = x.cps.toList.all isDig := by
  rw [noFig_filter]
  have e : ∀ l : List PyData, PyData.eqv (.list l) (.list []) = l.isEmpty := fun l => by cases l <;> simp [PyData.eqv, PyData.eqvAll]
  rw [e]
  generalize x.cps.toList = t
  induction t with
  | nil => rfl
  | cons c r ih =>
    cases h : isDig c with
    | true => simp [h] at ih ⊢; exact ih
    | false => simp [h]
theorem noFig_ok {x : Str} (h : ∀ c ∈ x.cps.toList, c < 128) : SeqAt.shaped (.list (((signs x).filter noFig).map .str)) = true := by
  refine list_shaped _ fun a ha => strOk_small fun c hc => ?_
  obtain ⟨k, hk, rfl⟩ := List.mem_map.mp (List.mem_filter.mp ha).1
  rw [List.mem_singleton.mp hc]
  exact h k hk
end Mine
end

/-! W2 -/
section
open PySem PySem.W PyProof.Rows PySem.Calls
set_option Elab.async false
set_option maxRecDepth 100000
set_option maxHeartbeats 8000000
set_option pp.maxSteps 6000
set_option linter.unusedVariables false
namespace Mine
variable {w : World} {p : Program} {loose : List Str} {mean : ExcName → Option Value} {mg mb : Str → Option Value}

theorem done_turn (dp un : Nat) (gd : Option (List Code)) (a : Addr) (cd : Value) (A₀ : Around) (base h₀ : Heap) (L : Addr) (M : Str → Option Value) (news : List (Addr × Obj)) (s : Shared)
    (Q : Flow → Shared → Prop) (E : Value → Shared → Prop) (D R : Addr) (ys rvs : List Value) (nn nr : Nat) (ns : List Nat) (tw : Bool) (bit q i : Nat) (st x : Str) (td tx : Tok)
    (B : Below A₀ base [] h₀) (F : Fr h₀ L s.heap M) (X : (hdC.heap_39 w.params).In h₀) (N : News h₀ L s.heap news) (T : Top p loose mean mg mb h₀) (XB : (hdC.heap_39 w.params).In base) (TB : Top p loose mean mg mb base)
    (hD : (D, W.listOf ys.toArray nn) ∈ news) (hys : IntsAre ys (natInts ns)) (hns : ∀ f ∈ ns, f < 10) (hn0 : ns ≠ []) (hn6 : ns.length ≤ 6) (hb1 : bit ≤ 1)
    (hR : (R, W.listOf rvs.toArray nr) ∈ news) (hrs : StrsAre rvs (rowS tw))
    (hm : TM D R tw bit (numR ns : Nat) (worthOf tw bit ns : Nat) ⟨#[mkAt q]⟩ st M) (hq : q < 13)
    (hd : M (Str.ofString "done") = some (.int i td)) (hi : i ≤ (if tw then 25 else 26))
    (hnow : M (Str.ofString "now") = some (.str x tx)) (hx : x.cps.toList = txt tw bit (i - 1) ns)
    (hdp : dp + 6 < recursionLimit) (hu : un + 100 < cLine)
    (hret : ∀ h' tk' M' y t, Fr h₀ L h' M' → News h₀ L h' news → TM D R tw bit (numR ns : Nat) (worthOf tw bit ns : Nat) ⟨#[mkAt q]⟩ st M' → M' (Str.ofString "now") = some (.str y t) → y.cps.toList = txt tw bit i ns → Q .next { s with heap := h', toks := tk' }) :
    wpC (model PySem.Challenge.rw_pg0019_01.row.prog w) (ktrTop dp un gd (Str.ofString "law") lawS L a cd [] []) (execs doneB (lawE L a cd)) Q E s := by
  revert X XB; k_fill; intro X XB
  have TR := topRead_of T
  have hil : (i : Int) ≤ 26 := by cases tw <;> simp at hi <;> omega
  -- now
  with_unfolding_all refine wpC_execs_cons (wpC_mono (E := E) (Q := fun f s' => f = .next ∧ ∃ h' tk' M' y t, s' = { s with heap := h', toks := tk' } ∧ Fr h₀ L h' M' ∧ News h₀ L h' news ∧ TM D R tw bit (numR ns : Nat) (worthOf tw bit ns : Nat) ⟨#[mkAt q]⟩ st M' ∧ M' (Str.ofString "done") = some (.int i td) ∧ M' (Str.ofString "now") = some (.str y t) ∧ y.cps.toList = txt tw bit i ns) (wpC_If (wpC.of (wpAny_isTrue_Compare1 (ld F hd (wpAny_Constant_int (gt_int (wpAny_truthy_bool ?_))))))) ?_ (fun _ _ z => z))
  · by_cases h0 : i = 0
    · subst h0
      refine ite_no (by decide) (wpC_execs_nil ⟨rfl, s.heap, _, M, x, tx, rfl, F, N, hm, hd, hnow, hx⟩)
    · refine ite_yes (decide_eq_true (by omega)) ?_
      obtain ⟨j, rfl⟩ : ∃ j, i = j + 1 := ⟨i - 1, by omega⟩
      refine wpC_execs_cons ?_
      refine wpC_Assign_Name ?_
      refine wpC_Call ?_
      refine name_K F X TR (by k_is) ?_
      obtain ⟨o21, fd21, k21, d21⟩ : ∃ (o : Obj) (fd : FuncData), (hdC.heap_39 w.params).lookup 21 = some o ∧ o.data = .func fd := ⟨_, _, by k_is, rfl⟩
      refine wpC_callWith_def (o := o21) (fd := fd21) d21 ?_
      refine args_cons ?_
      refine ld F hnow ?_
      refine args_cons ?_
      refine Subscript_ ?_
      refine ld F hm.row ?_
      refine wpAny_BinOp ?_
      refine wpAny_BinOp ?_
      refine wpAny_Constant_int ?_
      refine ld F hd ?_
      with_reducible refine mul2 ?_
      refine wpAny_Constant_int ?_
      with_reducible refine sub_int ?_
      have hjl : j < (if tw then 25 else 26) := by omega
      have hj26 : j < 26 := by omega
      obtain ⟨r1, r2⟩ := row_pairs tw j hjl
      obtain ⟨ra, ea, ha⟩ := Option.map_eq_some_iff.mp r1
      obtain ⟨rb, eb, hb⟩ := Option.map_eq_some_iff.mp r2
      obtain ⟨ta, va⟩ := hrs.get _ _ ea
      obtain ⟨tb, vb⟩ := hrs.get _ _ eb
      have hx' : x.cps.toList = txt tw bit j ns := hx
      refine item_listL (x := .str ra ta) (News.isList N hR) (by omega) (by omega) (by rw [show (2 * ((j + 1 : Nat) : Int) - 2).toNat = 2 * j by omega]; exact va) ?_
      refine args_cons ?_
      refine Subscript_ ?_
      refine ld F hm.row ?_
      refine wpAny_BinOp ?_
      refine wpAny_BinOp ?_
      refine wpAny_Constant_int ?_
      refine ld F hd ?_
      with_reducible refine mul2 ?_
      refine wpAny_Constant_int ?_
      with_reducible refine sub_int ?_
      refine item_listL (x := .str rb tb) (News.isList N hR) (by omega) (by omega) (by rw [show (2 * ((j + 1 : Nat) : Int) - 1).toNat = 2 * j + 1 by omega]; exact vb) ?_
      refine args_nil ⟨(X.keeps F.keep) _ _ k21, ?_⟩
      refine wpC.of (told_replace dp un gd _ _ _ _ [] [] A₀ base h₀ L M news _ _ _ x tx _ [ra, rb] B F X N T rfl (.cons ra ta (.cons rb tb .nil)) (Nat.le_of_ble_eq_true rfl) ?_ (by omega) (by omega) ?_)
      · obtain ⟨p1, p2, p3⟩ := pair_ok hn6 hj26 hx' ha hb
        exact ⟨p1, p2, p3, trivial⟩
      · intro t h2 tk2 F2 N2
        refine wpC.of ?_
        refine stN F2 N2 (fun h3 F3 N3 => ?_)
        refine wpC_execs_nil ⟨rfl, h3, _, _, _, t, rfl, F3, N3, hm.set (by decide), (if_neg (by decide)).trans hd, if_pos rfl, ?_⟩
        exact step_txt hns hjl hx' ha hb
  · rintro f s' ⟨rfl, h2, tk2, M2, y, ty, rfl, F2, N2, hm2, hd2, hnow2, hy⟩
    clear hd hnow hx hm F N
    dsimp only
    -- text
    refine wpC_execs_cons (wpC_mono (E := E) (Q := fun f s' => f = .next ∧ ∃ h' tk' M' t, s' = { s with heap := h', toks := tk' } ∧ Fr h₀ L h' M' ∧ News h₀ L h' news ∧ TM D R tw bit (numR ns : Nat) (worthOf tw bit ns : Nat) ⟨#[mkAt q]⟩ st M' ∧ M' (Str.ofString "done") = some (.int i td) ∧ M' (Str.ofString "now") = some (.str y ty) ∧ M' (Str.ofString "text") = some (.str y t)) (wpC_If (wpC.of (isTrue_plain (ld F2 hm2.twi (wpAny_truthy_bool ?_))))) ?_ (fun _ _ z => z))
    · obtain ⟨tbit, hbit⟩ := hm2.bit
      have hyl : ys.length = ns.length := by rw [hys.length, List.length_map]
      cases tw with
      | true =>
        refine ite_yes rfl ?_
        refine wpC_execs_cons ?_
        refine wpC_Assign_Name ?_
        refine wpC_Call ?_
        refine name_K F2 X TR (by k_is) ?_
        obtain ⟨o86, fd86, k86, d86⟩ : ∃ (o : Obj) (fd : FuncData), (hdC.heap_39 w.params).lookup 86 = some o ∧ o.data = .func fd := ⟨_, _, by k_is, rfl⟩
        refine wpC_callWith_def (o := o86) (fd := fd86) d86 ?_
        refine args_cons ?_
        refine wpAny_BinOp ?_
        refine List_ ?_
        refine args_cons ?_
        refine wpAny_Constant_int ?_
        refine args_nil ?_
        refine newList_N F2 N2 (fun h3 F3 N3 => ?_) (by rw [sizeLine_eq]; exact Nat.le_of_ble_eq_true rfl)
        refine ld F3 hm2.fig ?_
        refine kmk_add_lit F3 N3 (News.isList N3 (.head _)) (News.isList N3 (.tail _ hD)) rfl (fun D2 h4 F4 N4 _ => ?_) (by rw [sizeLine_eq]; simp; omega)
        refine args_cons ?_
        refine ld F4 hbit ?_
        refine args_cons ?_
        refine ld F4 hd2 ?_
        refine args_nil ⟨(X.keeps F4.keep) _ _ k86, ?_⟩
        refine wpC.of (told_doubling dp un gd _ _ _ _ [] [] A₀ base h₀ L M2 _ _ _ _ D2 _ (natInts (0 :: ns)) 0 (bit : Int) (i : Int) tbit td B F4 X N4 (.head _) T rfl (.cons 0 _ hys) (by simp; omega) ?_ (by omega) (by omega) ?_)
        · intro z hz
          obtain ⟨f, hf, rfl⟩ := List.mem_map.mp hz
          have := cons_dig hns f hf
          omega
        · intro t h5 tk5 F5 N5
          refine wpC.of ?_
          refine stN F5 N5 (fun h6 F6 N6 => ?_)
          have ey : doublingS (natInts (0 :: ns)) (bit : Int) (i : Int) = y := str_eq ((doubling_list bit i (0 :: ns) (cons_dig hns)).trans hy.symm)
          rw [ey] at F6
          exact wpC_execs_nil ⟨rfl, h6, _, _, t, rfl, F6, fun p hp => N6 p (.tail _ (.tail _ hp)), hm2.set (by decide), (if_neg (by decide)).trans hd2, (if_neg (by decide)).trans hnow2, if_pos rfl⟩
      | false =>
        refine ite_no rfl ?_
        refine wpC_execs_cons ?_
        refine wpC_Assign_Name ?_
        refine wpC_Call ?_
        refine name_K F2 X TR (by k_is) ?_
        obtain ⟨o93, fd93, k93, d93⟩ : ∃ (o : Obj) (fd : FuncData), (hdC.heap_39 w.params).lookup 93 = some o ∧ o.data = .func fd := ⟨_, _, by k_is, rfl⟩
        refine wpC_callWith_def (o := o93) (fd := fd93) d93 ?_
        refine args_cons ?_
        refine ld F2 hm2.fig ?_
        refine args_cons ?_
        refine ld F2 hd2 ?_
        refine args_nil ⟨(X.keeps F2.keep) _ _ k93, ?_⟩
        refine wpC.of (told_halving dp un gd _ _ _ _ [] [] A₀ base h₀ L M2 _ _ _ _ D _ (natInts ns) nn (i : Int) td B F2 X N2 hD T rfl hys (by simp; omega) ?_ (by omega) (by omega) ?_)
        · intro z hz
          obtain ⟨f, hf, rfl⟩ := List.mem_map.mp hz
          have := hns f hf
          omega
        · intro t h5 tk5 F5 N5
          refine wpC.of ?_
          refine stN F5 N5 (fun h6 F6 N6 => ?_)
          have ey : halvingS (natInts ns) (i : Int) = y := str_eq ((halving_list i ns hns).trans hy.symm)
          rw [ey] at F6
          exact wpC_execs_nil ⟨rfl, h6, _, _, t, rfl, F6, N6, hm2.set (by decide), (if_neg (by decide)).trans hd2, (if_neg (by decide)).trans hnow2, if_pos rfl⟩
    · rintro f s' ⟨rfl, h3, tk3, M3, tt, rfl, F3, N3, hm3, hd3, hnow3, htxt3⟩
      clear hd2 hnow2 hm2 F2 N2
      dsimp only
      -- now != text
      refine wpC_execs_cons ?_
      refine wpC_If ?_
      refine wpC.of ?_
      refine wpAny_isTrue_Compare1 ?_
      refine ld F3 hnow3 ?_
      refine ld F3 htxt3 ?_
      refine ne_str ?_
      refine wpAny_truthy_bool ?_
      refine ite_no (by simp) ?_
      refine wpC_execs_nil ?_
      dsimp only
      -- reply
      obtain ⟨tmk, hmk⟩ := hm3.mark
      have hyl : y.length ≤ 14 := by rw [← len_toList, hy]; exact txt_len hn6
      have e3 : (Txt.mul ⟨#[mkAt q]⟩ 3).length = 3 := rfl
      have e1 : (⟨#[mkAt q]⟩ : Str).length = 1 := rfl
      refine wpC_execs_cons ?_
      refine wpC.of ?_
      refine wpAny_Assign_Name ?_
      refine wpAny_BinOp ?_
      refine wpAny_BinOp ?_
      refine wpAny_BinOp ?_
      refine wpAny_BinOp ?_
      refine Constant_str ?_
      refine wpAny_BinOp ?_
      refine ld F3 hmk ?_
      refine wpAny_Constant_int ?_
      refine SB.mul (mulOk_of 1 9 (Nat.le_refl 1) (by decide) (by decide) (by decide) (by decide)) (fun t8 k8 => ?_)
      refine add_str (fun t9 k9 => ?_) (by rw [sizeLine_eq, e3]; decide)
      refine ld F3 hnow3 ?_
      refine add_str (fun t10 k10 => ?_) (by rw [sizeLine_eq, Str.length_append, e3]; show 5 + 3 + _ ≤ _; omega)
      refine ld F3 hmk ?_
      refine add_str (fun t11 k11 => ?_) (by rw [sizeLine_eq, Str.length_append, Str.length_append, e3, e1]; show 5 + 3 + _ + 1 ≤ _; omega)
      refine Constant_str ?_
      refine add_str (fun t12 k12 => ?_) (by rw [sizeLine_eq, Str.length_append, Str.length_append, Str.length_append, e3, e1]; show 5 + 3 + _ + 1 + 1 ≤ _; omega)
      have rp := reply_of (tw := tw) (bit := bit) (d := i) hns hq hy
      refine stN F3 N3 (fun h4 F4 N4 => ?_)
      dsimp only
      generalize Str.ofString "229 (" ++ Txt.mul ⟨#[mkAt q]⟩ 3 ++ y ++ ⟨#[mkAt q]⟩ ++ Str.ofString ")" = rpl at rp F4
      -- due
      refine wpC_execs_cons (wpC_mono (E := E) (Q := fun f s' => f = .next ∧ ∃ h' tk' M' t12 Z u v, s' = { s with heap := h', toks := tk' } ∧ Fr h₀ L h' M' ∧ News h₀ L h' ((Z, tupOf [u, v]) :: news) ∧ TM D R tw bit (numR ns : Nat) (worthOf tw bit ns : Nat) ⟨#[mkAt q]⟩ st M' ∧ M' (Str.ofString "now") = some (.str y ty) ∧ M' (Str.ofString "reply") = some (.str rpl t12) ∧ M' (Str.ofString "due") = some (.ref Z) ∧ Due rpl (mkAt q) (txt tw bit i ns) (((if 10 < i then worthOf tw bit ns else numR ns) : Nat) : Int) u v) (wpC.of (wpAny_If (wpAny_isTrue_Compare1 (ld F4 ((if_neg (by decide)).trans hmk) (ld F4 ((if_neg (by decide)).trans htxt3) (in_str (wpAny_truthy_bool ?_))))))) ?_ (fun _ _ z => z))
      · rw [StrLaws.found_one, hy]
        have hm4 := hm3.set (x := Str.ofString "reply") (v := .str rpl t12) (by decide)
        have hr4 : (fun z => if z = Str.ofString "reply" then some (Value.str rpl t12) else M3 z) (Str.ofString "reply") = some (.str rpl t12) := if_pos rfl
        have hn4 := lk_ne (v := .str rpl t12) (y := Str.ofString "reply") (by decide) hnow3
        have hd4 := lk_ne (v := .str rpl t12) (y := Str.ofString "reply") (by decide) hd3
        have ht4 := lk_ne (v := .str rpl t12) (y := Str.ofString "reply") (by decide) htxt3
        generalize (fun z => if z = Str.ofString "reply" then some (Value.str rpl t12) else M3 z) = M4 at F4 hm4 hr4 hn4 hd4 ht4
        clear F3 hm3 hnow3 hd3 htxt3 N3
        by_cases hmt : mkAt q ∈ txt tw bit i ns
        · refine ite_yes (decide_eq_true hmt) ?_
          refine wpAny_execs_cons ?_
          refine wpAny_Assign_Name ?_
          refine Tuple_ ?_
          refine args_cons ?_
          refine Constant_str ?_
          refine args_cons ?_
          refine ld F4 hr4 ?_
          refine args_nil ?_
          refine newTuple_N F4 N4 (fun h5 F5 N5 => stN F5 N5 (fun h6 F6 N6 => ?_)) (by rw [sizeLine_eq]; exact Nat.le_of_ble_eq_true rfl)
          exact wpAny_execs_nil ⟨rfl, h6, _, _, t12, _, _, _, rfl, F6, N6, hm4.set (by decide), (if_neg (by decide)).trans hn4, (if_neg (by decide)).trans hr4, if_pos rfl, .proto _ _ hmt⟩
        · refine ite_no (decide_eq_false hmt) ?_
          refine wpAny_execs_cons ?_
          refine wpAny_If ?_
          refine wpAny_isTrue_Compare1 ?_
          refine ListComp_signsD (h₀ := h₀) (L := L) (m := M4) (news := news) (pz := noFig) (d := .str) rfl (by decide) (by decide) rfl (by decide) rfl ?_ (by intro _; rfl)
          refine ld F4 ht4 ⟨y, tt, rfl, by rw [sizeLine_eq]; omega, F4, N4, ?_, ?_, ?_⟩
          · rintro C a' v s₂ m₂ E' ⟨tv, rfl⟩ hns' hmv
            refine wpAny_tests_one ?_
            refine wpAny_isTrue_Compare1 ?_
            refine ldG hns' hmv ?_
            refine Constant_str ?_
            refine notIn_str ?_
            refine wpAny_truthy_bool ?_
            exact ⟨rfl, _, _, rfl, fun _ _ e => e⟩
          · rintro C a' v s₂ m₂ E' ⟨tv, rfl⟩ hp hns' hmv
            exact ldG hns' hmv ⟨.str _ _, _, _, rfl, fun _ _ e => e⟩
          · intro Dl ls h5 tk5 F5 N5 hD0 hDl hDp hc
            refine List_ ?_
            refine args_nil ?_
            obtain ⟨⟨nl, hDe⟩, hDn⟩ := id hDp
            have N6 : News h₀ L h5 ((Dl, W.listOf ls.toArray nl) :: news) := fun q hq => by
              rcases List.mem_cons.mp hq with rfl | hq
              · exact ⟨hDe, hDp.ne_locals F5, hD0⟩
              · exact N5 q hq
            refine newList_N F5 N6 (fun h6 F6 N7 => ?_) (by rw [sizeLine_eq]; exact Nat.zero_le _)
            have ya : ∀ c ∈ y.cps.toList, c < 128 := by rw [hy]; exact txt_ascii hns
            refine ne_dataH (reads_newData (News.isList N7 (.tail _ (.head _))) hc) (reads_newData (ys := []) (News.isList N7 (.head _)) .nil) (noFig_ok ya) rfl (by show un + 64 < cLine; omega) ?_
            rw [noFig_none, hy]
            refine wpAny_truthy_bool ?_
            have N8 : News h₀ L h6 news := fun q hq => N7 q (.tail _ (.tail _ hq))
            cases hal : (txt tw bit i ns).all isDig with
            | false =>
              refine ite_yes rfl ?_
              refine wpAny_execs_cons ?_
              refine wpAny_Assign_Name ?_
              refine Tuple_ ?_
              refine args_cons ?_
              refine Constant_str ?_
              refine args_cons ?_
              refine Constant_str ?_
              refine args_nil ?_
              refine newTuple_N F6 N8 (fun h7 F7 N9 => stN F7 N9 (fun h8 F8 N10 => ?_)) (by rw [sizeLine_eq]; exact Nat.le_of_ble_eq_true rfl)
              exact wpAny_execs_nil (wpAny_execs_nil ⟨rfl, h8, _, _, t12, _, _, _, rfl, F8, N10, hm4.set (by decide), (if_neg (by decide)).trans hn4, (if_neg (by decide)).trans hr4, if_pos rfl, .value _ _ hmt hal⟩)
            | true =>
              refine ite_no rfl ?_
              refine wpAny_execs_cons ?_
              refine wpAny_If ?_
              refine wpAny_isTrue_Compare1 ?_
              refine ld F6 hd4 ?_
              refine wpAny_Constant_int ?_
              refine gt_int ?_
              refine wpAny_truthy_bool ?_
              obtain ⟨tw1, hw1⟩ := hm4.wor
              obtain ⟨tn1, hn1⟩ := hm4.num
              by_cases h10 : 10 < i
              · refine ite_yes (decide_eq_true (by omega)) ?_
                refine wpAny_execs_cons ?_
                refine wpAny_Assign_Name ?_
                refine Tuple_ ?_
                refine args_cons ?_
                refine Constant_str ?_
                refine args_cons ?_
                refine ld F6 hw1 ?_
                refine args_nil ?_
                refine newTuple_N F6 N8 (fun h7 F7 N9 => stN F7 N9 (fun h8 F8 N10 => ?_)) (by rw [sizeLine_eq]; exact Nat.le_of_ble_eq_true rfl)
                refine wpAny_execs_nil ?_
                refine wpAny_execs_nil ?_
                refine wpAny_execs_nil ⟨rfl, h8, _, _, t12, _, _, _, rfl, F8, N10, hm4.set (by decide), (if_neg (by decide)).trans hn4, (if_neg (by decide)).trans hr4, if_pos rfl, ?_⟩
                rw [if_pos h10]
                exact .num _ _ hmt hal
              · refine ite_no (decide_eq_false (by omega)) ?_
                refine wpAny_execs_cons ?_
                refine wpAny_Assign_Name ?_
                refine Tuple_ ?_
                refine args_cons ?_
                refine Constant_str ?_
                refine args_cons ?_
                refine ld F6 hn1 ?_
                refine args_nil ?_
                refine newTuple_N F6 N8 (fun h7 F7 N9 => stN F7 N9 (fun h8 F8 N10 => ?_)) (by rw [sizeLine_eq]; exact Nat.le_of_ble_eq_true rfl)
                refine wpAny_execs_nil ?_
                refine wpAny_execs_nil ?_
                refine wpAny_execs_nil ⟨rfl, h8, _, _, t12, _, _, _, rfl, F8, N10, hm4.set (by decide), (if_neg (by decide)).trans hn4, (if_neg (by decide)).trans hr4, if_pos rfl, ?_⟩
                rw [if_neg h10]
                exact .num _ _ hmt hal
      · rintro f s' ⟨rfl, h5, tk5, M5, t13, Z, u, v, rfl, F5, N5, hm5, hn5, hr5, hz5, hdue⟩
        clear F4 N4 F3 N3 hm3 hnow3 hd3 htxt3
        dsimp only
        have hra : ∀ c ∈ rpl.cps.toList, c < 128 := by
          rw [rp.is]
          have hmk : mkAt q < 128 := (by decide +kernel : ∀ q : Nat, q < 13 → mkAt q < 128) q hq
          intro c hc
          simp only [List.mem_append, List.mem_cons, List.not_mem_nil, or_false] at hc
          rcases hc with (hc | hc) | hc
          · omega
          · exact txt_ascii hns c hc
          · omega
        refine wpC_execs_cons ?_
        refine wpC_If ?_
        refine wpC_isTrue_Compare1 ?_
        refine wpC_Call ?_
        refine name_K F5 X TR (by k_is) ?_
        obtain ⟨o72, fd72, k72, d72⟩ : ∃ (o : Obj) (fd : FuncData), (hdC.heap_39 w.params).lookup 72 = some o ∧ o.data = .func fd := ⟨_, _, by k_is, rfl⟩
        refine wpC_callWith_def (o := o72) (fd := fd72) d72 ?_
        refine args_cons ?_
        refine ld F5 hr5 ?_
        refine args_nil ⟨(X.keeps F5.keep) _ _ k72, ?_⟩
        refine told_told dp un gd _ _ _ _ A₀ base h₀ L M5 _ _ _ _ rpl t13 (mkAt q) (txt tw bit i ns) B F5 X N5 T XB TB rfl rp (by have := txt_len (tw := tw) (bit := bit) (d := i) hn6; omega) (txt_ascii hns) (by omega) (by omega) ?_
        intro x1 y1 q1 h6 tk6 htold F6 N6
        dsimp only
        refine wpC.of ?_
        refine ld F6 hz5 ?_
        obtain ⟨da, db, c1, c2, hsh, heq⟩ := told_due hra (txt_int (tw := tw) (bit := bit) (d := i) hb1 hns hn0 hn6 (x := ofL (txt tw bit i ns)) rfl) htold hdue
        refine wpC.of ?_
        refine ne_dataH (reads_newDataT (News.isTup N6 (.head _)) c1) (reads_newDataT (News.isTup N6 (.tail _ (.head _))) c2) hsh hsh (by show un + 64 < cLine; omega) ?_
        rw [heq]
        refine wpC.of ?_
        refine wpAny_truthy_bool ?_
        refine ite_no rfl ?_
        refine wpC_execs_nil ?_
        refine wpC_execs_nil ?_
        exact hret h6 _ M5 y ty F6 (fun p hp => N6 p (.tail _ (.tail _ hp))) hm5 hn5 hy
end Mine
end

/-! W2b -/
section
open PySem PySem.W PyProof.Rows PySem.Calls
set_option Elab.async false
set_option maxRecDepth 100000
set_option maxHeartbeats 8000000
set_option pp.maxSteps 6000
set_option linter.unusedVariables false
namespace Mine
variable {w : World} {p : Program} {loose : List Str} {mean : ExcName → Option Value} {mg mb : Str → Option Value}

def tailB : List Stmt := turnB.drop 5
theorem dones (tw : Bool) : (((rowS tw).length : Int).fdiv 2 + 1) = ((if tw then 26 else 27 : Nat) : Int) := by
  rw [row_len]; cases tw <;> decide

theorem turn_tail (dp un : Nat) (gd : Option (List Code)) (a : Addr) (cd : Value) (A₀ : Around) (base h₀ : Heap) (L : Addr) (M : Str → Option Value) (news : List (Addr × Obj)) (s : Shared)
    (Q : Flow → Shared → Prop) (E : Value → Shared → Prop) (D R : Addr) (ys rvs : List Value) (nn nr : Nat) (ns : List Nat) (tw : Bool) (bit q : Nat) (st : Str) (ts : Tok)
    (B : Below A₀ base [] h₀) (F : Fr h₀ L s.heap M) (X : (hdC.heap_39 w.params).In h₀) (N : News h₀ L s.heap news) (T : Top p loose mean mg mb h₀) (XB : (hdC.heap_39 w.params).In base) (TB : Top p loose mean mg mb base)
    (hD : (D, W.listOf ys.toArray nn) ∈ news) (hys : IntsAre ys (natInts ns)) (hns : ∀ f ∈ ns, f < 10) (hn0 : ns ≠ []) (hn6 : ns.length ≤ 6) (hb1 : bit ≤ 1) (hq : q < 13)
    (hR : (R, W.listOf rvs.toArray nr) ∈ news) (hrs : StrsAre rvs (rowS tw))
    (hm : TM D R tw bit (numR ns : Nat) (worthOf tw bit ns : Nat) ⟨#[mkAt q]⟩ st M) (hnow : M (Str.ofString "now") = some (.str st ts)) (hst : st.cps.toList = txt tw bit 0 ns)
    (hdp : dp + 6 < recursionLimit) (hu : un + 100 < cLine)
    (hret : ∀ h' tk' M', Fr h₀ L h' M' → News h₀ L h' news → TM D R tw bit (numR ns : Nat) (worthOf tw bit ns : Nat) ⟨#[mkAt q]⟩ st M' → Q .next { s with heap := h', toks := tk' }) :
    wpC (model PySem.Challenge.rw_pg0019_01.row.prog w) (ktrTop dp un gd (Str.ofString "law") lawS L a cd [] []) (execs tailB (lawE L a cd)) Q E s := by
  have XX := X
  have XXB := XB
  revert X XB; k_fill; intro X XB
  have TR := topRead_of T
  obtain ⟨n, hn⟩ : ∃ n, n = (if tw then 25 else 26) := ⟨_, rfl⟩
  have hn2 : n ≤ 26 := by rw [hn]; cases tw <;> decide
  have hrl : rvs.length = 2 * n := by rw [hrs.len_eq, row_len, hn]
  -- the loop
  with_unfolding_all refine wpC_execs_cons (wpC_For (Call_ (name_B F X TR (by k_is) PyProof.Rows.boot_range (by decide) (PyProof.Rows.callWith_type1 (args_cons (wpAny_BinOp (wpAny_BinOp (Call_ ?_))))))))
  refine name_B F X TR (by k_is) boot_len (by decide) ?_
  refine PyProof.Rows.callWith_builtin1 ?_
  refine args_cons ?_
  refine ld F hm.row ?_
  refine args_nil ?_
  refine len_list (News.isList N hR) (by simp; omega) ?_
  refine wpAny_Constant_int ?_
  refine floordiv_int (by decide) ?_ (.inl (PyProof.noPylong_small (by decide)))
  refine wpAny_Constant_int ?_
  with_reducible refine add_int ?_
  refine args_nil ?_
  refine call_range_1 ?_
  have hsz : ((rvs.toArray.size : Nat) : Int).fdiv 2 + 1 = ((n + 1 : Nat) : Int) := by
    rw [List.size_toArray, hrl, Int.fdiv_eq_ediv_of_nonneg _ (by decide)]; omega
  rw [hsz]
  refine forRange (n := n + 1) rfl (Heap.get?_push_size _ rfl) (small_one (by omega) (by omega) (by omega) (by omega)) (by rw [rangeSize_one]; split <;> omega) rfl rfl (F.push _) (N.pushKeep _)
    (fun i m nl => TM D R tw bit (numR ns : Nat) (worthOf tw bit ns : Nat) ⟨#[mkAt q]⟩ st m ∧ (∃ y t, m (Str.ofString "now") = some (.str y t) ∧ y.cps.toList = txt tw bit (i - 1) ns) ∧ nl = news)
    ⟨hm, ⟨st, ts, hnow, hst⟩, rfl⟩ ?_ ?_
  · rintro i m₁ nl own h tk t' hi ⟨hm1, ⟨y, ty, hnow1, hy⟩, rfl⟩ hadr hown F1 N1
    have e0 : (0 : Int) + (i : Int) * 1 = i := by omega
    rw [e0] at F1
    refine done_turn dp un gd a cd A₀ base h₀ L _ _ _ _ _ D R ys rvs nn nr ns tw bit q i st y t' ty B F1 XX N1 T XXB TB (List.mem_append_right _ hD) hys hns hn0 hn6 hb1 (List.mem_append_right _ hR) hrs (hm1.set (by decide)) hq (if_pos rfl) (by rw [← hn]; omega) (lk_ne (by decide) hnow1) hy hdp hu ?_
    intro h' tk' M' y' t'' F2 N2 hm2 hnow2 hy2
    exact ⟨h', tk', M', nl, rfl, F2, N2, rfl, hm2, ⟨y', t'', hnow2, hy2⟩, rfl⟩
  · rintro h1 tk1 M1 nl F1 N1 hadr ⟨hm1, ⟨y, ty, hnow1, hy⟩, rfl⟩
    dsimp only
    rw [Nat.add_sub_cancel] at hy
    obtain ⟨ts1, hs1⟩ := hm1.sta
    obtain ⟨o21, fd21, k21, d21⟩ : ∃ (o : Obj) (fd : FuncData), (hdC.heap_39 w.params).lookup 21 = some o ∧ o.data = .func fd := ⟨_, _, by k_is, rfl⟩
    have hrl' : (rowS tw).length = 2 * n := by rw [row_len, hn]
    obtain ⟨pk, pe⟩ := all_pairs (tw := tw) (bit := bit) hns hn6 n 0 (by rw [Nat.zero_add]; exact hn) st hst
    rw [Nat.zero_add, Nat.mul_zero, List.drop_zero] at *
    refine wpC_execs_cons ?_
    refine wpC_If ?_
    refine wpC.of ?_
    refine wpAny_isTrue_Compare1 ?_
    refine Call_ ?_
    refine name_K F1 X TR (by k_is) ?_
    refine callWith_S2 X (by k_is) ?_
    refine args_cons ?_
    refine ld F1 hs1 ?_
    refine items_star ?_
    refine ld F1 hm1.row ?_
    refine star_seq F1 N1 hR rfl rfl (.inl rfl) rfl (by rw [sizeLine_eq]; simp; omega) (fun h2 F2 N2 => args_nil ⟨X.keeps F2.keep, ?_⟩)
    have eR : [] ++ Value.str st ts1 :: (rvs.toArray.toList ++ []) = Value.str st ts1 :: rvs := by simp
    rw [eR]
    refine told_replace dp un gd _ _ _ _ [] [] A₀ base h₀ L M1 _ _ _ _ st ts1 rvs (rowS tw) B F2 X N2 T rfl hrs (by omega) pk (by omega) (by omega) ?_
    intro t h3 tk3 F3 N3
    refine ld F3 hnow1 ?_
    refine ne_str ?_
    refine wpAny_truthy_bool ?_
    have ey : applyPairs (rowS tw) st = y := str_eq (pe.trans hy.symm)
    refine ite_no (by simp [ey]) ?_
    refine wpC_execs_nil ?_
    refine wpC_execs_nil ?_
    exact hret h3 _ M1 F3 N3 hm1
end Mine
end

/-! W3 -/
section
open PySem PySem.W PyProof.Rows PySem.Calls
set_option Elab.async false
set_option maxRecDepth 100000
set_option maxHeartbeats 8000000
set_option pp.maxSteps 6000
set_option linter.unusedVariables false
namespace Mine
variable {w : World} {p : Program} {loose : List Str} {mean : ExcName → Option Value} {mg mb : Str → Option Value}

/-- the names that the law's loop does not change -/
structure LM (D : Addr) (bit num : Int) (mk : Str) (M : Str → Option Value) : Prop where
  fig : M (Str.ofString "figures") = some (.ref D)
  bit : ∃ t, M (Str.ofString "bit") = some (.int bit t)
  mark : ∃ t, M (Str.ofString "mark") = some (.str mk t)
  num : ∃ t, M (Str.ofString "number") = some (.int num t)
def lmNames : List Str := ["figures", "bit", "mark", "number"].map Str.ofString
theorem LM.set {D : Addr} {bit num : Int} {mk : Str} {M : Str → Option Value} (h : LM D bit num mk M) {x : Str} {v : Value} (hx : lmNames.all (fun y => y != x) = true) :
    LM D bit num mk (fun y => if y = x then some v else M y) := by
  have hne : ∀ y ∈ lmNames, y ≠ x := fun y hy => by
    have := List.all_eq_true.mp hx y hy
    exact bne_iff_ne.mp this
  have put : ∀ y ∈ lmNames, ∀ z, M y = some z → (if y = x then some v else M y) = some z := fun y hy z e => (if_neg (hne y hy)).trans e
  obtain ⟨h1, ⟨t2, h2⟩, ⟨t3, h3⟩, ⟨t4, h4⟩⟩ := h
  exact ⟨put _ (by decide) _ h1, ⟨t2, put _ (by decide) _ h2⟩, ⟨t3, put _ (by decide) _ h3⟩, ⟨t4, put _ (by decide) _ h4⟩⟩
theorem TM.lm {D R : Addr} {tw : Bool} {bit num wor : Int} {mk st : Str} {M : Str → Option Value} (h : TM D R tw bit num wor mk st M) : LM D bit num mk M := ⟨h.fig, h.bit, h.mark, h.num⟩

theorem figs_sum : ∀ ns : List Nat, (∀ f ∈ ns, f < 10) → (((ns.map fun (n : Nat) => fig (n : Int))).map (·.length)).sum ≤ 2 * ns.length
  | [], _ => Nat.zero_le _
  | f :: r, hd => by
    have ih := figs_sum r (fun q hq => hd q (.tail _ hq))
    have h1 := len_fig (n := (f : Int)) (by omega) (by have := hd f (by simp); omega)
    simp only [List.map_cons, List.sum_cons, List.length_cons]
    omega
theorem figs_nat (ns : List Nat) : (natInts ns).map fig = ns.map fun (n : Nat) => fig (n : Int) := by
  unfold natInts; rw [List.map_map]; rfl
theorem figs_ok {ns : List Nat} (hd : ∀ f ∈ ns, f < 10) (h6 : ns.length ≤ 6) : (((natInts ns).map fig).map (·.length)).sum + ((natInts ns).map fig).length ≤ 1048576 := by
  rw [figs_nat]
  have := figs_sum ns hd
  rw [List.length_map]; omega
theorem figs_glue (ns : List Nat) : Txt.join (Str.ofString "") ((natInts ns).map fig) = Str.join (Str.ofString "") ((natInts ns).map fig) := StrLaws.glued_eq_join _ _
theorem mul_bit : ∀ bit : Nat, bit ≤ 1 → (Txt.mul (Str.ofString "+") (bit : Int)).cps.toList = plus (bit == 1) := by
  intro bit h
  match bit, h with
  | 0, _ => decide +kernel
  | 1, _ => decide +kernel
theorem start_f {ns : List Nat} (hd : ∀ f ∈ ns, f < 10) (bit : Nat) : (Txt.join (Str.ofString "") ((natInts ns).map fig)).cps.toList = txt false bit 0 ns := by
  rw [figs_glue, figs_nat, figs_join ns hd, txt_zero_f]
theorem start_t {ns : List Nat} (hd : ∀ f ∈ ns, f < 10) {bit : Nat} (hb : bit ≤ 1) :
    (Str.ofString "0" ++ Txt.join (Str.ofString "") ((natInts ns).map fig) ++ Txt.mul (Str.ofString "+") (bit : Int)).cps.toList = txt true bit 0 ns := by
  rw [app_toList, app_toList, figs_glue, figs_nat, figs_join ns hd, mul_bit bit hb, txt_zero_t]
  rfl
theorem one_turn (dp un : Nat) (gd : Option (List Code)) (a : Addr) (cd : Value) (A₀ : Around) (base h₀ : Heap) (L : Addr) (M : Str → Option Value) (news : List (Addr × Obj)) (s : Shared)
    (Q : Flow → Shared → Prop) (E : Value → Shared → Prop) (D : Addr) (ys : List Value) (nn : Nat) (ns : List Nat) (tw : Bool) (bit q : Nat)
    (B : Below A₀ base [] h₀) (F : Fr h₀ L s.heap M) (X : (hdC.heap_39 w.params).In h₀) (N : News h₀ L s.heap news) (T : Top p loose mean mg mb h₀) (XB : (hdC.heap_39 w.params).In base) (TB : Top p loose mean mg mb base)
    (hD : (D, W.listOf ys.toArray nn) ∈ news) (hys : IntsAre ys (natInts ns)) (hns : ∀ f ∈ ns, f < 10) (hn0 : ns ≠ []) (hn6 : ns.length ≤ 6) (hb1 : bit ≤ 1) (hq : q < 13)
    (hm : LM D bit (numR ns : Nat) ⟨#[mkAt q]⟩ M) (htw : M (Str.ofString "twice") = some (.bool tw))
    (hdp : dp + 6 < recursionLimit) (hu : un + 100 < cLine)
    (hret : ∀ h' tk' M', Fr h₀ L h' M' → News h₀ L h' news → LM D bit (numR ns : Nat) ⟨#[mkAt q]⟩ M' → Q .next { s with heap := h', toks := tk' }) :
    wpC (model PySem.Challenge.rw_pg0019_01.row.prog w) (ktrTop dp un gd (Str.ofString "law") lawS L a cd [] []) (execs turnB (lawE L a cd)) Q E s := by
  have XX := X
  have XXB := XB
  revert X XB; k_fill; intro X XB
  have TR := topRead_of T
  -- row
  with_unfolding_all refine wpC_execs_cons (wpC_Assign_Name (wpC_Call (name_K F X TR (by k_is) ?_)))
  obtain ⟨o79, fd79, k79, d79⟩ : ∃ (o : Obj) (fd : FuncData), (hdC.heap_39 w.params).lookup 79 = some o ∧ o.data = .func fd := ⟨_, _, by k_is, rfl⟩
  refine wpC_callWith_def (o := o79) (fd := fd79) d79 ?_
  refine args_cons ?_
  refine ld F htw ?_
  refine args_nil ⟨(X.keeps F.keep) _ _ k79, ?_⟩
  refine told_row dp un gd _ _ _ _ [] A₀ base h₀ L M news _ _ _ tw B F X N T rfl (by omega) (by omega) ?_
  intro R nr rvs h1 tk1 hrs F1 N1
  refine wpC.of ?_
  refine stN F1 N1 (fun h2 F2 N2 => ?_)
  have m2 := hm.set (x := Str.ofString "row") (v := .ref R) (by decide)
  have t2 := lk_ne (v := .ref R) (y := Str.ofString "row") (by decide) htw
  have r2 : (fun z => if z = Str.ofString "row" then some (Value.ref R) else M z) (Str.ofString "row") = some (.ref R) := if_pos rfl
  dsimp only
  generalize (fun z => if z = Str.ofString "row" then some (Value.ref R) else M z) = M2 at F2 m2 t2 r2
  clear F hm htw F1 N1 N
  have hD2 : (D, W.listOf ys.toArray nn) ∈ (R, W.listOf rvs.toArray nr) :: news := .tail _ hD
  -- start
  refine wpC_execs_cons ?_
  refine wpC.of ?_
  refine wpAny_Assign_Name ?_
  refine MethodCall_ ?_
  refine Constant_str ?_
  with_reducible refine GM.join ?_
  refine callWith_method1 ?_
  refine args_cons ?_
  refine ListComp_DCn (h₀ := h₀) (L := L) (m := M2) (K := ItemKind.int) (cl := []) (pz := fun _ => true) (d := fun x => .str (fig x)) rfl rfl (by decide) rfl (by decide) rfl ?_ (by intro _; rfl)
  refine ld F2 m2.fig ?_
  refine ⟨_, D, ys, natInts ns, rfl, News.isList N2 hD2, hys.areOf, by rw [sizeLine_eq]; simp [natInts]; omega, F2, N2, ?_, ?_, ?_⟩
  · intro C a' v s₂ m₂ E' _ _ _ _ _ _
    exact wpAny_pure ⟨rfl, _, _, rfl, fun _ _ e => e⟩
  · rintro C a' v s₂ m₂ E' _ ha ⟨tv, rfl⟩ _ hns' hv hk
    obtain ⟨f, hf, rfl⟩ := List.mem_map.mp ha
    have := hns f hf
    have kk : ∀ b o, h₀.get? b = some o → s₂.heap.get? b = some o := fun b o e => hk b o (F2.keep b o e)
    refine Call_ ?_
    refine Name_function_global rfl rfl ?_
    refine loadGlobal_builtin (mg := mg) (mb := mb) (TR.g.keeps kk) (mg_none_of X TR.g (by k_is)) (TR.b.keeps kk) ((TR.builtins _ (by decide)).trans PyProof.Rows.boot_str) ?_
    refine PyProof.Rows.callWith_type1 ?_
    refine args_cons ?_
    refine ldG hns' hv ?_
    refine args_nil ?_
    refine P.str_of_int (shown100 (by omega) (by omega)) ?_
    exact ⟨.str _ _, _, _, rfl, fun _ _ e => e⟩
  intro Dl ls h5 tk5 F5 N5 hD0 hDl hDp hc
  dsimp only
  have hls : StrsAre ls ((natInts ns).map fig) := StrsAre.ofCarried (by
    rw [List.map_map]
    rw [show ((natInts ns).filter fun _ => true) = natInts ns from List.filter_eq_self.mpr (fun _ _ => rfl)] at hc
    exact hc)
  refine args_nil ?_
  refine join_listW hDl hls (by decide) (figs_ok hns hn6) (fun t4 k4 => ?_)
  refine stN F5 N5 (fun h6 F6 N6 => ?_)
  have hst := start_f hns bit
  have hst' := start_t hns hb1
  generalize Txt.join (Str.ofString "") ((natInts ns).map fig) = st0 at F6 hst hst'
  have hsl : st0.length ≤ 14 := by rw [← len_toList, hst]; exact txt_len hn6
  have m3 := m2.set (x := Str.ofString "start") (v := .str st0 t4) (by decide)
  have t3 := lk_ne (v := .str st0 t4) (y := Str.ofString "start") (by decide) t2
  have r3 := lk_ne (v := .str st0 t4) (y := Str.ofString "start") (by decide) r2
  have s3 : (fun z => if z = Str.ofString "start" then some (Value.str st0 t4) else M2 z) (Str.ofString "start") = some (.str st0 t4) := if_pos rfl
  dsimp only
  generalize (fun z => if z = Str.ofString "start" then some (Value.str st0 t4) else M2 z) = M3 at F6 m3 t3 r3 s3
  clear F2 m2 t2 r2 F5 N5 N2 hc hls hDl hDp hD0
  -- worth
  obtain ⟨tn, hn3⟩ := m3.num
  obtain ⟨tb, hb3⟩ := m3.bit
  refine wpC_execs_cons ?_
  refine wpC.of ?_
  refine wpAny_Assign_Name ?_
  refine wpAny_BinOp ?_
  refine ld F6 hn3 ?_
  refine wpAny_Constant_int ?_
  refine floordiv_int (by decide) ?_ (.inl (PyProof.noPylong_small (by decide)))
  refine stN F6 N6 (fun h7 F7 N7 => ?_)
  obtain ⟨M4, F8, m4, t4', r4, s4, w4⟩ : ∃ M : Str → Option Value, Fr h₀ L h7 M ∧ LM D bit (numR ns : Nat) ⟨#[mkAt q]⟩ M ∧ M (Str.ofString "twice") = some (.bool tw) ∧ M (Str.ofString "row") = some (.ref R) ∧ M (Str.ofString "start") = some (.str st0 t4) ∧ ∃ t, M (Str.ofString "worth") = some (.int ((numR ns : Int).fdiv 2) t) :=
    ⟨_, F7, m3.set (by decide), lk_ne (by decide) t3, lk_ne (by decide) r3, lk_ne (by decide) s3, _, if_pos rfl⟩
  clear F6 m3 t3 r3 s3 F7 N6 hn3 hb3
  obtain ⟨tn, hn3⟩ := m4.num
  obtain ⟨tb, hb3⟩ := m4.bit
  obtain ⟨tw4, w4⟩ := w4
  dsimp only
  -- the two ways
  refine wpC_execs_cons (wpC_mono (E := E) (Q := fun f s' => f = .next ∧ ∃ h' tk' M' st ts, s' = { s with heap := h', toks := tk' } ∧ Fr h₀ L h' M' ∧ News h₀ L h' ((R, W.listOf rvs.toArray nr) :: news) ∧ TM D R tw bit (numR ns : Nat) (worthOf tw bit ns : Nat) ⟨#[mkAt q]⟩ st M' ∧ M' (Str.ofString "start") = some (.str st ts) ∧ st.cps.toList = txt tw bit 0 ns) (wpC_If (wpC.of (isTrue_plain (ld F8 t4' (wpAny_truthy_bool ?_))))) ?_ (fun _ _ z => z))
  · cases tw with
    | true =>
      refine ite_yes rfl ?_
      refine wpC_execs_cons ?_
      refine wpC.of ?_
      refine wpAny_Assign_Name ?_
      refine wpAny_BinOp ?_
      refine wpAny_BinOp ?_
      refine Constant_str ?_
      refine ld F8 s4 ?_
      refine add_str (fun t9 k9 => ?_) (by rw [sizeLine_eq]; show 1 + _ ≤ _; omega)
      refine wpAny_BinOp ?_
      refine Constant_str ?_
      refine ld F8 hb3 ?_
      refine SB.mul (mulOk_of 1 9 (Nat.le_refl 1) (by omega) (by omega) (by decide) (by decide)) (fun t10 k10 => ?_)
      have lm := len_mul_leN (x := Str.ofString "+") (n := (bit : Int)) (L := 1) (N := 9) (Nat.le_refl 1) (by omega)
      refine add_str (fun t11 k11 => ?_) (by rw [sizeLine_eq, Str.length_append]; show 1 + _ + _ ≤ _; omega)
      refine stN F8 N7 (fun h9 F9 N9 => ?_)
      dsimp only
      generalize Str.ofString "0" ++ st0 ++ Txt.mul (Str.ofString "+") (bit : Int) = st1 at F9 hst'
      obtain ⟨M5, F10, m5, t5', r5, s5⟩ : ∃ M : Str → Option Value, Fr h₀ L h9 M ∧ LM D bit (numR ns : Nat) ⟨#[mkAt q]⟩ M ∧ M (Str.ofString "twice") = some (.bool true) ∧ M (Str.ofString "row") = some (.ref R) ∧ M (Str.ofString "start") = some (.str st1 t11) :=
        ⟨_, F9, m4.set (by decide), lk_ne (by decide) t4', lk_ne (by decide) r4, if_pos rfl⟩
      clear F8 m4 t4' r4 s4 w4 F9 hn3 hb3
      obtain ⟨tn5, hn5⟩ := m5.num
      obtain ⟨tb5, hb5⟩ := m5.bit
      refine wpC_execs_cons ?_
      refine wpC.of ?_
      refine wpAny_Assign_Name ?_
      refine wpAny_BinOp ?_
      refine wpAny_BinOp ?_
      refine wpAny_Constant_int ?_
      refine ld F10 hn5 ?_
      with_reducible refine mul2 ?_
      refine ld F10 hb5 ?_
      with_reducible refine add_int ?_
      refine stN F10 N9 (fun h11 F11 N11 => ?_)
      have ew : 2 * ((numR ns : Nat) : Int) + (bit : Int) = ((worthOf true bit ns : Nat) : Int) := by unfold worthOf; rw [if_pos rfl]; omega
      rw [ew] at F11
      obtain ⟨M6, F12, m6, t6', r6, s6, w6⟩ : ∃ M : Str → Option Value, Fr h₀ L h11 M ∧ LM D bit (numR ns : Nat) ⟨#[mkAt q]⟩ M ∧ M (Str.ofString "twice") = some (.bool true) ∧ M (Str.ofString "row") = some (.ref R) ∧ M (Str.ofString "start") = some (.str st1 t11) ∧ ∃ t, M (Str.ofString "worth") = some (.int ((worthOf true bit ns : Nat) : Int) t) :=
        ⟨_, F11, m5.set (by decide), lk_ne (by decide) t5', lk_ne (by decide) r5, lk_ne (by decide) s5, _, if_pos rfl⟩
      exact wpC_execs_nil ⟨rfl, h11, _, M6, st1, t11, rfl, F12, N11, ⟨m6.fig, m6.bit, m6.mark, m6.num, t6', r6, ⟨_, s6⟩, w6⟩, s6, hst'⟩
    | false =>
      refine ite_no rfl ?_
      refine wpC_execs_nil ?_
      have ew : ((numR ns : Nat) : Int).fdiv 2 = ((worthOf false bit ns : Nat) : Int) := by unfold worthOf; rw [if_neg (by decide), Int.fdiv_eq_ediv_of_nonneg _ (by decide)]; omega
      rw [ew] at w4
      exact ⟨rfl, h7, _, M4, st0, t4, rfl, F8, N7, ⟨m4.fig, m4.bit, m4.mark, m4.num, t4', r4, ⟨_, s4⟩, ⟨_, w4⟩⟩, s4, hst⟩
  · rintro f s' ⟨rfl, h8, tk8, M5, st, ts, rfl, F9, N8, m5, s5, hst5⟩
    clear F8 m4 t4' r4 s4 w4 hn3 hb3 hst hst' hsl
    dsimp only
    refine wpC_execs_cons ?_
    refine wpC.of ?_
    refine wpAny_Assign_Name ?_
    refine ld F9 s5 ?_
    refine stN F9 N8 (fun h9 F10 N9 => ?_)
    dsimp only
    with_unfolding_all refine turn_tail dp un gd a cd A₀ base h₀ L _ ((R, W.listOf rvs.toArray nr) :: news) _ Q E D R ys rvs nn nr ns tw bit q st ts B F10 XX N9 T XXB TB hD2 hys hns hn0 hn6 hb1 hq (.head _) hrs (m5.set (by decide)) (if_pos rfl) hst5 hdp hu ?_
    intro h' tk' M' F' N' hm'
    exact hret h' tk' M' F' (fun z hz => N' z (.tail _ hz)) hm'.lm
end Mine
end

/-! W4 -/
section
open PySem PySem.W PyProof.Rows PySem.Calls
set_option Elab.async false
set_option maxRecDepth 100000
set_option maxHeartbeats 8000000
set_option pp.maxSteps 20000
set_option linter.unusedVariables false
namespace Mine
theorem callC_full {prog : Program} {w : World} {A : Around} {R : Result → Shared → Prop} {s : Shared} {name : Str} {params : Arguments} {body : List Stmt} {scope : Scope}
    {dV kV pm cd doc : Value} {a : Addr} {o : Obj} {args : Args} {binds : List (Str × Value)}
    (hroom : A.depth < recursionLimit) (ho : s.heap.get? a = some o) (hdata : o.data = .func { docDef name params body scope pm cd doc with defaults := dV, kwdefaults := kV }) (hlim : s.heap.NoLimit) (hcd : s.heap.CodeRec cd name)
    (hbind : BindsTo s { docDef name params body scope pm cd doc with defaults := dV, kwdefaults := kV } args binds) (hloc : ∀ x ∈ binds, scope.names.lookup x.1 = some .local)
    (hco : scope.isCoroutine = false) (hgen : scope.isGenerator = false) (hk : scope.kind = .function) (hcell : ∀ x ∈ scope.names, x.2 ≠ .cell)
    (h : ∀ h₁, Fr s.heap s.heap.objs.size h₁ (fun x => binds.reverse.lookup x) →
      wpC (model prog w) (A.deeper (envOf name scope s.heap.objs.size a cd)) (execs body (envOf name scope s.heap.objs.size a cd))
        (fun f s' => R (.ok (.ret (match f with | .ret v => v | _ => .none))) s') (fun _ _ => False) { s with heap := h₁, toks := s.toks + binds.length }) :
    codeC (model prog w) A (.call (.ref a) args) R s :=
  codeC_call_def hroom ho hdata hlim hcd rfl hbind hcell hloc (fun h₁ hns hkeep => wpC_mono (h h₁ ⟨hns, hkeep, Nat.le_refl _⟩) (fun _ _ z => z) fun _ _ z => z.elim) hco hgen hk

theorem law_try : PySem.Challenge.rw_pg0019_01.Holds := hdC (by
  k_fill
  intro w s₀ s₁ mg mb G Y fa o pm cd doc dV kV ho hd hcd hD hmg hg args vals as hpre hlay hrd hwl hlo
  have KX := kIn_of Y
  refine Ground.open G ?_
  intro T BB DD TE TW
  wrow_args hpre hlay hrd hwl hlo
  rename_i zs _ _ _ _ _ as1 as2 l vs as3 hL ra w1 r0 hI hr hz hz2
  refine wpC_enter_call ?_
  have he := Dflts.none hD rfl
  subst he
  refine callC_full (binds := [(Str.ofString "script", .ref l)]) (by decide) ho hd (Top.nolimit T) hcd (BindsTo.of_eq rfl) (locs rfl) rfl rfl rfl (by decide) (fun h₁ F1 => ?_)
  refine wpC_mono (Q := fun f s' => f = .ret (.bool true) ∧ ∃ h' tk m', s' = { s₁ with heap := h', toks := tk } ∧ Fr s₁.heap s₁.heap.objs.size h' m') (E := fun _ _ => False) ?_ ?_ (fun _ _ z => z.elim)
  rotate_left
  · rintro f s' ⟨rfl, h', tk, m', rfl, F'⟩
    dsimp only
    wrow_close
  clear hd hmg hcd hD G Y BB DD TE TW ho ra w1 r0 hr hz2
  have TR := topRead_of T
  have hzl : zs.length ≤ 63 := by omega
  have hvl : vs.length = zs.length := hI.length
  generalize s₁.heap.objs.size = L at F1
  dsimp only
  obtain ⟨M, F2, m1⟩ : ∃ M : Str → Option Value, Fr s₁.heap L h₁ M ∧ M (Str.ofString "script") = some (.ref l) := ⟨_, F1, rfl⟩
  have N1 : News s₁.heap L h₁ [] := fun _ hp => nomatch hp
  have hL1 : h₁.IsList l vs.toArray := hL.at fun o e => F1.keep l o e
  -- figures
  refine wpC_execs_cons (wpC_mono (E := fun _ _ => False) (Q := fun f s' => f = .next ∧ ∃ h' tk' M' D ys nn ns, s' = { s₁ with heap := h', toks := tk' } ∧ Fr s₁.heap L h' M' ∧ News s₁.heap L h' [(D, W.listOf ys.toArray nn)] ∧ IntsAre ys (natInts ns) ∧ (∀ f ∈ ns, f < 10) ∧ ns ≠ [] ∧ ns.length ≤ 6 ∧ M' (Str.ofString "figures") = some (.ref D) ∧ M' (Str.ofString "script") = some (.ref l)) (wpC.of (wpAny_Assign_Name (BoolOp_or ?_))) ?_ (fun _ _ z => z))
  refine ListComp_DCn (h₀ := s₁.heap) (L := L) (m := M) (K := ItemKind.int) (cl := []) (pz := fun _ => true) (d := fun x => .int (x.fmod 10)) rfl rfl (by decide) rfl (by decide) rfl ?_ (by intro _; rfl)
  refine Subscript_ ?_
  refine ld F2 m1 ?_
  refine wpAny_Slice ?_
  refine wpAny_evalPart_none ?_
  refine wpAny_evalPart_some ?_
  refine wpAny_Constant_int ?_
  refine wpAny_evalPart_none ?_
  dsimp only
  refine slice_list (s := { s₁ with heap := h₁, toks := _ }) F2 N1 hL1 .none (.int _ _) (fun h2 F3 N3 => ?_) (hsz := by rw [sizeLine_eq]; simp; omega)
  have e6 : slicePick vs.toArray none (some 6) none = (vs.take 6).toArray := slicePick_upto' vs.toArray 6
  rw [e6] at N3
  refine ⟨_, h₁.objs.size + 1, vs.take 6, zs.take 6, rfl, News.isList N3 (.head _), (hI.take 6).areOf, by rw [sizeLine_eq]; simp; omega, F3, N3, ?_, ?_, ?_⟩
  · intro C a v s₂ m₂ E' _ _ _ _ _ _
    exact wpAny_pure ⟨rfl, _, _, rfl, fun _ _ e => e⟩
  · rintro C a v s₂ m₂ E' _ _ ⟨tv, rfl⟩ _ hns hv _
    refine wpAny_BinOp ?_
    refine ldG hns hv ?_
    refine wpAny_Constant_int ?_
    refine mod_int' (by decide) ?_
    exact ⟨.int _ _, _, _, rfl, fun _ _ e => e⟩
  · intro D ys h3 tk3 F4 N4 hD0 hDl hDp hc
    dsimp only
    obtain ⟨⟨nn, hDe⟩, hDn⟩ := id hDp
    have N5 : News s₁.heap L h3 [(D, W.listOf ys.toArray nn)] := fun q hq => by
      rw [List.mem_singleton.mp hq]; exact ⟨hDe, hDp.ne_locals F4, hD0⟩
    rw [show ((zs.take 6).filter fun _ => true) = zs.take 6 from List.filter_eq_self.mpr (fun _ _ => rfl)] at hc
    have hys : IntsAre ys ((zs.take 6).map fun x => x.fmod 10) := IntsAre.ofCarried (by rw [List.map_map]; exact hc)
    have hyl : ys.length = (zs.take 6).length := by rw [hys.length, List.length_map]
    refine truthy_list_made hDl hc (by rw [List.length_map, List.length_take]; omega) ?_
    rw [List.length_map]
    by_cases h0 : 0 < (zs.take 6).length
    · refine ite_yes (decide_eq_true h0) ?_
      refine stN F4 N5 (fun h4 F5 N6 => ?_)
      refine ⟨rfl, h4, _, _, D, ys, nn, (zs.take 6).map fun x => (x.fmod 10).toNat, rfl, F5, N6, ?_, ?_, ?_, ?_, if_pos rfl, ?_⟩
      · have e : natInts ((zs.take 6).map fun x => (x.fmod 10).toNat) = (zs.take 6).map fun x => x.fmod 10 := by
          rw [natInts, List.map_map]
          apply List.map_congr_left
          intro x _
          have := Int.fmod_nonneg_of_pos x (show (0 : Int) < 10 by decide)
          show (((x.fmod 10).toNat : Nat) : Int) = _
          omega
        rw [e]; exact hys
      · intro f hf
        obtain ⟨x, _, rfl⟩ := List.mem_map.mp hf
        have := Int.fmod_lt_of_pos x (show (0 : Int) < 10 by decide)
        omega
      · intro e
        rw [List.map_eq_nil_iff] at e
        rw [e] at h0; exact absurd h0 (by decide)
      · rw [List.length_map, List.length_take]; omega
      · rw [if_neg (by decide)]; exact m1
    · refine ite_no (decide_eq_false h0) ?_
      refine BoolOp_one ?_
      refine List_ ?_
      refine args_cons ?_
      refine wpAny_Constant_int ?_
      refine args_nil ?_
      refine newList_N F4 (News.nil : News _ _ _ []) (fun h4 F5 N6 => stN F5 N6 (fun h5 F6 N7 => ?_)) (by rw [sizeLine_eq]; exact Nat.le_of_ble_eq_true rfl)
      exact ⟨rfl, h5, _, _, _, _, 0, [7], rfl, F6, N7, .cons 7 _ .nil, by decide, by decide, by decide, if_pos rfl, (if_neg (by decide)).trans m1⟩
  · rintro f s' ⟨rfl, h2, tk2, M2, D, ys, nn, ns, rfl, F3, N3, hys, hns, hn0, hn6, k1, k2⟩
    clear F2 m1 hL1 F1 N1
    dsimp only
    have hL2 : h2.IsList l vs.toArray := hL.at fun o e => F3.keep l o e
    refine wpC_execs_cons ?_
    refine wpC.of ?_
    refine wpAny_Assign_Name ?_
    refine wpAny_BinOp ?_
    refine Call_ ?_
    refine name_B F3 KX TR (by k_is) PyProof.Rows.boot_sum (by decide) ?_
    refine PyProof.Rows.callWith_builtin1 ?_
    refine args_cons ?_
    refine ld F3 k2 ?_
    refine args_nil ?_
    refine sumK rfl F3 N3 hL2 hI ?_
    intro h3 tk3 t3 F4 N4
    refine wpAny_Constant_int ?_
    refine mod_int' (by decide) ?_
    refine stN F4 N4 (fun h4 F5 N5 => ?_)
    dsimp only
    obtain ⟨M3, F6, k3, k4, tb, k5⟩ : ∃ M : Str → Option Value, Fr s₁.heap L h4 M ∧ M (Str.ofString "figures") = some (.ref D) ∧ M (Str.ofString "script") = some (.ref l) ∧ ∃ tb, M (Str.ofString "bit") = some (.int (zs.sum.fmod 2) tb) := ⟨_, F5, (if_neg (by decide)).trans k1, (if_neg (by decide)).trans k2, _, if_pos rfl⟩
    clear F3 F4 F5 k1 k2 hL2
    have hL2 : h4.IsList l vs.toArray := hL.at fun o e => F6.keep l o e
    refine wpC_execs_cons ?_
    refine wpC.of ?_
    refine wpAny_Assign_Name ?_
    refine Subscript_ ?_
    refine Constant_str ?_
    refine wpAny_BinOp ?_
    refine wpAny_BinOp ?_
    refine Call_ ?_
    refine name_B F6 KX TR (by k_is) PyProof.Rows.boot_sum (by decide) ?_
    refine PyProof.Rows.callWith_builtin1 ?_
    refine args_cons ?_
    refine ld F6 k4 ?_
    refine args_nil ?_
    refine sumK rfl F6 N5 hL2 hI ?_
    intro h5 tk5 t5 F7 N6
    refine wpAny_Constant_int ?_
    refine floordiv_int (by decide) ?_ (.inl (PyProof.noPylong_small (by decide)))
    refine wpAny_Constant_int ?_
    refine mod_int' (by decide) ?_
    have hq0 := Int.fmod_nonneg_of_pos (zs.sum.fdiv 2) (show (0 : Int) < 13 by decide)
    have hq1 := Int.fmod_lt_of_pos (zs.sum.fdiv 2) (show (0 : Int) < 13 by decide)
    generalize (zs.sum.fdiv 2).fmod 13 = qi at hq0 hq1
    obtain ⟨q, rfl⟩ := Int.eq_ofNat_of_zero_le hq0
    have hq : q < 13 := by omega
    refine item_str (fitsSsize_of (N := 9223372036854775808) (by omega) (by omega) (Int.le_refl _)) (by omega) (by show (q : Int) < (13 : Nat); omega) (fun _ => ?_)
    refine stN F7 N6 (fun h6 F8 N7 => ?_)
    dsimp only
    replace F8 := F8
    rw [mark_item q hq] at F8
    obtain ⟨bit, hbit, hb1⟩ : ∃ bit : Nat, zs.sum.fmod 2 = (bit : Int) ∧ bit ≤ 1 := by
      have a := Int.fmod_nonneg_of_pos zs.sum (show (0 : Int) < 2 by decide)
      have b := Int.fmod_lt_of_pos zs.sum (show (0 : Int) < 2 by decide)
      exact ⟨(zs.sum.fmod 2).toNat, by omega, by omega⟩
    rw [hbit] at k5
    obtain ⟨M4, F9, k3, k5, tm, k6⟩ : ∃ M : Str → Option Value, Fr s₁.heap L h6 M ∧ M (Str.ofString "figures") = some (.ref D) ∧ M (Str.ofString "bit") = some (.int bit tb) ∧ ∃ tm, M (Str.ofString "mark") = some (.str ⟨#[mkAt q]⟩ tm) := ⟨_, F8, (if_neg (by decide)).trans k3, (if_neg (by decide)).trans k5, _, if_pos rfl⟩
    clear F6 F7 F8 k4 hL2 hL hI hvl hz hzl hbit
    -- number
    refine wpC_execs_cons ?_
    refine wpC.of ?_
    refine wpAny_Assign_Name ?_
    refine wpAny_Constant_int ?_
    refine stN F9 N7 (fun h7 F10 N8 => ?_)
    dsimp only
    refine wpC_execs_cons ?_
    refine wpC_For ?_
    refine ld F10 (v := .ref D) (by rw [if_neg (by decide)]; exact k3) ?_
    refine forList rfl (.head _) rfl rfl F10 N8 (fun i M => M (Str.ofString "figures") = some (.ref D) ∧ M (Str.ofString "bit") = some (.int bit tb) ∧ M (Str.ofString "mark") = some (.str ⟨#[mkAt q]⟩ tm) ∧ ∃ tn, M (Str.ofString "number") = some (.int (((ns.take i).foldl (fun n f => 10 * n + f) 0 : Nat) : Int) tn)) ⟨(if_neg (by decide)).trans k3, (if_neg (by decide)).trans k5, (if_neg (by decide)).trans k6, _, if_pos rfl⟩ ?_ ?_
    · rintro i v M5 own h8 tk8 hv ⟨j1, j2, j3, tn, j4⟩ F11 N9
      have hi : i < ns.length := by
        have := (List.getElem?_eq_some_iff.mp hv).1
        rw [hys.length, List.length_map] at this; exact this
      obtain ⟨tf, hvf⟩ := hys.get i (ns[i] : Int) (by simp [natInts, hi])
      rw [hv] at hvf
      cases hvf
      refine wpC_execs_cons ?_
      refine wpC.of ?_
      refine wpAny_Assign_Name ?_
      refine wpAny_BinOp ?_
      refine wpAny_BinOp ?_
      refine wpAny_Constant_int ?_
      refine ld F11 ((if_neg (by decide)).trans j4) ?_
      refine mul_int ?_ (PySem.IntMulOk.of_left (by decide))
      refine ld F11 (if_pos rfl) ?_
      with_reducible refine add_int ?_
      refine stN F11 N9 (fun h9 F12 N10 => ?_)
      have ev : (((ns.take (i + 1)).foldl (fun n f => 10 * n + f) 0 : Nat) : Int) = 10 * (((ns.take i).foldl (fun n f => 10 * n + f) 0 : Nat) : Int) + (ns[i] : Int) := by
        rw [List.take_succ_eq_append_getElem hi, List.foldl_append]
        show ((10 * _ + ns[i] : Nat) : Int) = _
        omega
      refine wpC_execs_nil ⟨h9, _, _, rfl, F12, N10, (if_neg (by decide)).trans ((if_neg (by decide)).trans j1), (if_neg (by decide)).trans ((if_neg (by decide)).trans j2), (if_neg (by decide)).trans ((if_neg (by decide)).trans j3), ?_⟩
      rw [ev]
      exact ⟨_, if_pos rfl⟩
    · rintro h8 tk8 M5 F11 N9 ⟨j1, j2, j3, tn, j4⟩
      dsimp only
      have hyl : ys.length = ns.length := by rw [hys.length, List.length_map]
      rw [hyl, List.take_length, numR_fold, Nat.zero_mul, Nat.zero_add] at j4
      clear F9 F10 k3 k5 k6
      have hm0 : LM D bit (numR ns : Nat) ⟨#[mkAt q]⟩ M5 := ⟨j1, ⟨_, j2⟩, ⟨_, j3⟩, ⟨_, j4⟩⟩
      clear j1 j2 j3 j4
      refine wpC_execs_cons ?_
      refine wpC_For ?_
      refine Tuple_ ?_
      refine args_cons ?_
      refine Constant_bool ?_
      refine args_cons ?_
      refine Constant_bool ?_
      refine args_nil ?_
      refine newTuple_N F11 N9 (fun h9 F12 N10 => ?_) (by rw [sizeLine_eq]; exact Nat.le_of_ble_eq_true rfl)
      refine forTuple rfl (.head _) rfl rfl F12 N10 (fun i M => LM D bit (numR ns : Nat) ⟨#[mkAt q]⟩ M) hm0 ?_ ?_
      · rintro i v M6 own h10 tk10 hv hm1 F13 N11
        obtain ⟨tw, rfl⟩ : ∃ tw, v = .bool tw := by
          match i, hv with
          | 0, hv => exact ⟨_, (Option.some.inj hv).symm⟩
          | 1, hv => exact ⟨_, (Option.some.inj hv).symm⟩
          | i + 2, hv => simp at hv
        with_unfolding_all refine one_turn _ _ _ fa cd callerA s₁.heap s₁.heap L _ _ _ _ _ D ys nn ns tw bit q (below_caller _) F13 KX N11 T KX T (List.mem_append_right _ (.tail _ (.head _))) hys hns hn0 hn6 hb1 hq (hm1.set (by decide)) (if_pos rfl) (by decide) (by decide) ?_
        intro h' tk' M' F' N' hm'
        exact ⟨h', tk', M', rfl, F', N', hm'⟩
      · rintro h10 tk10 M6 F13 N11 _
        dsimp only
        refine wpC_execs_cons ?_
        refine wpC.of ?_
        refine wpAny_Return_some ?_
        refine Constant_bool ?_
        exact ⟨rfl, h10, _, _, rfl, F13⟩)
end Mine
end

theorem PySem.Challenge.cw_pg0019_01_holds : PySem.Challenge.rw_pg0019_01.Holds :=
  Mine.law_try
