import PyProof.Rows.All
import Wide.All
import OpenK.AllK
import Wide.FinOn
import Lean
import PySem.Challenge.RW_zd0006_01
set_option Elab.async false
set_option compiler.extract_closed false
open PySem PySem.W PyProof.Rows
namespace Mine
local macro_rules | `(tactic| is_list) => `(tactic| exact News.isList (by assumption) (by k_mem))
section
open PySem PySem.W PyProof.Rows PySem.Calls
set_option Elab.async false
set_option maxRecDepth 100000
set_option linter.unusedVariables false
/-- the caller of the claim is on the stack: then no refusal is marked -/
def HasC (Γ : Ctx) : Prop := Γ.below.any (fun x => x.1.isCaller) = true
/-- as wpAny, where the claim's caller is on the stack -/
def wpC {α : Type} (M : Model) (A : Around) (t : Sem α) (Q : α → Shared → Prop) (E : Value → Shared → Prop) (s : Shared) : Prop :=
  ∀ Γ p, Γ.In A → HasC Γ → Sem.wp M Γ t (fun a _ s' => Q a s') (fun e _ s' => E e s') p s
def codeC (M : Model) (A : Around) (c : Code) (R : Result → Shared → Prop) (s : Shared) : Prop :=
  ∀ Γ p, Γ.code = c → Γ.Below A → HasC Γ → wpCode M Γ R p s
theorem HasC.enter {Γ : Ctx} (h : HasC Γ) (c : Code) (hd : Option Value) (p : Pos) : HasC (Γ.enter c hd p) := by
  show List.any ((Γ.code, p) :: Γ.below) _ = true
  rw [List.any_cons, show Γ.below.any (fun x => x.1.isCaller) = true from h, Bool.or_true]

section
variable {α β : Type} {M : Model} {A : Around} {E : Value → Shared → Prop} {s : Shared} {R : Result → Shared → Prop}
theorem wpC_of {t : Sem α} {Q : α → Shared → Prop} (h : wpAny M A t Q E s) : wpC M A t Q E s := fun Γ p hΓ _ => h Γ p hΓ
theorem codeC_of {c : Code} (h : codeAny M A c R s) : codeC M A c R s := fun Γ p hc hΓ _ => h Γ p hc hΓ
theorem wpC_pure {a : α} {Q : α → Shared → Prop} (h : Q a s) : wpC M A (pure a) Q E s := fun _ _ _ _ => h
theorem wpC_mono {t : Sem α} {Q Q' : α → Shared → Prop} {E' : Value → Shared → Prop} (h : wpC M A t Q E s) (hQ : ∀ a s, Q a s → Q' a s) (hE : ∀ e s, E e s → E' e s) : wpC M A t Q' E' s :=
  fun Γ p hΓ hC => Sem.wp_mono M Γ t (fun a _ s => hQ a s) (fun e _ s => hE e s) p s (h Γ p hΓ hC)
theorem codeC_mono {c : Code} {R' : Result → Shared → Prop} (h : codeC M A c R s) (hR : ∀ r s, R r s → R' r s) : codeC M A c R' s := fun Γ p hc hΓ hC => wpCode_mono hR (h Γ p hc hΓ hC)
theorem wpC_bind {m : Sem α} {f : α → Sem β} {Q : β → Shared → Prop} (h : wpC M A m (fun a s' => wpC M A (f a) Q E s') E s) : wpC M A (m >>= f) Q E s := fun Γ p hΓ hC => by
  rw [Sem.wp_bind']
  exact Sem.wp_mono M Γ m (fun a p' s' h' => h' Γ p' hΓ hC) (fun _ _ _ h' => h') p s (h Γ p hΓ hC)
/-- a piece ahead that needs no caller -/
theorem wpC_then {m : Sem α} {f : α → Sem β} {Q : β → Shared → Prop} (h : wpAny M A m (fun a s' => wpC M A (f a) Q E s') E s) : wpC M A (m >>= f) Q E s := wpC_bind (wpC_of h)
theorem wpC_holding {vs : List Value} {m : Sem α} {Q : α → Shared → Prop} (h : wpC M A m Q E s) : wpC M A (holding vs m) Q E s := fun Γ p hΓ hC => by rw [Sem.wp_holding]; exact h Γ p hΓ hC
theorem wpC_keep {vs : List Value} {m : Sem α} {Q : α → Shared → Prop} (h : wpC M A m Q E s) : wpC M A (m.keep vs) Q E s := fun Γ p hΓ hC => by rw [Sem.wp_keep]; exact h Γ p hΓ hC
theorem wpC_onRaise {m : Sem α} {k : Value → Sem Unit} {Q : α → Shared → Prop} (h : wpC M A m Q (fun e s' => wpC M A (k e) (fun _ s'' => E e s'') E s') s) : wpC M A (m.onRaise k) Q E s := fun Γ p hΓ hC => by
  rw [Sem.wp_onRaise]
  exact Sem.wp_mono M Γ m (fun _ _ _ h' => h') (fun e p' s' h' => h' Γ p' hΓ hC) p s (h Γ p hΓ hC)
theorem wpC_attempt {m : Sem α} {Q : Except Value α → Shared → Prop} (h : wpC M A m (fun a => Q (.ok a)) (fun e => Q (.error e)) s) : wpC M A m.attempt Q E s := fun Γ p hΓ hC => by
  rw [Sem.wp_attempt]; exact h Γ p hΓ hC
theorem wpC_throw {e : Value} {Q : α → Shared → Prop} (h : E e s) : wpC M A (throw e : Sem α) Q E s := fun _ _ _ _ => h
theorem wpC_run {c : Code} {h : Option Value} {Q : Flow → Shared → Prop} (hc : codeC M (A.mark h) c (fun r s' => match r with | .ok f => Q f s' | .error e => E e s') s) (hnb : h ≠ some byPass := by intro x; cases x) : wpC M A (run c h) Q E s :=
  fun Γ p hΓ hC => by rw [Sem.wp_run]; exact hc _ p rfl (hΓ.enter c h p hnb) (hC.enter c h p)
theorem wpC_runValue {c : Code} {Q : Value → Shared → Prop} (hc : codeC M A c (fun r s' => match r with | .ok (.ret v) => Q v s' | .ok _ => False | .error e => E e s') s) : wpC M A (runValue c) Q E s :=
  fun Γ p hΓ hC => by rw [Sem.wp_runValue]; exact hc _ p rfl (hΓ.enter c none p (by intro x; cases x)) (hC.enter c none p)
theorem wpC_call {f : Value} {pos : List Value} {kw : List (Str × Value)} {Q : Value → Shared → Prop} (hc : codeC M A (.call f ⟨pos, kw⟩) (fun r s' => match r with | .ok (.ret v) => Q v s' | .ok _ => False | .error e => E e s') s) : wpC M A (call f pos kw) Q E s := wpC_runValue hc
theorem codeC_of_tree {c : Code} (h : wpC M (A.under c) (M.den c) (fun fin s' => match fin with | .done f => R (.ok f) s' | .again c' => c'.quiet = true ∧ codeC M A c' R s') (fun e s' => R (.error e) s') s) : codeC M A c R s := fun Γ p hc hΓ hC => by
  rw [wpCode_iff_wp, hc]
  refine Sem.wp_mono M Γ _ (fun fin p' s' h' => ?_) (fun _ _ _ h' => h') p s (h Γ p (hc ▸ hΓ.in) hC)
  cases fin with
  | done f => exact h'
  | again c' => exact ⟨h'.1, h'.2 (Γ.goto c') p' rfl (hΓ.goto c') hC⟩
/-- under the claim's caller no refusal is marked -/
theorem wpC_mark {own : List String} {e : Value} {Q : Unit → Shared → Prop} (h : Q () s) : wpC M A (markTheRefusal own e) Q E s := fun Γ p hΓ hC => by
  unfold markTheRefusal
  rw [Sem.wp_bind']
  show Sem.wp M Γ _ _ _ p s
  have hn : pythonCodeMadeTheCall own (((Γ.code, p) :: Γ.below).map (·.1)) = false := by
    unfold pythonCodeMadeTheCall
    rw [Bool.and_assoc, Bool.and_eq_false_iff]
    left
    rw [Bool.not_eq_false', List.any_eq_true]
    have h1 : Γ.below.any (fun x => x.1.isCaller) = true := hC
    rw [List.any_eq_true] at h1
    obtain ⟨x, hx, hx'⟩ := h1
    exact ⟨x.1, List.mem_map.mpr ⟨x, List.mem_cons_of_mem _ hx, rfl⟩, hx'⟩
  show Sem.wp M Γ (if pythonCodeMadeTheCall own (((Γ.code, p) :: Γ.below).map (·.1)) then _ else _) _ _ p s
  rw [hn]
  exact h
end

section
variable {M : Model} {A : Around} {E : Value → Shared → Prop} {s : Shared} {env : Env}
theorem wpC_execs_cons {st : Stmt} {rest : List Stmt} {Q : Flow → Shared → Prop} (h : wpC M A (exec st env) (fun f s' => match f with | .next => wpC M A (execs rest env) Q E s' | f => Q f s') E s) : wpC M A (execs (st :: rest) env) Q E s := by
  rw [execs_cons]
  refine wpC_bind (wpC_mono h (fun f s' hf => ?_) fun _ _ x => x)
  cases f <;> first | exact hf | exact wpC_pure hf
theorem wp_execs_app {Γ : Ctx} {rest : List Stmt} {Q : Flow → Shared → Prop} (hΓ : Γ.In A) (hC : HasC Γ) : ∀ (pre : List Stmt) (p : Pos) (s : Shared),
    Sem.wp M Γ (execs pre env) (fun f _ s' => match f with | .next => wpC M A (execs rest env) Q E s' | f => Q f s') (fun e _ s' => E e s') p s → Sem.wp M Γ (execs (pre ++ rest) env) (fun f _ s' => Q f s') (fun e _ s' => E e s') p s
  | [], p, s, h => h Γ p hΓ hC
  | st :: pre, p, s, h => by
    rw [execs_cons, Sem.wp_bind'] at h
    rw [List.cons_append, execs_cons, Sem.wp_bind']
    refine Sem.wp_mono M Γ _ (fun f p' s' hf => ?_) (fun _ _ _ x => x) p s h
    cases f with
    | next => exact wp_execs_app hΓ hC pre p' s' hf
    | _ => exact hf
/-- statements ahead that need no caller -/
theorem wpC_execs_then {rest : List Stmt} {Q : Flow → Shared → Prop} (pre : List Stmt) (h : wpAny M A (execs pre env) (fun f s' => match f with | .next => wpC M A (execs rest env) Q E s' | f => Q f s') E s) : wpC M A (execs (pre ++ rest) env) Q E s :=
  fun Γ p hΓ hC => wp_execs_app hΓ hC pre p s (h Γ p hΓ)
theorem wpC_Assign_Name {x : Str} {pos' pos : Pos} {value : Expr} {Q : Flow → Shared → Prop} (h : wpC M A (eval value env) (fun v s₁ => wpAny M A (bindName env x v) (fun _ s₂ => Q .next s₂) E s₁) E s) (hs : swapsWith value (some (.Name x pos')) pos.line env = pure false := by rfl) :
    wpC M A (exec (.Assign [.Name x pos'] value pos) env) Q E s := by
  rw [exec_Assign_Name (hs := hs)]
  refine wpC_then (wpAny_standAt (wpC_bind (wpC_mono h (fun v s₁ h₁ => ?_) fun _ _ x => x)))
  exact wpC_of (wpAny_bind (wpAny_standAt (wpAny_bind (wpAny_mono h₁ (fun _ _ h₂ => wpAny_pure h₂) fun _ _ x => x))))
theorem wpC_Return {e : Expr} {pos : Pos} {Q : Flow → Shared → Prop} (h : wpC M A (eval e env) (fun v s₁ => Q (.ret v) s₁) E s) : wpC M A (exec (.Return (some e) pos) env) Q E s := by
  rw [exec_Return_some]
  exact wpC_then (wpAny_standAt (wpC_bind (wpC_mono h (fun v s₁ h₁ => wpC_pure h₁) fun _ _ x => x)))
theorem wpC_If {test : Expr} {body orelse : List Stmt} {pos : Pos} {Q : Flow → Shared → Prop} (h : wpAny M A (isTrue test env (eval test env)) (fun b s₁ => if b then wpC M A (execs body env) Q E s₁ else wpC M A (execs orelse env) Q E s₁) E s) :
    wpC M A (exec (.If test body orelse pos) env) Q E s := by
  rw [exec_If]
  refine wpC_then (wpAny_standAt (wpC_then (wpAny_mono h (fun b s₁ h₁ => ?_) fun _ _ x => x)))
  cases b <;> exact h₁
theorem wpC_Try {body orelse : List Stmt} {h₀ : ExceptHandler} {hs : List ExceptHandler} {pos : Pos} {Q : Flow → Shared → Prop}
    (h : wpC M A (execs body env) (fun f s₁ => match f with | .next => wpC M A (execs orelse env) Q E s₁ | f => Q f s₁)
      (fun e s₁ => wpAny M A (noteFrame e env) (fun _ s₂ => wpAny M A (setFlight e none) (fun _ s₃ => wpAny M A (handleBy e env (h₀ :: hs)) Q E s₃) E s₂) E s₁) s) :
    wpC M A (exec (.Try body (h₀ :: hs) orelse [] pos) env) Q E s := by
  rw [arm_exec_Try]
  refine wpC_then (wpAny_standAt ?_)
  unfold tryStmt
  simp only [List.isEmpty_nil, if_true, List.isEmpty_cons, Bool.false_and, Bool.false_eq_true, if_false]
  refine wpC_bind (wpC_attempt (wpC_mono h (fun f s₁ h₁ => ?_) fun e s₁ h₁ => ?_))
  · cases f <;> first | exact h₁ | exact wpC_pure h₁
  · exact wpC_of (wpAny_bind (wpAny_mono h₁ (fun _ _ h₂ => wpAny_bind h₂) fun _ _ x => x))
theorem wpC_callWith_fn {pos : Pos} {a : Addr} {first : List Value} {args : List (Bool × Sem Value)} {keywords : List (Option Str × Sem Value)} {Q : Value → Shared → Prop}
    (h : wpAny M A (evalArgs (.ref a) true args keywords) (fun x s₁ => FnAt a s₁.heap ∧ wpC M A (call (.ref a) (first ++ x.pos) x.kw) Q E s₁) E s) : wpC M A (callWith pos (.ref a) first args keywords) Q E s := by
  unfold callWith
  refine wpC_then (wpAny_holding (wpAny_mono h (fun x s₁ h₁ => wpC_then (wpAny_standAt ?_)) fun _ _ x => x))
  have tail : ∀ {t : Sem Value}, wpC M A t Q E s₁ → wpC M A (t >>= fun r => holding [r] point >>= fun _ => pure r) Q E s₁ :=
    fun ht => wpC_bind (wpC_mono ht (fun r s₂ hr => wpC_of (wpAny_bind (wpAny_holding (wpAny_point (wpAny_pure hr))))) fun _ _ x => x)
  refine wpC_then (m := keeperOf (.ref a)) ?_
  unfold keeperOf
  obtain ⟨⟨oc, od, fd, sl, ho⟩, h₁⟩ := h₁
  refine wpAny_bind (wpAny_load ho ?_)
  refine wpAny_pure ?_
  cases hs : (args.any (·.1) || keywords.any (·.1.isNone)) <;> dsimp only
  · by_cases hl : args.length + 2 * keywords.length > 30
    · rw [if_pos hl]; exact tail h₁
    · rw [if_neg hl]; exact tail (by unfold callMarked; exact wpC_keep h₁)
  · exact tail (by unfold callMarked; exact wpC_keep h₁)
theorem wpC_callWith_type {pos : Pos} {T : String} {first : List Value} {args : List (Bool × Sem Value)} {Q : Value → Shared → Prop} (hplain : args.any (·.1) = false)
    (h : wpAny M A (evalArgs (.type T) true args []) (fun a s₁ => wpC M A (call (.type T) (first ++ a.pos) a.kw) Q E s₁) E s) : wpC M A (callWith pos (.type T) first args []) Q E s := by
  unfold callWith
  refine wpC_then (wpAny_holding (wpAny_mono h (fun x s₁ h₁ => wpC_then (wpAny_standAt ?_)) fun _ _ x => x))
  simp only [hplain, List.any_nil, Bool.or_false]
  refine wpC_then (wpAny_pure ?_)
  exact wpC_bind (wpC_mono h₁ (fun r s₂ hr => wpC_of (wpAny_bind (wpAny_holding (wpAny_point (wpAny_pure hr))))) fun _ _ x => x)
theorem wpC_Call_Name {id : Str} {p pos : Pos} {args : List Expr} {keywords : List Keyword} {Q : Value → Shared → Prop}
    (h : wpAny M A (eval (.Name id p) env) (fun f s₁ => wpC M A (callWith pos f [] (backTo pos (starEach args env)) (backToKw pos (keywordEach keywords env))) Q E s₁) E s) : wpC M A (eval (.Call (.Name id p) args keywords pos) env) Q E s := by
  rw [arm_eval_Call_Name']
  exact wpC_then h
end

section
variable {prog : Program} {w : World} {A : Around} {E : Value → Shared → Prop} {s : Shared} {R : Result → Shared → Prop}
theorem codeC_func {body : List Stmt} {env : Env}
    (h : wpC (model prog w) (A.deeper env) (execs body env) (fun f s' => R (.ok (.ret (match f with | .ret v => v | _ => .none))) s')
      (fun e s' => wpAny (model prog w) (A.deeper env) (leaving env e) (fun _ s'' => R (.error e) s'') (fun e' s'' => R (.error e') s'') s') s) : codeC (model prog w) A (.func body env) R s := by
  refine codeC_of_tree ?_
  show wpC _ (A.deeper env) (do point; match ← (execs body env).onRaise (leaving env) with | .ret v => ret v | _ => ret .none) _ _ s
  refine wpC_then (wpAny_point (wpC_bind (wpC_onRaise (wpC_mono h (fun f s' h' => ?_) fun _ _ h' => wpC_of h'))))
  cases f <;> exact wpC_pure h'
theorem codeC_call_function {a : Addr} {args : Args} {o : Obj} {fd : FuncData} {body : List Stmt} (hroom : A.depth < recursionLimit)
    (ho : s.heap.get? a = some o) (hd : o.data = .func fd) (hco : fd.scope.isCoroutine = false) (hgen : fd.scope.isGenerator = false) (hbody : fd.body = .stmts body) (hcd : s.heap.CodeRec fd.code fd.qualname)
    (h : wpAny (model prog w) A.in1 (bindArgs fd args) (fun binds s₁ => wpAny (model prog w) A.in1 (newFunctionEnv fd.scope fd.globals fd.closure binds (fd.qualname ++ ".<locals>.") (some a) fd.code none fd.builtins)
        (fun env s₂ => s₂.heap.NoLimit ∧ codeC (model prog w) A (.func body env) R s₂) (fun e s' => R (.error e) s') s₁) (fun e s' => R (.error e) s') s) :
    codeC (model prog w) A (.call (.ref a) args) R s := by
  refine codeC_of_tree ?_
  show wpC _ A.in1 (callAny (.ref a) args) _ _ s
  simp only [callAny]
  refine wpC_then (wpAny_load ho ?_)
  obtain ⟨c, oc, vs, tq, hc, hoc, hdc, hq⟩ := hcd
  simp only [hd, callFunction, hco, hgen, hbody, hc]
  rw [hc] at h
  refine wpC_then (m := field (.ref c) 1) (wpAny_field hoc hdc hq ?_)
  refine wpC_then (wpAny_pure ?_)
  exact wpC_then (wpAny_mono h (fun binds s₁ h₁ => wpC_then (wpAny_mono h₁ (fun env s₂ h₂ => wpC_then (wpAny_enterFrame h₂.1 hroom (wpC_pure ⟨rfl, h₂.2⟩))) fun _ _ h' => h')) fun _ _ h' => h')
/-- a call of a def without cells -/
theorem codeC_call_def {a : Addr} {o : Obj} {fd : FuncData} {body : List Stmt} {args : Args} {binds : List (Str × Value)}
    (hroom : A.depth < recursionLimit) (ho : s.heap.get? a = some o) (hdata : o.data = .func fd) (hlim : s.heap.NoLimit) (hcd : s.heap.CodeRec fd.code fd.qualname)
    (hbody : fd.body = .stmts body) (hbind : BindsTo s fd args binds) (hcell : ∀ x ∈ fd.scope.names, x.2 ≠ .cell) (hloc : ∀ x ∈ binds, fd.scope.names.lookup x.1 = some .local)
    (h : ∀ h₀, h₀.Ns s.heap.objs.size (fun x => binds.reverse.lookup x) → (∀ b o, s.heap.get? b = some o → h₀.get? b = some o) →
      wpC (model prog w) (A.deeper (callEnv fd s.heap.objs.size a)) (execs body (callEnv fd s.heap.objs.size a)) (fun f s' => R (.ok (.ret (match f with | .ret v => v | _ => .none))) s')
        (fun e s' => wpAny (model prog w) (A.deeper (callEnv fd s.heap.objs.size a)) (leaving (callEnv fd s.heap.objs.size a) e) (fun _ s'' => R (.error e) s'') (fun e' s'' => R (.error e') s'') s')
        { s with heap := h₀, toks := s.toks + binds.length })
    (hco : fd.scope.isCoroutine = false := by rfl) (hgen : fd.scope.isGenerator = false := by rfl) (hk : fd.scope.kind = .function := by rfl) :
    codeC (model prog w) A (.call (.ref a) args) R s := by
  refine codeC_call_function hroom ho hdata hco hgen hbody hcd (hbind _ _ _ _ ?_)
  refine wpAny_newFunctionEnv hcell hloc (fun h₀ hns₀ hsb₀ => ⟨hlim.fresh _ hsb₀, codeC_func (h h₀ hns₀ fun b o e => ?_)⟩) hk
  exact hsb₀.extBut b o (Nat.ne_of_lt (Heap.lt_size e)) (Heap.get?_push_of_some _ e)
end
end
section
open PySem PySem.W PyProof.Rows PySem.Calls
set_option Elab.async false
set_option maxRecDepth 100000
set_option linter.unusedVariables false
/-- as wpC, of the caller's own code too -/
def wpB {α : Type} (M : Model) (A : Around) (t : Sem α) (Q : α → Shared → Prop) (E : Value → Shared → Prop) (s : Shared) : Prop :=
  ∀ Γ p, Γ.In A → Γ.code.isCaller = true → Sem.wp M Γ t (fun a _ s' => Q a s') (fun e _ s' => E e s') p s
section
variable {α β : Type} {M : Model} {A : Around} {E : Value → Shared → Prop} {s : Shared} {R : Result → Shared → Prop}
theorem wpB_of {t : Sem α} {Q : α → Shared → Prop} (h : wpAny M A t Q E s) : wpB M A t Q E s := fun Γ p hΓ _ => h Γ p hΓ
theorem wpB_mono {t : Sem α} {Q Q' : α → Shared → Prop} {E' : Value → Shared → Prop} (h : wpB M A t Q E s) (hQ : ∀ a s, Q a s → Q' a s) (hE : ∀ e s, E e s → E' e s) : wpB M A t Q' E' s :=
  fun Γ p hΓ hC => Sem.wp_mono M Γ t (fun a _ s => hQ a s) (fun e _ s => hE e s) p s (h Γ p hΓ hC)
theorem wpB_bind {m : Sem α} {f : α → Sem β} {Q : β → Shared → Prop} (h : wpB M A m (fun a s' => wpB M A (f a) Q E s') E s) : wpB M A (m >>= f) Q E s := fun Γ p hΓ hC => by
  rw [Sem.wp_bind']
  exact Sem.wp_mono M Γ m (fun a p' s' h' => h' Γ p' hΓ hC) (fun _ _ _ h' => h') p s (h Γ p hΓ hC)
theorem wpB_holding {vs : List Value} {m : Sem α} {Q : α → Shared → Prop} (h : wpB M A m Q E s) : wpB M A (holding vs m) Q E s := fun Γ p hΓ hC => by rw [Sem.wp_holding]; exact h Γ p hΓ hC
theorem wpB_call {f : Value} {pos : List Value} {kw : List (Str × Value)} {Q : Value → Shared → Prop} (hc : codeC M A (.call f ⟨pos, kw⟩) (fun r s' => match r with | .ok (.ret v) => Q v s' | .ok _ => False | .error e => E e s') s) : wpB M A (call f pos kw) Q E s :=
  fun Γ p hΓ hC => by
    show Sem.wp M Γ (runValue (.call f ⟨pos, kw⟩)) _ _ p s
    rw [Sem.wp_runValue]
    refine hc _ p rfl (hΓ.enter _ none p (by intro x; cases x)) ?_
    show List.any ((Γ.code, p) :: Γ.below) _ = true
    rw [List.any_cons, hC]
    rfl
theorem wpB_callC {f : Value} {kw : List Str} {vs : List Value} {Q : Value → Shared → Prop} (h : codeC M A (.call f ⟨byPlace kw vs, byName kw vs⟩) (fun r s' => match r with | .ok (.ret v) => Q v s' | .ok _ => False | .error e => E e s') s) :
    wpB M A (callC f kw false [] false vs) Q E s := by
  unfold callC
  refine wpB_bind (wpB_of (handed_nil vs [] 0 ?_))
  show wpB M A (holding vs (call f (byPlace kw vs) (byName kw vs) >>= fun r => drained false r >>= fun x => asPair false x)) Q E s
  exact wpB_holding (wpB_bind (wpB_mono (wpB_call h) (fun r s' hr => wpB_of (wpAny_bind (wpAny_pure (wpAny_pure hr)))) fun _ _ x => x))
end

/-- what is left behind by a run from the claim's caller -/
theorem callFromC {c : ClaimW} {tree : List Value → Sem PySem.Fin} {w : World} {s : Shared} {free : Addr → Prop} {gens : Prop} {kept : Heap → Prop} (hz : s.asleep) (hgens : s.gens = #[])
    (hspec : ∀ args, c.pre args = true → WData.layableAll args = true → ∀ ord : List DictEntry → List DictEntry, (∀ l, (ord l).Perm l) → ∃ vs s₁, layAllW c.records (classAt s.heap) w.params ord args s = some (vs, s₁) ∧
      wpB (model c.prog w) callerA (tree vs) (fun fin s' => ∃ f, fin = .done f ∧ (c.Ends s args vs s₁ (.ok f) s' ∧ s'.os = s.os ∧ kept s'.heap) ∧ AllBare s'.gens) (fun e s' => (c.Ends s args vs s₁ (.error e) s' ∧ s'.os = s.os ∧ kept s'.heap) ∧ AllBare s'.gens) s₁) :
    c.CallFrom (fun vs => ⟨tree vs, .builtin "claim.caller" {}, default, []⟩) w free gens kept s := fun args hpre hlay ord hord => by
  obtain ⟨vs, s₁, hlaid, hwp⟩ := hspec args hpre hlay ord hord
  have hal := layAllW_rest _ _ _ hlaid
  have h0 := hwp ⟨.builtin "claim.caller" {}, none, none, [], none⟩ default caller_in rfl
  obtain ⟨k, r, s', s'', hsched, hrun, hfo, hE, hos, hkp⟩ := wp_halts_full (M := model c.prog w) (c := .builtin "claim.caller" {}) (t := tree vs) (p := default) (R := fun r s' => c.Ends s args vs s₁ r s' ∧ s'.os = s.os ∧ kept s'.heap) (Shared.asleep_of_life hal.2.2.2 hz)
    (Sem.wp_mono _ _ _ (fun fin p' s' h' => by
      obtain ⟨f, rfl, h1, h2⟩ := h'
      exact ⟨h1, leftWithCleanup_false_of_bare h2⟩) (fun e p' s' h' => ⟨h'.1, leftWithCleanup_false_of_bare h'.2⟩) _ _ h0)
  obtain ⟨eh, _, _, eo, _⟩ := Shared.forget_eq hfo
  replace hE : c.Ends s args vs s₁ r s'' := hE.congr eh
  rw [← eh] at hkp
  rw [← eo] at hos
  refine ⟨vs, s₁, hlaid, k, outcomeOf r, s'', hsched, ?_, fun _ i x hx => by (rw [hgens] at hx; simp at hx), hkp, by rw [(runN_life _ _ _ hrun).trans hal.2.2.2], Shared.rest_eq hos⟩
  rcases hE with ⟨v, rfl, d1, d2, d3, d4, d5⟩ | ⟨e, ob, cls, rfl, d1, d2, d3, d4, d5⟩
  · exact .inl ⟨v, rfl, d1, d2, d3, fun b o y _ => d4 b o y, d5⟩
  · exact .inr ⟨e, ob, cls, rfl, d1, d2, d3, d4, fun b o y _ => d5 b o y⟩

/-- an open row, by a run from the claim's caller -/
theorem openC {r : RowW} {run : Value → List Value → Sem Value} {tree : List Value → Sem PySem.Fin} {q : Program} {loose defs kps : List Str} {writes : Bool} {Xt : Shared → Bool} {XP : (Str → Option Value) → Heap → Prop} {α : Type} {Yf : Shared → α} {Ya : World → α} {YP : World → Heap → Prop} {N : Nat}
    (left : LeftO r.prog q loose Xt Yf Ya N) (hY : ∀ w s, Yf s = Ya w → YP w s.heap) (hYk : ∀ w h h', YP w h → (∀ b o, h.get? b = some o → h'.get? b = some o) → YP w h') (hX : ∀ s, Xt s = true → XP (s.heap.nsMap mainGlobals) s.heap) (hXk : ∀ mg h h', XP mg h → (∀ b o, h.get? b = some o → h'.get? b = some o) → XP mg h')
    (hRf : ∀ s, Xt s = true → RecFacts r.records s.heap) (hwr : (!writes || r.records.isEmpty) = true) (ok : (chainsOk q && opensWell r.prog && (frees r && r.within.isEmpty)) = true) (hb : r.prog.bare) (hw : r.promised)
    (ht : ∀ vs (w : World) (s : Shared) mg f (Q : PySem.Fin → Shared → Prop) (E : Value → Shared → Prop), s.heap.Ns mainGlobals mg → mg r.name = some f → wpB (model r.prog w) callerA (run f vs) (fun v s' => Q (.done (.ret v)) s') E s → wpB (model r.prog w) callerA (tree vs) Q E s)
    (pin : ∀ w s, s.heap.isNs mainGlobals = true → Ground q loose [] XP w s (s.heap.nsMap mainGlobals) (s.heap.nsMap builtinsNs) s.heap → ∀ n ∈ defs, isTheDefsW r.prog s.heap n)
    (call : ∀ (w : World) (s₀ s₁ : Shared) (mg mb : Str → Option Value), Ground q loose r.records XP w s₀ mg mb s₁.heap → YP w s₁.heap → ∀ (args : List WData) (vs : List Value) (as : List Addr),
      r.claim.pre args = true → WData.layableAll args = true → Laid r.records w s₀ s₁ args vs as → sysModules < s₀.heap.objs.size → ∃ f, mg r.name = some f ∧
        wpB (model r.prog w) callerA (run f vs) (fun v s' => GoodWG r.claim (classAt s₀.heap) (ExcName.means s₀.heap) args s₁ (.ok (.ret v)) s') (fun e s' => GoodWG r.claim (classAt s₀.heap) (ExcName.means s₀.heap) args s₁ (.error e) s') s₁) :
    r.claim.HoldsOpenBy (fun vs => ⟨tree vs, .builtin "claim.caller" {}, default, []⟩) defs kps writes := by
  rw [Bool.and_eq_true, Bool.and_eq_true, Bool.and_eq_true] at ok
  obtain ⟨⟨hch, hop⟩, hfr, hwi'⟩ := ok
  obtain ⟨hsame, hu, ha, hap, hm⟩ := frees_parts hfr
  have L0 := left.behind (XP := fun mg h => XP mg h ∧ RecFacts r.records h) (fun s hs => ⟨hX s hs, hRf s hs⟩) hch
  refine ⟨⟨hb, hop, by show r.makers.map _ = []; rw [hm]; rfl⟩, hw.witness, fun w => ⟨(left.behind hX hch w).1, fun s' hs' => ?_⟩⟩
  obtain ⟨s₀, hf, hg0, s, hT, hz, hgens, hg, GG, y⟩ := (L0 w).2 s' hs'
  have GX : Ground q loose [] XP w s (s.heap.nsMap mainGlobals) (s.heap.nsMap builtinsNs) s.heap := ⟨GG.T, GG.B, GG.D, GG.TE, GG.TD, GG.W, GG.X.1, GG.cls, GG.has, GG.apart, GG.once, GG.K⟩
  have RF := GG.X.2
  have hgens : s.gens = #[] := Array.eq_empty_of_size_eq_zero (beq_iff_eq.mp hgens)
  refine ⟨s₀, hf, hg0, s, hT, pin w s hg GX, RF.1, RF.2.1, callFromC (c := r.claim) hz hgens fun args hpre hlay ord hord => ?_⟩
  have GR : Ground q loose r.records XP w s _ _ s.heap := RF.ground GX
  obtain ⟨⟨vs, s₁⟩, hlaid⟩ := Option.isSome_iff_exists.mp (layAllW_isSome (P := w.params) (ord := ord) GR.has args r.args s (pre_splitW hpre).1)
  have keeps := layAllW_keeps _ _ _ hlaid
  have hal := layAllW_rest _ _ _ hlaid
  obtain ⟨as, hrd, hin, hold⟩ := reads_layAllW hord _ _ _ hlaid hlay s₁.heap (fun _ _ e => e)
  have L : Laid r.records w s s₁ args vs as := ⟨⟨ord, hord, hlaid⟩, hrd, hin, hold, keeps, hal.1.trans hgens, hal.2.2.1⟩
  have G₁ := GR.keeps hXk keeps
  obtain ⟨f, hmf, h⟩ := call w s s₁ _ _ G₁ (hYk _ _ _ (hY w s y) keeps) args vs as hpre hlay L GR.low
  have out : ∀ {res : Result} {s' : Shared}, GoodWG r.claim (classAt s.heap) (ExcName.means s.heap) args s₁ res s' →
      (r.claim.Ends s args vs s₁ res s' ∧ s'.os = s.os ∧ (writes = true → namesKept r.prog kps s.heap s'.heap ∧ ∀ x ∈ r.claim.records, ∀ a, classAt s.heap x.1 = some a → recordClass s'.heap a x.1 (x.2.map (·.1)) = true)) ∧ AllBare s'.gens := fun g => by
    have z := g.laid (c := r.claim) hsame (List.isEmpty_iff.mp hwi') (ident_freeW hu ha hap) L
    exact ⟨⟨z.1, z.2.1, fun q => ⟨namesKept_of hT hg kps keeps g.2.1.old, noTable hwr q⟩⟩, z.2.2⟩
  exact ⟨vs, s₁, hlaid, ht vs w s₁ _ f _ _ G₁.T.g hmf (wpB_mono h (fun v s' g => ⟨_, rfl, out g⟩) fun e s' g => out g)⟩

/-- the call of a law, by a run from the claim's caller -/
abbrev WalkB (q : Program) (loose : List Str) (XP : (Str → Option Value) → Heap → Prop) (YP : World → Heap → Prop) (r : RowW) (d : DefRec) (kwd : List (Str × Expr)) (run : Value → List Value → Sem Value) : Prop :=
  ∀ (w : World) (s₀ s₁ : Shared) (mg mb : Str → Option Value), Ground q loose r.records XP w s₀ mg mb s₁.heap → YP w s₁.heap → ∀ (a : Addr) (o : Obj) (pm cd doc dV kV : Value), s₁.heap.get? a = some o →
    o.data = .func { docDef d.name d.params d.body d.scope pm cd doc with defaults := dV, kwdefaults := kV } → s₁.heap.CodeRec cd d.name → Dflts mg s₁.heap d.params kwd dV kV → mg d.name = some (.ref a) → s₁.gens = #[] →
    ∀ (args : List WData) (vals : List Value) (as : List Addr), r.claim.pre args = true → WData.layableAll args = true → ReadsAllW r.records (classAt s₀.heap) s₁.heap vals args as → WellAll w.params s₁.heap vals args → (∀ a ∈ as, (a == sysModules) = false) →
      wpB (model r.prog w) callerA (run (.ref a) vals) (fun v s' => GoodWG r.claim (classAt s₀.heap) (ExcName.means s₀.heap) args s₁ (.ok (.ret v)) s')
        (fun e s' => GoodWG r.claim (classAt s₀.heap) (ExcName.means s₀.heap) args s₁ (.error e) s') s₁
/-- the head, for a walk under the claim's caller -/
theorem PySem.W.holds_open {r : OpenRow} {q : Program} {loose : List Str} {Xt : Shared → Bool} {XP : (Str → Option Value) → Heap → Prop} {α : Type} {Yf : Shared → α} {Ya : World → α} {YP : World → Heap → Prop} {d : DefRec} {kwd : List (Str × Expr)} {N : Nat}
    (left : LeftO r.prog q loose Xt Yf Ya N) (hY : ∀ w s, Yf s = Ya w → YP w s.heap) (hYk : ∀ w h h', YP w h → (∀ b o, h.get? b = some o → h'.get? b = some o) → YP w h')
    (hX : ∀ s, Xt s = true → XP (s.heap.nsMap mainGlobals) s.heap) (hXk : ∀ mg h h', XP mg h → (∀ b o, h.get? b = some o → h'.get? b = some o) → XP mg h')
    (hdef : defOf q r.name = some (d, kwd)) (hp : r.prog.theDef r.name = some (d.params, d.body, d.scope)) (hk : kwWritten? d.params.kwonlyargs d.params.kw_defaults = some kwd) (hRf : ∀ s, Xt s = true → RecFacts r.records s.heap) (hwr : (!r.writes || r.records.isEmpty) = true)
    (k1 : r.wellSaid = true) (ok : (chainsOk q && opensWell r.prog && (frees r.toRowW && r.within.isEmpty)) = true) (hb : r.prog.bare) (hw : r.toRowW.promised)
    (call : WalkB q loose XP YP r.toRowW d kwd fun f vs => PySem.call f vs) : r.Holds := by
  refine ⟨k1, hw, openC (r := r.toRowW) (run := fun f vs => PySem.call f vs) (tree := fun vs => do match ← nsGet mainNs r.name with
      | some f => do ret (← PySem.call f vs)
      | none => unsupported "claim.caller:no-such-global") left hY hYk hX hXk hRf hwr ok hb hw ?_ ?_ ?_⟩
  · intro vs w s mg f Q E hg hf h
    refine wpB_bind (wpB_of (wpAny_nsGet hg ?_))
    rw [hf]
    exact wpB_bind (wpB_mono h (fun _ _ x => wpB_of (wpAny_pure x)) fun _ _ x => x)
  · intro w s hg G n hn
    obtain rfl : n = r.name := by split at hn <;> simp_all
    exact pinned_of_view hg G hdef hp hk
  · intro w s₀ s₁ mg mb G Y args vs as hpre hlay L low
    obtain ⟨a, o, pm, cd, doc, dV, kV, h1, h2, h3, h4, h5⟩ := G.fn hdef
    exact ⟨.ref a, h1, call w s₀ s₁ mg mb G Y a o pm cd doc dV kV h2 h3 h4 h5 (defOf_name hdef ▸ h1) L.gens args vs as hpre hlay L.reads L.well (L.low low)⟩
end
section
open PySem PySem.W PyProof.Rows
set_option Elab.async false
set_option maxRecDepth 100000
set_option maxHeartbeats 8000000
/-- the text without the rows that bind its own name -/
noncomputable def viewQ : Program := by
  refine (?f : PySem.Challenge.pw_zd0006_01.main.body = [?a0, ?a1, ?a2, ?a3, ?a4, ?a5, ?a6, ?a7, ?a8, ?a9, ?a10, ?a11, ?a12, ?a13, ?a14, ?a15, ?a16, ?a17, ?a18, ?a19, ?a20, ?a21, ?a22, ?a23, ?a24, ?a25, ?a26] → Program) ?h
  case h => rfl
  case f => exact fun _ => { PySem.Challenge.pw_zd0006_01 with main := { PySem.Challenge.pw_zd0006_01.main with body := [?a1, ?a2, ?a3, ?a4, ?a5, ?a7, ?a8, ?a9, ?a10, ?a12, ?a13, ?a14, ?a15, ?a16, ?a18, ?a19, ?a20, ?a21, ?a22, ?a23, ?a24, ?a25, ?a26] } }
/-- the run of a top, by the library's quick forms -/
noncomputable def openEndsQ (p : Program) (w : World) (N : Nat) : Option Shared :=
  ((Fast.tw10274390034422433532 Fast.tw14364793385576792824 (opening p) w N (Fast.tw1435165496053646825 (opening p)).1 (Fast.tw1435165496053646825 (opening p)).2).bind (Fast.tw14289696077712309145 p)).bind fun s₀ =>
    match s₀.heap.isNs mainGlobals && s₀.gens.size == 0 with
    | true => (Fast.tw14082659384304107361 Fast.tw14364793385576792824 p w s₀.heap.objs.size (Fast.tw8920871248978507458 s₀.heap mainGlobals "__annotations__") N s₀ (topStub p)).bind fun s₁ => match staticsOk (Fast.tw5923862056798008813 p.main.body) s₀.heap s₁.heap && namesBound p s₁.heap && gensDone s₁ && laidKept s₀.heap s₁.heap with
      | true => some s₁
      | false => none
    | false => none
theorem openEnds_eq (p : Program) (w : World) (N : Nat) : openEnds treeTable p w N = openEndsQ p w N := by
  unfold openEndsQ
  rw [← Fast.te10274390034422433532, ← Fast.te14364793385576792824, ← Fast.te1435165496053646825, ← Fast.te14289696077712309145, ← Fast.te14082659384304107361, ← Fast.te8920871248978507458, ← Fast.te5923862056798008813]
  rfl
/-- what the top leaves, from two looks at it -/
theorem left_of {p q : Program} {loose : List Str} {Xt : Shared → Bool} {α : Type} {Yf : Shared → α} {Ya : World → α} {N : Nat}
    (h : ∀ w, (openEndsQ p w N).map (Fast.tw4187177175401517315 q loose (importedModules p.main.body) Xt true) = some (openGood q loose)) (h' : ∀ w, (openEndsQ p w N).map Yf = some (Ya w)) : LeftO p q loose Xt Yf Ya N := fun w => by
  have e := h w
  have e' := h' w
  rw [openEnds_eq, Fast.te4187177175401517315]
  cases hq : openEndsQ p w N with
  | none => rw [hq] at e; cases e
  | some s =>
    rw [hq] at e e'
    exact congrArg some (Prod.ext (Option.some.inj e) (Option.some.inj e'))
/-- the head, with the look at the top and the walk as one premise -/
theorem holds_both {r : OpenRow} {q : Program} {loose : List Str} {Xt : Shared → Bool} {XP : (Str → Option Value) → Heap → Prop} {α : Type} {Yf : Shared → α} {Ya : World → α} {YP : World → Heap → Prop} {d : DefRec} {kwd : List (Str × Expr)} {N : Nat}
    (hY : ∀ w s, Yf s = Ya w → YP w s.heap) (hYk : ∀ w h h', YP w h → (∀ b o, h.get? b = some o → h'.get? b = some o) → YP w h')
    (hX : ∀ s, Xt s = true → XP (s.heap.nsMap mainGlobals) s.heap) (hXk : ∀ mg h h', XP mg h → (∀ b o, h.get? b = some o → h'.get? b = some o) → XP mg h')
    (hdef : defOf q r.name = some (d, kwd)) (hp : r.prog.theDef r.name = some (d.params, d.body, d.scope)) (hk : kwWritten? d.params.kwonlyargs d.params.kw_defaults = some kwd) (hRf : ∀ s, Xt s = true → RecFacts r.records s.heap) (hwr : (!r.writes || r.records.isEmpty) = true)
    (k1 : r.wellSaid = true) (ok : (chainsOk q && opensWell r.prog && (frees r.toRowW && r.within.isEmpty)) = true) (hb : r.prog.bare) (hw : r.toRowW.promised)
    (both : LeftO r.prog q loose Xt Yf Ya N ∧ WalkB q loose XP YP r.toRowW d kwd fun f vs => PySem.call f vs) : r.Holds :=
  Mine.PySem.W.holds_open both.1 hY hYk hX hXk hdef hp hk hRf hwr k1 ok hb hw both.2
theorem hd_said : PySem.Challenge.rw_zd0006_01.wellSaid = true := by
  rw [Fast.te9446332074065402090]
  kernel_rfl
local macro_rules | `(tactic| o_law) => `(tactic| refine holds_law hd_said (fun said => ?_))
local macro_rules | `(tactic| o_head $H) => do
  let (hw, hc) := (Lean.mkIdent `hw, Lean.mkIdent `hc)
  `(tactic| (refine holds_both (q := viewQ) (loose := [PySem.Str.ofString "UNKNOWN"]) (Xt := fun s => xlAt viewQ [] s && recOk (RowW.records _) s) (XP := XL viewQ []) (Yf := Hook.obs $H) (Ya := Hook.val $H) (YP := Hook.says $H) (N := 3050) (Hook.of $H) (Hook.keeps $H) (fun s e => xl_of s (Bool.and_eq_true_iff.mp e).1) XL.keeps (by rfl) (by rfl) (by rfl) (fun s e => recFacts_of (Bool.and_eq_true_iff.mp e).2) (by rfl) (by assumption) (by decide +kernel) ⟨rfl, rfl, rfl, rfl, rfl, by decide +kernel⟩ ?$hw ?$hc))
open_top topHb for PySem.Challenge.rw_zd0006_01
/-- what the look at the top asks of the heap -/
noncomputable abbrev hookQ : Hook := kmHook topHb.heap_1 [2, 3, 22, 24, 25, 27, 28, 29, 30, 31, 32, 33, 36, 37, 38, 40, 41, 43, 44, 45, 47, 48, 50, 51, 52, 59, 60, 61, 62, 65, 72, 73, 74, 77, 84, 85, 86, 89, 91, 92, 94, 95, 96, 98, 99, 101, 102, 103, 105, 106, 108, 109, 110, 112, 113, 115, 116, 117, 119, 120, 122, 123, 124, 126, 127, 129, 130, 131, 133, 134, 136, 137, 138, 140, 141, 143, 144, 145, 147, 148, 150, 151, 152, 155, 156, 157, 159, 160, 162, 163, 164, 166, 167, 169, 170, 171, 174, 175, 176, 179, 180, 181, 184, 185] (fun _ => by kernel_rfl) [158]
theorem hd_seen (w : World) : (openEndsQ PySem.Challenge.rw_zd0006_01.row.prog w 3050).map (Fast.tw4187177175401517315 viewQ [PySem.Str.ofString "UNKNOWN"] (importedModules PySem.Challenge.rw_zd0006_01.row.prog.main.body) (fun s => xlAt viewQ [] s && recOk PySem.Challenge.rw_zd0006_01.row.records s) true) = some (openGood viewQ [PySem.Str.ofString "UNKNOWN"]) := by
  kernel_rfl
theorem hd_obs (w : World) : (openEndsQ PySem.Challenge.rw_zd0006_01.row.prog w 3050).map hookQ.obs = some (hookQ.val w) := by
  kernel_rfl
/-- the head, for a walk under the claim's caller -/
noncomputable def topHd := fun hc => topHb ⟨left_of hd_seen hd_obs, hc⟩
end
section
open PySem PySem.W PyProof.Rows
set_option Elab.async false
set_option maxRecDepth 100000
set_option maxHeartbeats 8000000
/-- the written heap without the machine's own namespace, which a refused int() may mark -/
noncomputable def heap9 (p : Params) : Frag := by
  refine (?f : topHb.heap_1 p = ?a :: ?r → Frag) ?h
  case h => rfl
  case f => exact fun _ => ?r
theorem heap9_cons (p : Params) : ∃ o, topHb.heap_1 p = (cStatics, o) :: heap9 p := ⟨_, rfl⟩
theorem heap9_no (p : Params) : (heap9 p).lookup cStatics = none := rfl
theorem heap9_in {p : Params} {h : Heap} (X : (topHb.heap_1 p).In h) : (heap9 p).In h := by
  intro a o e
  refine X a o ?_
  obtain ⟨o₂, ho⟩ := heap9_cons p
  rw [ho, List.lookup_cons]
  by_cases q : a = cStatics
  · rw [q, heap9_no] at e; cases e
  · rw [beq_eq_false_iff_ne.mpr q]; exact e
end
section
open PySem PySem.W PyProof.Rows PySem.Calls
set_option Elab.async false
set_option maxRecDepth 100000
set_option linter.unusedVariables false
set_option compiler.extract_closed false

def RetS (h₀ : Heap) (L : Addr) (g : Heap) (sub : List (Addr × Obj)) (s : Shared) (P : List (Addr × Obj) → Value → Prop) (r : Result) (s' : Shared) : Prop :=
  ∃ v tl h' tk', r = .ok (.ret v) ∧ s' = { s with heap := h', toks := tk' } ∧ News h₀ L h' (tl ++ sub) ∧ (∀ p ∈ tl, g.get? p.1 = none) ∧ (∀ p ∈ tl, ∀ q ∈ sub, (q.1 : Nat) ≠ p.1) ∧ P tl v

theorem RetS.intro {h₀ g : Heap} {L : Addr} {sub : List (Addr × Obj)} {s : Shared} {P : List (Addr × Obj) → Value → Prop} {v : Value} {h' : Heap} {tk' : Nat} (tl : List (Addr × Obj))
    (N : News h₀ L h' (tl ++ sub)) (a : ∀ p ∈ tl, g.get? p.1 = none) (b : ∀ p ∈ tl, ∀ q ∈ sub, (q.1 : Nat) ≠ p.1) (hP : P tl v) : RetS h₀ L g sub s P (.ok (.ret v)) { s with heap := h', toks := tk' } :=
  ⟨v, tl, h', tk', rfl, rfl, N, a, b, hP⟩

/-- what a call hands back to its caller, over the caller's whole ledger -/
def RetC (h₀ : Heap) (L : Addr) (m : Str → Option Value) (news : List (Addr × Obj)) (s : Shared) (P : List (Addr × Obj) → Value → Prop) (r : Result) (s' : Shared) : Prop :=
  ∃ v tl h' tk', r = .ok (.ret v) ∧ s' = { s with heap := h', toks := tk' } ∧ Fr h₀ L h' m ∧ News h₀ L h' (tl ++ news) ∧ (∀ p ∈ tl, ∀ q ∈ news, (q.1 : Nat) ≠ p.1) ∧ (∀ b o, s.heap.get? b = some o → h'.get? b = some o) ∧ P tl v

section
variable {prog : Program} {w : World} {A₀ A : Around} {E : Value → Shared → Prop} {s : Shared} {base h₀ : Heap} {outer : List Env} {L : Addr} {m mg mb : Str → Option Value} {news sub : List (Addr × Obj)} {K : Frag}
  {p : Program} {loose : List Str} {mean : ExcName → Option Value} {P : List (Addr × Obj) → Value → Prop} {env : Env}
  {name qual : Str} {params : Arguments} {body : List Stmt} {scope : Scope} {dV kV doc pm cdv ct oc : Value} {an od : Option Addr} {osl : Array (Option Value)} {f : Addr} {args : Args} {binds : List (Str × Value)}

theorem retC_of (B : Below A₀ base outer h₀) (F : Fr h₀ L s.heap m) (N : News h₀ L s.heap news) (hsub : ∀ p ∈ sub, p ∈ news) {r : Result} {s' : Shared} {L' : Addr} {m' : Str → Option Value}
    (hr : RetS h₀ L (hideAll s.heap (sub.map (·.1))) sub s P r s') (F' : Fr (hideAll s.heap (sub.map (·.1))) L' s'.heap m') : RetC h₀ L m news s P r s' := by
  obtain ⟨v, tl, h', tk', rfl, rfl, NS, ha, hb, hP⟩ := hr
  have nm : ∀ b o, h₀.get? b = some o → b ∉ sub.map (·.1) := fun b o e q => by
    obtain ⟨p, hp, rfl⟩ := List.mem_map.mp q
    rw [(N p (hsub p hp)).2.2] at e; cases e
  have nL : L ∉ sub.map (·.1) := fun q => by
    obtain ⟨p, hp, e⟩ := List.mem_map.mp q
    exact (N p (hsub p hp)).2.1 e
  have kept : ∀ p ∈ news, p.1 ∉ sub.map (·.1) → (hideAll s.heap (sub.map (·.1))).get? p.1 = some p.2 := fun p hp hn => hideAll_get _ (N p hp).1 hn
  have insub : ∀ p ∈ news, p.1 ∈ sub.map (·.1) → p ∈ sub := fun p hp hn => by
    obtain ⟨q, hq, e⟩ := List.mem_map.mp hn
    have h1 := (N p hp).1
    have h2 := (N q (hsub q hq)).1
    rw [e] at h2
    have : p = q := Prod.ext e.symm (Option.some.inj (h1.symm.trans h2))
    exact this ▸ hq
  have allk : ∀ b o, s.heap.get? b = some o → h'.get? b = some o := fun b o e => by
    by_cases hn : b ∈ sub.map (·.1)
    · obtain ⟨p, hp, rfl⟩ := List.mem_map.mp hn
      have h1 := (N p (hsub p hp)).1
      rw [h1] at e
      exact e ▸ (NS p (List.mem_append_right _ hp)).1
    · exact F'.keep b o (hideAll_get _ e hn)
  refine ⟨v, tl, h', tk', rfl, rfl, ?_, fun p hp => ?_, fun p hp q hq => ?_, allk, hP⟩
  · obtain ⟨oL, es, ep, hL, hLd, hLk, hLf⟩ := F.ns
    exact ⟨⟨oL, es, ep, F'.keep L oL (hideAll_get _ hL nL), hLd, hLk, hLf⟩, fun b o e => F'.keep b o (hideAll_get _ (F.keep b o e) (nm b o e)), F.above⟩
  · rcases List.mem_append.mp hp with hp | hp
    · exact NS p (List.mem_append_left _ hp)
    · by_cases hn : p.1 ∈ sub.map (·.1)
      · exact NS p (List.mem_append_right _ (insub p hp hn))
      · exact ⟨F'.keep _ _ (kept p hp hn), (N p hp).2⟩
  · by_cases hn : q.1 ∈ sub.map (·.1)
    · exact hb p hp q (insub q hq hn)
    · intro e
      have h1 := ha p hp
      have h2 := kept q hq hn
      have e' : q.1 = p.1 := e
      rw [e', h1] at h2
      cases h2

theorem enterS (sub : List (Addr × Obj)) (B : Below A₀ base outer h₀) (F : Fr h₀ L s.heap m) (X₀ : K.In h₀) (N : News h₀ L s.heap news) (T : Top p loose mean mg mb h₀) (hsub : ∀ p ∈ sub, p ∈ news) (hA : A.frames = some (env :: outer)) (hf : env.frame = some L) (hke : env.scope.kind = .function)
    (ho : K.lookup f = some ⟨oc, od, .func (fnOf name qual params body scope dV kV doc pm an cdv ct), osl⟩) (hcd : codeIn K cdv qual = true) (hroom : A.depth < recursionLimit)
    (hbind : BindsTo s (fnOf name qual params body scope dV kV doc pm an cdv ct) args binds) (hloc : ∀ y ∈ binds, scope.names.lookup y.1 = some .local)
    (h : ∀ g L' h₁, Fr h₀ L g m → Fr g L' h₁ (fun y => binds.reverse.lookup y) → News g L' h₁ sub → Below A base (env :: outer) g → K.In g → Top p loose mean mg mb g → (∀ p ∈ sub, (p.1 : Nat) < L') →
      wpAny (model prog w) (A.deeper (envOf qual scope L' f cdv)) (execs body (envOf qual scope L' f cdv))
        (fun fl s' => LeaveK h₀ L m g (RetS h₀ L g sub s P) (match fl with | .ret v => v | _ => .none) s')
        (fun e s' => False)
        { s with heap := h₁, toks := s.toks + binds.length })
    (hco : scope.isCoroutine = false) (hgen : scope.isGenerator = false) (hk : scope.kind = .function)
    (hcell : ∀ x ∈ scope.names, x.2 ≠ .cell) : codeAny (model prog w) A (.call (.ref f) args) (RetC h₀ L m news s P) s := by
  have NS : News h₀ L s.heap sub := fun p hp => N p (hsub p hp)
  obtain ⟨FG, BG, st, lv⟩ := groundX (R := RetS h₀ L (hideAll s.heap (sub.map (·.1))) sub s P) B F NS hA hf hke
  refine codeAny_call_def (fd := fnOf name qual params body scope dV kV doc pm an cdv ct) (body := body) (binds := binds) hroom ((X₀.keeps F.keep) _ _ ho) rfl (T.nolimit.keeps F.keep) (codeRec_of (X₀.keeps F.keep) hcd) rfl hbind hcell hloc (fun h₁ hns hk₁ => ?_) hco hgen hk
  refine wpAny_mono (h _ s.heap.objs.size h₁ FG ⟨hns, fun b o e => hk₁ b o (of_hideAll _ e), Nat.le_of_eq (hideAll_size _ _)⟩
    (fun p hp => ⟨hk₁ _ _ (NS p hp).1, Nat.ne_of_lt (Heap.lt_size (NS p hp).1), hideAll_none _ (List.mem_map_of_mem hp)⟩) BG (X₀.keeps st) (T.keeps st) (fun p hp => Heap.lt_size (NS p hp).1)) (fun fl s' hl => ?_) fun _ _ y => y.elim
  have hr := lv _ _ hl
  obtain ⟨L', m', news', F', _, _⟩ := hl
  exact retC_of B F N hsub hr F'

theorem enterSC (sub : List (Addr × Obj)) (B : Below A₀ base outer h₀) (F : Fr h₀ L s.heap m) (X₀ : K.In h₀) (N : News h₀ L s.heap news) (T : Top p loose mean mg mb h₀) (hsub : ∀ p ∈ sub, p ∈ news) (hA : A.frames = some (env :: outer)) (hf : env.frame = some L) (hke : env.scope.kind = .function)
    (ho : K.lookup f = some ⟨oc, od, .func (fnOf name qual params body scope dV kV doc pm an cdv ct), osl⟩) (hcd : codeIn K cdv qual = true) (hroom : A.depth < recursionLimit)
    (hbind : BindsTo s (fnOf name qual params body scope dV kV doc pm an cdv ct) args binds) (hkind : (binds.all fun y => scope.names.lookup y.1 == some .local || scope.names.lookup y.1 == some .cell) = true)
    (hnd : ((cellsFrom 0 scope.names []).map (·.1)).Nodup)
    (h : ∀ g L' h₁ tk cells, Fr h₀ L g m → Fr g L' h₁ (bindL (envOfC qual scope L' f cdv).kindOf binds fun _ => none) → News g L' h₁ (cells ++ sub) →
      CellsAre (bindC (envOfC qual scope L' f cdv).kindOf binds fun _ => none) (cellsFrom (L' + 1) scope.names []) cells → Below A base (env :: outer) g → K.In g → Top p loose mean mg mb g → (∀ p ∈ sub, p.1 < L') →
      wpAny (model prog w) (A.deeper (envOfC qual scope L' f cdv)) (execs body (envOfC qual scope L' f cdv))
        (fun fl s' => LeaveK h₀ L m g (RetS h₀ L g sub s P) (match fl with | .ret v => v | _ => .none) s')
        (fun e s' => False)
        { s with heap := h₁, toks := tk })
    (hco : scope.isCoroutine = false) (hgen : scope.isGenerator = false) (hk : scope.kind = .function) : codeAny (model prog w) A (.call (.ref f) args) (RetC h₀ L m news s P) s := by
  have NS : News h₀ L s.heap sub := fun p hp => N p (hsub p hp)
  obtain ⟨FG, BG, st, lv⟩ := groundX (R := RetS h₀ L (hideAll s.heap (sub.map (·.1))) sub s P) B F NS hA hf hke
  refine codeAny_call_function hroom ((X₀.keeps F.keep) _ _ ho) rfl hco hgen rfl (codeRec_of (X₀.keeps F.keep) hcd) (hbind _ _ _ _ ?_)
  refine wpAny_newFunctionEnv_cells hk (kindsX hkind _) fun env' he s' x => ?_
  subst he
  refine ⟨(T.nolimit.keeps F.keep).keeps x.toInCall.keep, codeAny_func ?_⟩
  obtain ⟨h₁, tk, rfl, _⟩ := x.done
  have hk₁ := x.toInCall.keep
  obtain ⟨cells, NC, Y⟩ := Cl.news (h₀ := s.heap) (Nat.le_refl _) fun n c hm => ⟨x.cell n c (lookup_of_mem_nodup (cellsFrom_names scope.names 0 (s.heap.objs.size + 1) [] [] rfl ▸ hnd) hm), x.above n c hm⟩
  refine wpAny_mono (h _ s.heap.objs.size h₁ tk cells FG ⟨x.toInCall.ns, fun b o e => hk₁ b o (of_hideAll _ e), Nat.le_of_eq (hideAll_size _ _)⟩ (fun p hp => ?_) Y BG (X₀.keeps st) (T.keeps st) (fun p hp => Heap.lt_size (NS p hp).1)) (fun fl s' hl => ?_) fun _ _ y => y.elim
  · rcases List.mem_append.mp hp with hp | hp
    · refine ⟨(NC p hp).1, (NC p hp).2.1, ?_⟩
      cases q : (hideAll s.heap (sub.map (·.1))).get? p.1 with
      | none => rfl
      | some o => have := of_hideAll _ q; rw [(NC p hp).2.2] at this; cases this
    · exact ⟨hk₁ _ _ (NS p hp).1, Nat.ne_of_lt (Heap.lt_size (NS p hp).1), hideAll_none _ (List.mem_map_of_mem hp)⟩
  · have hr := lv _ _ hl
    obtain ⟨L', m', news', F', _, _⟩ := hl
    exact retC_of B F N hsub hr F'

theorem call_retC (h : codeAny (model prog w) A (.call (.ref f) args) (RetC h₀ L m news s P) s) {Q : Value → Shared → Prop} {pos : List Value} {kw : List (Str × Value)} (ha : args = ⟨pos, kw⟩)
    (hret : ∀ v tl h' tk', P tl v → Fr h₀ L h' m → News h₀ L h' (tl ++ news) → (∀ p ∈ tl, ∀ q ∈ news, (q.1 : Nat) ≠ p.1) → (∀ b o, s.heap.get? b = some o → h'.get? b = some o) → Q v { s with heap := h', toks := tk' }) : wpAny (model prog w) A (call (.ref f) pos kw) Q E s := by
  subst ha
  refine wpAny_call (codeAny_mono h fun r s' hr => ?_)
  obtain ⟨v, tl, h', tk', rfl, rfl, hF, hN, hsep, hk, hP⟩ := hr
  exact hret v tl h' tk' hP hF hN hsep hk
end

/-- a def's contract: from any caller whose ledger holds sub, the call comes back with a value and new objects tl of which P speaks -/
abbrev Does (w : World) (k : Nat) (f : Addr) (sub : List (Addr × Obj)) (args : List Value) (P : List (Addr × Obj) → Value → Prop) : Prop :=
  ∀ (loose : List Str) (mean : ExcName → Option Value) (mg mb : Str → Option Value) (dp un : Nat) (gd : Option (List Code)) (cn : Str) (cs : Scope) (a : Addr) (ccd : Value) (cl : List (Str × Addr)) (outer : List Env) (A₀ : Around) (base h₀ : Heap) (L : Addr) (m : Str → Option Value) (news : List (Addr × Obj)) (s : Shared) (Q E : Value → Shared → Prop),
    Below A₀ base outer h₀ → Fr h₀ L s.heap m → (heap9 w.params).In h₀ → News h₀ L s.heap news → Top topProg loose mean mg mb h₀ → cs.kind = .function → (∀ p ∈ sub, p ∈ news) → dp + k < recursionLimit → un + 8 * k < cLine →
    (∀ v tl h' tk', P tl v → Fr h₀ L h' m → News h₀ L h' (tl ++ news) → (∀ p ∈ tl, ∀ q ∈ news, (q.1 : Nat) ≠ p.1) → (∀ b o, s.heap.get? b = some o → h'.get? b = some o) → Q v { s with heap := h', toks := tk' }) →
    wpAny (model PySem.Challenge.rw_zd0006_01.row.prog w) (ktrTop dp un gd cn cs L a ccd cl outer) (call (.ref f) args) Q E s
/-- a mark at which the walk halts -/
def Stop (P : Prop) : Prop := P
theorem stop_at {P : Prop} (h : Stop P) : P := h
theorem Stop.go {P : Prop} (h : P) : Stop P := h
def linesN : List (String × Lean.Name × Nat) := [("binaryOp Add int int", `r_add, 0), ("binaryOp Sub int int", `r_sub, 0), ("binaryOp Mult int int", `r_mul, 1), ("binaryOp Mod int int", `r_mod, 1), ("binaryOp FloorDiv int int", `r_fdiv, 2), ("eval Constant int", `r_cst, 0), ("subscriptTail Name Constant ref int", `r_item, 3), ("binaryOp Pow int int", `r_pow, 2)]
/-- the walk's lines by a table: a halt at these keys, else a rule (its number says which premises stand ahead of its goal) -/
def lineAt (ks : List String) (rs : List (String × Lean.Name × Nat)) (s : Lean.TSyntax `str) : Lean.MacroM Lean.Syntax := do
  if ks.contains s.getString then return ← `(tactic| refine stop_at ?_)
  let some (n, k) := rs.lookup s.getString | Lean.Macro.throwUnsupported
  let i := Lean.mkIdent n
  let om ← `(term| by first | omega | decide)
  let as ← `(term| by assumption)
  let km ← `(term| by k_mem)
  let rf ← `(term| by rfl)
  let ao ← `(term| by first | assumption | omega)
  let ten ← `(term| by first | assumption | (show _ ≤ 10; decide))
  match k with
  | 0 => `(tactic| (k_here; refine $i ?_))
  | 1 => `(tactic| (k_here; refine $i $om ?_))
  | 2 => `(tactic| (k_here; refine $i $om $om ?_))
  | 3 => `(tactic| (k_here; k_dflt (refine $i $as $km $rf $om ?_)))
  | 4 => `(tactic| (k_here; k_dflt (refine $i $as $km $as $as $ao $ao ?_); intro _))
  | 5 => `(tactic| (k_here; k_dflt (refine $i $as $km $as $om ?_)))
  | 6 => `(tactic| (k_here; k_dflt (refine $i $om $as $as $as ?_); intro l' h' F' N' ap'))
  | 7 => `(tactic| (k_here; k_dflt (refine $i $ten $ten $rf ?_); intro _ _ _))
  | _ =>
    let cs ← (Array.range 8).mapM fun j => `(Lean.Parser.Tactic.tacticSeq| refine $i $(Lean.quote j) $as $as $rf $rf $as $as ?_ $rf $rf)
    `(tactic| (k_here; k_dflt (first $[| $cs]*); intro h' o' F' N' d'))
theorem keepsOf {s : Shared} {h' : Heap} {tk : Nat} (k : ∀ b o, s.heap.get? b = some o → h'.get? b = some o) : Keeps s { s with heap := h', toks := tk } := ⟨h', tk, rfl, k⟩

theorem cells_five {cm : Str → Option Value} {n₁ n₂ n₃ n₄ n₅ : Str} {c₁ c₂ c₃ c₄ c₅ : Addr} {cells : List (Addr × Obj)} (x : CellsAre cm [(n₁, c₁), (n₂, c₂), (n₃, c₃), (n₄, c₄), (n₅, c₅)] cells) :
    ∃ o₁ o₂ o₃ o₄ o₅, cells = [(c₁, o₁), (c₂, o₂), (c₃, o₃), (c₄, o₄), (c₅, o₅)] ∧ o₁.data = .cell (cm n₁) ∧ o₂.data = .cell (cm n₂) ∧ o₃.data = .cell (cm n₃) ∧ o₄.data = .cell (cm n₄) ∧ o₅.data = .cell (cm n₅) := by
  cases x with | cons h r => obtain ⟨o₂, o₃, o₄, o₅, rfl, h₂, h₃, h₄, h₅⟩ := r.four; exact ⟨_, o₂, o₃, o₄, o₅, rfl, h, h₂, h₃, h₄, h₅⟩
end
section
open PySem PySem.W PyProof.Rows PySem.Calls
set_option Elab.async false
set_option maxRecDepth 100000
set_option linter.unusedVariables false
/-- what a def's body stands in: all closed, chosen once for the whole walk -/
structure Bx where
  loose : List Str := []
  mean : ExcName → Option Value := fun _ => none
  mg : Str → Option Value := fun _ => none
  mb : Str → Option Value := fun _ => none
  dp : Nat := 0
  un : Nat := 0
  gd : Option (List Code) := none
  A : Around := {}
  base : Heap := {}
  outer : List Env := []
  g : Heap := {}
  L : Addr := 0
  h : Heap := {}
  gn : Array GenState := #[]
  dr : PySem.Drawn := {}
  tk : Nat := 0
  os : OsState := {}
  co : Nat → Obj := fun _ => default
  Q : Flow → Shared → Prop := fun _ _ => True
/-- the def's own letters -/
structure Vx where
  i : Nat → Int := fun _ => 0
  t : Nat → Tok := fun _ => 0
  p : Nat → Addr := fun _ => 0
  n : Nat → Nat := fun _ => 0
  o : Nat → Obj := fun _ => default
  f : Nat → Int → Int := fun _ _ => 0
  v : Nat → Value := fun _ => .none
  s : Nat → Str := fun _ => default
  l : Nat → List Value := fun _ => []
  j : Nat → List Int := fun _ => []
  m : Nat → Str → Option Value := fun _ _ => none
  a : Nat → Array Value := fun _ => #[]
  e : Nat → List (Addr × Obj) := fun _ => []
  r : List (Addr × Obj) → Array Value → Value → Prop := fun _ _ _ => True
  k : Nat → List (List Value) := fun _ => []
structure Zx where
  w : World
  b : Bx
  v : Vx
theorem zx_ne : Nonempty Zx :=
  Classical.byContradiction fun n => nomatch show False from n ⟨⟨aWorld 0, {}, {}⟩⟩
/-- a thing at which S fails, if there is one -/
noncomputable def eps (S : Zx → Prop) : Zx := @Classical.epsilon Zx zx_ne fun z => ¬ S z
theorem eps_all {S : Zx → Prop} (e : S (eps S)) (z : Zx) : S z :=
  Classical.byContradiction fun n => @Classical.epsilon_spec Zx (fun z => ¬ S z) ⟨z, n⟩ e

/-- what the walk of a body starts from and owes -/
def BodyW (w : World) (f : Addr) (k : Nat) (qual : Str) (scope : Scope) (cdv : Value) (body : List Stmt) (m : Str → Option Value) (sub : List (Addr × Obj)) (P : List (Addr × Obj) → Value → Prop) (Xp : Heap → Prop) (b : Bx) : Prop :=
  Fr b.g b.L b.h m → News b.g b.L b.h sub → Below b.A b.base b.outer b.g → (heap9 w.params).In b.g → Top topProg b.loose b.mean b.mg b.mb b.g → (∀ p ∈ sub, p.1 < b.L) → b.dp + k < recursionLimit → b.un + 8 * k < cLine → Xp b.g →
    (∀ v tl h' tk' m' news', News b.g b.L h' news' → (∀ p ∈ tl ++ sub, p ∈ news') → Fr b.g b.L h' m' → (∀ p ∈ tl, ∀ q ∈ sub, (q.1 : Nat) ≠ p.1) → P tl v → b.Q (.ret v) ⟨h', b.gn, b.dr, tk', b.os⟩) →
    wpAny (model PySem.Challenge.rw_zd0006_01.row.prog w) (ktrTop b.dp b.un b.gd qual scope b.L f cdv [] b.outer) (execs body (envX qual scope b.L f cdv [])) b.Q (fun _ _ => False) ⟨b.h, b.gn, b.dr, b.tk, b.os⟩

def Entered (w : World) (k : Nat) (f : Addr) (sub : List (Addr × Obj)) (args : List Value) (P : List (Addr × Obj) → Value → Prop) (Xp : Heap → Prop) (b : Bx) : Prop :=
  ∃ (name qual : Str) (params : Arguments) (body : List Stmt) (scope : Scope) (dV kV doc pm cdv ct oc : Value) (an od : Option Addr) (osl : Array (Option Value)) (binds : List (Str × Value)),
    (heap9 w.params).lookup f = some ⟨oc, od, .func (fnOf name qual params body scope dV kV doc pm an cdv ct), osl⟩ ∧ codeIn (heap9 w.params) cdv qual = true ∧
    bindArgs (fnOf name qual params body scope dV kV doc pm an cdv ct) ⟨args, []⟩ = pure binds ∧ (∀ y ∈ binds, scope.names.lookup y.1 = some .local) ∧
    scope.isCoroutine = false ∧ scope.isGenerator = false ∧ scope.kind = .function ∧ (∀ x ∈ scope.names, x.2 ≠ .cell) ∧
    BodyW w f k qual scope cdv body (fun y => binds.reverse.lookup y) sub P Xp b

theorem Entered.intro {w k f sub args P Xp b} {name qual : Str} {params : Arguments} {body : List Stmt} {scope : Scope} {dV kV doc pm cdv ct oc : Value} {an od : Option Addr} {osl : Array (Option Value)} {binds : List (Str × Value)}
    (ho : (heap9 w.params).lookup f = some ⟨oc, od, .func (fnOf name qual params body scope dV kV doc pm an cdv ct), osl⟩) (hcd : codeIn (heap9 w.params) cdv qual = true)
    (hb : bindArgs (fnOf name qual params body scope dV kV doc pm an cdv ct) ⟨args, []⟩ = pure binds) (hl : ∀ y ∈ binds, scope.names.lookup y.1 = some .local)
    (h1 : scope.isCoroutine = false) (h2 : scope.isGenerator = false) (h3 : scope.kind = .function) (h4 : ∀ x ∈ scope.names, x.2 ≠ .cell)
    (h : BodyW w f k qual scope cdv body (fun y => binds.reverse.lookup y) sub P Xp b) : Entered w k f sub args P Xp b :=
  ⟨name, qual, params, body, scope, dV, kV, doc, pm, cdv, ct, oc, an, od, osl, binds, ho, hcd, hb, hl, h1, h2, h3, h4, h⟩

theorem pure_inj' {α : Type} {a b : α} (h : (pure a : Sem α) = pure b) : a = b := by
  have h1 : Sem.wp (model PySem.Challenge.rw_zd0006_01.row.prog (aWorld 0)) ⟨.builtin "claim.caller" {}, none, none, [], none⟩ (pure b : Sem α) (fun x _ _ => a = x) (fun _ _ _ => False) default {} := by
    rw [← h]; exact rfl
  exact h1
theorem Entered.out {w k f sub args P Xp b} (h : Entered w k f sub args P Xp b) {name qual : Str} {params : Arguments} {body : List Stmt} {scope : Scope} {dV kV doc pm cdv ct oc : Value} {an od : Option Addr} {osl : Array (Option Value)} {binds : List (Str × Value)}
    (ho : (heap9 w.params).lookup f = some ⟨oc, od, .func (fnOf name qual params body scope dV kV doc pm an cdv ct), osl⟩) (hb : bindArgs (fnOf name qual params body scope dV kV doc pm an cdv ct) ⟨args, []⟩ = pure binds) : BodyW w f k qual scope cdv body (fun y => binds.reverse.lookup y) sub P Xp b := by
  obtain ⟨name', qual', params', body', scope', dV', kV', doc', pm', cdv', ct', oc', an', od', osl', binds', ho', -, hb', h⟩ := h
  replace h := h.2.2.2.2.2
  have e : fnOf name qual params body scope dV kV doc pm an cdv ct = fnOf name' qual' params' body' scope' dV' kV' doc' pm' an' cdv' ct' := Data.func.inj (congrArg Obj.data (Option.some.inj (ho.symm.trans ho')))
  rw [e] at hb
  rw [pure_inj' (hb.symm.trans hb'), show qual = qual' from congrArg FuncData.qualname e, show body = body' from FuncBody.stmts.inj (congrArg FuncData.body e), show scope = scope' from congrArg FuncData.scope e, show cdv = cdv' from congrArg FuncData.code e]
  exact h
/-- Does, from a base of which X is known -/
abbrev DoesX (w : World) (k : Nat) (f : Addr) (Xp : Heap → Prop) (sub : List (Addr × Obj)) (args : List Value) (P : List (Addr × Obj) → Value → Prop) : Prop :=
  ∀ (loose : List Str) (mean : ExcName → Option Value) (mg mb : Str → Option Value) (dp un : Nat) (gd : Option (List Code)) (cn : Str) (cs : Scope) (a : Addr) (ccd : Value) (cl : List (Str × Addr)) (outer : List Env) (A₀ : Around) (base h₀ : Heap) (L : Addr) (m : Str → Option Value) (news : List (Addr × Obj)) (s : Shared) (Q E : Value → Shared → Prop),
    Below A₀ base outer h₀ → Fr h₀ L s.heap m → (heap9 w.params).In h₀ → News h₀ L s.heap news → Top topProg loose mean mg mb h₀ → cs.kind = .function → (∀ p ∈ sub, p ∈ news) → dp + k < recursionLimit → un + 8 * k < cLine → Xp h₀ →
    (∀ v tl h' tk', P tl v → Fr h₀ L h' m → News h₀ L h' (tl ++ news) → (∀ p ∈ tl, ∀ q ∈ news, (q.1 : Nat) ≠ p.1) → (∀ b o, s.heap.get? b = some o → h'.get? b = some o) → Q v { s with heap := h', toks := tk' }) →
    wpAny (model PySem.Challenge.rw_zd0006_01.row.prog w) (ktrTop dp un gd cn cs L a ccd cl outer) (call (.ref f) args) Q E s
theorem does_ofX {w k f sub args P} {Xp : Heap → Prop} (hX : ∀ h h' : Heap, (∀ b o, h.get? b = some o → h'.get? b = some o) → Xp h → Xp h') (h : ∀ b : Bx, Entered w k f sub args P Xp b) : DoesX w (k + 1) f Xp sub args P := by
  intro loose mean mg mb dp un gd cn cs a ccd cl outer A₀ base h₀ L m news s Q E B F X N T hk hsub hdp hu hx hret
  refine call_retC (args := ⟨args, []⟩) (P := P) ?_ rfl hret
  obtain ⟨name, qual, params, body, scope, dV, kV, doc, pm, cdv, ct, oc, an, od, osl, binds, ho, hcd, hb, hl, h1, h2, h3, h4, _⟩ := h ⟨loose, mean, mg, mb, dp, un, gd, A₀, base, outer, h₀, L, h₀, s.gens, s.drawn, 0, s.os, fun _ => default, fun _ _ => True⟩
  refine enterS (A := ktrTop dp un gd cn cs L a ccd cl outer) (K := heap9 w.params) sub B F X N T hsub rfl rfl hk ho hcd (by show dp < recursionLimit; omega) (BindsTo.of_eq hb) hl (fun g L' h₁ FG F' N' B' X' T' l1 => ?_) h1 h2 h3 h4
  refine Entered.out (h ⟨loose, mean, mg, mb, dp + 1, un + 3, gd, ktrTop dp un gd cn cs L a ccd cl outer, base, envX cn cs L a ccd cl :: outer, g, L', h₁, s.gens, s.drawn, s.toks + binds.length, s.os, fun _ => default, fun fl s' => LeaveK h₀ L m g (RetS h₀ L g sub s P) (match fl with | .ret v => v | _ => .none) s'⟩) ho hb F' N' B' X' T' l1 (by show dp + 1 + k < recursionLimit; omega) (by show un + 3 + 8 * k < cLine; omega) (hX _ _ FG.keep hx) fun v tl h' tk' m' news' N'' hs F'' sep hP => ?_
  refine ⟨L', m', news', F'', N'', fun _ N3 => ⟨v, tl, h', tk', rfl, rfl, fun p hp => N3 p (hs p hp), fun p hp => (N'' p (hs p (List.mem_append_left _ hp))).2.2, sep, hP⟩⟩
theorem does_of {w k f sub args P} (h : ∀ b : Bx, Entered w k f sub args P (fun _ => True) b) : Does w (k + 1) f sub args P :=
  fun loose mean mg mb dp un gd cn cs a ccd cl outer A₀ base h₀ L m news s Q E B F X N T hk hsub hdp hu hret => does_ofX (fun _ _ _ x => x) h loose mean mg mb dp un gd cn cs a ccd cl outer A₀ base h₀ L m news s Q E B F X N T hk hsub hdp hu trivial hret

/-- the cells' objects, by their places -/
def cellsOf : List (Str × Addr) → (Nat → Obj) → List (Addr × Obj)
  | [], _ => []
  | (_, a) :: r, co => (a, co 0) :: cellsOf r fun i => co (i + 1)
theorem cellsOf_ex {cm : Str → Option Value} {ns : List (Str × Addr)} {cells : List (Addr × Obj)} (h : CellsAre cm ns cells) : ∃ co, cells = cellsOf ns co := by
  induction h with
  | nil => exact ⟨fun _ => default, rfl⟩
  | cons hd _ ih =>
    obtain ⟨co, rfl⟩ := ih
    exact ⟨fun | 0 => _ | i + 1 => co i, rfl⟩

def BodyC (w : World) (f : Addr) (k : Nat) (qual : Str) (scope : Scope) (cdv : Value) (body : List Stmt) (m cm : Str → Option Value) (sub : List (Addr × Obj)) (P : List (Addr × Obj) → Value → Prop) (b : Bx) : Prop :=
  Fr b.g b.L b.h m → News b.g b.L b.h (cellsOf (cellsFrom (b.L + 1) scope.names []) b.co ++ sub) → CellsAre cm (cellsFrom (b.L + 1) scope.names []) (cellsOf (cellsFrom (b.L + 1) scope.names []) b.co) →
    Below b.A b.base b.outer b.g → (heap9 w.params).In b.g → Top topProg b.loose b.mean b.mg b.mb b.g → (∀ p ∈ sub, p.1 < b.L) → b.dp + k < recursionLimit → b.un + 8 * k < cLine →
    (∀ v tl h' tk' m' news', News b.g b.L h' news' → (∀ p ∈ tl ++ sub, p ∈ news') → Fr b.g b.L h' m' → (∀ p ∈ tl, ∀ q ∈ sub, (q.1 : Nat) ≠ p.1) → P tl v → b.Q (.ret v) ⟨h', b.gn, b.dr, tk', b.os⟩) →
    wpAny (model PySem.Challenge.rw_zd0006_01.row.prog w) (ktrTop b.dp b.un b.gd qual scope b.L f cdv (cellsFrom (b.L + 1) scope.names []) b.outer) (execs body (envX qual scope b.L f cdv (cellsFrom (b.L + 1) scope.names []))) b.Q (fun _ _ => False) ⟨b.h, b.gn, b.dr, b.tk, b.os⟩

def EnteredC (w : World) (k : Nat) (f : Addr) (sub : List (Addr × Obj)) (args : List Value) (P : List (Addr × Obj) → Value → Prop) (b : Bx) : Prop :=
  ∃ (name qual : Str) (params : Arguments) (body : List Stmt) (scope : Scope) (dV kV doc pm cdv ct oc : Value) (an od : Option Addr) (osl : Array (Option Value)) (binds : List (Str × Value)),
    (heap9 w.params).lookup f = some ⟨oc, od, .func (fnOf name qual params body scope dV kV doc pm an cdv ct), osl⟩ ∧ codeIn (heap9 w.params) cdv qual = true ∧
    bindArgs (fnOf name qual params body scope dV kV doc pm an cdv ct) ⟨args, []⟩ = pure binds ∧ (binds.all fun y => scope.names.lookup y.1 == some .local || scope.names.lookup y.1 == some .cell) = true ∧
    ((cellsFrom 0 scope.names []).map (·.1)).Nodup ∧ scope.isCoroutine = false ∧ scope.isGenerator = false ∧ scope.kind = .function ∧
    BodyC w f k qual scope cdv body (bindL (envOfC qual scope b.L f cdv).kindOf binds fun _ => none) (bindC (envOfC qual scope b.L f cdv).kindOf binds fun _ => none) sub P b

theorem EnteredC.intro {w k f sub args P b} {name qual : Str} {params : Arguments} {body : List Stmt} {scope : Scope} {dV kV doc pm cdv ct oc : Value} {an od : Option Addr} {osl : Array (Option Value)} {binds : List (Str × Value)}
    (ho : (heap9 w.params).lookup f = some ⟨oc, od, .func (fnOf name qual params body scope dV kV doc pm an cdv ct), osl⟩) (hcd : codeIn (heap9 w.params) cdv qual = true)
    (hb : bindArgs (fnOf name qual params body scope dV kV doc pm an cdv ct) ⟨args, []⟩ = pure binds) (hl : (binds.all fun y => scope.names.lookup y.1 == some .local || scope.names.lookup y.1 == some .cell) = true)
    (hn : ((cellsFrom 0 scope.names []).map (·.1)).Nodup) (h1 : scope.isCoroutine = false) (h2 : scope.isGenerator = false) (h3 : scope.kind = .function)
    (h : BodyC w f k qual scope cdv body (bindL (envOfC qual scope b.L f cdv).kindOf binds fun _ => none) (bindC (envOfC qual scope b.L f cdv).kindOf binds fun _ => none) sub P b) : EnteredC w k f sub args P b :=
  ⟨name, qual, params, body, scope, dV, kV, doc, pm, cdv, ct, oc, an, od, osl, binds, ho, hcd, hb, hl, hn, h1, h2, h3, h⟩

theorem EnteredC.out {w k f sub args P b} (h : EnteredC w k f sub args P b) {name qual : Str} {params : Arguments} {body : List Stmt} {scope : Scope} {dV kV doc pm cdv ct oc : Value} {an od : Option Addr} {osl : Array (Option Value)} {binds : List (Str × Value)}
    (ho : (heap9 w.params).lookup f = some ⟨oc, od, .func (fnOf name qual params body scope dV kV doc pm an cdv ct), osl⟩) (hb : bindArgs (fnOf name qual params body scope dV kV doc pm an cdv ct) ⟨args, []⟩ = pure binds) : BodyC w f k qual scope cdv body (bindL (envOfC qual scope b.L f cdv).kindOf binds fun _ => none) (bindC (envOfC qual scope b.L f cdv).kindOf binds fun _ => none) sub P b := by
  obtain ⟨name', qual', params', body', scope', dV', kV', doc', pm', cdv', ct', oc', an', od', osl', binds', ho', -, hb', h⟩ := h
  replace h := h.2.2.2.2.2
  have e : fnOf name qual params body scope dV kV doc pm an cdv ct = fnOf name' qual' params' body' scope' dV' kV' doc' pm' an' cdv' ct' := Data.func.inj (congrArg Obj.data (Option.some.inj (ho.symm.trans ho')))
  rw [e] at hb
  rw [pure_inj' (hb.symm.trans hb'), show qual = qual' from congrArg FuncData.qualname e, show body = body' from FuncBody.stmts.inj (congrArg FuncData.body e), show scope = scope' from congrArg FuncData.scope e, show cdv = cdv' from congrArg FuncData.code e]
  exact h
theorem does_ofC {w k f sub args P} (h : ∀ b : Bx, EnteredC w k f sub args P b) : Does w (k + 1) f sub args P := by
  intro loose mean mg mb dp un gd cn cs a ccd cl outer A₀ base h₀ L m news s Q E B F X N T hk hsub hdp hu hret
  refine call_retC (args := ⟨args, []⟩) (P := P) ?_ rfl hret
  obtain ⟨name, qual, params, body, scope, dV, kV, doc, pm, cdv, ct, oc, an, od, osl, binds, ho, hcd, hb, hl, hn, h1, h2, h3, _⟩ := h ⟨loose, mean, mg, mb, dp, un, gd, A₀, base, outer, h₀, L, h₀, s.gens, s.drawn, 0, s.os, fun _ => default, fun _ _ => True⟩
  refine enterSC (A := ktrTop dp un gd cn cs L a ccd cl outer) (K := heap9 w.params) sub B F X N T hsub rfl rfl hk ho hcd (by show dp < recursionLimit; omega) (BindsTo.of_eq hb) hl hn (fun g L' h₁ tk cells FG F' N' Y' B' X' T' l1 => ?_) h1 h2 h3
  obtain ⟨co, rfl⟩ := cellsOf_ex Y'
  refine EnteredC.out (h ⟨loose, mean, mg, mb, dp + 1, un + 3, gd, ktrTop dp un gd cn cs L a ccd cl outer, base, envX cn cs L a ccd cl :: outer, g, L', h₁, s.gens, s.drawn, tk, s.os, co, fun fl s' => LeaveK h₀ L m g (RetS h₀ L g sub s P) (match fl with | .ret v => v | _ => .none) s'⟩) ho hb F' N' Y' B' X' T' l1 (by show dp + 1 + k < recursionLimit; omega) (by show un + 3 + 8 * k < cLine; omega) fun v tl h' tk' m' news' N'' hs F'' sep hP => ?_
  refine ⟨L', m', news', F'', N'', fun _ N3 => ⟨v, tl, h', tk', rfl, rfl, fun p hp => N3 p (hs p hp), fun p hp => (N'' p (hs p (List.mem_append_left _ hp))).2.2, sep, hP⟩⟩
theorem cells_tail {cm : Str → Option Value} {n : Str} {c : Addr} {r : List (Str × Addr)} {co : Nat → Obj} (x : CellsAre cm ((n, c) :: r) (cellsOf ((n, c) :: r) co)) : (co 0).data = .cell (cm n) ∧ CellsAre cm r (cellsOf r fun i => co (i + 1)) := by
  cases x with | cons h x => exact ⟨h, x⟩
theorem cells1 {cm : Str → Option Value} {n0 : Str} {c0 : Addr} {co : Nat → Obj} (x : CellsAre cm [(n0, c0)] (cellsOf [(n0, c0)] co)) : (co 0).data = .cell (cm n0) :=
  (cells_tail x).1
theorem news1 {b h : Heap} {L : Addr} {sub : List (Addr × Obj)} {n0 : Str} {c0 : Addr} {co : Nat → Obj} (x : News b L h (cellsOf [(n0, c0)] co ++ sub)) : News b L h ((c0, co 0) :: sub) := x
theorem cells2 {cm : Str → Option Value} {n0 n1 : Str} {c0 c1 : Addr} {co : Nat → Obj} (x : CellsAre cm [(n0, c0), (n1, c1)] (cellsOf [(n0, c0), (n1, c1)] co)) : (co 0).data = .cell (cm n0) ∧ (co 1).data = .cell (cm n1) :=
  ⟨(cells_tail x).1, (cells_tail (cells_tail x).2).1⟩
theorem news2 {b h : Heap} {L : Addr} {sub : List (Addr × Obj)} {n0 n1 : Str} {c0 c1 : Addr} {co : Nat → Obj} (x : News b L h (cellsOf [(n0, c0), (n1, c1)] co ++ sub)) : News b L h ((c0, co 0) :: (c1, co 1) :: sub) := x
theorem cells3 {cm : Str → Option Value} {n0 n1 n2 : Str} {c0 c1 c2 : Addr} {co : Nat → Obj} (x : CellsAre cm [(n0, c0), (n1, c1), (n2, c2)] (cellsOf [(n0, c0), (n1, c1), (n2, c2)] co)) : (co 0).data = .cell (cm n0) ∧ (co 1).data = .cell (cm n1) ∧ (co 2).data = .cell (cm n2) :=
  ⟨(cells_tail x).1, (cells_tail (cells_tail x).2).1, (cells_tail (cells_tail (cells_tail x).2).2).1⟩
theorem news3 {b h : Heap} {L : Addr} {sub : List (Addr × Obj)} {n0 n1 n2 : Str} {c0 c1 c2 : Addr} {co : Nat → Obj} (x : News b L h (cellsOf [(n0, c0), (n1, c1), (n2, c2)] co ++ sub)) : News b L h ((c0, co 0) :: (c1, co 1) :: (c2, co 2) :: sub) := x
theorem cells5 {cm : Str → Option Value} {n0 n1 n2 n3 n4 : Str} {c0 c1 c2 c3 c4 : Addr} {co : Nat → Obj} (x : CellsAre cm [(n0, c0), (n1, c1), (n2, c2), (n3, c3), (n4, c4)] (cellsOf [(n0, c0), (n1, c1), (n2, c2), (n3, c3), (n4, c4)] co)) : (co 0).data = .cell (cm n0) ∧ (co 1).data = .cell (cm n1) ∧ (co 2).data = .cell (cm n2) ∧ (co 3).data = .cell (cm n3) ∧ (co 4).data = .cell (cm n4) :=
  ⟨(cells_tail x).1, (cells_tail (cells_tail x).2).1, (cells_tail (cells_tail (cells_tail x).2).2).1, (cells_tail (cells_tail (cells_tail (cells_tail x).2).2).2).1, (cells_tail (cells_tail (cells_tail (cells_tail (cells_tail x).2).2).2).2).1⟩
theorem news5 {b h : Heap} {L : Addr} {sub : List (Addr × Obj)} {n0 n1 n2 n3 n4 : Str} {c0 c1 c2 c3 c4 : Addr} {co : Nat → Obj} (x : News b L h (cellsOf [(n0, c0), (n1, c1), (n2, c2), (n3, c3), (n4, c4)] co ++ sub)) : News b L h ((c0, co 0) :: (c1, co 1) :: (c2, co 2) :: (c3, co 3) :: (c4, co 4) :: sub) := x
end
section
open PySem PySem.W PyProof.Rows PySem.Calls PySem.Spec
set_option Elab.async false
set_option maxRecDepth 100000
set_option linter.unusedVariables false

section
variable {prog : Program} {w : World} {A : Around} {E : Value → Shared → Prop} {s s₁ : Shared} {h₀ : Heap} {L : Addr} {m : Str → Option Value} {news : List (Addr × Obj)} {env : Env}

def Src (prog : Program) (w : World) (A : Around) (xv : Value) (s₁ : Shared) (n : Nat) (P : Nat → Value → Prop) : Prop :=
  ∀ (Q : Value → Shared → Prop) (E : Value → Shared → Prop), (∀ fp St o, Walks prog w A s₁.heap.objs.size fp [s₁.heap.objs.size] n P St → St 0 (s₁.heap.push o) → (∀ b ∈ fp, b < (s₁.heap.push o).objs.size) → o.isFreed = false →
    Q (.ref s₁.heap.objs.size) { s₁ with heap := s₁.heap.push o }) → wpAny (model prog w) A (pyIter xv) Q E s₁

theorem src_tuple {t : Addr} {items : Array Value} (hh : A.handled = none) (ht : s₁.heap.IsTuple t items) : Src prog w A (.ref t) s₁ items.size (fun i v => items[i]? = some v) := by
  intro Q E h
  have hlt : t < s₁.heap.objs.size := by obtain ⟨o, e, _⟩ := ht; exact Heap.lt_size e
  refine wpAny_pyIter_tuple ht (h _ _ _ (Walks.tuple hh _ t (Nat.ne_of_lt hlt) items) ⟨⟨_, Heap.get?_push_size _ rfl, rfl, rfl⟩, ht.at fun o e => Heap.get?_push_of_some _ e⟩ (fun b hb => ?_) rfl)
  rw [Heap.size_push]
  rcases List.mem_cons.mp hb with rfl | hb
  · exact Nat.lt_succ_self _
  · rw [List.mem_singleton.mp hb]; exact Nat.lt_succ_of_lt hlt

theorem src_list {t : Addr} {items : Array Value} (hh : A.handled = none) (ht : s₁.heap.IsList t items) : Src prog w A (.ref t) s₁ items.size (fun i v => items[i]? = some v) := by
  intro Q E h
  have hlt : t < s₁.heap.objs.size := by obtain ⟨o, e, _⟩ := ht; exact Heap.lt_size e
  refine wpAny_pyIter_list ht (h _ _ _ (Walks.list hh _ t (Nat.ne_of_lt hlt) items) ⟨⟨_, Heap.get?_push_size _ rfl, rfl, rfl⟩, ht.at fun o e => Heap.get?_push_of_some _ e⟩ (fun b hb => ?_) rfl)
  rw [Heap.size_push]
  rcases List.mem_cons.mp hb with rfl | hb
  · exact Nat.lt_succ_self _
  · rw [List.mem_singleton.mp hb]; exact Nat.lt_succ_of_lt hlt

theorem src_dict {d : Addr} {kvs : List (Int × Value)} (hh : A.handled = none) (hs : (d == sysModules) = false) (ht : s₁.heap.DictOf (intKind prog w) d kvs) :
    Src prog w A (.ref d) s₁ kvs.length (fun i v => ∃ k x, kvs[i]? = some (k, x) ∧ (intKind prog w).is k v = true) := by
  intro Q E h
  have hlt : d < s₁.heap.objs.size := by obtain ⟨o, es, ep, e, _⟩ := ht; exact Heap.lt_size e
  obtain ⟨ep, hm⟩ := ht.dictAt
  refine wpAny_pyIter_dict hs hm (h _ _ _ (Walks.dictKeys hh _ d (Nat.ne_of_lt hlt) kvs ep) ⟨⟨_, Heap.get?_push_size _ rfl, rfl, rfl⟩, ?_⟩ (fun b hb => ?_) rfl)
  · obtain ⟨o, es, ho, r⟩ := hm
    exact ⟨o, es, Heap.get?_push_of_some _ ho, r⟩
  rw [Heap.size_push]
  rcases List.mem_cons.mp hb with rfl | hb
  · exact Nat.lt_succ_self _
  · rw [List.mem_singleton.mp hb]; exact Nat.lt_succ_of_lt hlt

theorem src_range {r : Addr} {a b : Int} {t u v : Tok} {n : Nat} (hh : A.handled = none) (hr : IsRange s₁.heap r a b 1 t u v) (hsm : Builtin.Range.small a b 1 = true) (hn : Builtin.Range.rangeSize a b 1 = ((n : Nat) : Int)) :
    Src prog w A (.ref r) s₁ n (fun i v => ∃ t, v = .int (a + (i : Int)) t) := by
  intro Q E h
  refine wpAny_pyIter_range hr hsm (h _ _ _ (LCg.range_walks hh a n) (by show IsRangeIter _ _ _ _ _; rw [hn]; simpa using Heap.get?_push_size _ rfl) (fun b hb => ?_) rfl)
  rw [List.mem_singleton.mp hb, Heap.size_push]
  exact Nat.lt_succ_self _

/-- the heap behind a block that keeps all but the iterator -/
theorem fr_news_of (F : Fr h₀ L s₁.heap m) (N : News h₀ L s₁.heap news) {o : Obj} (hf : o.isFreed = false) {h' : Heap} (hk : ∀ b ob, b ∉ [s₁.heap.objs.size] → (s₁.heap.push o).get? b = some ob → h'.get? b = some ob) :
    Fr h₀ L h' m ∧ News h₀ L h' news ∧ ∀ b ob, s₁.heap.get? b = some ob → h'.get? b = some ob := by
  have k : ∀ b ob, s₁.heap.get? b = some ob → h'.get? b = some ob := fun b ob e =>
    hk b ob (fun hm => Nat.lt_irrefl _ ((List.mem_singleton.mp hm) ▸ Heap.lt_size e)) (Heap.get?_push_of_some _ e)
  refine ⟨F.keeps k, fun p hp => ⟨k _ _ (N p hp).1, (N p hp).2⟩, k⟩

abbrev TestsOf (prog : Program) (w : World) (A : Around) (ifs : List Expr) (cenv : Env) (Q : Bool → Shared → Prop) (E : Value → Shared → Prop) (s : Shared) : Prop :=
  wpAny (model prog w) A (forIn ifs true fun c r => if r = true then do let ok ← isTrue c cenv (eval c cenv); pure (ForInStep.yield ok) else pure (ForInStep.yield r)) Q E s

theorem tests_nil {cenv : Env} {Q : Bool → Shared → Prop} (h : Q true s) : TestsOf prog w A [] cenv Q E s := wpAny_tests_nil h
theorem tests_one {c : Expr} {cenv : Env} {Q : Bool → Shared → Prop} (h : wpAny (model prog w) A (isTrue c cenv (eval c cenv)) Q E s) : TestsOf prog w A [c] cenv Q E s := wpAny_tests_one h

theorem turn_news {C : Addr} {s₂ s₃ : Shared} {m₃ : Str → Option Value} (F : Fr h₀ L s₁.heap m) (N : News h₀ L s₁.heap news) {o : Obj} (hf : o.isFreed = false) (h2 : s₂.heap = s₁.heap.push o) (hC : s₂.heap.objs.size ≤ C) (hn : s₃.heap.Ns C m₃)
    (hk : ∀ b ob, b ∉ [s₁.heap.objs.size] → s₂.heap.get? b = some ob → s₃.heap.get? b = some ob) :
    ∃ oC, LCg.NsObj oC m₃ ∧ Fr h₀ L s₃.heap m ∧ News h₀ L s₃.heap ((C, oC) :: news) ∧ ∀ p ∈ news, (p.1 : Nat) < C := by
  obtain ⟨F₃, N₃, _⟩ := fr_news_of F N hf (h' := s₃.heap) (fun b ob hb e => hk b ob hb (h2 ▸ e))
  obtain ⟨oC, he, ho⟩ := LCg.ns_obj hn
  have hsz : s₁.heap.objs.size < C := by
    rw [h2, Heap.size_push] at hC; exact hC
  have hL : C ≠ L := fun e => by have := F.ns.lt; rw [e] at hsz; exact Nat.lt_irrefl _ (Nat.lt_trans hsz this)
  have h0 : h₀.get? C = none := by
    cases q : h₀.get? C with
    | none => rfl
    | some ob => have := Heap.lt_size (F.keep _ _ q); exact absurd (Nat.lt_trans hsz this) (Nat.lt_irrefl _)
  refine ⟨oC, ho, F₃, fun p hp => ?_, fun p hp => Nat.lt_trans (Heap.lt_size (N p hp).1) hsz⟩
  rcases List.mem_cons.mp hp with rfl | hp
  · exact ⟨he, hL, h0⟩
  · exact N₃ p hp

theorem fresh_of {D : Addr} (F : Fr h₀ L s₁.heap m) (N : News h₀ L s₁.heap news) {o : Obj} (hD : (s₁.heap.push o).get? D = none) : h₀.get? D = none ∧ D ≠ L ∧ ∀ q ∈ news, (q.1 : Nat) ≠ D := by
  have no : ∀ b ob, s₁.heap.get? b = some ob → b ≠ D := fun b ob e q => by
    rw [q] at e
    rw [Heap.get?_push_of_some _ e] at hD; cases hD
  refine ⟨?_, ?_, fun q hq => no _ _ (N q hq).1⟩
  · cases q : h₀.get? D with
    | none => rfl
    | some ob => exact absurd rfl (no _ _ (F.keep _ _ q))
  · obtain ⟨oL, _, _, hL, _⟩ := F.ns
    exact fun e => no _ _ hL e.symm

theorem ListComp_N {elt iter : Expr} {x : Str} {px : Pos} {ifs : List Expr} {scope : Scope} {cl : List (Str × Addr)} {pos : Pos} {Q : Value → Shared → Prop} (p : Value → Bool) (F : Value → Value → Prop)
    (F₀ : Fr h₀ L s.heap m) (hclos : closureFor scope env = pure cl) (hcell : ∀ y ∈ scope.names, y.2 ≠ .cell) (hkind : scope.kind = .function)
    (hnames : ∀ y ∈ scope.names, y.2 = .local → scope.names.lookup y.1 = some .local) (hx : scope.names.lookup x = some .local)
    (h : wpAny (model prog w) A (eval iter env) (fun xv s₁ => Stop (∃ n P news, n ≤ sizeLine ∧ Fr h₀ L s₁.heap m ∧ News h₀ L s₁.heap news ∧ Src prog w A xv s₁ n P ∧
      (∀ C oC i v s₃ m₃ E', P i v → LCg.NsObj oC m₃ → m₃ x = some v → Fr h₀ L s₃.heap m → News h₀ L s₃.heap ((C, oC) :: news) → (∀ p ∈ news, (p.1 : Nat) < C) →
        TestsOf prog w A ifs (compEnvC scope cl C env) (fun ok s₄ => Stop (ok = p v ∧ Keeps s₃ s₄)) E' s₃) ∧
      (∀ C oC i v s₃ m₃ E', P i v → p v = true → LCg.NsObj oC m₃ → m₃ x = some v → Fr h₀ L s₃.heap m → News h₀ L s₃.heap ((C, oC) :: news) → (∀ p ∈ news, (p.1 : Nat) < C) →
        wpAny (model prog w) A (eval elt (compEnvC scope cl C env)) (fun y s₄ => Stop (F v y ∧ Keeps s₃ s₄)) E' s₃) ∧
      (∀ D k h' tk ys (vs : List Value), vs.length = n → (∀ j v, vs[j]? = some v → P j v) → Paired F (vs.filter p) ys → Fr h₀ L h' m → News h₀ L h' ((D, listOf ys.toArray k) :: news) → (∀ q ∈ news, (q.1 : Nat) ≠ D) →
        Q (.ref D) { s₁ with heap := h', toks := tk }))) E s)
    (hs : ∀ x, foldedSetIterable iter env x = pure x := by intro _; rfl) :
    wpAny (model prog w) A (eval (.ListComp elt [⟨.Name x px, iter, ifs, 0⟩] scope pos) env) Q E s := by
  refine wpAny_ListComp_free p F hclos hcell hkind hnames hx (wpAny_mono h (fun xv s₁ h₁ => ?_) fun _ _ e => e) hs
  obtain ⟨n, P, news, hn, Fr₁, N₁, src, htest, helt, hfin⟩ := h₁
  refine src _ _ fun fp St o W hst hfp hfr => ⟨_, fp, [s₁.heap.objs.size], n, P, St, rfl, W, hn, hst, hfp, ⟨?_, ?_⟩, ?_⟩
  · intro C i v s₃ m₃ E' hC hP hns hm hk _
    obtain ⟨oC, ho, F₃, N₃, hlt⟩ := turn_news Fr₁ N₁ hfr rfl hC hns hk
    exact htest C oC i v s₃ m₃ E' hP ho hm F₃ N₃ hlt
  · intro C i v s₃ m₃ E' hC hP hpv hns hm hk _
    obtain ⟨oC, ho, F₃, N₃, hlt⟩ := turn_news Fr₁ N₁ hfr rfl hC hns hk
    exact helt C oC i v s₃ m₃ E' hP hpv ho hm F₃ N₃ hlt
  · intro D h' tk ys vs hD hl hpl hlen hPs hF hk
    obtain ⟨F', N', hkk⟩ := fr_news_of Fr₁ N₁ hfr (h' := h') hk
    obtain ⟨k, hpl⟩ := hpl
    obtain ⟨h0, hL, hne⟩ := fresh_of Fr₁ N₁ hD
    refine hfin D k h' tk ys.toList vs hlen hPs hF F' (fun q hq => ?_) hne
    rcases List.mem_cons.mp hq with rfl | hq
    · exact ⟨hpl, hL, h0⟩
    · exact N' q hq

theorem Assign_ListComp_N {elt iter : Expr} {x y : Str} {px py : Pos} {ifs : List Expr} {scope : Scope} {cl : List (Str × Addr)} {pos spos : Pos} {Q : Flow → Shared → Prop} (p : Value → Bool) (F : Value → Value → Prop) (hLe : env.locals = L)
    (hsw : swapsWith (.ListComp elt [⟨.Name x px, iter, ifs, 0⟩] scope pos) (some (.Name y py)) spos.line env = pure true)
    (F₀ : Fr h₀ L s.heap m) (hclos : closureFor scope env = pure cl) (hcell : ∀ y ∈ scope.names, y.2 ≠ .cell) (hkind : scope.kind = .function)
    (hnames : ∀ y ∈ scope.names, y.2 = .local → scope.names.lookup y.1 = some .local) (hx : scope.names.lookup x = some .local)
    (hy : env.kindOf y = some .local) (hp : (env.scope.kind == .class || (env.scope.kind == .module && env.locals != env.globals)) = false)
    (h : wpAny (model prog w) A (eval iter env) (fun xv s₁ => Stop (∃ n P news, n ≤ sizeLine ∧ Fr h₀ L s₁.heap m ∧ News h₀ L s₁.heap news ∧ Src prog w A xv s₁ n P ∧
      (∀ C oC i v s₃ m₃ E', P i v → LCg.NsObj oC m₃ → m₃ x = some v → Fr h₀ L s₃.heap m → News h₀ L s₃.heap ((C, oC) :: news) → (∀ p ∈ news, (p.1 : Nat) < C) →
        TestsOf prog w A ifs (compEnvC scope cl C env) (fun ok s₄ => Stop (ok = p v ∧ Keeps s₃ s₄)) E' s₃) ∧
      (∀ C oC i v s₃ m₃ E', P i v → p v = true → LCg.NsObj oC m₃ → m₃ x = some v → Fr h₀ L s₃.heap m → News h₀ L s₃.heap ((C, oC) :: news) → (∀ p ∈ news, (p.1 : Nat) < C) →
        wpAny (model prog w) A (eval elt (compEnvC scope cl C env)) (fun y s₄ => Stop (F v y ∧ Keeps s₃ s₄)) E' s₃) ∧
      (∀ D k h' tk ys (vs : List Value), vs.length = n → (∀ j v, vs[j]? = some v → P j v) → Paired F (vs.filter p) ys → Fr h₀ L h' (fun z => if z = y then some (.ref D) else m z) → News h₀ L h' ((D, listOf ys.toArray k) :: news) → (∀ q ∈ news, (q.1 : Nat) ≠ D) →
        Q .next { s₁ with heap := h', toks := tk }))) E s)
    (hs : ∀ x, foldedSetIterable iter env x = pure x := by intro _; rfl) :
    wpAny (model prog w) A (exec (.Assign [.Name y py] (.ListComp elt [⟨.Name x px, iter, ifs, 0⟩] scope pos) spos) env) Q E s := by
  refine wpAny_Assign_ListComp_free p F hsw hclos hcell hkind hnames hx hy hp (wpAny_mono h (fun xv s₁ h₁ => ?_) fun _ _ e => e) hs
  obtain ⟨n, P, news, hn, Fr₁, N₁, src, htest, helt, hfin⟩ := h₁
  have hLlt : L < s₁.heap.objs.size := Fr₁.ns.lt
  refine src _ _ fun fp St o W hst hfp hfr => ⟨_, fp, [s₁.heap.objs.size], n, P, St, m, rfl, W, hn, hst, hfp, ?_, ?_, ⟨?_, ?_⟩, ?_⟩
  · rw [hLe]
    intro e
    exact Nat.lt_irrefl _ ((List.mem_singleton.mp e) ▸ hLlt)
  · rw [hLe]; exact Fr₁.ns.at' fun ob e => Heap.get?_push_of_some _ e
  · intro C i v s₃ m₃ E' hC hP hns hm hk _
    obtain ⟨oC, ho, F₃, N₃, hlt⟩ := turn_news Fr₁ N₁ hfr rfl hC hns hk
    exact htest C oC i v s₃ m₃ E' hP ho hm F₃ N₃ hlt
  · intro C i v s₃ m₃ E' hC hP hpv hns hm hk _
    obtain ⟨oC, ho, F₃, N₃, hlt⟩ := turn_news Fr₁ N₁ hfr rfl hC hns hk
    exact helt C oC i v s₃ m₃ E' hP hpv ho hm F₃ N₃ hlt
  · intro D h' tk ys vs hD hl hpl hlen hPs hF hns hk
    obtain ⟨k, hpl⟩ := hpl
    obtain ⟨h0, hL, hne⟩ := fresh_of Fr₁ N₁ hD
    rw [hLe] at hns hk
    have kk : ∀ b ob, b ≠ L → s₁.heap.get? b = some ob → h'.get? b = some ob := fun b ob hb e => hk b ob hb (fun hm => Nat.lt_irrefl _ ((List.mem_singleton.mp hm) ▸ Heap.lt_size e)) (Heap.get?_push_of_some _ e)
    have hL₀ : h₀.get? L = none := Heap.get?_none_of_le Fr₁.above
    refine hfin D k h' tk ys.toList vs hlen hPs hF ⟨hns, fun b ob e => kk b ob (fun q => by rw [q, hL₀] at e; cases e) (Fr₁.keep b ob e), Fr₁.above⟩ (fun q hq => ?_) hne
    rcases List.mem_cons.mp hq with rfl | hq
    · exact ⟨hpl, hL, h0⟩
    · exact ⟨kk _ _ (N₁ q hq).2.1 (N₁ q hq).1, (N₁ q hq).2⟩

/-- a dict comprehension's block: the dict stands where the heap ended -/
theorem dcomp_block {kx vx iter : Expr} {x : Str} {px : Pos} {ifs : List Expr} {scope : Scope} {cl : List (Str × Addr)} {pos : Pos} {s₂ : Shared} {I : Addr} {fp wr : List Addr} {n : Nat} {P : Nat → Value → Prop} {St : Nat → Heap → Prop}
    {RR : Value → Addr → Result → Shared → Prop} (W : Walks prog w A I fp wr n P St) (hsz : n ≤ sizeLine) (p : Value → Bool) (FK : Value → Int → Prop) (FV : Value → Value → Prop)
    (hcell : ∀ y ∈ scope.names, y.2 ≠ .cell) (hkind : scope.kind = .function) (hx : scope.names.lookup x = some .local) (hst : St 0 s₂.heap) (hfp : ∀ b ∈ fp, b < s₂.heap.objs.size)
    (ht : ∀ C i v s₃ m₃ E', s₂.heap.objs.size ≤ C → P i v → s₃.heap.Ns C m₃ → m₃ x = some v → (∀ b o, b ∉ wr → s₂.heap.get? b = some o → s₃.heap.get? b = some o) →
      TestsOf prog w A ifs (compEnvC scope cl C env) (fun ok s₄ => ok = p v ∧ Keeps s₃ s₄) E' s₃)
    (hk : ∀ C i v s₃ m₃ E', s₂.heap.objs.size ≤ C → P i v → p v = true → s₃.heap.Ns C m₃ → m₃ x = some v → (∀ b o, b ∉ wr → s₂.heap.get? b = some o → s₃.heap.get? b = some o) →
      wpAny (model prog w) A (eval kx (compEnvC scope cl C env)) (fun key s₄ => (∃ k, (intKind prog w).is k key = true ∧ FK v k) ∧ Keeps s₃ s₄) E' s₃)
    (hv : ∀ C i v s₃ m₃ E', s₂.heap.objs.size ≤ C → P i v → p v = true → s₃.heap.Ns C m₃ → m₃ x = some v → (∀ b o, b ∉ wr → s₂.heap.get? b = some o → s₃.heap.get? b = some o) →
      wpAny (model prog w) A (eval vx (compEnvC scope cl C env)) (fun y s₄ => FV v y ∧ Keeps s₃ s₄) E' s₃)
    (hRR : ∀ C h' tk m' kvs (vs : List Value), s₂.heap.objs.size < C → h'.Ns C m' → h'.DictOf (intKind prog w) s₂.heap.objs.size kvs → vs.length = n → (∀ j v, vs[j]? = some v → P j v) → StoredAll FK FV (vs.filter p) kvs →
      (∀ b o, b ∉ wr → s₂.heap.get? b = some o → h'.get? b = some o) → RR (.ref s₂.heap.objs.size) C (.ok .next) { s₂ with heap := h', toks := tk }) :
    wpAny (model prog w) A newDict (fun acc s₃ => wpAny (model prog w) A (newFunctionEnv scope env.globals cl [] env.qual none .none (some env)) (fun cenv s₄ =>
      codeAny (model prog w) A (.compStart (.DictComp kx vx [⟨.Name x px, iter, ifs, 0⟩] scope pos) 0 (.ref I) acc { cenv with scope := relabel scope env }) (RR acc cenv.locals) s₄) E s₃) E s₂ := by
  refine wpAny_newObj_type (wpAny_newFunctionEnv hcell (by intro y hy; simp at hy) (fun h₁ hns₁ hsb₁ => ?_) hkind)
  have dct : (s₂.heap.push { cls := .type "dict", dict := none, data := .dict #[] }).DictOf (intKind prog w) s₂.heap.objs.size [] := Heap.DictOf.new s₂.heap
  dsimp only at hns₁ hsb₁ ⊢
  generalize hG : s₂.heap.push { cls := .type "dict", dict := none, data := .dict #[] } = G at hns₁ hsb₁ dct ⊢
  have sz : G.objs.size = s₂.heap.objs.size + 1 := by rw [← hG, Heap.size_push]
  have lt1 : s₂.heap.objs.size < G.objs.size := sz ▸ Nat.lt_succ_self _
  have stay : ∀ b o, s₂.heap.get? b = some o → h₁.get? b = some o := fun b o e =>
    hsb₁.extBut b o (Nat.ne_of_lt (Nat.lt_trans (Heap.lt_size e) lt1)) (Heap.get?_push_of_some _ (hG ▸ Heap.get?_push_of_some _ e))
  have offD : s₂.heap.objs.size ∉ fp := fun h => Nat.lt_irrefl _ (hfp _ h)
  have offC : G.objs.size ∉ fp := fun h => Nat.lt_irrefl _ (Nat.lt_trans lt1 (hfp _ h))
  have st₁ : St 0 h₁ := W.frame _ _ _ hst fun b _ o e => stay b o e
  have d₁ : h₁.DictOf (intKind prog w) s₂.heap.objs.size [] := dct.at fun o e => hsb₁.extBut _ _ (Nat.ne_of_lt lt1) (Heap.get?_push_of_some _ e)
  have bring : ∀ {H : Heap}, (∀ b o, b ≠ G.objs.size → b ∉ wr → b ≠ s₂.heap.objs.size → h₁.get? b = some o → H.get? b = some o) → ∀ b o, b ∉ wr → s₂.heap.get? b = some o → H.get? b = some o := fun k b o hb e =>
    k b o (Nat.ne_of_lt (Nat.lt_trans (Heap.lt_size e) lt1)) hb (Nat.ne_of_lt (Heap.lt_size e)) (stay b o e)
  have run : ∀ s₃ : Shared, s₃ = { s₂ with heap := h₁, toks := s₂.toks + ([] : List (Str × Value)).length } →
      codeAny (model prog w) A (.compLoop (.DictComp kx vx [⟨.Name x px, iter, ifs, 0⟩] scope pos) 0 (.ref I) (.ref s₂.heap.objs.size) (compEnvC scope cl G.objs.size env)) (RR (.ref s₂.heap.objs.size) G.objs.size) s₃ := by
    rintro s₃ rfl
    exact codeAny_compLoop_walkD (hsz := hsz) (knd := intKind prog w) (cenv := compEnvC scope cl G.objs.size env) W p FK FV (lookup_relabel_local hx) (by simp [compEnvC, relabel, hkind]) (Nat.ne_of_lt lt1) offD offC st₁ d₁ hns₁
      (fun i v s₃ m₃ a b c k => ht _ i v s₃ m₃ _ (Nat.le_of_lt lt1) a b c (bring k)) (fun i v s₃ m₃ a q b c k => hk _ i v s₃ m₃ _ (Nat.le_of_lt lt1) a q b c (bring k)) (fun i v s₃ m₃ a q b c k => hv _ i v s₃ m₃ _ (Nat.le_of_lt lt1) a q b c (bring k))
      fun h' tk m' kvs vs a b c d e k => hRR _ h' tk m' kvs vs lt1 a b c d e (bring k)
  exact codeAny_compStart_dict (run _ rfl) (W.self 0 _ _ _ st₁ (run _ rfl))

theorem DictComp_N {kx vx iter : Expr} {x : Str} {px : Pos} {ifs : List Expr} {scope : Scope} {cl : List (Str × Addr)} {pos : Pos} {Q : Value → Shared → Prop} (p : Value → Bool) (FK : Value → Int → Prop) (FV : Value → Value → Prop)
    (F₀ : Fr h₀ L s.heap m) (hbig : h₀.NoLimit) (hclos : closureFor scope env = pure cl) (hcell : ∀ y ∈ scope.names, y.2 ≠ .cell) (hkind : scope.kind = .function)
    (hnames : ∀ y ∈ scope.names, y.2 = .local → scope.names.lookup y.1 = some .local) (hx : scope.names.lookup x = some .local)
    (h : wpAny (model prog w) A (eval iter env) (fun xv s₁ => Stop (∃ n P news, n ≤ sizeLine ∧ Fr h₀ L s₁.heap m ∧ News h₀ L s₁.heap news ∧ Src prog w A xv s₁ n P ∧
      (∀ C oC i v s₃ m₃ E', P i v → LCg.NsObj oC m₃ → m₃ x = some v → Fr h₀ L s₃.heap m → News h₀ L s₃.heap ((C, oC) :: news) → (∀ p ∈ news, (p.1 : Nat) < C) →
        TestsOf prog w A ifs (compEnvC scope cl C env) (fun ok s₄ => Stop (ok = p v ∧ Keeps s₃ s₄)) E' s₃) ∧
      (∀ C oC i v s₃ m₃ E', P i v → p v = true → LCg.NsObj oC m₃ → m₃ x = some v → Fr h₀ L s₃.heap m → News h₀ L s₃.heap ((C, oC) :: news) → (∀ p ∈ news, (p.1 : Nat) < C) →
        wpAny (model prog w) A (eval kx (compEnvC scope cl C env)) (fun key s₄ => Stop ((∃ k, (intKind prog w).is k key = true ∧ FK v k) ∧ Keeps s₃ s₄)) E' s₃) ∧
      (∀ C oC i v s₃ m₃ E', P i v → p v = true → LCg.NsObj oC m₃ → m₃ x = some v → Fr h₀ L s₃.heap m → News h₀ L s₃.heap ((C, oC) :: news) → (∀ p ∈ news, (p.1 : Nat) < C) →
        wpAny (model prog w) A (eval vx (compEnvC scope cl C env)) (fun y s₄ => Stop (FV v y ∧ Keeps s₃ s₄)) E' s₃) ∧
      (∀ D oD h' tk kvs (vs : List Value), (D == sysModules) = false → vs.length = n → (∀ j v, vs[j]? = some v → P j v) → StoredAll FK FV (vs.filter p) kvs → oD.IsDictOf (intKind prog w) kvs → Fr h₀ L h' m → News h₀ L h' ((D, oD) :: news) → (∀ q ∈ news, (q.1 : Nat) < D) →
        Q (.ref D) { s₁ with heap := h', toks := tk }))) E s)
    (hs : ∀ x, foldedSetIterable iter env x = pure x := by intro _; rfl) :
    wpAny (model prog w) A (eval (.DictComp kx vx [⟨.Name x px, iter, ifs, 0⟩] scope pos) env) Q E s := by
  rw [arm_eval_DictComp]
  refine wpAny_comprehension_free (use := none) rfl hs hclos hkind hnames (wpAny_mono h (fun xv s₁ h₁ => ?_) fun _ _ e => e)
  obtain ⟨n, P, news, hn, Fr₁, N₁, src, htest, hkey, hval, hfin⟩ := h₁
  refine src _ _ fun fp St o W hst hfp hfr => dcomp_block (RR := fun acc C => compPost (model prog w) A E none Q acc C) W hn p FK FV hcell hkind hx hst hfp ?_ ?_ ?_ ?_
  · intro C i v s₃ m₃ E' hC hP hns hm hk
    obtain ⟨oC, ho, F₃, N₃, hlt⟩ := turn_news Fr₁ N₁ hfr rfl hC hns hk
    exact wpAny_mono (htest C oC i v s₃ m₃ E' hP ho hm F₃ N₃ hlt) (fun _ _ h => h) fun _ _ h => h
  · intro C i v s₃ m₃ E' hC hP hpv hns hm hk
    obtain ⟨oC, ho, F₃, N₃, hlt⟩ := turn_news Fr₁ N₁ hfr rfl hC hns hk
    exact wpAny_mono (hkey C oC i v s₃ m₃ E' hP hpv ho hm F₃ N₃ hlt) (fun _ _ h => h) fun _ _ h => h
  · intro C i v s₃ m₃ E' hC hP hpv hns hm hk
    obtain ⟨oC, ho, F₃, N₃, hlt⟩ := turn_news Fr₁ N₁ hfr rfl hC hns hk
    exact wpAny_mono (hval C oC i v s₃ m₃ E' hP hpv ho hm F₃ N₃ hlt) (fun _ _ h => h) fun _ _ h => h
  · intro C h' tk m' kvs vs hC hnC hl hlen hPs hF hk
    refine ⟨m', hnC, fun h'' hs'' => ?_⟩
    have hsz : (s₁.heap.push o).objs.size = s₁.heap.objs.size + 1 := Heap.size_push _ _
    have lt : ∀ b ob, s₁.heap.get? b = some ob → b < (s₁.heap.push o).objs.size := fun b ob e => by rw [hsz]; exact Nat.lt_succ_of_lt (Heap.lt_size e)
    have hk₂ : ∀ b ob, b ∉ [s₁.heap.objs.size] → (s₁.heap.push o).get? b = some ob → h''.get? b = some ob := fun b ob hb e =>
      hs''.extBut b ob (Nat.ne_of_lt (Nat.lt_trans (Heap.lt_size e) hC)) (hk b ob hb e)
    obtain ⟨F', N', hkk⟩ := fr_news_of Fr₁ N₁ hfr (h' := h'') hk₂
    obtain ⟨oD, hoD, hdD⟩ := Heap.dictOf_iff.mp hl
    have F₁p : Fr h₀ L (s₁.heap.push o) m := Fr₁.push o
    refine hfin _ oD h'' tk kvs vs (F₁p.notModules (modules_low hbig)) hlen hPs hF hdD F' (fun q hq => ?_) fun q hq => lt _ _ (N₁ q hq).1
    rcases List.mem_cons.mp hq with rfl | hq
    · refine ⟨hs''.extBut _ _ (Nat.ne_of_lt hC) hoD, fun e => ?_, ?_⟩
      · obtain ⟨oL, _, _, hL, _⟩ := Fr₁.ns
        exact Nat.lt_irrefl _ (e ▸ lt _ _ hL)
      · cases q : h₀.get? (s₁.heap.push o).objs.size with
        | none => rfl
        | some ob => exact absurd (Heap.lt_size (F₁p.keep _ _ q)) (Nat.lt_irrefl _)
    · exact N' q hq

theorem Assign_DictComp_N {kx vx iter : Expr} {x y : Str} {px py : Pos} {ifs : List Expr} {scope : Scope} {cl : List (Str × Addr)} {pos spos : Pos} {Q : Flow → Shared → Prop} (p : Value → Bool) (FK : Value → Int → Prop) (FV : Value → Value → Prop) (F₀ : Fr h₀ L s.heap m) (hbig : h₀.NoLimit) (hLe : env.locals = L)
    (hsw : swapsWith (.DictComp kx vx [⟨.Name x px, iter, ifs, 0⟩] scope pos) (some (.Name y py)) spos.line env = pure true)
    (hclos : closureFor scope env = pure cl) (hcell : ∀ y ∈ scope.names, y.2 ≠ .cell) (hkind : scope.kind = .function)
    (hnames : ∀ y ∈ scope.names, y.2 = .local → scope.names.lookup y.1 = some .local) (hx : scope.names.lookup x = some .local)
    (hy : env.kindOf y = some .local) (hp : (env.scope.kind == .class || (env.scope.kind == .module && env.locals != env.globals)) = false)
    (h : wpAny (model prog w) A (eval iter env) (fun xv s₁ => Stop (∃ n P news, n ≤ sizeLine ∧ Fr h₀ L s₁.heap m ∧ News h₀ L s₁.heap news ∧ Src prog w A xv s₁ n P ∧
      (∀ C oC i v s₃ m₃ E', P i v → LCg.NsObj oC m₃ → m₃ x = some v → Fr h₀ L s₃.heap m → News h₀ L s₃.heap ((C, oC) :: news) → (∀ p ∈ news, (p.1 : Nat) < C) →
        TestsOf prog w A ifs (compEnvC scope cl C env) (fun ok s₄ => Stop (ok = p v ∧ Keeps s₃ s₄)) E' s₃) ∧
      (∀ C oC i v s₃ m₃ E', P i v → p v = true → LCg.NsObj oC m₃ → m₃ x = some v → Fr h₀ L s₃.heap m → News h₀ L s₃.heap ((C, oC) :: news) → (∀ p ∈ news, (p.1 : Nat) < C) →
        wpAny (model prog w) A (eval kx (compEnvC scope cl C env)) (fun key s₄ => Stop ((∃ k, (intKind prog w).is k key = true ∧ FK v k) ∧ Keeps s₃ s₄)) E' s₃) ∧
      (∀ C oC i v s₃ m₃ E', P i v → p v = true → LCg.NsObj oC m₃ → m₃ x = some v → Fr h₀ L s₃.heap m → News h₀ L s₃.heap ((C, oC) :: news) → (∀ p ∈ news, (p.1 : Nat) < C) →
        wpAny (model prog w) A (eval vx (compEnvC scope cl C env)) (fun y s₄ => Stop (FV v y ∧ Keeps s₃ s₄)) E' s₃) ∧
      (∀ D oD h' tk kvs (vs : List Value), (D == sysModules) = false → vs.length = n → (∀ j v, vs[j]? = some v → P j v) → StoredAll FK FV (vs.filter p) kvs → oD.IsDictOf (intKind prog w) kvs → Fr h₀ L h' (fun z => if z = y then some (.ref D) else m z) → News h₀ L h' ((D, oD) :: news) → (∀ q ∈ news, (q.1 : Nat) < D) →
        Q .next { s₁ with heap := h', toks := tk }))) E s)
    (hs : ∀ x, foldedSetIterable iter env x = pure x := by intro _; rfl) :
    wpAny (model prog w) A (exec (.Assign [.Name y py] (.DictComp kx vx [⟨.Name x px, iter, ifs, 0⟩] scope pos) spos) env) Q E s := by
  subst hLe
  rw [exec_Assign_Name_used _ _ _ _ hsw]
  refine wpAny_bind (wpAny_standAt (wpAny_bind ?_))
  show wpAny _ A (do let _ ← comprehension (.DictComp kx vx [⟨.Name x px, iter, ifs, 0⟩] scope pos) scope env _ newDict false (eval iter env) (some (assign (.Name y py) env))) _ _ s
  refine wpAny_bind (wpAny_mono (wpAny_comprehension_free (use := some (assign (.Name y py) env)) (Q := fun _ s' => Q .next s') rfl hs hclos hkind hnames
    (wpAny_mono h (fun xv s₁ h₁ => ?_) fun _ _ e => e)) (fun _ s' hq => wpAny_pure (wpAny_pure hq)) fun _ _ e => e)
  obtain ⟨n, P, news, hn, Fr₁, N₁, src, htest, hkey, hval, hfin⟩ := h₁
  refine src _ _ fun fp St o W hst hfp hfr => dcomp_block (RR := fun acc C => compPost (model prog w) A E (some (assign (.Name y py) env)) (fun _ s' => Q .next s') acc C) W hn p FK FV hcell hkind hx hst hfp ?_ ?_ ?_ ?_
  · intro C i v s₃ m₃ E' hC hP hns hm hk
    obtain ⟨oC, ho, F₃, N₃, hlt⟩ := turn_news Fr₁ N₁ hfr rfl hC hns hk
    exact wpAny_mono (htest C oC i v s₃ m₃ E' hP ho hm F₃ N₃ hlt) (fun _ _ h => h) fun _ _ h => h
  · intro C i v s₃ m₃ E' hC hP hpv hns hm hk
    obtain ⟨oC, ho, F₃, N₃, hlt⟩ := turn_news Fr₁ N₁ hfr rfl hC hns hk
    exact wpAny_mono (hkey C oC i v s₃ m₃ E' hP hpv ho hm F₃ N₃ hlt) (fun _ _ h => h) fun _ _ h => h
  · intro C i v s₃ m₃ E' hC hP hpv hns hm hk
    obtain ⟨oC, ho, F₃, N₃, hlt⟩ := turn_news Fr₁ N₁ hfr rfl hC hns hk
    exact wpAny_mono (hval C oC i v s₃ m₃ E' hP hpv ho hm F₃ N₃ hlt) (fun _ _ h => h) fun _ _ h => h
  · intro C h' tk m' kvs vs hC hnC hl hlen hPs hF hk
    have hsz : (s₁.heap.push o).objs.size = s₁.heap.objs.size + 1 := Heap.size_push _ _
    have lt : ∀ b ob, s₁.heap.get? b = some ob → b < (s₁.heap.push o).objs.size := fun b ob e => by rw [hsz]; exact Nat.lt_succ_of_lt (Heap.lt_size e)
    obtain ⟨F', N', hkk⟩ := fr_news_of Fr₁ N₁ hfr (h' := h') hk
    have F₁p : Fr h₀ env.locals (s₁.heap.push o) m := Fr₁.push o
    have none₀ : ∀ b, (s₁.heap.push o).objs.size ≤ b → h₀.get? b = none := fun b hb => by
      cases q : h₀.get? b with
      | none => rfl
      | some ob => exact absurd (Nat.lt_of_lt_of_le (Heap.lt_size (F₁p.keep _ _ q)) hb) (Nat.lt_irrefl _)
    have hLlt : env.locals < (s₁.heap.push o).objs.size := by obtain ⟨oL, _, _, hL, _⟩ := Fr₁.ns; exact lt _ _ hL
    have hC₀ := none₀ C (Nat.le_of_lt hC)
    have hLC : C ≠ env.locals := Nat.ne_of_gt (Nat.lt_trans hLlt hC)
    show wpAny _ A (assign (.Name y py) env (.ref (s₁.heap.push o).objs.size)) _ _ _
    refine wpAny_assign_Name (wpAny_storeName_local hy F'.ns (fun h₂ hn₂ hs₂ => ?_) hp)
    refine ⟨m', hnC.sameBut hs₂ hLC, fun h'' hs'' => ?_⟩
    have hL₀ : h₀.get? env.locals = none := Heap.get?_none_of_le F'.above
    have F₂ : Fr h₀ env.locals h₂ (fun z => if z = y then some (.ref (s₁.heap.push o).objs.size) else m z) := ⟨hn₂, fun b ob e => hs₂.extBut b ob (fun q => by rw [q, hL₀] at e; cases e) (F'.keep b ob e), F'.above⟩
    obtain ⟨oD, hoD, hdD⟩ := Heap.dictOf_iff.mp hl
    have F₃ : Fr h₀ env.locals h'' (fun z => if z = y then some (.ref (s₁.heap.push o).objs.size) else m z) := F₂.change hs'' hLC hC₀
    have step : ∀ b ob, b ≠ env.locals → b ≠ C → h'.get? b = some ob → h''.get? b = some ob := fun b ob h1 h2 e => hs''.extBut b ob h2 (hs₂.extBut b ob h1 e)
    refine hfin _ oD h'' _ kvs vs (F₁p.notModules (modules_low hbig)) hlen hPs hF hdD F₃ (fun q hq => ?_) fun q hq => lt _ _ (N₁ q hq).1
    rcases List.mem_cons.mp hq with rfl | hq
    · exact ⟨step _ _ (Nat.ne_of_gt hLlt) (Nat.ne_of_lt hC) hoD, Nat.ne_of_gt hLlt, none₀ _ (Nat.le_refl _)⟩
    · exact ⟨step _ _ (N₁ q hq).2.1 (Nat.ne_of_lt (Nat.lt_trans (lt _ _ (N₁ q hq).1) hC)) (N' q hq).1, (N₁ q hq).2⟩
end
end
section
open PySem PySem.W PyProof.Rows PySem.Calls
set_option Elab.async false
set_option maxRecDepth 100000
set_option linter.unusedVariables false
section
variable {prog : Program} {w : World} {A : Around} {E : Value → Shared → Prop} {s : Shared} {env : Env} {h₀ : Heap} {L : Addr} {m : Str → Option Value} {news : List (Addr × Obj)} {target : Expr} {body : List Stmt}

/-- one turn's end: the invariant again, or the way out -/
def TurnEnd (Inv : Shared → Prop) (Q : Flow → Shared → Prop) (f : Flow) (s : Shared) : Prop :=
  match f with
  | .next => Inv s
  | .cont => Inv s
  | .brk => Q .next s
  | .ret v => Q (.ret v) s
/-- a For loop by an invariant over the whole state -/
def ForBy (prog : Program) (w : World) (A : Around) (env : Env) (target : Expr) (body : List Stmt) (Q : Flow → Shared → Prop) (E : Value → Shared → Prop) (it : Value) (s₂ : Shared) : Prop :=
  ∃ (n : Nat) (Inv : Nat → Shared → Prop) (Mid : Nat → Value → Shared → Prop), Inv 0 s₂ ∧
    (∀ i s (Q' : Option Value → Shared → Prop) (E' : Value → Shared → Prop), i < n → Inv i s → (∀ v s₁, Mid i v s₁ → Q' (some v) s₁) → wpAny (model prog w) A (pyNext it) Q' E' s) ∧
    (∀ s (Q' : Option Value → Shared → Prop) (E' : Value → Shared → Prop), Inv n s → (∀ s₁, Q .next s₁ → Q' none s₁) → wpAny (model prog w) A (pyNext it) Q' E' s) ∧
    (∀ i v s (Q' : Unit → Shared → Prop) (E' : Value → Shared → Prop), Mid i v s → Q' () s → wpAny (model prog w) A (letOwnedTupleGo target it v) Q' E' s) ∧
    (∀ i v s, i < n → Mid i v s → wpAny (model prog w) A (assign target env v) (fun _ s₃ => wpAny (model prog w) A (execs body env) (TurnEnd (Inv (i + 1)) Q) E s₃) E s)

theorem For_by {iter : Expr} {pos : Pos} {Q : Flow → Shared → Prop}
    (h : wpAny (model prog w) A (eval iter env) (fun xv s₁ => wpAny (model prog w) A (pyIter xv) (fun it s₂ => ForBy prog w A env target body Q E it s₂) E s₁) E s)
    (hs : ∀ x, foldedSetIterable iter env x = pure x := by intro _; rfl)
    (hE : PassesOwn (model prog w) A env E := by passes_own) :
    wpAny (model prog w) A (exec (.For target iter body [] pos) env) Q E s := by
  refine wpAny_For (wpAny_mono h (fun xv s₁ h₁ => wpAny_mono h₁ (fun it s₂ h₂ => ?_) fun _ _ e => e) fun _ _ e => e) hs
  obtain ⟨n, Inv, Mid, h0, item, done, go, step⟩ := h₂
  refine codeAny_forLoop_any (R := fun r s' => match r with | .ok f => Q f s' | .error e => cameBackBy (model prog w) A env E e s') (fun k s' => ∃ i, Inv i s' ∧ i ≤ n ∧ k = n + 1 - i) ?_ (n + 1) ⟨0, h0, Nat.zero_le _, rfl⟩
  rintro k s' ⟨i, hI, hi, rfl⟩
  by_cases hlt : i < n
  · refine item i s' _ _ hlt hI fun v s₁ hM => ?_
    refine go i v s₁ _ _ hM ?_
    refine wpAny_mono (step i v s₁ hlt hM) (fun _ s₂ h₂' => wpAny_mono h₂' (fun f s₃ h₃ => ?_) hE) hE
    cases f with
    | ret v => exact h₃
    | brk => exact h₃
    | cont => exact ⟨n + 1 - (i + 1), by omega, i + 1, h₃, hlt, rfl⟩
    | next => exact ⟨n + 1 - (i + 1), by omega, i + 1, h₃, hlt, rfl⟩
  · have hin : i = n := by omega
    subst hin
    exact done s' _ _ hI fun s₁ hq => wpAny_execs_nil hq

theorem fr_tab {b h : Heap} (F : Fr b L h m) (kv : List (Str × Value)) (e : ∀ p ∈ kv, m p.1 = some p.2) : Fr b L h (fun y => match kv.lookup y with | some v => some v | none => m y) := by
  have : (fun y => match kv.lookup y with | some v => some v | none => m y) = m := by
    funext y
    induction kv with
    | nil => rfl
    | cons p kv ih =>
      obtain ⟨k, v⟩ := p
      show (match (match y == k with | true => some v | false => kv.lookup y) with | some v => some v | none => m y) = m y
      cases hy : y == k with
      | true =>
        rw [beq_iff_eq] at hy
        subst hy
        exact (e _ (.head _)).symm
      | false => exact ih fun p hp => e p (.tail _ hp)
  rw [this]
  exact F
def OffI (I : Addr) (news : List (Addr × Obj)) : Prop := ∀ q ∈ news, (q.1 : Nat) ≠ I
theorem go_name {x : Str} {px : Pos} {it v : Value} {Q : Unit → Shared → Prop} (h : Q () s) : wpAny (model prog w) A (letOwnedTupleGo (.Name x px) it v) Q E s := wpAny_pure h

theorem for_walk {IT : Addr} {fp : List Addr} {n : Nat} {P : Nat → Value → Prop} {St : Nat → Heap → Prop} {Q : Flow → Shared → Prop} {oI₀ : Obj} (W : Walks prog w A IT fp [IT] n P St) (hex : ∀ i h, St i h → ∃ o, h.get? IT = some o)
    (keep : List (Addr × Obj)) (hfp : ∀ b ∈ fp, b = IT ∨ ∃ o, (b, o) ∈ keep) (J : Nat → Heap → (Str → Option Value) → List (Addr × Obj) → Prop) (hJk : ∀ i b m news, J i b m news → ∀ p ∈ keep, p ∈ news)
    (hst : St 0 s.heap) (F : Fr h₀ L s.heap m) (N : News h₀ L s.heap ((IT, oI₀) :: news)) (off : OffI IT news) (h0 : J 0 h₀ m news)
    (hgo : ∀ v s (Q' : Unit → Shared → Prop) (E' : Value → Shared → Prop), Q' () s → wpAny (model prog w) A (letOwnedTupleGo target (.ref IT) v) Q' E' s)
    (step : ∀ i v b m₁ news₁ oI h₁ tk₁, i < n → P i v → J i b m₁ news₁ → Fr b L h₁ m₁ → News b L h₁ ((IT, oI) :: news₁) → OffI IT news₁ →
      wpAny (model prog w) A (assign target env v) (fun _ s₃ => wpAny (model prog w) A (execs body env)
        (TurnEnd (fun s' => ∃ b' h' tk' m' news', s' = { s with heap := h', toks := tk' } ∧ Fr b' L h' m' ∧ News b' L h' ((IT, oI) :: news') ∧ OffI IT news' ∧ J (i + 1) b' m' news') Q) E s₃) E { s with heap := h₁, toks := tk₁ })
    (fin : ∀ b h' tk m' news', J n b m' news' → Fr b L h' m' → News b L h' news' → Q .next { s with heap := h', toks := tk }) :
    ForBy prog w A env target body Q E (.ref IT) s := by
  have moved : ∀ {b : Heap} {m' : Str → Option Value} {news' : List (Addr × Obj)} {oI : Obj} {h h' : Heap}, Fr b L h m' → News b L h ((IT, oI) :: news') → OffI IT news' → (∀ x o, x ∉ [IT] → h.get? x = some o → h'.get? x = some o) → Fr b L h' m' ∧ News b L h' news' :=
    fun Fx Nx ox hk => ⟨kmb_fr Fx hk (Nx _ (.head _)).2.1 (Nx _ (.head _)).2.2, kmb_news (fun q hq => Nx q (.tail _ hq)) hk ox⟩
  refine ⟨n, fun i s' => ∃ b h tk m' news' oI, s' = { s with heap := h, toks := tk } ∧ Fr b L h m' ∧ News b L h ((IT, oI) :: news') ∧ OffI IT news' ∧ J i b m' news' ∧ St i h,
    fun i v s' => ∃ b h tk m' news' oI, s' = { s with heap := h, toks := tk } ∧ Fr b L h m' ∧ News b L h ((IT, oI) :: news') ∧ OffI IT news' ∧ J i b m' news' ∧ P i v ∧ St (i + 1) h,
    ⟨h₀, s.heap, s.toks, m, news, oI₀, rfl, F, N, off, h0, hst⟩, ?_, ?_, fun _ v s' Q' E' _ hq => hgo v s' Q' E' hq, ?_⟩
  · rintro i s' Q' E' hi ⟨b, h, tk, m', news', oI, rfl, Fx, Nx, ox, hJ, hS⟩ hQ
    refine W.item i _ _ _ hi hS fun v h' tk' hP hS' hk => hQ v _ ?_
    obtain ⟨o', ho'⟩ := hex _ _ hS'
    obtain ⟨Fy, Ny⟩ := moved Fx Nx ox hk
    refine ⟨b, h', tk', m', news', o', rfl, Fy, fun q hq => ?_, ox, hJ, hP, hS'⟩
    rcases List.mem_cons.mp hq with rfl | hq
    · exact ⟨ho', (Nx _ (.head _)).2⟩
    · exact Ny q hq
  · rintro s' Q' E' ⟨b, h, tk, m', news', oI, rfl, Fx, Nx, ox, hJ, hS⟩ hQ
    refine W.done _ _ _ hS fun h' tk' hk => hQ _ ?_
    obtain ⟨Fy, Ny⟩ := moved Fx Nx ox hk
    exact fin b h' tk' m' news' hJ Fy Ny
  · rintro i v s' hi ⟨b, h, tk, m', news', oI, rfl, Fx, Nx, ox, hJ, hP, hS⟩
    have back : ∀ s'', (∃ b' h' tk' m'' news'', s'' = { s with heap := h', toks := tk' } ∧ Fr b' L h' m'' ∧ News b' L h' ((IT, oI) :: news'') ∧ OffI IT news'' ∧ J (i + 1) b' m'' news'') →
        ∃ b h tk m' news' oI, s'' = { s with heap := h, toks := tk } ∧ Fr b L h m' ∧ News b L h ((IT, oI) :: news') ∧ OffI IT news' ∧ J (i + 1) b m' news' ∧ St (i + 1) h := by
      rintro s'' ⟨b', h', tk', m'', news'', rfl, F', N', o', J'⟩
      refine ⟨b', h', tk', m'', news'', oI, rfl, F', N', o', J', W.frame _ _ _ hS fun x hx o ho => ?_⟩
      rcases hfp x hx with rfl | ⟨ox', hox⟩
      · have := (Nx _ (.head _)).1
        rw [ho] at this
        cases this
        exact (N' _ (.head _)).1
      · have h1 := (Nx _ (.tail _ (hJk _ _ _ _ hJ _ hox))).1
        rw [ho] at h1
        cases h1
        exact (N' _ (.tail _ (hJk _ _ _ _ J' _ hox))).1
    refine wpAny_mono (step i v b m' news' oI h tk hi hP hJ Fx Nx ox) (fun _ s₃ h₃ => wpAny_mono h₃ (fun f s₄ h₄ => ?_) fun _ _ e => e) fun _ _ e => e
    cases f with
    | ret v => exact h₄
    | brk => exact h₄
    | cont => exact back _ h₄
    | next => exact back _ h₄

theorem by_range {r : Addr} {a c : Int} {t u v : Tok} {n : Nat} {x : Str} {px : Pos} {Q : Flow → Shared → Prop} (hh : A.handled = none) (hr : IsRange s.heap r a c 1 t u v) (hsm : Builtin.Range.small a c 1 = true) (hn : Builtin.Range.rangeSize a c 1 = ((n : Nat) : Int))
    (F : Fr h₀ L s.heap m) (N : News h₀ L s.heap news) (J : Nat → Heap → (Str → Option Value) → List (Addr × Obj) → Prop) (h0 : J 0 h₀ m news)
    (step : ∀ i t b m₁ news₁ IT oI h₁ tk₁, i < n → J i b m₁ news₁ → Fr b L h₁ m₁ → News b L h₁ ((IT, oI) :: news₁) → OffI IT news₁ →
      wpAny (model prog w) A (assign (.Name x px) env (.int (a + i) t)) (fun _ s₃ => wpAny (model prog w) A (execs body env)
        (TurnEnd (fun s' => ∃ b' h' tk' m' news', s' = { s with heap := h', toks := tk' } ∧ Fr b' L h' m' ∧ News b' L h' ((IT, oI) :: news') ∧ OffI IT news' ∧ J (i + 1) b' m' news') Q) E s₃) E { s with heap := h₁, toks := tk₁ })
    (fin : ∀ b h' tk m' news', J n b m' news' → Fr b L h' m' → News b L h' news' → Q .next { s with heap := h', toks := tk }) :
    wpAny (model prog w) A (pyIter (.ref r)) (fun it s₂ => ForBy prog w A env (.Name x px) body Q E it s₂) E s := by
  refine wpAny_pyIter_range hr hsm ?_
  have hf := F.push ({ cls := .type "range_iterator", data := .fields #[rawInt a, rawInt (Builtin.Range.rangeSize a c 1), rawInt 1] } : Obj)
  refine for_walk (s := { s with heap := _ }) (IT := s.heap.objs.size) (fp := [s.heap.objs.size]) (n := n) (P := fun i v => ∃ t, v = .int (a + i * 1) t) (Walks.range hh _ a 1 n) (fun i h hS => ⟨_, hS⟩) [] (fun b hb => .inl (List.mem_singleton.mp hb)) J
    (fun _ _ _ _ _ p hp => nomatch hp) ?_ hf (News.push F N _) (fun q hq => Nat.ne_of_lt (Heap.lt_size (N q hq).1)) h0 (fun _ _ _ _ hq => go_name hq) (fun i v b m₁ news₁ oI h₁ tk₁ hi hP hJ Fx Nx ox => ?_) fin
  · show IsRangeIter _ _ (a + ((0 : Nat) : Int) * 1) ((n : Int) - ((0 : Nat) : Int)) 1
    rw [show a + ((0 : Nat) : Int) * 1 = a by omega, show (n : Int) - ((0 : Nat) : Int) = (n : Int) by omega, ← hn]
    exact Heap.get?_push_size _ rfl
  · obtain ⟨t, rfl⟩ := hP
    rw [Int.mul_one]
    exact step i t b m₁ news₁ _ oI h₁ tk₁ hi hJ Fx Nx ox

theorem by_list {l : Addr} {vs : Array Value} {k : Nat} {target : Expr} {Q : Flow → Shared → Prop} (hh : A.handled = none)
    (hgo : ∀ it v s (Q' : Unit → Shared → Prop) (E' : Value → Shared → Prop), Q' () s → wpAny (model prog w) A (letOwnedTupleGo target it v) Q' E' s)
    (F : Fr h₀ L s.heap m) (N : News h₀ L s.heap news) (hm : (l, listOf vs k) ∈ news) (J : Nat → Heap → (Str → Option Value) → List (Addr × Obj) → Prop) (hJk : ∀ i b m news, J i b m news → (l, listOf vs k) ∈ news) (h0 : J 0 h₀ m news)
    (step : ∀ i v b m₁ news₁ IT oI h₁ tk₁, i < vs.size → vs[i]? = some v → J i b m₁ news₁ → Fr b L h₁ m₁ → News b L h₁ ((IT, oI) :: news₁) → OffI IT news₁ →
      wpAny (model prog w) A (assign target env v) (fun _ s₃ => wpAny (model prog w) A (execs body env)
        (TurnEnd (fun s' => ∃ b' h' tk' m' news', s' = { s with heap := h', toks := tk' } ∧ Fr b' L h' m' ∧ News b' L h' ((IT, oI) :: news') ∧ OffI IT news' ∧ J (i + 1) b' m' news') Q) E s₃) E { s with heap := h₁, toks := tk₁ })
    (fin : ∀ b h' tk m' news', J vs.size b m' news' → Fr b L h' m' → News b L h' news' → Q .next { s with heap := h', toks := tk }) :
    wpAny (model prog w) A (pyIter (.ref l)) (fun it s₂ => ForBy prog w A env target body Q E it s₂) E s := by
  have hl : s.heap.IsList l vs := ⟨_, (N _ hm).1, rfl, k, rfl⟩
  refine wpAny_pyIter_list hl ?_
  have hne : l ≠ s.heap.objs.size := Nat.ne_of_lt (Heap.lt_size (N _ hm).1)
  have hf := F.push ({ cls := .type "list_iterator", data := .fields #[.ref l, .int 0 0] } : Obj)
  refine for_walk (s := { s with heap := _ }) (IT := s.heap.objs.size) (fp := [s.heap.objs.size, l]) (n := vs.size) (P := fun i v => vs[i]? = some v) (Walks.list hh _ l hne vs) (fun i h hS => by obtain ⟨o, ho, _⟩ := hS.1; exact ⟨o, ho⟩) [(l, listOf vs k)] (fun b hb => ?_) J
    (fun i b m news hJ p hp => by rw [List.mem_singleton.mp hp]; exact hJk i b m news hJ) ⟨⟨_, Heap.get?_push_size _ rfl, rfl, rfl⟩, ⟨_, Heap.get?_push_of_some _ (N _ hm).1, rfl, k, rfl⟩⟩ hf (News.push F N _) (fun q hq => Nat.ne_of_lt (Heap.lt_size (N q hq).1)) h0 (fun _ _ _ _ hq => hgo _ _ _ _ _ hq)
    (fun i v b m₁ news₁ oI h₁ tk₁ hi hP hJ Fx Nx ox => step i v b m₁ news₁ _ oI h₁ tk₁ hi hP hJ Fx Nx ox) fin
  simp only [List.mem_cons, List.not_mem_nil, or_false] at hb
  rcases hb with rfl | rfl
  · exact .inl rfl
  · exact .inr ⟨_, .head _⟩
end
end
section
open PySem PySem.W PyProof.Rows PySem.Calls
set_option Elab.async false
set_option maxRecDepth 100000
set_option linter.unusedVariables false
/-- what holds of every code's result holds of each result -/
theorem of_codes {P R : Result → Shared → Prop} {prog : Program} {w : World} (h : ∀ (M : Model) (A : Around) (cd : Code) (s : Shared), codeAny M A cd P s → codeAny M A cd R s) {r : Result} {s : Shared} (hp : P r s) : R r s := by
  let t : Sem PySem.Fin := match r with | .ok f => pure (.done f) | .error e => throw e
  let M : Model := ⟨fun _ => t, prog, w⟩
  let A : Around := { handled := none, depth := 0, frames := none, guards := none, units := 0 }
  let c : Code := .call .none ⟨[], []⟩
  have h1 : codeAny M A c P s := fun Γ p hc hΓ => by
    rw [wpCode_iff_wp]
    cases r with
    | ok f => exact hp
    | error e => exact hp
  have h2 := h M A c s h1 ⟨c, none, none, [], none⟩ default rfl ⟨rfl, Nat.le_refl _, (fun _ h => nomatch h), (fun _ h => nomatch h), Nat.le_refl _⟩
  rw [wpCode_iff_wp] at h2
  cases r with
  | ok f => exact h2
  | error e => exact h2
theorem enter_callB {M : Model} {A : Around} {s : Shared} {f : Value} {pos : List Value} {kw : List (Str × Value)} {c : ClaimW} {cl : Str → Option Addr} {mean : ExcName → Option Value} {args : List WData} {s₁ : Shared}
    (h : codeC M A (.call f ⟨pos, kw⟩) (GoodWG c cl mean args s₁) s) : wpB M A (PySem.call f pos kw) (fun v s' => GoodWG c cl mean args s₁ (.ok (.ret v)) s') (fun e s' => GoodWG c cl mean args s₁ (.error e) s') s :=
  wpB_call (codeC_mono h fun res s' g => by rcases g.1 with ⟨v, _, _, rfl, _⟩ | ⟨e, _, _, rfl, _⟩ <;> exact g)
theorem kn_postC {prog : Program} {w : World} {M : Model} {A : Around} {cd : Code} {s s₁ : Shared} {cw : ClaimW} {cl : Str → Option Addr} {mean : ExcName → Option Value} {args : List WData} {tabs : List (Addr × Addr)} (hT : TabsAt tabs s₁.heap) (hr : ∀ a x, cw.raises a x = false)
    (h : codeC M A cd (fun r s' => GoodW cw cl mean args { s₁ with heap := ghostOf s₁.heap tabs } r s' ∧ GrownAll tabs s'.heap) s) : codeC M A cd (GoodWG cw cl mean args s₁) s :=
  codeC_mono h fun r s' hp => of_codes (prog := prog) (w := w) (fun M A cd s k => kn_post hT hr k) hp
theorem call_cells_C {prog : Program} {w : World} {A : Around} {R : Result → Shared → Prop} {s : Shared} {name : Str} {params : Arguments} {body : List Stmt} {scope : Scope}
    {pm cd doc : Value} {a : Addr} {o : Obj} {args : List Value} {binds : List (Str × Value)}
    (hroom : A.depth < recursionLimit) (ho : s.heap.get? a = some o) (hdata : o.data = .func (Calls.docDef name params body scope pm cd doc)) (hlim : s.heap.NoLimit) (hcd : s.heap.CodeRec cd name)
    (hbind : bindArgs (Calls.docDef name params body scope pm cd doc) ⟨args, []⟩ = pure binds)
    (hkind : (binds.all fun y => scope.names.lookup y.1 == some .local || scope.names.lookup y.1 == some .cell) = true)
    (hnd : ((cellsFrom 0 scope.names []).map (·.1)).Nodup)
    (h : ∀ h₁ tk cells, Fr s.heap s.heap.objs.size h₁ (bindL (envOfC name scope s.heap.objs.size a cd).kindOf binds fun _ => none) → News s.heap s.heap.objs.size h₁ cells →
      CellsAre (bindC (envOfC name scope s.heap.objs.size a cd).kindOf binds fun _ => none) (cellsFrom (s.heap.objs.size + 1) scope.names []) cells →
      wpC (model prog w) (A.deeper (envOfC name scope s.heap.objs.size a cd)) (execs body (envOfC name scope s.heap.objs.size a cd))
        (fun f s' => R (.ok (.ret (match f with | .ret v => v | _ => .none))) s') (fun _ _ => False) { s with heap := h₁, toks := tk })
    (hco : scope.isCoroutine = false := by rfl) (hgen : scope.isGenerator = false := by rfl) (hk : scope.kind = .function := by rfl) :
    codeC (model prog w) A (.call (.ref a) ⟨args, []⟩) R s := by
  refine codeC_call_function hroom ho hdata hco hgen rfl hcd ?_
  rw [hbind]
  refine wpAny_pure ?_
  refine wpAny_newFunctionEnv_cells hk (kindsX hkind _) fun env' he s' x => ?_
  subst he
  refine ⟨hlim.keeps x.toInCall.keep, codeC_func ?_⟩
  obtain ⟨h₁, tk, rfl, _⟩ := x.done
  have hk₁ := x.toInCall.keep
  obtain ⟨cells, NC, Y⟩ := Cl.news (h₀ := s.heap) (Nat.le_refl _) fun n c hm => ⟨x.cell n c (lookup_of_mem_nodup (cellsFrom_names scope.names 0 (s.heap.objs.size + 1) [] [] rfl ▸ hnd) hm), x.above n c hm⟩
  exact wpC_mono (h h₁ tk cells ⟨x.toInCall.ns, hk₁, x.toInCall.fresh⟩ NC Y) (fun _ _ x => x) fun _ _ x => x.elim
end
section
example : True ∧ True := by w_top off; first | (walk1 <;> trivial) | exact ⟨trivial, trivial⟩
open PySem PySem.W PyProof.Rows PySem.Calls
set_option Elab.async false
set_option maxRecDepth 100000
set_option maxHeartbeats 8000000
/-- the def that a head speaks of -/
def dOf {q : Program} {loose : List Str} {XP : (Str → Option Value) → Heap → Prop} {YP : World → Heap → Prop} {r : RowW} {kwd : List (Str × Expr)} {run : Value → List Value → Sem Value} {H : Prop} (d : DefRec) (_ : WalkB q loose XP YP r d kwd run → H) : DefRec := d
/-- the law as its def is written -/
noncomputable def lawD : DefRec := dOf _ topHd
/-- the law's frame -/
noncomputable abbrev lawE (L a : Addr) (cd : Value) : Env := envOfC lawD.name lawD.scope L a cd
/-- the rest of the law, from the k-th statement on -/
noncomputable abbrev LawAt (w : World) (L a : Addr) (cd : Value) (k : Nat) (Q : Flow → Shared → Prop) (s : Shared) : Prop :=
  wpC (model PySem.Challenge.rw_zd0006_01.row.prog w) (callerA.deeper (lawE L a cd)) (execs (lawD.body.drop k) (lawE L a cd)) Q (fun _ _ => False) s
/-- what the law's end asks -/
def LawEnd (g : Heap) (L : Addr) (s : Shared) (Q : Flow → Shared → Prop) : Prop :=
  ∀ h' tk' m' news' ps', Fr g L h' m' → News g L h' news' → (158, tabObj ps') ∈ news' → Q (.ret (.bool true)) { s with heap := h', toks := tk' }
/-- the law's start -/
theorem law_start (K : ∀ (w : World) (loose : List Str) (mean : ExcName → Option Value) (mg mb : Str → Option Value) (g : Heap) (L a sc : Addr) (cd : Value) (vs : List Value) (ns : List Int) (o1 o2 o3 o4 o5 : Obj) (m : Str → Option Value) (s : Shared) (Q : Flow → Shared → Prop),
    Below callerA g [] g → (heap9 w.params).In g → Top topProg loose mean mg mb g → CodeHd g 162 158 → g.IsList sc vs.toArray → IntsAre vs ns → ns.length ≤ 63 → 158 < L → m (Str.ofString "script") = some (.ref sc) → Fr g L s.heap m →
    News g L s.heap [(L + 5, o5), (L + 4, o4), (L + 3, o3), (L + 2, o2), (L + 1, o1), (158, tabObj #[])] → o1.data = .cell none → o2.data = .cell none → o3.data = .cell none → o4.data = .cell none → o5.data = .cell none → LawEnd g L s Q → LawAt w L a cd 0 Q s) : PySem.Challenge.rw_zd0006_01.Holds := topHd (by
  k_fill
  intro w s₀ s₁ mg mb G Y fa o pm cd doc dV kV ho hd hcd hD hmg hg args vals as hpre hlay hrd hwl hlo
  have KX := km_in_of Y
  km_tabs Y
  have X := (Ground.X G).1
  have V := (Ground.X G).2
  refine Ground.open G ?_
  intro T B D TE TW
  try (refine guard_noD D (by decide +kernel) ?_; clear D)
  km_lay T hmg ho hd cd
  clear hmg
  wrow_args hpre hlay hrd hwl hlo
  refine enter_callB ?_
  w_top on
  refine kn_postC (prog := PySem.Challenge.rw_zd0006_01.row.prog) (w := w) hT9 (fun _ _ => rfl) ?_
  have he := Dflts.none hD rfl; subst he; have he := Dflts.noKw hD; subst he
  refine call_cells_C (by decide) ho (fd_plain hd) (Top.nolimit T) hcd rfl rfl (by decide) fun h₁ tk₁ cells F N0 X0 => ?_
  cells_open X0
  clear hd
  kn_ghosts F T
  k_drop
  rename Fr _ _ _ _ => kF
  rename News _ _ _ _ => kN
  rename Below _ _ _ _ => kB
  rename Frag.In _ _ => kX
  rename IntsAre _ _ => kI
  refine K w _ _ mg mb _ _ fa _ cd _ _ _ _ _ _ _ _ _ _ kB (heap9_in kX) (by assumption) codeHd lifted kI (by omega) (by assumption) rfl kF kN (by assumption) (by assumption) (by assumption) (by assumption) (by assumption) ?_
  intro h' tk' m' news' ps' F' N' hm
  dsimp only
  k_steps)
/-- an address apart from all of a ledger -/
def AllNe (d : Nat) : List (Addr × Obj) → Prop
  | [] => True
  | p :: r => @Ne Nat p.1 d ∧ AllNe d r
theorem allNe_of {d : Addr} : ∀ {l : List (Addr × Obj)}, (∀ q ∈ l, q.1 ≠ d) → AllNe d l
  | [], _ => trivial
  | p :: _, h => ⟨h p (.head _), allNe_of fun q hq => h q (.tail _ hq)⟩
/-- what stands through the whole law -/
structure LawC (w : World) (loose : List Str) (mean : ExcName → Option Value) (mg mb : Str → Option Value) (g : Heap) (L : Addr) : Prop where
  B : Below callerA g [] g
  X : (heap9 w.params).In g
  T : Top topProg loose mean mg mb g
  C : CodeHd g 162 158
  l1 : @LT.lt Nat _ 158 L
end
section
open PySem PySem.W PyProof.Rows
set_option Elab.async false
set_option linter.unusedVariables false
section
variable {b h : Heap} {L : Addr} {l r : List (Addr × Obj)} {p : Addr × Obj}
/-- one more row of the ledger, which stands in another view of it -/
theorem nput (N : News b L h l) (hm : p ∈ l) (R : News b L h r) : News b L h (p :: r) := fun q hq => by
  rcases List.mem_cons.mp hq with rfl | hq
  · exact N _ hm
  · exact R q hq
theorem nleft (N : News b L h (p :: l)) : News b L h l := fun q hq => N q (.tail _ hq)
theorem noff (N : News b L h l) (hm : ∀ q ∈ r, q ∈ l) : News b L h r := fun q hq => N q (hm q hq)
end
section
variable {α : Type} {z a b c d e f g i j : α} {l : List α}
theorem mt1 (h : z ∈ l) : z ∈ a :: l := .tail _ h
theorem mt2 (h : z ∈ l) : z ∈ a :: b :: l := .tail _ (.tail _ h)
theorem mt3 (h : z ∈ l) : z ∈ a :: b :: c :: l := .tail _ (mt2 h)
theorem mt4 (h : z ∈ l) : z ∈ a :: b :: c :: d :: l := .tail _ (mt3 h)
theorem mt5 (h : z ∈ l) : z ∈ a :: b :: c :: d :: e :: l := .tail _ (mt4 h)
theorem mt8 (h : z ∈ l) : z ∈ a :: b :: c :: d :: e :: f :: g :: i :: l := mt3 (mt5 h)
end
/-- a small number as one of finitely many -/
theorem fin_of {c : Int} {n : Nat} (h1 : 0 ≤ c) (h2 : c < n) : ∃ d : Fin n, c = ((d.val : Nat) : Int) := ⟨⟨c.toNat, by omega⟩, (Int.toNat_of_nonneg h1).symm⟩
theorem fin_at {c : Int} {n : Nat} (h1 : 1 ≤ c) (h2 : c ≤ n) : ∃ d : Fin n, c = ((d.val : Nat) : Int) + 1 := by
  obtain ⟨d, e⟩ := fin_of (c := c - 1) (n := n) (by omega) (by omega)
  exact ⟨d, by omega⟩
theorem len_s {α : Type} {l : List α} {n : Nat} (h : l.length = n + 1) : ∃ a r, l = a :: r ∧ r.length = n := by
  cases l with
  | nil => exact absurd h (Nat.succ_ne_zero n).symm
  | cons a r => exact ⟨a, r, rfl, Nat.succ.inj h⟩
theorem len3 {α : Type} {l : List α} (h : l.length = 3) : ∃ a b c, l = [a, b, c] := by
  obtain ⟨a, r1, rfl, h1⟩ := len_s h
  obtain ⟨b, r2, rfl, h2⟩ := len_s h1
  obtain ⟨c, r3, rfl, h3⟩ := len_s h2
  exact ⟨a, b, c, by rw [List.eq_nil_of_length_eq_zero h3]⟩
theorem len4 {α : Type} {l : List α} (h : l.length = 4) : ∃ a b c d, l = [a, b, c, d] := by
  obtain ⟨a, r, rfl, h1⟩ := len_s h
  obtain ⟨b, c, d, rfl⟩ := len3 h1
  exact ⟨a, b, c, d, rfl⟩
theorem len5 {α : Type} {l : List α} (h : l.length = 5) : ∃ a b c d e, l = [a, b, c, d, e] := by
  obtain ⟨a, r, rfl, h1⟩ := len_s h
  obtain ⟨b, c, d, e, rfl⟩ := len4 h1
  exact ⟨a, b, c, d, e, rfl⟩
theorem col_all : ∀ k : Fin 5, ∀ y : Fin 19, -90000 ≤ (((y.val : Nat) : Int) - 9) * 10 ^ k.val ∧ (((y.val : Nat) : Int) - 9) * 10 ^ k.val ≤ 90000 ∧ ((((y.val : Nat) : Int) - 9) * 10 ^ k.val ≠ 0 → (((y.val : Nat) : Int) - 9) * 10 ^ k.val % 65521 ≠ 0) := by decide +kernel
/-- one figure's weight -/
theorem col_lim {a b : Int} {k : Nat} (ha : 0 ≤ a) (ha9 : a < 10) (hb : 0 ≤ b) (hb9 : b < 10) (hk : k < 5) : -90000 ≤ (a - b) * 10 ^ k ∧ (a - b) * 10 ^ k ≤ 90000 ∧ ((a - b) * 10 ^ k ≠ 0 → (a - b) * 10 ^ k % 65521 ≠ 0) := by
  obtain ⟨y, hy⟩ := fin_of (c := a - b + 9) (n := 19) (by omega) (by omega)
  have e : a - b = ((y.val : Nat) : Int) - 9 := by omega
  rw [e]
  exact col_all ⟨k, hk⟩ y
theorem ten_lim (x : Int) : 0 ≤ x % 10 ∧ x % 10 < 10 := ⟨Int.emod_nonneg _ (by decide), Int.emod_lt_of_pos _ (by decide)⟩
theorem wt_lim {wd x : Int} (h : 4 ≤ wd) (h5 : wd ≤ 5) : (wd - 1 - x % wd).toNat < 5 := by
  have := Int.emod_nonneg x (show wd ≠ 0 by omega)
  omega
end
section
open PySem PySem.W PyProof.Rows PySem.Calls PySem.Spec PyProof.V
set_option Elab.async false
set_option maxRecDepth 100000
set_option linter.unusedVariables false

def c6 (f : Int → Int) : List (Int × Int) := [(1, f 1), (2, f 2), (3, f 3), (4, f 4), (5, f 5), (6, f 6)]

theorem six_all : ∀ d : Fin 6, ((d.val : Nat) : Int) + 1 = 1 ∨ ((d.val : Nat) : Int) + 1 = 2 ∨ ((d.val : Nat) : Int) + 1 = 3 ∨ ((d.val : Nat) : Int) + 1 = 4 ∨ ((d.val : Nat) : Int) + 1 = 5 ∨ ((d.val : Nat) : Int) + 1 = 6 := by decide +kernel
theorem six {k : Int} (h1 : 1 ≤ k) (h2 : k ≤ 6) : k = 1 ∨ k = 2 ∨ k = 3 ∨ k = 4 ∨ k = 5 ∨ k = 6 := by
  obtain ⟨d, rfl⟩ := fin_at (n := 6) h1 h2
  exact six_all d

theorem c6_has {f : Int → Int} {k : Int} (h1 : 1 ≤ k) (h2 : k ≤ 6) : kdfHas (c6 f) k = true := by
  rcases six h1 h2 with rfl | rfl | rfl | rfl | rfl | rfl <;> rfl
theorem c6_look {f : Int → Int} {k : Int} (h1 : 1 ≤ k) (h2 : k ≤ 6) : kdfLook (c6 f) k 0 = f k := by
  rcases six h1 h2 with rfl | rfl | rfl | rfl | rfl | rfl <;> rfl
theorem c6_put {f : Int → Int} {k v : Int} (h1 : 1 ≤ k) (h2 : k ≤ 6) : kdfPut (c6 f) k v = c6 (fun i => if i = k then v else f i) := by
  rcases six h1 h2 with rfl | rfl | rfl | rfl | rfl | rfl <;> rfl

section
variable {prog : Program} {w : World} {A : Around} {E : Value → Shared → Prop} {s s₁ : Shared} {h₀ : Heap} {L d : Addr} {m : Str → Option Value} {news : List (Addr × Obj)} {o : Obj} {f : Int → Int} {k v : Int} {tk tv : Tok}

/-- a dict of the keys 1 to 6, the values by a function -/
def PDict (prog : Program) (w : World) (o : Obj) (f : Int → Int) : Prop := ∃ kvs, o.IsDictOf (intKind prog w) kvs ∧ FlatPairs PyData.int kvs (kdfD (c6 f))

theorem PDict.tab (hd : PDict prog w o f) {h : Heap} (hs : (d == sysModules) = false) (ho : h.get? d = some o) : IntTab prog w h d (kdfD (c6 f)) :=
  let ⟨kvs, h1, h2⟩ := hd
  ⟨hs, kvs, Heap.dictOf_iff.mpr ⟨o, ho, h1⟩, h2⟩

theorem pd_item (N : News h₀ L s.heap news) (hm : (d, o) ∈ news) (hd : PDict prog w o f) (hs : (d == sysModules) = false) (h1 : 1 ≤ k) (h2 : k ≤ 6) {value slice : Expr} {Q : Value → Shared → Prop}
    (h : ∀ t, Q (.int (f k) t) { s with toks := s.toks + 1 })
    (hsub : subscripted slice false (.ref d) (.int k tk) = operate [.ref d, .int k tk] (getItem (.ref d) (.int k tk)) := by with_unfolding_all rfl) (hg : ∀ r, letTemporaryGo value (.ref d) r = pure () := by intro _; with_unfolding_all rfl) :
    wpAny (model prog w) A (subscriptTail value slice (.ref d) (.int k tk)) Q E s :=
  kdf_item (hd.tab hs (N _ hm).1) (c6_has h1 h2) (fun t => by rw [c6_look h1 h2]; exact h t) hsub hg

theorem pd_set {u : Obj → List (Addr × Obj)} (F : Fr h₀ L s.heap m) (N : News h₀ L s.heap news) (U : UpdF d o news u) (hd : PDict prog w o f) (h1 : 1 ≤ k) (h2 : k ≤ 6) {Q : Unit → Shared → Prop}
    (h : ∀ h' o', Fr h₀ L h' m → News h₀ L h' (u o') → PDict prog w o' (fun i => if i = k then v else f i) → Q () { s with heap := h', toks := s.toks + 1 }) :
    wpAny (model prog w) A (setItem (.ref d) (.int k tk) (.int v tv)) Q E s := by
  obtain ⟨kvs, hk, hf⟩ := hd
  refine kdf_setItem F N U hk hf (by show (6 : Nat) ≤ 16777216; decide) fun h' o' kvs' F' N' hk' hf' => h h' o' F' N' ⟨kvs', hk', ?_⟩
  rw [c6_put h1 h2] at hf'
  exact hf'

theorem PDict.congr {g : Int → Int} (hd : PDict prog w o f) (h : ∀ k, 1 ≤ k → k ≤ 6 → f k = g k) : PDict prog w o g := by
  have e : c6 f = c6 g := by
    unfold c6
    rw [h 1 (by decide) (by decide), h 2 (by decide) (by decide), h 3 (by decide) (by decide), h 4 (by decide) (by decide), h 5 (by decide) (by decide), h 6 (by decide) (by decide)]
  obtain ⟨kvs, h1, h2⟩ := hd
  exact ⟨kvs, h1, e ▸ h2⟩
theorem PDict.keys (hd : PDict prog w o f) : ∃ kvs, o.IsDictOf (intKind prog w) kvs ∧ kvs.map (·.1) = [1, 2, 3, 4, 5, 6] := by
  obtain ⟨kvs, h1, h2⟩ := hd
  refine ⟨kvs, h1, ?_⟩
  have key : ∀ {kvs : List (Int × Value)} {c : List (Int × Int)}, FlatPairs PyData.int kvs (kdfD c) → kvs.map (·.1) = c.map (·.1) := by
    intro kvs c h
    induction c generalizing kvs with
    | nil => cases h; rfl
    | cons p c ih =>
      cases h with
      | cons hf hr => rw [List.map_cons, List.map_cons, ih hr]
  exact key h2

theorem six_idx {kvs : List (Int × Value)} (he : kvs.map (·.1) = [1, 2, 3, 4, 5, 6]) : kvs.length = 6 ∧ ∀ (i : Nat) (k : Int) (x : Value), kvs[i]? = some (k, x) → k = (i : Int) + 1 ∧ i < 6 := by
  have hl : kvs.length = 6 := by have := congrArg List.length he; simpa using this
  refine ⟨hl, fun i k x hx => ?_⟩
  have hi : i < kvs.length := by
    rcases Nat.lt_or_ge i kvs.length with h | h
    · exact h
    · rw [List.getElem?_eq_none h] at hx; cases hx
  rw [hl] at hi
  have h2 : (kvs.map (·.1))[i]? = some k := by rw [List.getElem?_map, hx]; rfl
  rw [he] at h2
  refine ⟨?_, hi⟩
  match i, hi with
  | 0, _ => simp at h2; omega
  | 1, _ => simp at h2; omega
  | 2, _ => simp at h2; omega
  | 3, _ => simp at h2; omega
  | 4, _ => simp at h2; omega
  | 5, _ => simp at h2; omega

theorem src_mono {xv : Value} {n : Nat} {P P' : Nat → Value → Prop} (h : Src prog w A xv s₁ n P) (hP : ∀ i v, i < n → P i v → P' i v) : Src prog w A xv s₁ n P' := fun Q E k =>
  h Q E fun fp St o W hst hfp hfr => k fp St o { sub := W.sub, frame := W.frame, done := W.done, self := W.self, item := fun i s Q E hi st hQ => W.item i s Q E hi st fun v h' tk hPv => hQ v h' tk (hP i v hi hPv) } hst hfp hfr

theorem pd_src (hh : A.handled = none) (N : News h₀ L s₁.heap news) (hm : (d, o) ∈ news) (hd : PDict prog w o f) (hs : (d == sysModules) = false) :
    Src prog w A (.ref d) s₁ 6 (fun i v => i < 6 ∧ ∃ t, v = .int ((i : Int) + 1) t) := by
  obtain ⟨kvs, hk, he⟩ := hd.keys
  obtain ⟨hl, hidx⟩ := six_idx he
  have := src_dict hh hs (Heap.dictOf_iff.mpr ⟨o, (N _ hm).1, hk⟩)
  rw [hl] at this
  refine src_mono this fun i v hi ⟨k, x, hx, hv⟩ => ⟨hi, ?_⟩
  obtain ⟨t, rfl⟩ := Value.isInt_shape hv
  rw [(hidx i k x hx).1]
  exact ⟨t, rfl⟩

theorem filter_tt (vs : List Value) : vs.filter (fun _ => true) = vs := List.filter_eq_self.mpr fun _ _ => rfl

/-- six stored items, by their places -/
theorem stored_six {FV : Value → Value → Prop} {g : Int → PyData} (hFV : ∀ k t y, 1 ≤ k → k ≤ 6 → FV (.int k t) y → Flat y (g k)) {vs : List Value} (hl : vs.length = 6) (hv : ∀ (j : Nat) (v : Value), vs[j]? = some v → ∃ t, v = .int ((j : Int) + 1) t) {kvs : List (Int × Value)}
    (h : StoredAll (fun v k => ∃ t, v = Value.int k t) FV vs kvs) : FlatPairs PyData.int kvs [(.int 1, g 1), (.int 2, g 2), (.int 3, g 3), (.int 4, g 4), (.int 5, g 5), (.int 6, g 6)] := by
  have app : ∀ {a : List (Int × Value)} {b : List (PyData × PyData)} {k : Int} {y : Value} {d : PyData}, FlatPairs PyData.int a b → Flat y d → FlatPairs PyData.int (a ++ [(k, y)]) (b ++ [(.int k, d)]) := by
    intro a b k y d ha hd
    induction ha with
    | nil => exact .cons hd .nil
    | cons h1 _ ih => exact .cons h1 ih
  have step : ∀ (n : Nat) (vs : List Value) (kvs : List (Int × Value)), vs.length = n → n ≤ 6 → (∀ (j : Nat) (v : Value), vs[j]? = some v → ∃ t, v = .int ((j : Int) + 1) t) → StoredAll (fun v k => ∃ t, v = Value.int k t) FV vs kvs →
      FlatPairs PyData.int kvs ((List.range n).map fun (i : Nat) => (PyData.int ((i : Int) + 1), g ((i : Int) + 1))) ∧ kvs.map (·.1) = (List.range n).map fun (i : Nat) => (i : Int) + 1 := by
    intro n
    induction n with
    | zero =>
      intro vs kvs hl _ _ h
      cases h with
      | nil => exact ⟨.nil, rfl⟩
      | snoc h1 _ _ => exact absurd hl (by rw [List.length_append]; exact Nat.succ_ne_zero _)
    | succ n ih =>
      intro vs kvs hl hn hv h
      cases h with
      | nil => exact absurd hl.symm (Nat.succ_ne_zero _)
      | @snoc l kvs v k y h1 hk hy =>
        have hl' : l.length = n := Nat.succ.inj ((List.length_append (as := l) (bs := [v])).symm.trans hl)
        obtain ⟨a, b⟩ := ih l kvs hl' (Nat.le_of_succ_le hn) (fun j u hu => hv j u (by
          rw [List.getElem?_append_left (by
            rcases Nat.lt_or_ge j l.length with h | h
            · exact h
            · rw [List.getElem?_eq_none h] at hu; cases hu)]; exact hu)) h1
        obtain ⟨t, rfl⟩ := hv n v (by rw [← hl', List.getElem?_concat_length])
        obtain ⟨t', e⟩ := hk
        cases e
        have hno : (kvs.any fun kv => kv.1 = (n : Int) + 1) = false := by
          rw [List.any_eq_false]
          intro p hp e2
          have hm : p.1 ∈ kvs.map (·.1) := List.mem_map_of_mem hp
          rw [b] at hm
          obtain ⟨i, hi, e⟩ := List.mem_map.mp hm
          have h3 := e.trans (of_decide_eq_true e2)
          have h4 := List.mem_range.mp hi
          clear hm e e2 hv ih h1
          omega
        have hst : stored kvs ((n : Int) + 1) y = kvs ++ [((n : Int) + 1, y)] := by unfold stored; rw [hno]; rfl
        rw [hst, List.range_succ, List.map_append, List.map_append, List.map_append, b]
        exact ⟨app a (hFV _ _ _ (by omega) (by omega) hy), rfl⟩
  exact (step 6 vs kvs hl (Nat.le_refl _) hv h).1

theorem pd_of_stored {FV : Value → Value → Prop} (hFV : ∀ k t y, 1 ≤ k → k ≤ 6 → FV (.int k t) y → ∃ t', y = .int (f k) t') {vs : List Value} (hl : vs.length = 6) (hv : ∀ (j : Nat) (v : Value), vs[j]? = some v → j < 6 ∧ ∃ t, v = .int ((j : Int) + 1) t) {kvs : List (Int × Value)}
    (h : StoredAll (fun v k => ∃ t, v = Value.int k t) FV (vs.filter fun _ => true) kvs) (ho : o.IsDictOf (intKind prog w) kvs) : PDict prog w o f := by
  rw [filter_tt] at h
  exact ⟨kvs, ho, stored_six (g := fun k => .int (f k)) (fun k t y h1 h2 hy => by obtain ⟨t', rfl⟩ := hFV k t y h1 h2 hy; exact .int _ _) hl (fun j v hj => (hv j v hj).2) h⟩
end
end
section
open PySem PySem.W PyProof.Rows PySem.Calls
set_option Elab.async false
set_option maxRecDepth 100000
set_option linter.unusedVariables false
section
variable {prog : Program} {w : World} {A : Around} {E : Value → Shared → Prop} {h : Heap} {gn : Array GenState} {dr : PySem.Drawn} {tk : Nat} {os : OsState} {a b : Int} {t u : Tok} {Q : Value → Shared → Prop}
theorem r_add (e : Q (.int (a + b) tk) ⟨h, gn, dr, tk + 1, os⟩) : wpAny (model prog w) A (binaryOp .Add (.int a t) (.int b u)) Q E ⟨h, gn, dr, tk, os⟩ := PyProof.Rows.add_int e
theorem r_sub (e : Q (.int (a - b) tk) ⟨h, gn, dr, tk + 1, os⟩) : wpAny (model prog w) A (binaryOp .Sub (.int a t) (.int b u)) Q E ⟨h, gn, dr, tk, os⟩ := PyProof.Rows.sub_int e
theorem r_mul (hb : -1000000000000000 ≤ b ∧ b ≤ 1000000000000000) (e : Q (.int (a * b) tk) ⟨h, gn, dr, tk + 1, os⟩) : wpAny (model prog w) A (binaryOp .Mult (.int a t) (.int b u)) Q E ⟨h, gn, dr, tk, os⟩ :=
  PyProof.Rows.mul_int e (PySem.IntMulOk.of_right (PySem.intBits_le_64 (by omega) (by omega)))
theorem r_mod (hb : 0 < b) (e : Q (.int (a % b) tk) ⟨h, gn, dr, tk + 1, os⟩) : wpAny (model prog w) A (binaryOp .Mod (.int a t) (.int b u)) Q E ⟨h, gn, dr, tk, os⟩ :=
  PyProof.Rows.mod_int (by omega) (by rw [Int.fmod_eq_emod_of_nonneg a (Int.le_of_lt hb)]; exact e)
theorem r_fdiv (hb : 0 < b) (hb' : b < 1000000) (e : Q (.int (a / b) tk) ⟨h, gn, dr, tk + 1, os⟩) : wpAny (model prog w) A (binaryOp .FloorDiv (.int a t) (.int b u)) Q E ⟨h, gn, dr, tk, os⟩ :=
  PyProof.Rows.floordiv_int (by omega) (by rw [Int.fdiv_eq_ediv_of_nonneg a (Int.le_of_lt hb)]; exact e) (Or.inl (PyProof.noPylong_small (by omega)))
theorem r_pow (h0 : 0 ≤ b) (h1 : b ≤ 8) (e : Q (.int (10 ^ b.toNat) tk) ⟨h, gn, dr, tk + 1, os⟩) : wpAny (model prog w) A (binaryOp .Pow (.int 10 t) (.int b u)) Q E ⟨h, gn, dr, tk, os⟩ :=
  PyProof.Rows.pow_int h0 (by show (4 : Int) * b ≤ 2 ^ 27; omega) e
theorem r_cst {M : Model} {i k pos env} (e : Q (.int i tk) ⟨h, gn, dr, tk + 1, os⟩) : wpAny M A (eval (.Constant (.int i) k pos) env) Q E ⟨h, gn, dr, tk, os⟩ := wpAny_Constant_int e
/-- an item of a list of the ledger at a written place -/
theorem r_item {value slice : Expr} {s : Shared} {h₀ : Heap} {L l : Addr} {news : List (Addr × Obj)} {vs : Array Value} {n : Nat} {k : Int} {u : Tok} {v : Value} (N : News h₀ L s.heap news) (hm : (l, listOf vs n) ∈ news) {r : List Value} (hx : vs.toList.drop k.toNat = v :: r) (hk : decide (0 ≤ k ∧ k < 1000) = true) (e : Q v s)
    (hs : subscripted slice false (.ref l) (.int k u) = operate [.ref l, .int k u] (getItem (.ref l) (.int k u)) := by with_unfolding_all rfl) :
    wpAny (model prog w) A (subscriptTail value slice (.ref l) (.int k u)) Q E s := by
  have hk := of_decide_eq_true hk
  have hl : s.heap.IsList l vs := News.isList N hm
  exact tail_any hl.typeIs slot_list_getitem.lookup (wpAny_getItem_list hl hk.1 (by have := hk.2; omega) (by rw [← Array.getElem?_toList, ← Nat.add_zero k.toNat, ← List.getElem?_drop, hx]; rfl) e) hs
end
section
variable {w : World} {k : Nat} {f : Addr} {sub : List (Addr × Obj)} {args : List Value} {loose : List Str} {mean : ExcName → Option Value} {mg mb : Str → Option Value} {dp un : Nat} {gd : Option (List Code)} {cn : Str} {cs : Scope} {a : Addr} {ccd : Value} {cl : List (Str × Addr)} {outer : List Env} {A₀ : Around} {base h₀ : Heap} {L : Addr} {m : Str → Option Value} {news : List (Addr × Obj)} {Q E : Value → Shared → Prop}
/-- the call of a def that hands back an int and makes nothing -/
theorem use_int {e : Int} {h : Heap} {gn : Array GenState} {dr : PySem.Drawn} {tk : Nat} {os : OsState} (H : Does w k f sub args (fun tl v => tl = [] ∧ ∃ t, v = .int e t)) (B : Below A₀ base outer h₀) (F : Fr h₀ L h m) (X : (heap9 w.params).In h₀) (N : News h₀ L h news) (T : Top topProg loose mean mg mb h₀) (hk : cs.kind = .function) (hsub : ∀ p ∈ sub, p ∈ news) (hd : dp + k < recursionLimit) (hu : un + 8 * k < cLine)
    (hret : ∀ t h' tk', Fr h₀ L h' m → News h₀ L h' news → Q (.int e t) ⟨h', gn, dr, tk', os⟩) : wpAny (model PySem.Challenge.rw_zd0006_01.row.prog w) (ktrTop dp un gd cn cs L a ccd cl outer) (call (.ref f) args) Q E ⟨h, gn, dr, tk, os⟩ :=
  H _ _ _ _ _ _ _ _ _ _ _ _ _ _ _ _ _ _ _ _ _ _ B F X N T hk hsub hd hu fun v tl h' tk' p F' N' _ _ => by
    obtain ⟨rfl, t, rfl⟩ := p
    exact hret t h' tk' F' N'
theorem use_intK {e : Int} {h : Heap} {gn : Array GenState} {dr : PySem.Drawn} {tk : Nat} {os : OsState} (H : Does w k f sub args (fun tl v => tl = [] ∧ ∃ t, v = .int e t)) (B : Below A₀ base outer h₀) (F : Fr h₀ L h m) (X : (heap9 w.params).In h₀) (N : News h₀ L h news) (T : Top topProg loose mean mg mb h₀) (hk : cs.kind = .function) (hsub : ∀ p ∈ sub, p ∈ news) (hd : dp + k < recursionLimit) (hu : un + 8 * k < cLine)
    (hret : ∀ t h' tk', Fr h₀ L h' m → News h₀ L h' news → (∀ b o, h.get? b = some o → h'.get? b = some o) → Q (.int e t) ⟨h', gn, dr, tk', os⟩) : wpAny (model PySem.Challenge.rw_zd0006_01.row.prog w) (ktrTop dp un gd cn cs L a ccd cl outer) (call (.ref f) args) Q E ⟨h, gn, dr, tk, os⟩ :=
  H _ _ _ _ _ _ _ _ _ _ _ _ _ _ _ _ _ _ _ _ _ _ B F X N T hk hsub hd hu fun v tl h' tk' p F' N' _ kk => by
    obtain ⟨rfl, t, rfl⟩ := p
    exact hret t h' tk' F' N' kk
theorem use_val {P : Value → Prop} {h : Heap} {gn : Array GenState} {dr : PySem.Drawn} {tk : Nat} {os : OsState} (H : Does w k f sub args (fun tl v => tl = [] ∧ P v)) (B : Below A₀ base outer h₀) (F : Fr h₀ L h m) (X : (heap9 w.params).In h₀) (N : News h₀ L h news) (T : Top topProg loose mean mg mb h₀) (hk : cs.kind = .function) (hsub : ∀ p ∈ sub, p ∈ news) (hd : dp + k < recursionLimit) (hu : un + 8 * k < cLine)
    (hret : ∀ v h' tk', P v → Fr h₀ L h' m → News h₀ L h' news → Q v ⟨h', gn, dr, tk', os⟩) : wpAny (model PySem.Challenge.rw_zd0006_01.row.prog w) (ktrTop dp un gd cn cs L a ccd cl outer) (call (.ref f) args) Q E ⟨h, gn, dr, tk, os⟩ :=
  H _ _ _ _ _ _ _ _ _ _ _ _ _ _ _ _ _ _ _ _ _ _ B F X N T hk hsub hd hu fun v tl h' tk' p F' N' _ _ => by
    obtain ⟨rfl, p⟩ := p
    exact hret v h' tk' p F' N'
end
/-- a frame's names: some told, the rest as they are -/
abbrev tab (kv : List (Str × Value)) (m : Str → Option Value) : Str → Option Value := fun y => match kv.lookup y with | some v => some v | none => m y
section
variable {prog : Program} {w : World} {A : Around} {E : Value → Shared → Prop} {h₀ hh : Heap} {gn : Array GenState} {dr : PySem.Drawn} {tk : Nat} {os : OsState} {env : Env} {L : Addr} {m : Str → Option Value} {news : List (Addr × Obj)} {body : List Stmt} {Q : Flow → Shared → Prop}
/-- for x in range(..), by an invariant of the ledger; kv: the names that the body leaves alone -/
theorem for_range {r : Addr} {a c : Int} {t u v : Tok} {x : Str} {px : Pos} (n : Nat) (kv : List (Str × Value)) (J : Nat → List (Addr × Obj) → Prop) (hA : A.handled = none) (hr : IsRange hh r a c 1 t u v) (hsm : Builtin.Range.small a c 1 = true) (hn : Builtin.Range.rangeSize a c 1 = ((n : Nat) : Int))
    (F : Fr h₀ L hh m) (N : News h₀ L hh news) (hkv : ∀ p ∈ kv, m p.1 = some p.2) (h0 : J 0 news)
    (step : ∀ i t m₁ news₁ IT oI h₁ tk₁ (Q' : Flow → Shared → Prop), i < n → J i news₁ → Fr h₀ L h₁ (tab kv m₁) → News h₀ L h₁ ((IT, oI) :: news₁) → OffI IT news₁ →
      (∀ h' tk' m' news', Fr h₀ L h' m' → News h₀ L h' ((IT, oI) :: news') → OffI IT news' → (∀ p ∈ kv, m' p.1 = some p.2) → J (i + 1) news' → Q' .next ⟨h', gn, dr, tk', os⟩) → (∀ v s, Q (.ret v) s → Q' (.ret v) s) →
      wpAny (model prog w) A (assign (.Name x px) env (.int (a + i) t)) (fun _ s₃ => wpAny (model prog w) A (execs body env) Q' E s₃) E ⟨h₁, gn, dr, tk₁, os⟩)
    (fin : ∀ h' tk m' news', J n news' → Fr h₀ L h' (tab kv m') → News h₀ L h' news' → Q .next ⟨h', gn, dr, tk, os⟩) :
    wpAny (model prog w) A (pyIter (.ref r)) (fun it s₂ => ForBy prog w A env (.Name x px) body Q E it s₂) E ⟨hh, gn, dr, tk, os⟩ := by
  refine by_range (s := ⟨hh, gn, dr, tk, os⟩) hA hr hsm hn F N (fun i b m' news' => b = h₀ ∧ (∀ p ∈ kv, m' p.1 = some p.2) ∧ J i news') ⟨rfl, hkv, h0⟩ (fun i t b m₁ news₁ IT oI h₁ tk₁ hi hJ Fx Nx ox => ?_) fun b h' tk' m' news' hJ Fx Nx => ?_
  · obtain ⟨rfl, hk, hJ⟩ := hJ
    exact step i t m₁ news₁ IT oI h₁ tk₁ _ hi hJ (fr_tab Fx kv hk) Nx ox (fun h' tk' m' news' F' N' o' k' j' => ⟨_, h', tk', m', news', rfl, F', N', o', rfl, k', j'⟩) fun v s q => q
  · obtain ⟨rfl, hk, hJ⟩ := hJ
    exact fin h' tk' m' news' hJ (fr_tab Fx kv hk) Nx
end
section
variable {prog : Program} {w : World} {A : Around} {E : Value → Shared → Prop} {h₀ h : Heap} {gn : Array GenState} {dr : PySem.Drawn} {tk : Nat} {os : OsState} {L d : Addr} {m : Str → Option Value} {news : List (Addr × Obj)} {k v : Int} {tv u : Tok} {o : Obj} {f : Int → Int}
theorem r_ditem (N : News h₀ L h news) (hm : (d, o) ∈ news) (hd : PDict prog w o f) (hs : (d == sysModules) = false) (h1 : 1 ≤ k) (h2 : k ≤ 6) {value slice : Expr} {Q : Value → Shared → Prop}
    (e : ∀ t, Q (.int (f k) t) ⟨h, gn, dr, tk + 1, os⟩)
    (hsub : subscripted slice false (.ref d) (.int k u) = operate [.ref d, .int k u] (getItem (.ref d) (.int k u)) := by with_unfolding_all rfl) (hg : ∀ r, letTemporaryGo value (.ref d) r = pure () := by intro _; with_unfolding_all rfl) :
    wpAny (model prog w) A (subscriptTail value slice (.ref d) (.int k u)) Q E ⟨h, gn, dr, tk, os⟩ := pd_item (s := ⟨h, gn, dr, tk, os⟩) N hm hd hs h1 h2 e hsub hg
theorem r_dset {g : Obj → List (Addr × Obj)} (F : Fr h₀ L h m) (N : News h₀ L h news) (U : UpdF d o news g) (hd : PDict prog w o f) (h1 : 1 ≤ k) (h2 : k ≤ 6) {Q : Unit → Shared → Prop}
    (e : ∀ h' o', Fr h₀ L h' m → News h₀ L h' (g o') → PDict prog w o' (fun i => if i = k then v else f i) → Q () ⟨h', gn, dr, tk + 1, os⟩) :
    wpAny (model prog w) A (setItem (.ref d) (.int k u) (.int v tv)) Q E ⟨h, gn, dr, tk, os⟩ := pd_set (s := ⟨h, gn, dr, tk, os⟩) F N U hd h1 h2 e
end
theorem rm {a b c R : Nat} (h : a + b < R) (e : Nat.ble c b = true) : a + c < R := Nat.lt_of_le_of_lt (Nat.add_le_add_left (Nat.le_of_ble_eq_true e) a) h
end
section
open PySem PySem.W PyProof.Rows PySem.Calls
set_option Elab.async false
set_option maxRecDepth 100000
set_option linter.unusedVariables false
section
variable {prog : Program} {w : World} {A : Around} {E : Value → Shared → Prop} {s : Shared} {env : Env} {h₀ : Heap} {L : Addr} {m : Str → Option Value} {news : List (Addr × Obj)}

/-- x = value, by what the value is -/
theorem Assign_eval_N {x : Str} {px spos : Pos} {value : Expr} {Q : Flow → Shared → Prop} (P : Value → Prop) (F : Fr h₀ L s.heap m) (N : News h₀ L s.heap news) (hLe : env.locals = L) (hx : env.kindOf x = some .local)
    (hp : (env.scope.kind == .class || (env.scope.kind == .module && env.locals != env.globals)) = false)
    (hs : swapsWith value (some (.Name x px)) spos.line env = pure false)
    (he : wpAny (model prog w) A (eval value env) (fun v s' => Stop (P v ∧ Keeps s s')) E s)
    (h : ∀ v h' tk, P v → Fr h₀ L h' (fun y => if y = x then some v else m y) → News h₀ L h' news → Q .next { s with heap := h', toks := tk }) :
    wpAny (model prog w) A (exec (.Assign [.Name x px] value spos) env) Q E s := by
  refine wpAny_Assign_Name (wpAny_mono he (fun v s₁ h₁ => ?_) fun _ _ e => e) hs
  obtain ⟨hP, h₁', tk, rfl, hk⟩ := h₁
  have F₁ := F.keeps hk
  have N₁ := N.grown hk
  refine wpAny_storeName_local hx (by rw [hLe]; exact F₁.ns) (fun h' hns hsb => ?_) hp
  rw [hLe] at hns hsb
  have hL₀ : h₀.get? L = none := Heap.get?_none_of_le F.above
  refine h v h' _ hP ⟨hns, fun b o e => hsb.extBut b o (fun q => by rw [q, hL₀] at e; cases e) (F₁.keep b o e), F.above⟩ fun q hq => ⟨hsb.extBut _ _ (N₁ q hq).2.1 (N₁ q hq).1, (N₁ q hq).2⟩

/-- if test: x = value, met again behind -/
theorem If_set_N {x : Str} {test : Expr} {body : List Stmt} {pos : Pos} {v₀ : Value} {Q : Flow → Shared → Prop} (P : Value → Prop) (F : Fr h₀ L s.heap m) (N : News h₀ L s.heap news) (hm : m x = some v₀)
    (he : wpAny (model prog w) A (isTrue test env (eval test env)) (fun b s₂ => if b then wpAny (model prog w) A (execs body env) (fun fl s' => Stop (fl = .next ∧ ∃ v h' tk, P v ∧ s' = { s with heap := h', toks := tk } ∧ Fr h₀ L h' (fun y => if y = x then some v else m y) ∧ News h₀ L h' news)) E s₂
      else Stop (P v₀ ∧ Keeps s s₂)) E s)
    (h : ∀ v h' tk, P v → Fr h₀ L h' (fun y => if y = x then some v else m y) → News h₀ L h' news → Q .next { s with heap := h', toks := tk }) :
    wpAny (model prog w) A (exec (.If test body [] pos) env) Q E s := by
  refine wpAny_If (wpAny_mono he (fun b s₂ h₂ => ?_) fun _ _ e => e)
  cases b with
  | true =>
    refine wpAny_mono h₂ (fun fl s' h' => ?_) fun _ _ e => e
    obtain ⟨rfl, v, h₁, tk, hP, rfl, F', N'⟩ := h'
    exact h v h₁ tk hP F' N'
  | false =>
    obtain ⟨hP, h₁, tk, rfl, hk⟩ := h₂
    have e : (fun y => if y = x then some v₀ else m y) = m := by
      funext y
      by_cases hy : y = x
      · rw [if_pos hy, hy, hm]
      · rw [if_neg hy]
    exact wpAny_execs_nil (h v₀ h₁ tk hP (by rw [e]; exact F.keeps hk) (N.grown hk))

theorem append_U {D : Addr} {its : Array Value} {n : Nat} {v : Value} {u : Obj → List (Addr × Obj)} {Q : Value → Shared → Prop} (F : Fr h₀ L s.heap m) (N : News h₀ L s.heap news) (U : UpdF D (listOf its n) news u)
    (h : ∀ h', Fr h₀ L h' m → News h₀ L h' (u (listOf (its.push v) (n + 1))) → Q .none { s with heap := h' }) (hsz : its.size ≤ sizeLine) :
    wpAny (model prog w) A (call (.builtin "list.append") [.ref D, v]) Q E s := by
  obtain ⟨pre, post, rfl, hg, a, b⟩ := U.split
  have hm := N (D, listOf its n) (List.mem_append_right _ (.head _))
  refine append_at (hsz := hsz) hm.1 fun h' hs ho' => ?_
  exact h h' (F.change hs hm.2.1 hm.2.2) (hg _ ▸ N.setIn a b hs ho')
theorem off_swap {IT T : Addr} {o o' : Obj} {rest : List (Addr × Obj)} (h : OffI IT ((T, o) :: rest)) : OffI IT ((T, o') :: rest) := fun q hq => by
  rcases List.mem_cons.mp hq with rfl | hq
  · exact h (T, o) (.head _)
  · exact h _ (.tail _ hq)
theorem snoc_at {l : List Value} {v : Value} {j : Nat} (h : l.length = j) : (l ++ [v])[j]? = some v := by rw [← h, List.getElem?_concat_length]
theorem push_snoc (l : List Value) (v : Value) : (List.toArray l).push v = List.toArray (l ++ [v]) := by simp
end
end
section
open PySem PySem.W PyProof.Rows PySem.Calls
set_option Elab.async false
set_option maxRecDepth 100000
set_option linter.unusedVariables false
section
variable {prog : Program} {w : World} {A : Around} {E : Value → Shared → Prop} {h₀ hh : Heap} {gn : Array GenState} {dr : PySem.Drawn} {tk : Nat} {os : OsState} {env : Env} {m : Str → Option Value} {news : List (Addr × Obj)} {body : List Stmt} {Q : Flow → Shared → Prop} {elts : List Expr} {kx : Nat} {pos : Pos}
theorem enum_rest {l I : Addr} {vs : List Value} {n : Nat} (kv : List (Str × Value)) (J : Nat → List (Addr × Obj) → Prop) (hJ : ∀ i news, J i news → (l, listOf vs.toArray n) ∈ news)
    (step : ∀ i x T t o₁ o₂ m₁ news₁ h₁ tk₁ (Q' : Flow → Shared → Prop), vs[i]? = some x → J i news₁ → IsTup h₁ T #[.int (i : Int) t, x] → Fr h₀ env.locals h₁ (tab kv m₁) → News h₀ env.locals h₁ ((I + 1, o₁) :: (I, o₂) :: news₁) → (∀ p ∈ news₁, p.1 < I) →
      (∀ h' tk' m' news', Fr h₀ env.locals h' m' → News h₀ env.locals h' ((I + 1, o₁) :: (I, o₂) :: news') → (∀ p ∈ news', p.1 < I) → (∀ p ∈ kv, m' p.1 = some p.2) → J (i + 1) news' → Q' .next ⟨h', gn, dr, tk', os⟩) → (∀ v s, Q (.ret v) s → Q' (.ret v) s) →
      wpAny (model prog w) A (assign (.Tuple elts kx pos) env (.ref T)) (fun _ s₃ => wpAny (model prog w) A (execs body env) Q' E s₃) E ⟨h₁, gn, dr, tk₁, os⟩)
    (fin : ∀ h' tk m' news', J vs.length news' → Fr h₀ env.locals h' (tab kv m') → News h₀ env.locals h' news' → Q .next ⟨h', gn, dr, tk, os⟩) :
    ∀ (r : List Value) (i : Nat) (m₁ : Str → Option Value) (news₁ : List (Addr × Obj)), vs.drop i = r → i ≤ vs.length → J i news₁ → (∀ p ∈ news₁, p.1 < I) → (∀ p ∈ kv, m₁ p.1 = some p.2) →
      ItemsRest prog w A E h₀ env (.Tuple elts kx pos) body Q ⟨hh, gn, dr, tk, os⟩ [(I + 1, "enumerate"), (I, "list_iterator")] [(l, listOf vs.toArray n)] (enumItems i r) m₁ news₁
  | [], i, m₁, news₁, hr, hi, hj, hl, hk => by
    have e : i = vs.length := by have := congrArg List.length hr; simp only [List.length_drop, List.length_nil] at this; omega
    exact ItemsRest.zero fun h tk F N => fin h tk m₁ news₁ (e ▸ hj) (fr_tab F kv hk) N
  | x :: r, i, m₁, news₁, hr, hi, hj, hl, hk => by
    have hx : vs[i]? = some x := by rw [← Nat.add_zero i, ← List.getElem?_drop, hr]; rfl
    have hlt : i < vs.length := (List.getElem?_eq_some_iff.mp hx).1
    refine ItemsRest.pair fun T t h tk ht F => AllObj.cons fun o₁ c₁ => AllObj.cons fun o₂ c₂ => AllObj.nil fun N => ?_
    refine step i x T t o₁ o₂ m₁ news₁ h tk _ hx hj ht (fr_tab F kv hk) N hl (fun h' tk' m' news' F' N' l' k' j' => ?_) fun v s q => q
    refine ⟨h', tk', m', news', rfl, F', N', fun p hp q hq => ?_, And.intro (hJ _ _ j') trivial, enum_rest kv J hJ step fin r (i + 1) m' news' ?_ hlt j' l' k'⟩
    · have hp' := l' p hp
      rcases List.mem_cons.mp hq with rfl | hq
      · exact Nat.ne_of_lt (Nat.lt_succ_of_lt hp')
      · cases List.mem_singleton.mp hq; exact Nat.ne_of_lt hp'
    · rw [← List.drop_drop, hr]; rfl
/-- for a, b in enumerate(l): by an invariant of the ledger -/
theorem for_enum {l : Addr} {vs : List Value} {n : Nat} (kv : List (Str × Value)) (J : Nat → List (Addr × Obj) → Prop) (hA : A.handled = none) (F : Fr h₀ env.locals hh m) (N : News h₀ env.locals hh news) (hm : (l, listOf vs.toArray n) ∈ news) (hJ : ∀ i news, J i news → (l, listOf vs.toArray n) ∈ news) (hkv : ∀ p ∈ kv, m p.1 = some p.2) (h0 : J 0 news)
    (step : ∀ I i x T t o₁ o₂ m₁ news₁ h₁ tk₁ (Q' : Flow → Shared → Prop), vs[i]? = some x → J i news₁ → IsTup h₁ T #[.int (i : Int) t, x] → Fr h₀ env.locals h₁ (tab kv m₁) → News h₀ env.locals h₁ ((I + 1, o₁) :: (I, o₂) :: news₁) → (∀ p ∈ news₁, p.1 < I) →
      (∀ h' tk' m' news', Fr h₀ env.locals h' m' → News h₀ env.locals h' ((I + 1, o₁) :: (I, o₂) :: news') → (∀ p ∈ news', p.1 < I) → (∀ p ∈ kv, m' p.1 = some p.2) → J (i + 1) news' → Q' .next ⟨h', gn, dr, tk', os⟩) → (∀ v s, Q (.ret v) s → Q' (.ret v) s) →
      wpAny (model prog w) A (assign (.Tuple elts kx pos) env (.ref T)) (fun _ s₃ => wpAny (model prog w) A (execs body env) Q' E s₃) E ⟨h₁, gn, dr, tk₁, os⟩)
    (fin : ∀ h' tk m' news', J vs.length news' → Fr h₀ env.locals h' (tab kv m') → News h₀ env.locals h' news' → Q .next ⟨h', gn, dr, tk, os⟩) :
    wpAny (model prog w) A (call (.type "enumerate") [.ref l]) (fun xv s₁ => wpAny (model prog w) A (pyIter xv) (fun it s₂ => TurnsAt prog w A h₀ env (.Tuple elts kx pos) body Q E it s₂) E s₁) E ⟨hh, gn, dr, tk, os⟩ :=
  ktu_enum (lo := listOf vs.toArray n) (s := ⟨hh, gn, dr, tk, os⟩) hA F N hm rfl rfl rfl fun I hI => enum_rest kv J hJ (step I) fin vs 0 m news rfl (Nat.zero_le _) h0 hI hkv
end
section
variable {prog : Program} {w : World} {A : Around} {E : Value → Shared → Prop} {h₀ h : Heap} {gn : Array GenState} {dr : PySem.Drawn} {tk : Nat} {os : OsState} {L D : Addr} {m : Str → Option Value} {news : List (Addr × Obj)} {ds : Array Value} {n i : Nat} {u : Tok} {v : Value}
theorem r_at {s : Shared} {value slice : Expr} {Q : Value → Shared → Prop} (N : News h₀ L s.heap news) (hm : (D, listOf ds n) ∈ news) (hx : ds[i]? = some v) (hi : i < 1000) (e : Q v s)
    (hs : subscripted slice false (.ref D) (.int i u) = operate [.ref D, .int i u] (getItem (.ref D) (.int i u)) := by with_unfolding_all rfl) :
    wpAny (model prog w) A (subscriptTail value slice (.ref D) (.int i u)) Q E s := by
  have hl : s.heap.IsList D ds := News.isList N hm
  exact tail_any hl.typeIs slot_list_getitem.lookup (wpAny_getItem_list hl (Int.natCast_nonneg i) (by omega) (by rw [Int.toNat_natCast]; exact hx) e) hs
theorem r_set {g : Obj → List (Addr × Obj)} {Q : Unit → Shared → Prop} (F : Fr h₀ L h m) (N : News h₀ L h news) (U : UpdF D (listOf ds n) news g) (hi : i < ds.size) (hi' : i < 1000)
    (e : ∀ h', Fr h₀ L h' m → News h₀ L h' (g (listOf (ds.setIfInBounds i v) n)) → Q () ⟨h', gn, dr, tk, os⟩) :
    wpAny (model prog w) A (setItem (.ref D) (.int i u) v) Q E ⟨h, gn, dr, tk, os⟩ := by
  obtain ⟨pre, post, rfl, hg, a, b⟩ := U.split
  have z := N (D, listOf ds n) (List.mem_append_right _ (.head _))
  refine ki_setAt (s := ⟨h, gn, dr, tk, os⟩) z.1 (Int.natCast_nonneg i) (by omega) (by omega) (e _ (F.change (Heap.SameBut.update ..) z.2.1 z.2.2) (hg _ ▸ ki_turn _ N a b (by rw [Int.toNat_natCast]) (by rw [Array.size_setIfInBounds, beq_self_eq_true, if_pos rfl])))
end
section
variable {prog : Program} {w : World} {A : Around} {E : Value → Shared → Prop} {h₀ h : Heap} {gn : Array GenState} {dr : PySem.Drawn} {tk : Nat} {os : OsState} {L : Addr} {m : Str → Option Value} {news : List (Addr × Obj)} {env : Env}
/-- x = value, by a function of the value: the ways meet again -/
theorem r_assign {x : Str} {px spos : Pos} {value : Expr} {Q : Flow → Shared → Prop} (y : Str) (F : Fr h₀ L h m) (N : News h₀ L h news) (hLe : env.locals = L) (hx : env.kindOf x = some .local)
    (hp : (env.scope.kind == .class || (env.scope.kind == .module && env.locals != env.globals)) = false)
    (hs : swapsWith value (some (.Name x px)) spos.line env = pure false)
    (he : wpAny (model prog w) A (eval value env) (fun v s' => Stop ((∃ t, v = .str y t) ∧ Keeps ⟨h, gn, dr, tk, os⟩ s')) E ⟨h, gn, dr, tk, os⟩)
    (e : ∀ t h' tk, Fr h₀ L h' (fun z => if z = x then some (.str y t) else m z) → News h₀ L h' news → Q .next ⟨h', gn, dr, tk, os⟩) :
    wpAny (model prog w) A (exec (.Assign [.Name x px] value spos) env) Q E ⟨h, gn, dr, tk, os⟩ :=
  Assign_eval_N (fun v => ∃ t, v = .str y t) F N hLe hx hp hs he fun v h' tk hP F' N' => by obtain ⟨t, rfl⟩ := hP; exact e t h' tk F' N'
theorem r_ifset {x : Str} {test : Expr} {body : List Stmt} {pos : Pos} {v₀ : Value} {Q : Flow → Shared → Prop} (y : Str) (F : Fr h₀ L h m) (N : News h₀ L h news) (hm : m x = some v₀)
    (he : wpAny (model prog w) A (isTrue test env (eval test env)) (fun b s₂ => if b then wpAny (model prog w) A (execs body env) (fun fl s' => Stop (fl = .next ∧ ∃ v h' tk', (∃ t, v = .str y t) ∧ s' = ⟨h', gn, dr, tk', os⟩ ∧ Fr h₀ L h' (fun z => if z = x then some v else m z) ∧ News h₀ L h' news)) E s₂
      else Stop ((∃ t, v₀ = .str y t) ∧ Keeps ⟨h, gn, dr, tk, os⟩ s₂)) E ⟨h, gn, dr, tk, os⟩)
    (e : ∀ t h' tk, Fr h₀ L h' (fun z => if z = x then some (.str y t) else m z) → News h₀ L h' news → Q .next ⟨h', gn, dr, tk, os⟩) :
    wpAny (model prog w) A (exec (.If test body [] pos) env) Q E ⟨h, gn, dr, tk, os⟩ :=
  If_set_N (fun v => ∃ t, v = .str y t) F N hm he fun v h' tk hP F' N' => by obtain ⟨t, rfl⟩ := hP; exact e t h' tk F' N'
theorem r_append {D : Addr} {its : List Value} {n : Nat} {v : Value} {g : Obj → List (Addr × Obj)} {Q : Value → Shared → Prop} (F : Fr h₀ L h m) (N : News h₀ L h news) (U : UpdF D (listOf (List.toArray its) n) news g) (hsz : its.length ≤ 1000)
    (e : ∀ h', Fr h₀ L h' m → News h₀ L h' (g (listOf (List.toArray (its ++ [v])) (n + 1))) → Q .none ⟨h', gn, dr, tk, os⟩) :
    wpAny (model prog w) A (call (.builtin "list.append") [.ref D, v]) Q E ⟨h, gn, dr, tk, os⟩ :=
  append_U (s := ⟨h, gn, dr, tk, os⟩) F N U (fun h' F' N' => e h' F' (by rw [push_snoc] at N'; exact N')) (by rw [List.size_toArray, sizeLine_eq]; omega)
end
section
variable {prog : Program} {w : World} {A : Around} {E : Value → Shared → Prop} {h : Heap} {gn : Array GenState} {dr : PySem.Drawn} {tk : Nat} {os : OsState} {x y : Str} {t u : Tok} {a b : Nat} {Q : Value → Shared → Prop}
/-- two texts of known lengths, glued -/
theorem r_cat (hx : x.length ≤ a) (hy : y.length ≤ b) (hab : Nat.ble (a + b) 1000 = true) (e : ∀ t' k, (x ++ y).length ≤ a + b → Q (.str (x ++ y) t') ⟨h, gn, dr, k, os⟩) :
    wpAny (model prog w) A (binaryOp .Add (.str x t) (.str y u)) Q E ⟨h, gn, dr, tk, os⟩ :=
  PyProof.Rows.add_str (s := ⟨h, gn, dr, tk, os⟩) (fun t' k => e t' k (by rw [PySem.Str.length_append]; exact Nat.add_le_add hx hy)) (Nat.le_trans (Nat.add_le_add hx hy) (Nat.le_trans (Nat.le_of_ble_eq_true hab) (by rw [sizeLine_eq]; decide)))
end
end
section
open PySem PySem.W PyProof.Rows PySem.Calls
set_option Elab.async false
set_option maxRecDepth 100000
set_option linter.unusedVariables false
/-- addresses that are all different -/
def Apart (as : List Addr) : Prop := as.Pairwise fun a b => (a : Nat) ≠ b
theorem Apart.push {d : Addr} {news : List (Addr × Obj)} (h : ∀ q ∈ news, (q.1 : Nat) ≠ d) (ap : Apart (news.map (·.1))) : Apart (d :: news.map (·.1)) :=
  List.Pairwise.cons (fun a ha => by obtain ⟨q, hq, rfl⟩ := List.mem_map.mp ha; exact fun e => h q hq e.symm) ap
theorem Apart.above {d : Addr} {news : List (Addr × Obj)} (h : ∀ q ∈ news, q.1 < d) (ap : Apart (news.map (·.1))) : Apart (d :: news.map (·.1)) :=
  ap.push fun q hq => Nat.ne_of_lt (h q hq)
theorem Apart.ne {as : List Addr} (ap : Apart as) (i j : Nat) {a b : Addr} (hij : i < j) (ha : as[i]? = some a) (hb : as[j]? = some b) : (a : Nat) ≠ b := by
  obtain ⟨hi, rfl⟩ := List.getElem?_eq_some_iff.mp ha
  obtain ⟨hj, rfl⟩ := List.getElem?_eq_some_iff.mp hb
  exact List.pairwise_iff_getElem.mp ap i j hi hj hij
/-- one object of a ledger turned, by its place -/
theorem Apart.upd {d : Addr} {o : Obj} : ∀ (n : Nat) {news : List (Addr × Obj)}, Apart (news.map (·.1)) → news[n]? = some (d, o) → UpdF d o news fun o' => news.set n (d, o')
  | 0, p :: r, ap, h => by
    cases h
    exact UpdF.head fun q hq e => (List.pairwise_cons.mp ap).1 q.1 (List.mem_map_of_mem hq) e.symm
  | n + 1, p :: r, ap, h => by
    have hm : (d, o) ∈ r := List.mem_of_getElem? h
    exact UpdF.tail (fun e => (List.pairwise_cons.mp ap).1 d (List.mem_map_of_mem (f := (·.1)) hm) e) (Apart.upd n (List.pairwise_cons.mp ap).2 h)
section
variable {w : World} {k : Nat} {f : Addr} {sub : List (Addr × Obj)} {args : List Value} {P : List (Addr × Obj) → Value → Prop} {loose : List Str} {mean : ExcName → Option Value} {mg mb : Str → Option Value} {dp un : Nat} {gd : Option (List Code)} {cn : Str} {cs : Scope} {a : Addr} {ccd : Value} {cl : List (Str × Addr)} {outer : List Env} {A₀ : Around} {base h₀ h : Heap} {L : Addr} {m : Str → Option Value} {news : List (Addr × Obj)} {Q E : Value → Shared → Prop} {gn : Array GenState} {dr : PySem.Drawn} {tk : Nat} {os : OsState}
theorem use_x {Xp : Heap → Prop} (H : DoesX w k f Xp sub args P) (B : Below A₀ base outer h₀) (F : Fr h₀ L h m) (X : (heap9 w.params).In h₀) (N : News h₀ L h news) (T : Top topProg loose mean mg mb h₀) (hk : cs.kind = .function) (hsub : ∀ p ∈ sub, p ∈ news) (hd : dp + k < recursionLimit) (hu : un + 8 * k < cLine) (hx : Xp h₀)
    (hret : ∀ v tl h' tk', P tl v → Fr h₀ L h' m → News h₀ L h' (tl ++ news) → (∀ p ∈ tl, ∀ q ∈ news, (q.1 : Nat) ≠ p.1) → Q v ⟨h', gn, dr, tk', os⟩) : wpAny (model PySem.Challenge.rw_zd0006_01.row.prog w) (ktrTop dp un gd cn cs L a ccd cl outer) (call (.ref f) args) Q E ⟨h, gn, dr, tk, os⟩ :=
  H _ _ _ _ _ _ _ _ _ _ _ _ _ _ _ _ _ _ _ _ _ _ B F X N T hk hsub hd hu hx fun v tl h' tk' p F' N' s _ => hret v tl h' tk' p F' N' s
theorem use_d (H : Does w k f sub args P) (B : Below A₀ base outer h₀) (F : Fr h₀ L h m) (X : (heap9 w.params).In h₀) (N : News h₀ L h news) (T : Top topProg loose mean mg mb h₀) (hk : cs.kind = .function) (hsub : ∀ p ∈ sub, p ∈ news) (hd : dp + k < recursionLimit) (hu : un + 8 * k < cLine)
    (hret : ∀ v tl h' tk', P tl v → Fr h₀ L h' m → News h₀ L h' (tl ++ news) → (∀ p ∈ tl, ∀ q ∈ news, (q.1 : Nat) ≠ p.1) → Q v ⟨h', gn, dr, tk', os⟩) : wpAny (model PySem.Challenge.rw_zd0006_01.row.prog w) (ktrTop dp un gd cn cs L a ccd cl outer) (call (.ref f) args) Q E ⟨h, gn, dr, tk, os⟩ :=
  H _ _ _ _ _ _ _ _ _ _ _ _ _ _ _ _ _ _ _ _ _ _ B F X N T hk hsub hd hu fun v tl h' tk' p F' N' s _ => hret v tl h' tk' p F' N' s
end
section
variable {M : Model} {A : Around} {E : Value → Shared → Prop} {h₀ h : Heap} {gn : Array GenState} {dr : PySem.Drawn} {tk : Nat} {os : OsState} {L a : Addr} {m : Str → Option Value} {cn : Str} {cs : Scope} {ccd : Value} {cl : List (Str × Addr)} {x : Str} {v : Value} {Q : Unit → Shared → Prop} {news : List (Addr × Obj)} {c : Addr} {o : Obj} {v₀ : Option Value}
/-- a cell's name stored, by the cell's place in the ledger -/
theorem r_cell (n : Nat) (F : Fr h₀ L h m) (N : News h₀ L h news) (hc : cl.lookup x = some c) (hn : news[n]? = some (c, o)) (ap : Apart (news.map (·.1))) (hd : o.data = .cell v₀)
    (e : ∀ h' o', Fr h₀ L h' m → News h₀ L h' (news.set n (c, o')) → o'.data = .cell (some v) → Q () ⟨h', gn, dr, tk, os⟩)
    (hk : cs.kind = .function := by rfl) (hx : (envX cn cs L a ccd cl).kindOf x = some .cell := by rfl) : wpAny M A (storeName (envX cn cs L a ccd cl) x v) Q E ⟨h, gn, dr, tk, os⟩ :=
  storeX_C (s := ⟨h, gn, dr, tk, os⟩) F N hc (ap.upd n hn) hd e hk hx
end
section
variable {prog : Program} {w : World} {A : Around} {E : Value → Shared → Prop} {h₀ h : Heap} {gn : Array GenState} {dr : PySem.Drawn} {tk : Nat} {os : OsState} {L : Addr} {m : Str → Option Value} {news : List (Addr × Obj)} {vs : List Value} {Q : Value → Shared → Prop}
theorem r_list (hz : vs.length ≤ 60) (F : Fr h₀ L h m) (N : News h₀ L h news) (ap : Apart (news.map (·.1))) (e : ∀ l h', Fr h₀ L h' m → News h₀ L h' ((l, listOf vs.toArray 0) :: news) → Apart (l :: news.map (·.1)) → Q (.ref l) ⟨h', gn, dr, tk, os⟩) :
    wpAny (model prog w) A (newList vs) Q E ⟨h, gn, dr, tk, os⟩ :=
  newList_K (s := ⟨h, gn, dr, tk, os⟩) F N (fun l h' F' N' l1 => e l h' F' N' (ap.above l1)) (by rw [sizeLine_eq]; omega)
end
end
section
open PySem PySem.W PyProof.Rows PySem.Calls PySem.Builtin
set_option Elab.async false
set_option maxRecDepth 100000
set_option linter.unusedVariables false
section
variable {prog : Program} {w : World} {A : Around} {E : Value → Shared → Prop} {s : Shared} {K : Type} [DecidableEq K] {knd : KeyKind prog w K}
theorem vi_next {it d : Addr} {i ep : Nat} {kvs : List (K × Value)} {k : K} {v : Value} {Q : Fin → Shared → Prop} (hit : s.heap.IsValIter it d i kvs.length ep)
    (hm : s.heap.DictAt knd d kvs ep) (hx : kvs[i]? = some (k, v))
    (hQ : ∀ h', h'.IsValIter it d (i + 1) kvs.length ep → Heap.SameBut it s.heap h' → Q (.done (.ret v)) { s with heap := h' }) :
    wpAny (model prog w) A (Builtin.«dict_valueiterator.__next__» ⟨[.ref it], []⟩) Q E s := by
  have hT := hit.typeIs
  have hmro := mroOf_valiter
  obtain ⟨⟨c, dd, dt, sl⟩, ho, hc, hd⟩ := id hit
  obtain ⟨⟨c2, dd2, dt2, sl2⟩, es, hod, hcd, hdd, hk, hp, hn⟩ := id hm
  dsimp only at hc hd hdd
  subst hc hd hdd
  have hsz : es.size = kvs.length := by rw [← hp.length]; simp
  have hlt : i < es.size := by
    rcases Nat.lt_or_ge i kvs.length with h | h
    · rw [hsz]; exact h
    · rw [List.getElem?_eq_none h] at hx; cases hx
  have hel : es[i]? = some es[i] := Array.getElem?_eq_getElem hlt
  have hval : es[i].val = v := (hp.get? (e := es[i]) (by simp [hlt]) hx).2
  have e1 : ((es.size : Int) != (kvs.length : Int)) = false := by simp [hsz]
  have e2 : ((ep : Int) != (ep : Int)) = false := by simp
  have e3 : ¬ ((i : Int) < 0) := by omega
  generalize hee : es[i] = ee at hel hval
  obtain ⟨hp1, g, dr, t, os⟩ := s
  dsimp only at ho hod hQ
  repeat (first | (with_reducible refine wpAny_typeNameOfWhole_valiter hT ?_) | (with_reducible refine wpAny_isOneOf_valiter hT ?_) | wp_step)
  rw [if_neg e3, Int.toNat_natCast, hel]
  dsimp only
  repeat (first | (with_reducible refine wpAny_typeNameOfWhole_valiter hT ?_) | (with_reducible refine wpAny_isOneOf_valiter hT ?_) | wp_step)
  rw [hval]
  refine hQ _ ⟨_, Heap.get?_update_self _ ho rfl, rfl, ?_⟩ (Heap.SameBut.update ..)
  with_unfolding_all rfl

theorem vi_end {it d : Addr} {i ep : Nat} {kvs : List (K × Value)} {Q : Fin → Shared → Prop} (hh : A.handled = none) (hit : s.heap.IsValIter it d i kvs.length ep)
    (hm : s.heap.DictAt knd d kvs ep) (hx : kvs[i]? = none)
    (hE : ∀ h' e oe, Heap.ExtBut it s.heap h' → h'.get? e = some oe → oe.cls = .type "StopIteration" → E (.ref e) { s with heap := h' }) :
    wpAny (model prog w) A (Builtin.«dict_valueiterator.__next__» ⟨[.ref it], []⟩) Q E s := by
  have hT := hit.typeIs
  have hmro := mroOf_valiter
  obtain ⟨⟨c, dd, dt, sl⟩, ho, hc, hd⟩ := id hit
  obtain ⟨⟨c2, dd2, dt2, sl2⟩, es, hod, hcd, hdd, hk, hp, hn⟩ := id hm
  dsimp only at hc hd hdd
  subst hc hd hdd
  have hsz : es.size = kvs.length := by rw [← hp.length]; simp
  have hge : es.size ≤ i := by rw [hsz]; simpa using hx
  have hel : es[i]? = none := Array.getElem?_eq_none hge
  have e1 : ((es.size : Int) != (kvs.length : Int)) = false := by simp [hsz]
  have e2 : ((ep : Int) != (ep : Int)) = false := by simp
  have e3 : ¬ ((i : Int) < 0) := by omega
  obtain ⟨hp1, g, dr, t, os⟩ := s
  dsimp only at ho hod hE
  repeat (first | (with_reducible refine wpAny_typeNameOfWhole_valiter hT ?_) | (with_reducible refine wpAny_isOneOf_valiter hT ?_) | wp_step)
  rw [if_neg e3, Int.toNat_natCast, hel]
  dsimp only
  repeat (first | (with_reducible refine wpAny_typeNameOfWhole_valiter hT ?_) | (with_reducible refine wpAny_isOneOf_valiter hT ?_) | wp_step)
  simp only [raiseNew]
  refine wpAny_bind (wpAny_handled ?_)
  rw [hh]
  refine wpAny_bind (wpAny_pure (wpAny_throw ?_))
  exact hE _ _ _ (((Heap.SameBut.update ..).extBut.push _).push _) (Heap.get?_push_size _ rfl) rfl

theorem slot_filter_next : Slot "filter" "__next__" "filter.__next__" :=
  .of (owner := "filter") (n := "__next__") (by rw [typeLookup_type, builtinLookup_eq_fast]; kernel_rfl) (by decide +kernel) (by decide +kernel) (by decide +kernel)
    (by first | exact .inl (by decide +kernel) | exact .inr (by decide +kernel)) (by rw [isSubtype_type]; kernel_rfl)
theorem slot_filter_iter : Slot "filter" "__iter__" "filter.__iter__" :=
  .of (owner := "filter") (n := "__iter__") (by rw [typeLookup_type, builtinLookup_eq_fast]; kernel_rfl) (by decide +kernel) (by decide +kernel) (by decide +kernel)
    (by first | exact .inl (by decide +kernel) | exact .inr (by decide +kernel)) (by rw [isSubtype_type]; kernel_rfl)
theorem entry_filter_next : entryFor table "filter.__next__" = some Builtin.«filter.__next__» := entryFor_of_tree (by kernel_rfl)
theorem args_filter_next (a : Value) : argsOk "filter.__next__" ⟨[a], []⟩ := by unfold argsOk; kernel_rfl
theorem args_filter_iter (a : Value) : argsOk "filter.__iter__" ⟨[a], []⟩ := by unfold argsOk; kernel_rfl
theorem mro_filter : mroOf (.type "filter") = pure [.type "filter", .type "object"] := by rw [mroOf_type]; kernel_rfl
theorem lookup_filter_new : typeLookup (.type "filter") "__new__" = pure (some (.builtin "filter.__new__")) := by rw [typeLookup_type, builtinLookup_eq_fast]; kernel_rfl
theorem slot_filter_init : Slot "filter" "__init__" "object.__init__" :=
  .of (owner := "object") (n := "__init__") (by rw [typeLookup_type, builtinLookup_eq_fast]; kernel_rfl) (by decide +kernel) (by decide +kernel) (by decide +kernel)
    (by first | exact .inl (by decide +kernel) | exact .inr (by decide +kernel)) (by rw [isSubtype_type]; kernel_rfl)
theorem called_filter : TypeCalled "filter" "filter.__new__" "object.__init__" :=
  ⟨by decide +kernel, by decide +kernel, ⟨_, _, mro_filter⟩, madeBy_type mro_filter lookup_filter_new (by decide +kernel), by decide +kernel, by rw [isSubtype_type]; kernel_rfl, slot_filter_init⟩
theorem typeCall_filter (a b : Value) : checkTypeCall "filter" ⟨[a, b], []⟩ = pure () := by kernel_rfl
theorem newCall_filter (a b : Value) : checkBuiltinCall "filter.__new__" ⟨[.type "filter", a, b], []⟩ = pure () := by kernel_rfl
theorem entry_filter_new : entryFor table "filter.__new__" = some Builtin.«filter.__new__» := entryFor_of_tree (by kernel_rfl)
theorem entry_filter_iter : entryFor table "filter.__iter__" = some Builtin.«dict_keyiterator.__iter__» :=
  entryFor_alias (id' := "dict_keyiterator.__iter__") (by kernel_rfl) (by first | rfl | decide +kernel) (by decide +kernel) (by kernel_rfl)
end
end
section
open PySem PySem.W PyProof.Rows PySem.Calls PySem.Builtin
set_option Elab.async false
set_option maxRecDepth 100000
set_option linter.unusedVariables false
def FIt (h : Heap) (F VI : Addr) : Prop := ∃ o, h.get? F = some o ∧ o.cls = .type "filter" ∧ o.data = .fields #[.none, .ref VI]
theorem FIt.at {h h' : Heap} {F VI : Addr} (x : FIt h F VI) (e : ∀ o, h.get? F = some o → h'.get? F = some o) : FIt h' F VI := let ⟨o, ho, r⟩ := x; ⟨o, e _ ho, r⟩
section
variable {prog : Program} {w : World} {A : Around} {E : Value → Shared → Prop} {s : Shared} {K : Type} [DecidableEq K] {knd : KeyKind prog w K} {F VI d : Addr} {i ep : Nat} {kvs : List (K × Value)} {R : Result → Shared → Prop}
theorem FIt.typeIs (x : FIt s.heap F VI) : s.TypeIs (.ref F) "filter" := let ⟨o, ho, hc, _⟩ := x; ⟨o, ho, hc⟩

theorem flt_item {v : Value} {k : K} {b : Bool} (hF : FIt s.heap F VI) (hit : s.heap.IsValIter VI d i kvs.length ep) (hm : s.heap.DictAt knd d kvs ep) (hx : kvs[i]? = some (k, v))
    (ht : ∀ (A' : Around) (s' : Shared) (Q : Bool → Shared → Prop) (E' : Value → Shared → Prop), Q b s' → wpAny (model prog w) A' (truthy v) Q E' s')
    (h : ∀ h', h'.IsValIter VI d (i + 1) kvs.length ep → Heap.SameBut VI s.heap h' → if b = true then R (.ok (.ret v)) { s with heap := h' } else codeAny (model prog w) A (.builtin "filter.__next__" ⟨[.ref F], []⟩) R { s with heap := h' }) :
    codeAny (model prog w) A (.builtin "filter.__next__" ⟨[.ref F], []⟩) R s := by
  have hT := hF.typeIs
  have hTV := hit.typeIs
  refine codeAny_builtin entry_filter_next ?_
  rw [Around.under_plainId slot_filter_next.plain _]
  obtain ⟨⟨c, dd, dt, sl⟩, ho, hc, hd⟩ := id hF
  dsimp only at hc hd
  subst hc hd
  obtain ⟨hp1, g, dr, t, os⟩ := s
  dsimp only at ho hit hm h
  repeat (first
    | ((with_reducible show wpAny _ _ (callSpecial? _ _ _ _) _ _ _); refine wpAny_callSpecial?_slot (self := .ref VI) hTV PySem.F.slot_dict_valueiterator_next (wpAny_call_entry PySem.F.slot_dict_valueiterator_next hTV PySem.F.entry_dict_valueiterator_next (vi_next hit hm hx fun h' hit' hs' => ⟨_, rfl, ?_⟩) (PySem.F.args_dict_valueiterator_next_1 _)))
    | ((with_reducible show wpAny _ _ (truthy _) _ _ _); refine ht _ _ _ _ ?_)
    | wp_step)
  have hh := h _ (by assumption) (by assumption)
  cases b with
  | true =>
    rw [if_pos rfl]
    rw [if_pos rfl] at hh
    exact wpAny_pure hh
  | false =>
    rw [if_neg Bool.false_ne_true]
    rw [if_neg Bool.false_ne_true] at hh
    exact wpAny_pure ⟨plainId_quiet slot_filter_next.plain _, hh⟩

theorem flt_end (hd : A.handled = none) (hF : FIt s.heap F VI) (hit : s.heap.IsValIter VI d i kvs.length ep) (hm : s.heap.DictAt knd d kvs ep) (hx : kvs[i]? = none)
    (h : ∀ h' e oe, Heap.ExtBut VI s.heap h' → h'.get? e = some oe → oe.cls = .type "StopIteration" → R (.error (.ref e)) { s with heap := h' }) :
    codeAny (model prog w) A (.builtin "filter.__next__" ⟨[.ref F], []⟩) R s := by
  have hT := hF.typeIs
  have hTV := hit.typeIs
  refine codeAny_builtin entry_filter_next ?_
  rw [Around.under_plainId slot_filter_next.plain _]
  obtain ⟨⟨c, dd, dt, sl⟩, ho, hc, hd'⟩ := id hF
  dsimp only at hc hd'
  subst hc hd'
  obtain ⟨hp1, g, dr, t, os⟩ := s
  dsimp only at ho hit hm h
  repeat (first
    | ((with_reducible show wpAny _ _ (callSpecial? _ _ _ _) _ _ _); refine wpAny_callSpecial?_slot (self := .ref VI) hTV PySem.F.slot_dict_valueiterator_next (wpAny_call_entry PySem.F.slot_dict_valueiterator_next hTV PySem.F.entry_dict_valueiterator_next (vi_end hd hit hm hx fun h' e oe hx' he hc => ?_) (PySem.F.args_dict_valueiterator_next_1 _)))
    | wp_step)
  exact h _ _ _ (by assumption) (by assumption) (by assumption)

theorem flt_pyNext {Q : Option Value → Shared → Prop} (hF : FIt s.heap F VI) (h : codeAny (model prog w) A (.builtin "filter.__next__" ⟨[.ref F], []⟩) (fun r s' => match r with
      | .ok (.ret v) => Q (some v) s'
      | .ok _ => False
      | .error (.ref e) => (∃ oe, s'.heap.get? e = some oe ∧ oe.cls = .type "StopIteration") ∧ Q none s'
      | .error _ => False) s) : wpAny (model prog w) A (pyNext (.ref F)) Q E s := by
  unfold pyNext
  refine wpAny_bind (wpAny_attempt (wpAny_callSpecial?_slot (name := Str.ofString "__next__") hF.typeIs slot_filter_next
    (wpAny_call (codeAny_call_builtin_code (plainId_quiet slot_filter_next.plain _) (slot_filter_next.check _ _ _ _ _ _ _ _ hF.typeIs (args_filter_next _) (codeAny_mono h fun r s' hr => ?_))))))
  cases r with
  | ok f =>
    cases f with
    | ret v => exact wpAny_pure hr
    | _ => exact hr.elim
  | error x =>
    cases x with
    | ref e =>
      obtain ⟨⟨oe, he, hc⟩, hq⟩ := hr
      show wpAny (model prog w) A (isInstance (.ref e) (.type "StopIteration") >>= _) _ _ s'
      exact wpAny_bind (wpAny_isInstance (T := "StopIteration") (b := true) ⟨oe, he, hc⟩ isSubtype_stop (wpAny_pure hq))
    | _ => exact hr.elim

theorem flt_pyIter {Q : Value → Shared → Prop} (hF : FIt s.heap F VI) (h : Q (.ref F) s) : wpAny (model prog w) A (pyIter (.ref F)) Q E s := by
  refine wpAny_pyIter_slot hF.typeIs slot_filter_iter (wpAny_call_entry slot_filter_iter hF.typeIs entry_filter_iter ?_ (args_filter_iter _))
  show wpAny _ _ (ret (.ref F)) _ _ s
  exact wpAny_pure ⟨_, rfl, "filter", _, hF.typeIs, slot_filter_next.lookup, h⟩
end
end
section
open PySem PySem.W PyProof.Rows PySem.Calls PySem.Builtin
set_option Elab.async false
set_option maxRecDepth 100000
set_option linter.unusedVariables false
section
variable {prog : Program} {w : World} {A : Around} {E : Value → Shared → Prop} {s : Shared} {K : Type} [DecidableEq K] {knd : KeyKind prog w K} {F VI d : Addr} {ep l : Nat} {p : Nat → Int} {kvs : List (K × Value)} {R : Result → Shared → Prop}

/-- six values, of which the one at l is None and the others are ints, none of them nought -/
structure SixOne (kvs : List (K × Value)) (l : Nat) (p : Nat → Int) : Prop where
  len : kvs.length = 6
  lt : l < 6
  none : ∃ k, kvs[l]? = some (k, .none)
  nums : ∀ j, j < 6 → j ≠ l → ∃ k t, kvs[j]? = some (k, .int (p j) t) ∧ p j ≠ 0

theorem truthy_nz {n : Int} {t : Tok} (h : n ≠ 0) (A' : Around) (s' : Shared) (Q : Bool → Shared → Prop) (E' : Value → Shared → Prop) (hq : Q true s') : wpAny (model prog w) A' (truthy (.int n t)) Q E' s' := by
  refine P.truthy_int ?_
  rw [show (n != 0) = true from by simpa using h]
  exact hq
theorem truthy_no (A' : Around) (s' : Shared) (Q : Bool → Shared → Prop) (E' : Value → Shared → Prop) (hq : Q false s') : wpAny (model prog w) A' (truthy .none) Q E' s' := wpAny_pure hq

def FSt (knd : KeyKind prog w K) (F VI d : Addr) (kvs : List (K × Value)) (ep l : Nat) (k : Nat) (h : Heap) : Prop :=
  FIt h F VI ∧ h.IsValIter VI d (if k ≤ l then k else k + 1) kvs.length ep ∧ h.DictAt knd d kvs ep

theorem flt_give (Z : SixOne kvs l p) (hne1 : d ≠ VI) (hne2 : F ≠ VI) {i : Nat} (hi : i < 6) (hil : i ≠ l) (hF : FIt s.heap F VI) (hit : s.heap.IsValIter VI d i kvs.length ep) (hm : s.heap.DictAt knd d kvs ep)
    {Q : Result → Shared → Prop} (h : ∀ k v h', kvs[i]? = some (k, v) → FIt h' F VI → h'.IsValIter VI d (i + 1) kvs.length ep → h'.DictAt knd d kvs ep → (∀ b o, b ∉ [VI] → s.heap.get? b = some o → h'.get? b = some o) → Q (.ok (.ret v)) { s with heap := h' }) :
    codeAny (model prog w) A (.builtin "filter.__next__" ⟨[.ref F], []⟩) Q s := by
  obtain ⟨k, t, hx, hn⟩ := Z.nums i hi hil
  refine flt_item (b := true) hF hit hm hx (truthy_nz hn) fun h' hit' hs' => ?_
  rw [if_pos rfl]
  exact h _ _ _ hx (hF.at fun o e => hs'.extBut _ _ hne2 e) hit' (hm.extBut hs'.extBut hne1) fun b o hb e => hs'.extBut b o (fun q => hb (by simp [q])) e

theorem flt_skip (Z : SixOne kvs l p) (hne1 : d ≠ VI) (hne2 : F ≠ VI) (hF : FIt s.heap F VI) (hit : s.heap.IsValIter VI d l kvs.length ep) (hm : s.heap.DictAt knd d kvs ep)
    {Q : Result → Shared → Prop} (h : ∀ h', FIt h' F VI → h'.IsValIter VI d (l + 1) kvs.length ep → h'.DictAt knd d kvs ep → (∀ b o, b ∉ [VI] → s.heap.get? b = some o → h'.get? b = some o) → codeAny (model prog w) A (.builtin "filter.__next__" ⟨[.ref F], []⟩) Q { s with heap := h' }) :
    codeAny (model prog w) A (.builtin "filter.__next__" ⟨[.ref F], []⟩) Q s := by
  obtain ⟨k, hx⟩ := Z.none
  refine flt_item (b := false) hF hit hm hx truthy_no fun h' hit' hs' => ?_
  rw [if_neg Bool.false_ne_true]
  exact h _ (hF.at fun o e => hs'.extBut _ _ hne2 e) hit' (hm.extBut hs'.extBut hne1) fun b o hb e => hs'.extBut b o (fun q => hb (by simp [q])) e

theorem Walks_flt (hh : A.handled = none) (Z : SixOne kvs l p) (hne1 : d ≠ VI) (hne2 : F ≠ VI) :
    Walks prog w A F [F, VI, d] [VI] 5 (fun k v => ∃ kk, kvs[if k < l then k else k + 1]? = some (kk, v)) (FSt knd F VI d kvs ep l) where
  sub := fun b hb => by simp at hb; simp [hb]
  frame := fun _ _ _ st hk => ⟨st.1.at fun o e => hk F (by simp) o e, st.2.1.at fun o e => hk VI (by simp) o e, st.2.2.at' fun o e => hk d (by simp) o e⟩
  item := fun k s Q E hk st hQ => by
    obtain ⟨hF, hit, hm⟩ := st
    have hl := Z.lt
    refine flt_pyNext hF ?_
    by_cases h1 : k < l
    · rw [if_pos (by omega)] at hit
      refine flt_give Z hne1 hne2 (by omega) (by omega) hF hit hm fun kk v h' hx hF' hit' hm' hk' => ?_
      exact hQ v h' s.toks ⟨kk, by rw [if_pos h1]; exact hx⟩ ⟨hF', by rw [if_pos (by omega)]; exact hit', hm'⟩ hk'
    · by_cases h2 : k = l
      · rw [if_pos (by omega)] at hit
        subst h2
        refine flt_skip Z hne1 hne2 hF hit hm fun h₁ hF₁ hit₁ hm₁ hk₁ => ?_
        refine flt_give (s := { s with heap := h₁ }) Z hne1 hne2 (i := k + 1) (by omega) (by omega) hF₁ hit₁ hm₁ fun kk v h' hx hF' hit' hm' hk' => ?_
        exact hQ v h' s.toks ⟨kk, by rw [if_neg h1]; exact hx⟩ ⟨hF', by rw [if_neg (by omega)]; exact hit', hm'⟩ fun b o hb e => hk' b o hb (hk₁ b o hb e)
      · rw [if_neg (by omega)] at hit
        refine flt_give Z hne1 hne2 (by omega) (by omega) hF hit hm fun kk v h' hx hF' hit' hm' hk' => ?_
        exact hQ v h' s.toks ⟨kk, by rw [if_neg h1]; exact hx⟩ ⟨hF', by rw [if_neg (by omega)]; exact hit', hm'⟩ hk'
  done := fun s Q E st hQ => by
    obtain ⟨hF, hit, hm⟩ := st
    have hl := Z.lt
    refine flt_pyNext hF ?_
    by_cases h1 : l = 5
    · rw [if_pos (by omega)] at hit
      refine flt_skip Z hne1 hne2 hF (h1 ▸ hit) hm fun h₁ hF₁ hit₁ hm₁ hk₁ => ?_
      refine flt_end (s := { s with heap := h₁ }) hh hF₁ hit₁ hm₁ (by rw [List.getElem?_eq_none]; rw [Z.len]; omega) fun h' e oe hx' he hc => ?_
      exact ⟨⟨oe, he, hc⟩, hQ h' s.toks fun b o hb eb => hx' b o (fun q => hb (by simp [q])) (hk₁ b o hb eb)⟩
    · rw [if_neg (by omega)] at hit
      refine flt_end hh hF hit hm (by rw [List.getElem?_eq_none]; rw [Z.len]; omega) fun h' e oe hx' he hc => ?_
      exact ⟨⟨oe, he, hc⟩, hQ h' s.toks fun b o hb eb => hx' b o (fun q => hb (by simp [q])) eb⟩
  self := fun _ _ _ _ st hQ => flt_pyIter st.1 hQ
end
end
section
open PySem PySem.W PyProof.Rows PySem.Calls PySem.Builtin
set_option Elab.async false
set_option maxRecDepth 100000
set_option linter.unusedVariables false
section
variable {prog : Program} {w : World} {A : Around} {R : Result → Shared → Prop} {I : Addr} {fp wr : List Addr} {n : Nat} {P : Nat → Value → Prop} {St : Nat → Heap → Prop} {kw : List (Str × Value)}

theorem maxd_loop (W : Walks prog w A.in1 I fp wr n P St) (bt : Nat → Nat → Bool) (hcmp : CmpOf prog w A.in1 .Gt P bt) (S : Addr) (hSf : S ∉ fp) :
    ∀ (k j : Nat) (s : Shared) (vb : Value) (c : Nat), n - (j + 1) = k → j + 1 ≤ n → St (j + 1) s.heap → P (argBest bt j) vb →
    s.heap.get? S = some { cls := .type "list", dict := none, data := .seq #[vb, vb] c, slots := #[] } →
    (∀ v h' tk, P (argBest bt (n - 1)) v → (∀ b o, b ∉ wr → b ≠ S → s.heap.get? b = some o → h'.get? b = some o) → R (.ok (.ret v)) { s with heap := h', toks := tk }) →
    codeAny (model prog w) A (.builtin "max.loop" ⟨[.ref I, .none, .ref S], kw⟩) R s := by
  have hSw : S ∉ wr := fun h => hSf (W.sub _ h)
  have hname : (toString "max" ++ toString ".loop" : String) = "max.loop" := by decide
  intro k
  induction k with
  | zero =>
    intro j s vb c hk hj hst hPb hS hR
    have hin : j + 1 = n := by omega
    refine codeAny_builtin PySem.F.entry_max_loop ?_
    rw [Around.under_plainId PySem.F.plain_max_loop _]
    show wpAny _ A.in1 (seqItems? (.ref S) >>= _) _ _ s
    refine wpAny_bind (wpAny_seqItems hS rfl ?_)
    show wpAny _ A.in1 (tryCatch (pyNext (.ref I)) _ >>= _) _ _ s
    refine wpAny_bind (wpAny_tryCatch (W.done s _ _ (hin ▸ hst) fun h' tk hk' => ?_))
    have hS' := hk' S _ hSw hS
    show wpAny _ A.in1 (updateSeq S (fun _ => #[]) >>= _) _ _ _
    refine wpAny_bind ?_
    refine wpAny_updateSeq hS' rfl (wpAny_bind (wpAny_letGo (wpAny_pure ?_)))
    refine hR vb _ tk (by rw [← hin]; exact hPb) fun b o hbw hbS e => (Heap.get?_update_other _ _ (Ne.symm hbS)).trans (hk' b o hbw e)
  | succ k ih =>
    intro j s vb c hk hj hst hPb hS hR
    have hlt : j + 1 < n := by omega
    refine codeAny_builtin PySem.F.entry_max_loop ?_
    rw [Around.under_plainId PySem.F.plain_max_loop _]
    show wpAny _ A.in1 (seqItems? (.ref S) >>= _) _ _ s
    refine wpAny_bind (wpAny_seqItems hS rfl ?_)
    show wpAny _ A.in1 (tryCatch (pyNext (.ref I)) _ >>= _) _ _ s
    refine wpAny_bind (wpAny_tryCatch (W.item (j + 1) s _ _ hlt hst fun v h' tk hP hst' hk' => ?_))
    have hS' := hk' S _ hSw hS
    show wpAny _ A.in1 (tryCatch (holding [v, v] (richCompare .Gt v vb >>= _)) _ >>= _) _ _ _
    refine wpAny_bind (wpAny_tryCatch (wpAny_holding (wpAny_bind (hcmp (j + 1) (argBest bt j) v vb _ _ _ hP hPb ?_))))
    refine wpAny_bind (wpAny_holding (wpAny_truthy_bool ?_))
    refine wpAny_bind (wpAny_letGo (wpAny_pure ?_))
    cases hb : bt (j + 1) (argBest bt j) with
    | true =>
      simp only [if_true]
      refine wpAny_bind ?_
      refine wpAny_updateSeq hS' rfl (wpAny_bind (wpAny_letGo ?_))
      rw [hname]
      refine wpAny_pure ⟨plainId_quiet PySem.F.plain_max_loop _, ih (j + 1) _ v _ (by omega) hlt (W.frame _ _ _ hst' fun b hbf o e => ?_) (by simp only [argBest, hb, if_true]; exact hP) (Heap.get?_update_self _ hS' rfl)
        fun v' h'' tk'' hP' hk'' => ?_⟩
      · exact (Heap.get?_update_other _ _ (fun h : S = b => hSf (by rw [h]; exact hbf))).trans e
      · exact hR v' h'' tk'' hP' fun b o hbw hbS e => hk'' b o hbw hbS ((Heap.get?_update_other _ _ (Ne.symm hbS)).trans (hk' b o hbw e))
    | false =>
      simp only [Bool.false_eq_true, if_false]
      refine wpAny_bind (wpAny_letGo ?_)
      rw [hname]
      refine wpAny_pure ⟨plainId_quiet PySem.F.plain_max_loop _, ih (j + 1) _ vb c (by omega) hlt hst' (by simp only [argBest, hb, Bool.false_eq_true, if_false]; exact hPb) hS' fun v' h'' tk'' hP' hk'' => ?_⟩
      exact hR v' h'' tk'' hP' fun b o hbw hbS e => hk'' b o hbw hbS (hk' b o hbw e)

theorem maxd_first (W : Walks prog w A.in1 I fp wr n P St) (bt : Nat → Nat → Bool) (hcmp : CmpOf prog w A.in1 .Gt P bt) (S : Addr) (hSf : S ∉ fp) (hn : 0 < n) {s : Shared} {c : Nat} (hst : St 0 s.heap)
    (hS : s.heap.get? S = some { cls := .type "list", dict := none, data := .seq #[] c, slots := #[] })
    (hR : ∀ v h' tk, P (argBest bt (n - 1)) v → (∀ b o, b ∉ wr → b ≠ S → s.heap.get? b = some o → h'.get? b = some o) → R (.ok (.ret v)) { s with heap := h', toks := tk }) :
    codeAny (model prog w) A (.builtin "max.loop" ⟨[.ref I, .none, .ref S], kw⟩) R s := by
  have hSw : S ∉ wr := fun h => hSf (W.sub _ h)
  have hname : (toString "max" ++ toString ".loop" : String) = "max.loop" := by decide
  refine codeAny_builtin PySem.F.entry_max_loop ?_
  rw [Around.under_plainId PySem.F.plain_max_loop _]
  show wpAny _ A.in1 (seqItems? (.ref S) >>= _) _ _ s
  refine wpAny_bind (wpAny_seqItems hS rfl ?_)
  show wpAny _ A.in1 (tryCatch (pyNext (.ref I)) _ >>= _) _ _ s
  refine wpAny_bind (wpAny_tryCatch (W.item 0 s _ _ hn hst fun v h' tk hP hst' hk' => ?_))
  have hS' := hk' S _ hSw hS
  show wpAny _ A.in1 (updateSeq S (fun _ => #[v, v]) >>= _) _ _ _
  refine wpAny_bind ?_
  refine wpAny_updateSeq hS' rfl ?_
  rw [hname]
  refine wpAny_pure ⟨plainId_quiet PySem.F.plain_max_loop _, maxd_loop W bt hcmp S hSf _ 0 _ v _ rfl hn (W.frame _ _ _ hst' fun b hbf o e => ?_) hP (Heap.get?_update_self _ hS' rfl) fun v' h'' tk'' hP' hk'' => ?_⟩
  · exact (Heap.get?_update_other _ _ (fun h : S = b => hSf (by rw [h]; exact hbf))).trans e
  · exact hR v' h'' tk'' hP' fun b o hbw hbS e => hk'' b o hbw hbS ((Heap.get?_update_other _ _ (Ne.symm hbS)).trans (hk' b o hbw e))
end

section
variable {prog : Program} {w : World} {A : Around} {E : Value → Shared → Prop} {s : Shared}
theorem args_maxd (a v : Value) : argsOk "max" ⟨[a], [(Str.ofString "default", v)]⟩ := by unfold argsOk; kernel_rfl

theorem call_maxd {x dv : Value} {Q : Value → Shared → Prop}
    (h : wpAny (model prog w) A.in1 (pyIter x) (fun it s₂ => ∃ I fp wr n P St bt, it = .ref I ∧ Walks prog w A.in1 I fp wr n P St ∧ St 0 s₂.heap ∧ (∀ b ∈ fp, b < s₂.heap.objs.size) ∧ 0 < n ∧ CmpOf prog w A.in1 .Gt P bt ∧
      ∀ v h' tk, P (argBest bt (n - 1)) v → (∀ b o, b ∉ wr → s₂.heap.get? b = some o → h'.get? b = some o) → Q v { s₂ with heap := h', toks := tk }) E s) :
    wpAny (model prog w) A (call (.builtin "max") [x] [(Str.ofString "default", dv)]) Q E s := by
  have hname : (toString "max" ++ toString ".loop" : String) = "max.loop" := by decide
  refine kmb_tree PySem.F.kind_max PySem.F.plain_max PySem.F.entry_max (args_maxd _ _) ?_
  show wpAny _ A.in1 (Builtin.Builtins.bindParams "max" ["key", "default"] 0 ⟨[], [(Str.ofString "default", dv)]⟩ >>= _) _ _ s
  refine wpAny_bind (wpAny_of_eq (show Builtin.Builtins.bindParams "max" ["key", "default"] 0 ⟨[], [(Str.ofString "default", dv)]⟩ = pure [none, some dv] from rfl) ?_)
  refine wpAny_bind (wpAny_pure ?_)
  refine wpAny_bind (wpAny_mono h (fun it s₂ h₂ => ?_) fun _ _ e => e)
  obtain ⟨I, fp, wr, n, P, St, bt, rfl, W, hst, hfp, hn, hcmp, hQ⟩ := h₂
  refine wpAny_bind (wpAny_newObj_type ?_)
  have hSf : s₂.heap.objs.size ∉ fp := fun hm => Nat.lt_irrefl _ (hfp _ hm)
  rw [hname]
  refine wpAny_pure ⟨plainId_quiet PySem.F.plain_max_loop _, maxd_first W bt hcmp s₂.heap.objs.size hSf hn (W.frame _ _ _ hst fun b _ o e => Heap.get?_push_of_some _ e) (Heap.get?_push_size _ rfl) fun v h' tk hP hk => ?_⟩
  exact hQ v h' tk hP fun b o hbw e => hk b o hbw (Nat.ne_of_lt (Heap.lt_size e)) (Heap.get?_push_of_some _ e)
end

def viewObj (d : Addr) : Obj := { cls := .type "dict_values", data := .fields #[.ref d] }
def vitObj (d : Addr) (n ep : Nat) : Obj := { cls := .type "dict_valueiterator", data := .fields #[.ref d, .int 0 0, .int n 0, .int ep 0] }
def fltObj (VI : Addr) : Obj := { cls := .type "filter", data := .fields #[.none, .ref VI] }

section
variable {prog : Program} {w : World} {A : Around} {E : Value → Shared → Prop} {s : Shared}
theorem vi_iter {v d : Addr} {od : Obj} {es : Array DictEntry} {ep : Nat} {Q : Value → Shared → Prop} (hv : s.heap.get? v = some (viewObj d)) (ho : s.heap.get? d = some od) (hdat : od.data = .dict es ep)
    (hQ : Q (.ref s.heap.objs.size) { s with heap := s.heap.push (vitObj d es.size ep) }) :
    wpAny (model prog w) A (pyIter (.ref v)) Q E s := by
  have hT : s.TypeIs (.ref v) "dict_values" := ⟨_, hv, rfl⟩
  refine wpAny_pyIter_slot hT PySem.F.slot_dict_values_iter (wpAny_call_entry PySem.F.slot_dict_values_iter hT PySem.F.entry_dict_values_iter ?_ (PySem.F.args_dict_values_iter_1 _))
  unfold Builtin.«dict_values.__iter__»
  refine wpAny_bind (wpAny_pure ?_)
  refine wpAny_bind ?_
  unfold Builtin.Dict_items.dictOf
  refine wpAny_bind (wpAny_field hv rfl (x := .ref d) rfl (wpAny_pure ?_))
  refine wpAny_bind ?_
  unfold Builtin.Dict_items.newIterator
  refine wpAny_bind (wpAny_dictEntries ho hdat ?_)
  refine wpAny_bind (wpAny_dictEpoch ho hdat ?_)
  have hown : Builtin.Dict_items.ownsTuple "dict_valueiterator" = false := by decide
  simp only [hown, Bool.false_eq_true, if_false]
  refine wpAny_newObj_type (wpAny_pure ⟨_, rfl, "dict_valueiterator", _, ⟨_, Heap.get?_push_size _ rfl, rfl⟩, PySem.F.slot_dict_valueiterator_next.lookup, ?_⟩)
  exact hQ

theorem filter_meets (v d : Addr) (n ep : Nat) : Meets (Builtin.«filter.__new__» ⟨[.type "filter", .none, .ref v], []⟩) (fun _ R s =>
      (s.heap.get? v = some (viewObj d) ∧ ∃ od es, s.heap.get? d = some od ∧ od.data = .dict es ep ∧ es.size = n) ∧
      R (.ok (.ret (.ref (s.heap.push (vitObj d n ep)).objs.size))) { s with heap := (s.heap.push (vitObj d n ep)).push (fltObj s.heap.objs.size) }) :=
  .of_wp fun prog w A R s ⟨⟨hv, od, es, ho, hdat, hn⟩, h⟩ => by
    subst hn
    have hsub := called_filter.sub
    obtain ⟨hp, g, dr, t, os⟩ := s
    dsimp only at hv ho h
    repeat (first
      | ((with_reducible show wpAny _ _ (pyIter _) _ _ _); refine vi_iter (by assumption) (by assumption) (by assumption) ?_)
      | wp_step)
    all_goals exact ⟨_, rfl, h⟩
end
end
section
open PySem PySem.W PyProof.Rows PySem.Calls PySem.Builtin
set_option Elab.async false
set_option maxRecDepth 100000
set_option linter.unusedVariables false
/-- a dict of six ints but one, which is None -/
def LDict (prog : Program) (w : World) (o : Obj) (p : Nat → Int) (l : Nat) : Prop := ∃ kvs : List (Int × Value), o.IsDictOf (intKind prog w) kvs ∧ SixOne kvs l p
def Lts (VI : Addr) (news : List (Addr × Obj)) : Prop := ∀ q ∈ news, (q.1 : Nat) < VI
def MaxOf (p : Nat → Int) (l : Nat) (M : Int) : Prop := (∃ j, j < 6 ∧ j ≠ l ∧ M = p j) ∧ ∀ j, j < 6 → j ≠ l → p j ≤ M
theorem num_len {M : Int} (h : 0 ≤ M) {k : Nat} (hk : 0 < k) : (PySem.Str.ofString (toString M)).length ≤ k ↔ M < 10 ^ k := by
  obtain ⟨n, rfl⟩ := Int.eq_ofNat_of_zero_le h
  have e := Nat.length_repr_le_iff (n := n) hk
  rw [← String.length_toList, Nat.toList_repr] at e
  have e2 : (PySem.Str.ofString (toString ((n : Nat) : Int))).length = (Nat.toDigits 10 n).length := by
    show (PySem.Str.ofString (toString ((n : Nat) : Int))).cps.size = _
    rw [← Array.length_toList, KIN.signs_num, List.length_map]
  rw [e2, e]
  have : ((10 : Int) ^ k) = ((10 ^ k : Nat) : Int) := by rw [Int.natCast_pow]; rfl
  rw [this, Int.ofNat_lt]
section
variable {prog : Program} {w : World} {A : Around} {E : Value → Shared → Prop} {s : Shared} {h₀ : Heap} {L : Addr} {m : Str → Option Value} {news : List (Addr × Obj)} {v d : Addr} {od : Obj} {p : Nat → Int} {l : Nat} {Q : Value → Shared → Prop}

theorem wv_values (F : Fr h₀ L s.heap m) (N : News h₀ L s.heap news) (hd : (d, od) ∈ news) (hs : (d == sysModules) = false) (hD : LDict prog w od p l)
    (h : Fr h₀ L (s.heap.push (viewObj d)) m → News h₀ L (s.heap.push (viewObj d)) ((s.heap.objs.size, viewObj d) :: news) → Q (.ref s.heap.objs.size) { s with heap := s.heap.push (viewObj d) }) :
    wpAny (model prog w) A (call (.builtin "dict.values") [.ref d]) Q E s := by
  obtain ⟨kvs, hk, _⟩ := hD
  have hd' : s.heap.DictOf (intKind prog w) d kvs := Heap.dictOf_iff.mpr ⟨od, (N _ hd).1, hk⟩
  exact call_meetsIn PySem.F.slot_dict_values hd'.typeIs PySem.F.entry_dict_values (PySem.F.args_dict_values_1 _) (meets_dict_values (intKind prog w) d hs)
    ⟨⟨kvs, hd'⟩, h (F.push _) (News.push F N _)⟩

theorem wv_method {pl : Sem Bool} {Q : Value × List Value → Shared → Prop} (N : News h₀ L s.heap news) (hd : (d, od) ∈ news) (hD : LDict prog w od p l)
    (h : Q (.builtin "dict.values", [.ref d]) s) : wpAny (model prog w) A (getMethod (.ref d) (Str.ofString "values") pl) Q E s := by
  obtain ⟨kvs, hk, _⟩ := hD
  have hd' : s.heap.DictOf (intKind prog w) d kvs := Heap.dictOf_iff.mpr ⟨od, (N _ hd).1, hk⟩
  exact getMethod_builtin hd'.typeIs PySem.F.plainAttrs_dict PySem.F.slot_dict_values PySem.F.type_dict_values hd'.mapOf.noDict h

theorem wv_filter (F : Fr h₀ L s.heap m) (N : News h₀ L s.heap news) (hv : (v, viewObj d) ∈ news) (hd : (d, od) ∈ news) (hD : LDict prog w od p l)
    (h : ∀ Fl VI ep h', Fr h₀ L h' m → (∃ es, od.data = .dict es ep ∧ es.size = 6) → (VI : Nat) < Fl → Lts VI news → News h₀ L h' ((Fl, fltObj VI) :: (VI, vitObj d 6 ep) :: news) → Q (.ref Fl) { s with heap := h' }) :
    wpAny (model prog w) A (call (.type "filter") [.none, .ref v]) Q E s := by
  obtain ⟨kvs, ⟨es, ep, hx, hdat, hk, hp, hn⟩, Z⟩ := hD
  have hsz : es.size = 6 := by
    have := hp.length
    rw [Z.len] at this
    simpa using this
  have hN2 := News.push (F.push (vitObj d 6 ep)) (News.push F N (vitObj d 6 ep)) (fltObj s.heap.objs.size)
  refine callType_new called_filter (by decide) (typeCall_filter _ _) (newCall_filter _ _) (fun obj => by unfold argsOk; kernel_rfl) entry_filter_new (filter_meets v d 6 ep)
    ⟨⟨(N _ hv).1, od, es, (N _ hd).1, hdat, hsz⟩, ⟨_, (hN2 _ (.head _)).1, rfl⟩, h _ _ ep _ ((F.push _).push _) ⟨es, hdat, hsz⟩ ?_ (fun q hq => Heap.lt_size (N q hq).1) hN2⟩
  rw [size_push']
  exact Nat.lt_succ_self _

def skip (l i : Nat) : Nat := if i < l then i else i + 1
theorem wv_max {Fl VI : Addr} {ep : Nat} {dv : Value} (hh : A.handled = none) (F : Fr h₀ L s.heap m) (N : News h₀ L s.heap ((Fl, fltObj VI) :: (VI, vitObj d 6 ep) :: news)) (hd : (d, od) ∈ news) (hD : LDict prog w od p l) (hep : ∃ es, od.data = .dict es ep ∧ es.size = 6)
    (hVF : (VI : Nat) < Fl) (hnv : Lts VI news)
    (hp6 : ∀ j, j < 6 → j ≠ l → 1 ≤ p j ∧ p j ≤ 65521) (h : ∀ M t h' tk, l < 6 → 1 ≤ M → M ≤ 65521 → MaxOf p l M → Fr h₀ L h' m → News h₀ L h' news → Q (.int M t) { s with heap := h', toks := tk }) :
    wpAny (model prog w) A (call (.builtin "max") [.ref Fl] [(Str.ofString "default", dv)]) Q E s := by
  obtain ⟨kvs, ⟨es', ep', hx, hdat', hk, hp, hn⟩, Z⟩ := hD
  obtain ⟨es, hdat, hsz⟩ := hep
  obtain ⟨rfl, rfl⟩ : es' = es ∧ ep' = ep := by
    rw [hdat'] at hdat; cases hdat; exact ⟨rfl, rfl⟩
  have nF := N _ (.head _)
  have nV := N _ (.tail _ (.head _))
  have nD := N _ (.tail _ (.tail _ hd))
  have hl6 := Z.len
  have hFI : FIt s.heap Fl VI := ⟨_, nF.1, rfl, rfl⟩
  have hdv : d ≠ VI := Nat.ne_of_lt (hnv _ hd)
  have hst : FSt (intKind prog w) Fl VI d kvs ep' l 0 s.heap := by
    refine ⟨hFI, ?_, od, es', nD.1, hx, hdat, hk, hp, hn⟩
    rw [if_pos (Nat.zero_le _), hl6]
    exact ⟨_, nV.1, rfl, rfl⟩
  refine call_maxd (flt_pyIter hFI ⟨Fl, [Fl, VI, d], [VI], 5, _, _, _, rfl, Walks_flt (A := A.in1) hh Z hdv (Nat.ne_of_gt hVF), hst, fun b hb => ?_, by decide, CmpOf.ints_gt (fun i => p (skip l i)) (fun i vv hP => ?_), fun vv h' tk hP hk' => ?_⟩)
  · simp only [List.mem_cons, List.not_mem_nil, or_false] at hb
    rcases hb with rfl | rfl | rfl
    · exact Heap.lt_size nF.1
    · exact Heap.lt_size nV.1
    · exact Heap.lt_size nD.1
  · obtain ⟨kk, hkk⟩ := hP
    have hlt : (if i < l then i else i + 1) < 6 := by
      rw [← hl6]
      exact (List.getElem?_eq_some_iff.mp hkk).1
    obtain ⟨k2, t, hx2, _⟩ := Z.nums _ hlt (by split <;> omega)
    rw [hx2] at hkk
    cases hkk
    exact ⟨t, rfl⟩
  · have hb := argBest_gt (fun i => p (skip l i)) 4
    have hL5 := Z.lt
    obtain ⟨kk, hkk⟩ := hP
    generalize hj : argBest (fun i j => decide (p (skip l i) > p (skip l j))) (5 - 1) = jj at hkk
    have hb' : jj ≤ 4 ∧ ∀ j, j ≤ 4 → p (skip l j) ≤ p (skip l jj) := by
      rw [← hj]; exact hb
    have hsk : skip l jj < 6 ∧ skip l jj ≠ l := by unfold skip; split <;> omega
    obtain ⟨k2, t, hx2, _⟩ := Z.nums _ hsk.1 hsk.2
    have : kvs[skip l jj]? = some (kk, vv) := hkk
    rw [hx2] at this
    cases this
    refine h _ t h' tk hL5 (hp6 _ hsk.1 hsk.2).1 (hp6 _ hsk.1 hsk.2).2 ⟨⟨_, hsk.1, hsk.2, rfl⟩, fun j hj6 hjl => ?_⟩ (kmb_fr F hk' nV.2.1 nV.2.2) (kmb_news (fun q hq => N q (.tail _ (.tail _ hq))) hk' fun q hq => Nat.ne_of_lt (hnv q hq))
    by_cases hjj : j < l
    · have := hb'.2 j (by omega)
      unfold skip at this ⊢
      rw [if_pos hjj] at this
      exact this
    · have := hb'.2 (j - 1) (by omega)
      unfold skip at this ⊢
      rw [if_neg (by omega), show j - 1 + 1 = j from by omega] at this
      exact this
end
end
section
open PySem PySem.W PyProof.Rows PySem.Calls
set_option Elab.async false
set_option maxRecDepth 100000
set_option linter.unusedVariables false
/-! the words of the talk -/
def pieceF (wd n : Int) : PySem.Str := Txt.mul (PySem.Str.ofString "0") (wd - ((PySem.Str.ofString (toString n)).length : Int)) ++ PySem.Str.ofString (toString n)
def pieceO (wd n col at' dg place : Int) : PySem.Str := if place = col then Txt.slice (pieceF wd n) none (some at') ++ PySem.Str.ofString (toString dg) ++ Txt.slice (pieceF wd n) (some (at' + 1)) none else pieceF wd n
def markF (place : Int) : PySem.Str := Txt.item (PySem.Str.ofString "|!/~;#") (place - 1)
def codeF (place lost way : Int) : PySem.Str := if place = lost ∧ way = 0 then PySem.Str.ofString "250" else PySem.Str.ofString "229"
def aheadF (place lost way : Int) : PySem.Str := if place = lost ∧ way = 1 then Txt.mul (markF place) 2 else Txt.mul (markF place) 3
def letterF (place lost way : Int) : PySem.Str := if place = lost ∧ way = 2 then PySem.Str.ofString "x" else PySem.Str.ofString ""
def lastF (place lost way : Int) : PySem.Str := if place = lost ∧ way = 3 then markF place ++ PySem.Str.ofString "x" else markF place
def talkF (wd n col at' dg place lost way : Int) : PySem.Str := codeF place lost way ++ PySem.Str.ofString " (" ++ aheadF place lost way ++ letterF place lost way ++ pieceO wd n col at' dg place ++ lastF place lost way ++ PySem.Str.ofString ")"

theorem mark_len (p : Int) : (markF p).length = 1 := rfl
theorem code_len (p l y : Int) : (codeF p l y).length ≤ 3 := by unfold codeF; split <;> decide
theorem ahead_len (p l y : Int) : (aheadF p l y).length ≤ 3 := by
  unfold aheadF
  split
  · have := len_mul_k1 (n := 2) (mark_len p); omega
  · have := len_mul_k1 (n := 3) (mark_len p); omega
theorem letter_len (p l y : Int) : (letterF p l y).length ≤ 1 := by unfold letterF; split <;> decide
theorem last_len (p l y : Int) : (lastF p l y).length ≤ 2 := by
  unfold lastF
  split
  · rw [PySem.Str.length_append, mark_len]; decide
  · rw [mark_len]; decide
theorem pieceF_len {wd n : Int} (h0 : 1 ≤ n) (h1 : n ≤ 65521) (hw : 4 ≤ wd) (hw2 : wd ≤ 5) (hf : n ≤ 9999 ∨ wd = 5) : ((pieceF wd n).length : Int) = wd := by
  have e4 := num_len (M := n) (by omega) (k := 4) (by decide)
  have e5 := num_len (M := n) (by omega) (k := 5) (by decide)
  have h5 : (PySem.Str.ofString (toString n)).length ≤ 5 := e5.mpr (Int.lt_of_le_of_lt h1 (by decide))
  have hle : ((PySem.Str.ofString (toString n)).length : Int) ≤ wd := by
    rcases hf with h | h
    · have : (PySem.Str.ofString (toString n)).length ≤ 4 := e4.mpr (Int.lt_of_le_of_lt h (by decide))
      omega
    · omega
  unfold pieceF
  rw [PySem.Str.length_append]
  have := len_mul_k1 (x := PySem.Str.ofString "0") (n := wd - ((PySem.Str.ofString (toString n)).length : Int)) rfl
  rw [if_neg (by omega)] at this
  omega
theorem pieceF_le {wd n : Int} (h0 : 1 ≤ n) (h1 : n ≤ 65521) (hw : 4 ≤ wd) (hw2 : wd ≤ 5) : (pieceF wd n).length ≤ 10 := by
  have e5 := num_len (M := n) (by omega) (k := 5) (by decide)
  have h5 : (PySem.Str.ofString (toString n)).length ≤ 5 := e5.mpr (Int.lt_of_le_of_lt h1 (by decide))
  unfold pieceF
  rw [PySem.Str.length_append]
  have := len_mul_k1 (x := PySem.Str.ofString "0") (n := wd - ((PySem.Str.ofString (toString n)).length : Int)) rfl
  split at this <;> omega
theorem slice_le (x : PySem.Str) (l u : Option Int) : (Txt.slice x l u).length ≤ x.length := by
  unfold Txt.slice
  split
  · exact Nat.le_refl _
  · show (List.toArray _).size ≤ _
    rw [List.size_toArray]
    exact Nat.le_trans (List.length_filterMap_le ..) (sliceIndices_le l u _)
theorem pieceO_le {wd n col at' dg place : Int} (h0 : 1 ≤ n) (h1 : n ≤ 65521) (hw : 4 ≤ wd) (hw2 : wd ≤ 5) (g0 : 0 ≤ dg) (g1 : dg ≤ 9) : (pieceO wd n col at' dg place).length ≤ 30 := by
  have h := pieceF_le h0 h1 hw hw2
  have s1 := slice_le (pieceF wd n) none (some at')
  have s2 := slice_le (pieceF wd n) (some (at' + 1)) none
  have e1 := (num_len (M := dg) g0 (k := 1) (by decide)).mpr (Int.lt_of_le_of_lt g1 (by decide))
  unfold pieceO
  split
  · rw [PySem.Str.length_append, PySem.Str.length_append]; omega
  · omega
theorem str_eq {x y : PySem.Str} {t : Tok} (h : x = y) : Value.str x t = .str y t := by rw [h]
end
section
open PySem PySem.W PyProof.Rows PySem.Calls PySem.Builtin
set_option Elab.async false
set_option maxRecDepth 100000
set_option linter.unusedVariables false
theorem plain_ci : plainId "proto.contains_iter" = true := by decide +kernel
theorem entry_ci : entryFor table "proto.contains_iter" = some Builtin.«proto.contains_iter» := entryFor_of_tree (by kernel_rfl)
theorem view_no_contains : typeLookup (.type "dict_values") "__contains__" = pure none := by rw [typeLookup_type, builtinLookup_eq_fast]; kernel_rfl
section
variable {prog : Program} {w : World} {A : Around} {E : Value → Shared → Prop} {s : Shared} {R : Result → Shared → Prop} {I d : Addr} {kvs : List (Int × Value)} {ep l : Nat} {p : Nat → Int}

theorem ci_loop (hh : A.handled = none) (hne : d ≠ I) (Z : SixOne kvs l p) : ∀ (r i : Nat) (s : Shared), i + r = l → s.heap.IsValIter I d i kvs.length ep → s.heap.DictAt (intKind prog w) d kvs ep →
    (∀ h' tk, (∀ b o, b ∉ [I] → s.heap.get? b = some o → h'.get? b = some o) → R (.ok (.ret (.bool true))) { s with heap := h', toks := tk }) →
    codeAny (model prog w) A (.builtin "proto.contains_iter" ⟨[.ref I, .none], []⟩) R s := by
  have W := Walks.dictValues (prog := prog) (w := w) (A := A.in1) (knd := intKind prog w) hh I d hne kvs ep
  have hl6 := Z.len
  have hlt := Z.lt
  intro r
  induction r with
  | zero =>
    intro i s hi hit hd hR
    refine codeAny_builtin entry_ci ?_
    rw [Around.under_plainId plain_ci _]
    show wpAny _ A.in1 (pyNext (.ref I) >>= _) _ _ s
    refine wpAny_bind (W.item i s _ _ (by omega) ⟨hit, hd⟩ fun v h' tk hP hst' hk' => ?_)
    obtain ⟨k, hk⟩ := hP
    obtain ⟨k2, hk2⟩ := Z.none
    have : i = l := by omega
    subst this
    rw [hk2] at hk
    cases hk
    show wpAny _ A.in1 (eqBool .none .none >>= _) _ _ _
    refine wpAny_bind (SeqAt.EqAt.same (A := A.in1) .none prog w _ _ ?_)
    simp only [if_true]
    exact wpAny_bind (wpAny_rule (wpAny_pure (hR h' tk hk')))
  | succ r ih =>
    intro i s hi hit hd hR
    refine codeAny_builtin entry_ci ?_
    rw [Around.under_plainId plain_ci _]
    show wpAny _ A.in1 (pyNext (.ref I) >>= _) _ _ s
    refine wpAny_bind (W.item i s _ _ (by omega) ⟨hit, hd⟩ fun v h' tk hP hst' hk' => ?_)
    obtain ⟨k, hk⟩ := hP
    obtain ⟨k2, t, hk2, _⟩ := Z.nums i (by omega) (by omega)
    rw [hk2] at hk
    cases hk
    show wpAny _ A.in1 (eqBool (.int (p i) t) .none >>= _) _ _ _
    refine wpAny_bind (SeqAt.EqAt.int_none (A := A.in1) _ _ prog w _ _ ?_)
    simp only [Bool.false_eq_true, if_false]
    refine wpAny_pure ⟨plainId_quiet plain_ci _, ih (i + 1) _ (by omega) hst'.1 hst'.2 fun h'' tk' hk'' => ?_⟩
    exact hR h'' tk' fun b o hb e => hk'' b o hb (hk' b o hb e)
end
section
variable {prog : Program} {w : World} {A : Around} {E : Value → Shared → Prop} {s : Shared} {h₀ : Heap} {L : Addr} {m : Str → Option Value} {news : List (Addr × Obj)} {v d : Addr} {od : Obj} {p : Nat → Int} {l : Nat} {Q : Value → Shared → Prop}

theorem wv_none_in (hh : A.handled = none) (F : Fr h₀ L s.heap m) (N : News h₀ L s.heap news) (hv : (v, viewObj d) ∈ news) (hd : (d, od) ∈ news) (hD : LDict prog w od p l)
    (h : ∀ h' tk, Fr h₀ L h' m → News h₀ L h' news → Q (.bool true) { s with heap := h', toks := tk }) :
    wpAny (model prog w) A (compareOp .In .none (.ref v)) Q E s := by
  obtain ⟨kvs, ⟨es, ep, hx, hdat, hk, hp, hn⟩, Z⟩ := hD
  have hsz : es.size = kvs.length := by
    have := hp.length
    simpa using this
  have hT : s.TypeIs (.ref v) "dict_values" := ⟨_, (N _ hv).1, rfl⟩
  show wpAny _ A (contains (.ref v) .none >>= _) Q E s
  refine wpAny_bind ?_
  unfold contains
  refine wpAny_holding ?_
  rw [stdlibNamesSay?_of_typeIs hT]
  refine wpAny_bind (wpAny_specialOf hT view_no_contains ?_)
  rw [if_neg (by decide)]
  refine wpAny_bind (wpAny_callSpecialUnlessNone?_none hT view_no_contains ?_)
  refine wpAny_bind (wpAny_rule ?_)
  refine wpAny_bind (wpAny_tryCatch (vi_iter (N _ hv).1 (N _ hd).1 hdat ?_))
  refine wpAny_bind (wpAny_runValue ?_)
  have hdI : d ≠ s.heap.objs.size := Nat.ne_of_lt (Heap.lt_size (N _ hd).1)
  refine ci_loop (ep := ep) (kvs := kvs) (d := d) hh hdI Z l 0 _ (by omega) ⟨_, Heap.get?_push_size _ rfl, rfl, by rw [hsz]; rfl⟩ ⟨od, es, Heap.get?_push_of_some _ (N _ hd).1, hx, hdat, hk, hp, hn⟩ fun h' tk hk' => ?_
  refine wpAny_pure (wpAny_pure (h h' tk ?_ ?_))
  · exact kmb_fr (F.push _) hk' (Nat.ne_of_gt F.ns.lt) (Heap.get?_none_of_le (Nat.le_trans F.above (Nat.le_of_lt F.ns.lt)))
  · exact kmb_news (N.grown fun b x e => Heap.get?_push_of_some _ e) hk' fun q hq => Nat.ne_of_lt (Heap.lt_size (N q hq).1)
end
end
section
open PySem PySem.W PyProof.Rows
section
example : True ∧ True := by w_top off; first | (walk1 <;> trivial) | exact ⟨trivial, trivial⟩
open PySem PySem.W PyProof.Rows
set_option Elab.async false
set_option maxRecDepth 100000
set_option maxHeartbeats 8000000
set_option linter.unusedVariables false
set_option linter.unusedSimpArgs false
local macro_rules | `(tactic| walk_at $s:str) => lineAt ["call ref", "exec For Name Call cons nil", "pyIter ref"] linesN s
section
variable {w : World}
theorem fill_d1 : ∀ p, (heap9 p).In {} → PySem.Challenge.rw_zd0006_01 = PySem.Challenge.rw_zd0006_01 := by
  k_fill; exact fun _ _ => rfl
def S_add (z : Zx) : Prop := Entered z.w 0 102 [] [.int (z.v.i 0) (z.v.t 0), .int (z.v.i 1) (z.v.t 1)] (fun tl v => tl = [] ∧ ∃ t, v = .int ((z.v.i 0) + (z.v.i 1)) t) (fun _ => True) z.b
noncomputable def z_add : Zx := eps S_add
theorem b_add : S_add z_add := by
  refine' Entered.intro ?k6 ?k7 ?k9 ?kB ?c2 ?c3 ?c4 ?c5 ?kW
  case k6 => k_is
  case k7 => k_is
  case k9 => exact rfl
  case kB => exact locs rfl
  case c2 => exact rfl
  case c3 => exact rfl
  case c4 => exact rfl
  case c5 => decide
  intro F N B X T l1 hd hu hx hQ
  clear hx
  k_steps
  exact hQ _ [] _ _ _ _ N (fun _ h9 => nomatch h9) F (fun _ h9 => nomatch h9) ⟨rfl, _, rfl⟩
theorem does_add {x : Int} {y : Int} {tx : Tok} {ty : Tok}  : Does w 1 102 [] [.int x tx, .int y ty] (fun tl v => tl = [] ∧ ∃ t, v = .int (x + y) t) :=
  does_of fun b => eps_all b_add ⟨w, b, { i := fun | 0 => x | _ => y, t := fun | 0 => tx | _ => ty }⟩ 

def S_sub (z : Zx) : Prop := Entered z.w 0 130 [] [.int (z.v.i 0) (z.v.t 0), .int (z.v.i 1) (z.v.t 1)] (fun tl v => tl = [] ∧ ∃ t, v = .int ((z.v.i 0) - (z.v.i 1)) t) (fun _ => True) z.b
noncomputable def z_sub : Zx := eps S_sub
theorem b_sub : S_sub z_sub := by
  refine' Entered.intro ?k6 ?k7 ?k9 ?kB ?c2 ?c3 ?c4 ?c5 ?kW
  case k6 => k_is
  case k7 => k_is
  case k9 => exact rfl
  case kB => exact locs rfl
  case c2 => exact rfl
  case c3 => exact rfl
  case c4 => exact rfl
  case c5 => decide
  intro F N B X T l1 hd hu hx hQ
  clear hx
  k_steps
  exact hQ _ [] _ _ _ _ N (fun _ h9 => nomatch h9) F (fun _ h9 => nomatch h9) ⟨rfl, _, rfl⟩
theorem does_sub {x : Int} {y : Int} {tx : Tok} {ty : Tok}  : Does w 1 130 [] [.int x tx, .int y ty] (fun tl v => tl = [] ∧ ∃ t, v = .int (x - y) t) :=
  does_of fun b => eps_all b_sub ⟨w, b, { i := fun | 0 => x | _ => y, t := fun | 0 => tx | _ => ty }⟩ 

def S_mul (z : Zx) : Prop := -1000000000000000 ≤ (z.v.i 1) → (z.v.i 1) ≤ 1000000000000000 → Entered z.w 0 123 [] [.int (z.v.i 0) (z.v.t 0), .int (z.v.i 1) (z.v.t 1)] (fun tl v => tl = [] ∧ ∃ t, v = .int ((z.v.i 0) * (z.v.i 1)) t) (fun _ => True) z.b
noncomputable def z_mul : Zx := eps S_mul
theorem b_mul : S_mul z_mul := by
  intro b1 b2
  refine' Entered.intro ?k6 ?k7 ?k9 ?kB ?c2 ?c3 ?c4 ?c5 ?kW
  case k6 => k_is
  case k7 => k_is
  case k9 => exact rfl
  case kB => exact locs rfl
  case c2 => exact rfl
  case c3 => exact rfl
  case c4 => exact rfl
  case c5 => decide
  intro F N B X T l1 hd hu hx hQ
  clear hx
  k_steps
  exact hQ _ [] _ _ _ _ N (fun _ h9 => nomatch h9) F (fun _ h9 => nomatch h9) ⟨rfl, _, rfl⟩
theorem does_mul {x : Int} {y : Int} {tx : Tok} {ty : Tok} (b1 : -1000000000000000 ≤ y) (b2 : y ≤ 1000000000000000) : Does w 1 123 [] [.int x tx, .int y ty] (fun tl v => tl = [] ∧ ∃ t, v = .int (x * y) t) :=
  does_of fun b => eps_all b_mul ⟨w, b, { i := fun | 0 => x | _ => y, t := fun | 0 => tx | _ => ty }⟩ b1 b2

def S_mod (z : Zx) : Prop := 0 < (z.v.i 1) → Entered z.w 0 116 [] [.int (z.v.i 0) (z.v.t 0), .int (z.v.i 1) (z.v.t 1)] (fun tl v => tl = [] ∧ ∃ t, v = .int ((z.v.i 0) % (z.v.i 1)) t) (fun _ => True) z.b
noncomputable def z_mod : Zx := eps S_mod
theorem b_mod : S_mod z_mod := by
  intro b1
  refine' Entered.intro ?k6 ?k7 ?k9 ?kB ?c2 ?c3 ?c4 ?c5 ?kW
  case k6 => k_is
  case k7 => k_is
  case k9 => exact rfl
  case kB => exact locs rfl
  case c2 => exact rfl
  case c3 => exact rfl
  case c4 => exact rfl
  case c5 => decide
  intro F N B X T l1 hd hu hx hQ
  clear hx
  k_steps
  exact hQ _ [] _ _ _ _ N (fun _ h9 => nomatch h9) F (fun _ h9 => nomatch h9) ⟨rfl, _, rfl⟩
theorem does_mod {x : Int} {y : Int} {tx : Tok} {ty : Tok} (b1 : 0 < y) : Does w 1 116 [] [.int x tx, .int y ty] (fun tl v => tl = [] ∧ ∃ t, v = .int (x % y) t) :=
  does_of fun b => eps_all b_mod ⟨w, b, { i := fun | 0 => x | _ => y, t := fun | 0 => tx | _ => ty }⟩ b1

def S_fdiv (z : Zx) : Prop := 0 < (z.v.i 1) → (z.v.i 1) ≤ 1000 → -1000000000000000 ≤ (z.v.i 0) → (z.v.i 0) ≤ 1000000000000000 → Entered z.w 0 109 [] [.int (z.v.i 0) (z.v.t 0), .int (z.v.i 1) (z.v.t 1)] (fun tl v => tl = [] ∧ ∃ t, v = .int ((z.v.i 0) / (z.v.i 1)) t) (fun _ => True) z.b
noncomputable def z_fdiv : Zx := eps S_fdiv
theorem b_fdiv : S_fdiv z_fdiv := by
  intro b1 b2 b3 b4
  refine' Entered.intro ?k6 ?k7 ?k9 ?kB ?c2 ?c3 ?c4 ?c5 ?kW
  case k6 => k_is
  case k7 => k_is
  case k9 => exact rfl
  case kB => exact locs rfl
  case c2 => exact rfl
  case c3 => exact rfl
  case c4 => exact rfl
  case c5 => decide
  intro F N B X T l1 hd hu hx hQ
  clear hx
  k_steps
  exact hQ _ [] _ _ _ _ N (fun _ h9 => nomatch h9) F (fun _ h9 => nomatch h9) ⟨rfl, _, by rw [← Int.fdiv_eq_ediv_of_nonneg _ (Int.le_of_lt b1)]⟩
theorem does_fdiv {x : Int} {y : Int} {tx : Tok} {ty : Tok} (b1 : 0 < y) (b2 : y ≤ 1000) (b3 : -1000000000000000 ≤ x) (b4 : x ≤ 1000000000000000) : Does w 1 109 [] [.int x tx, .int y ty] (fun tl v => tl = [] ∧ ∃ t, v = .int (x / y) t) :=
  does_of fun b => eps_all b_fdiv ⟨w, b, { i := fun | 0 => x | _ => y, t := fun | 0 => tx | _ => ty }⟩ b1 b2 b3 b4

def S_curve (z : Zx) : Prop := 0 ≤ (z.v.i 6) → (z.v.i 6) ≤ 100 → Entered z.w 0 144 [((z.v.p 0), listOf #[.int (z.v.i 0) (z.v.t 0), .int (z.v.i 1) (z.v.t 1), .int (z.v.i 2) (z.v.t 2), .int (z.v.i 3) (z.v.t 3), .int (z.v.i 4) (z.v.t 4), .int (z.v.i 5) (z.v.t 5)] (z.v.n 0))] [.ref (z.v.p 0), .int (z.v.i 6) (z.v.t 6)] (fun tl v => tl = [] ∧ ∃ t, v = .int ((z.v.i 0) + (z.v.i 1)*(z.v.i 6) + (z.v.i 2)*(z.v.i 6)*(z.v.i 6)) t) (fun _ => True) z.b
noncomputable def z_curve : Zx := eps S_curve
theorem b_curve : S_curve z_curve := by
  intro b1 b2
  refine' Entered.intro ?k6 ?k7 ?k9 ?kB ?c2 ?c3 ?c4 ?c5 ?kW
  case k6 => k_is
  case k7 => k_is
  case k9 => exact rfl
  case kB => exact locs rfl
  case c2 => exact rfl
  case c3 => exact rfl
  case c4 => exact rfl
  case c5 => decide
  intro F N B X T l1 hd hu hx hQ
  clear hx
  k_steps
  exact hQ _ [] _ _ _ _ N (fun _ h9 => h9) F (fun _ h9 => nomatch h9) ⟨rfl, _, rfl⟩
theorem does_curve {l : Addr} {n : Nat} {d0 : Int} {d1 : Int} {d2 : Int} {d3 : Int} {d4 : Int} {d5 : Int} {t0 : Tok} {t1 : Tok} {t2 : Tok} {t3 : Tok} {t4 : Tok} {t5 : Tok} {x : Int} {tx : Tok} (b1 : 0 ≤ x) (b2 : x ≤ 100) : Does w 1 144 [(l, listOf #[.int d0 t0, .int d1 t1, .int d2 t2, .int d3 t3, .int d4 t4, .int d5 t5] n)] [.ref l, .int x tx] (fun tl v => tl = [] ∧ ∃ t, v = .int (d0 + d1*x + d2*x*x) t) :=
  does_of fun b => eps_all b_curve ⟨w, b, { p := fun | _ => l, n := fun | _ => n, i := fun | 0 => d0 | 1 => d1 | 2 => d2 | 3 => d3 | 4 => d4 | 5 => d5 | _ => x, t := fun | 0 => t0 | 1 => t1 | 2 => t2 | 3 => t3 | 4 => t4 | 5 => t5 | _ => tx }⟩ b1 b2

theorem mulb1 {r k b : Int} (h1 : -10 ≤ k) (h2 : k ≤ 10) (h3 : 0 ≤ b) (h4 : b < 65521) (h5 : 0 ≤ r) (h6 : r < 65521) : -1000000000000000 ≤ r + k * b := by
  have : (-10) * b ≤ k * b := Int.mul_le_mul_of_nonneg_right h1 h3
  omega
theorem mulb2 {r k b : Int} (h1 : -10 ≤ k) (h2 : k ≤ 10) (h3 : 0 ≤ b) (h4 : b < 65521) (h5 : 0 ≤ r) (h6 : r < 65521) : r + k * b ≤ 1000000000000000 := by
  have : k * b ≤ 10 * b := Int.mul_le_mul_of_nonneg_right h2 h3
  omega
/-- q is x by d, modulo the prime -/
def Qt (x d q : Int) : Prop := ∃ j, 0 ≤ q ∧ q < 65521 ∧ 0 ≤ j ∧ j < d ∧ d * q = x + 65521 * j
theorem Qt.lo {x d q : Int} (h : Qt x d q) : 0 ≤ q := let ⟨_, h, _⟩ := h; h
theorem Qt.hi {x d q : Int} (h : Qt x d q) : q < 65521 := let ⟨_, _, h, _⟩ := h; h
theorem qt_all : ∀ d : Fin 5, ((d.val : Nat) : Int) + 1 ∣ 65520 := by decide +kernel
theorem qt_dvd {d : Int} (b1 : 1 ≤ d) (b2 : d ≤ 5) : d ∣ 65520 := by
  obtain ⟨k, rfl⟩ := fin_at (n := 5) b1 b2
  exact qt_all k
theorem qt_of {x d j : Int} (b1 : 1 ≤ d) (b3 : 0 ≤ x) (b4 : x < 65521) (h1 : 0 ≤ j) (h2 : j < d) (e : (x + 65521 * j) % d = 0) : Qt x d ((x + 65521 * j) / d) := by
  have hm := Int.mul_ediv_add_emod (x + 65521 * j) d
  exact ⟨j, Int.ediv_nonneg (by omega) (by omega), Int.ediv_lt_of_lt_mul (by omega) (by omega), h1, h2, by rw [e, Int.add_zero] at hm; exact hm⟩
theorem qt_no {x d : Int} {n : Nat} (hn : (n : Int) = d) (b1 : 1 ≤ d) (b2 : d ≤ 5) (h : ∀ j : Nat, j < n → (x + 65521 * (0 + (j : Int))) % d ≠ 0) : False := by
  have p : 0 ≤ -x % d := Int.emod_nonneg _ (by omega)
  have q : -x % d < d := Int.emod_lt_of_pos _ (by omega)
  obtain ⟨c, hc⟩ := qt_dvd b1 b2
  refine h (-x % d).toNat (by omega) ?_
  rw [Int.toNat_of_nonneg p, Int.zero_add, show (65521 : Int) = 1 + d * c by omega, Int.add_mul, Int.one_mul, Int.mul_assoc, ← Int.add_assoc, Int.add_mul_emod_self_left, Int.add_emod_emod, Int.add_right_neg, Int.zero_emod]
theorem qt_range {d : Int} (b1 : 1 ≤ d) (b2 : d ≤ 5) : Builtin.Range.small 0 d 1 = true ∧ Builtin.Range.rangeSize 0 d 1 = ((d.toNat : Nat) : Int) := by
  have hc : d = 1 ∨ d = 2 ∨ d = 3 ∨ d = 4 ∨ d = 5 := by omega
  rcases hc with rfl | rfl | rfl | rfl | rfl <;> decide
def S_quot (z : Zx) : Prop := 1 ≤ (z.v.i 1) → (z.v.i 1) ≤ 5 → 0 ≤ (z.v.i 0) → (z.v.i 0) < 65521 → Entered z.w 1 170 [] [.int (z.v.i 0) (z.v.t 0), .int (z.v.i 1) (z.v.t 1)] (fun tl v => tl = [] ∧ ∃ q t, Qt (z.v.i 0) (z.v.i 1) q ∧ v = .int q t) (fun _ => True) z.b
noncomputable def z_quot : Zx := eps S_quot
theorem b_quot : S_quot z_quot := by
  intro b1 b2 b3 b4
  refine' Entered.intro ?k6 ?k7 ?k9 ?kB ?c2 ?c3 ?c4 ?c5 ?kW
  case k6 => k_is
  case k7 => k_is
  case k9 => exact rfl
  case kB => exact locs rfl
  case c2 => exact rfl
  case c3 => exact rfl
  case c4 => exact rfl
  case c5 => decide
  intro F N B X T l1 hd hu hx hQ
  clear hx
  k_steps
  refine Stop.go ?_
  with_unfolding_all refine' For_by ?_
  k_steps
  refine Stop.go ?_
  rename IsRange _ _ _ _ _ _ _ _ => hR
  dsimp only
  refine for_range (z_quot.v.i 1).toNat [(PySem.Str.ofString "a", .int (z_quot.v.i 0) (z_quot.v.t 0)), (PySem.Str.ofString "d", .int (z_quot.v.i 1) (z_quot.v.t 1))] (fun i news => news = [] ∧ ∀ j : Nat, j < i → ((z_quot.v.i 0) + 65521 * (0 + (j : Int))) % (z_quot.v.i 1) ≠ 0) rfl hR (qt_range b1 b2).1 (qt_range b1 b2).2 (by assumption) (by assumption) (List.forall_mem_cons.mpr ⟨rfl, List.forall_mem_cons.mpr ⟨rfl, List.forall_mem_nil _⟩⟩) ⟨rfl, fun j hj => absurd hj (Nat.not_lt_zero j)⟩ ?step ?fin
  case fin => exact fun h' tk m' news' hJ _ _ => (qt_no (Int.toNat_of_nonneg (by omega)) b1 b2 hJ.2).elim
  case step =>
    clear hR
    rintro i t m₁ news₁ IT oI h₁ tk₁ Q' hi ⟨rfl, hJ⟩ F N off hn hr
    have hi0 : (i : Int) < (z_quot.v.i 1) := by omega
    repeat' (first | (refine Stop.go ?_; first
        | ((with_reducible show wpAny _ _ (call (Value.ref 102) _) _ _ _); refine' use_int (does_add ) B ?kF X ?kN T rfl (fun _ h9 => nomatch h9) (rm hd rfl) (rm hu rfl) ?_; (case kF => assumption); (case kN => assumption); intro t9 h9 tk9 F N)
        | ((with_reducible show wpAny _ _ (call (Value.ref 130) _) _ _ _); refine' use_int (does_sub ) B ?kF X ?kN T rfl (fun _ h9 => nomatch h9) (rm hd rfl) (rm hu rfl) ?_; (case kF => assumption); (case kN => assumption); intro t9 h9 tk9 F N)
        | ((with_reducible show wpAny _ _ (call (Value.ref 116) _) _ _ _); refine' use_int (does_mod ?b1) B ?kF X ?kN T rfl (fun _ h9 => nomatch h9) (rm hd rfl) (rm hu rfl) ?_; (case b1 => first | assumption | decide | exact Int.emod_nonneg _ (by decide) | exact Int.emod_lt_of_pos _ (by decide) | omega); (case kF => assumption); (case kN => assumption); intro t9 h9 tk9 F N)
        | ((with_reducible show wpAny _ _ (call (Value.ref 123) _) _ _ _); refine' use_int (does_mul ?b1 ?b2) B ?kF X ?kN T rfl (fun _ h9 => nomatch h9) (rm hd rfl) (rm hu rfl) ?_; (case b1 => first | assumption | decide | exact Int.emod_nonneg _ (by decide) | exact Int.emod_lt_of_pos _ (by decide) | omega | exact mulb1 (by omega) (by omega) (by omega) (by omega) (by omega) (by omega)); (case b2 => first | assumption | decide | exact Int.emod_nonneg _ (by decide) | exact Int.emod_lt_of_pos _ (by decide) | omega | exact mulb2 (by omega) (by omega) (by omega) (by omega) (by omega) (by omega)); (case kF => assumption); (case kN => assumption); intro t9 h9 tk9 F N)
        | ((with_reducible show wpAny _ _ (call (Value.ref 109) _) _ _ _); refine' use_int (does_fdiv ?b1 ?b2 ?b3 ?b4) B ?kF X ?kN T rfl (fun _ h9 => nomatch h9) (rm hd rfl) (rm hu rfl) ?_; (case b1 => first | assumption | decide | exact Int.emod_nonneg _ (by decide) | exact Int.emod_lt_of_pos _ (by decide) | omega); (case b2 => first | assumption | decide | exact Int.emod_nonneg _ (by decide) | exact Int.emod_lt_of_pos _ (by decide) | omega); (case b3 => first | assumption | decide | exact Int.emod_nonneg _ (by decide) | exact Int.emod_lt_of_pos _ (by decide) | omega); (case b4 => first | assumption | decide | exact Int.emod_nonneg _ (by decide) | exact Int.emod_lt_of_pos _ (by decide) | omega); (case kF => assumption); (case kN => assumption); intro t9 h9 tk9 F N)) | ((fail_if_success (with_reducible show Stop _)); first | walk1 | (dsimp only; walk1)))

    · exact hr _ _ (hQ _ [] _ _ _ _ N (fun _ h9 => nomatch h9) F (fun _ h9 => nomatch h9) ⟨rfl, _, _, qt_of b1 b3 b4 (by omega) (by omega) (by assumption), rfl⟩)
    · refine hn _ _ _ _ F N off (List.forall_mem_cons.mpr ⟨rfl, List.forall_mem_cons.mpr ⟨rfl, List.forall_mem_nil _⟩⟩) ⟨rfl, fun j hj => ?_⟩
      exact (Nat.lt_succ_iff_lt_or_eq.mp hj).elim (hJ j) fun e => e ▸ (by assumption)
theorem does_quot {x : Int} {d : Int} {tx : Tok} {ty : Tok} (b1 : 1 ≤ d) (b2 : d ≤ 5) (b3 : 0 ≤ x) (b4 : x < 65521) : Does w 2 170 [] [.int x tx, .int d ty] (fun tl v => tl = [] ∧ ∃ q t, Qt x d q ∧ v = .int q t) :=
  does_of fun b => eps_all b_quot ⟨w, b, { i := fun | 0 => x | _ => d, t := fun | 0 => tx | _ => ty }⟩ b1 b2 b3 b4

end
end
section
example : True ∧ True := by w_top off; first | (walk1 <;> trivial) | exact ⟨trivial, trivial⟩
open PySem PySem.W PyProof.Rows
set_option Elab.async false
set_option maxRecDepth 100000
set_option maxHeartbeats 8000000
set_option linter.unusedVariables false
set_option linter.unusedSimpArgs false
local macro_rules | `(tactic| walk_at $s:str) => lineAt ["call ref", "exec For Name Call cons nil", "pyIter ref", "eval ListComp"] linesN s

/-- what the curve through three points tells at 0, 7 and 8 -/
def Thr (u a v b w c r0 r7 r8 : Int) : Prop := ∃ rise later bend, Qt ((b - a) % 65521) (v - u) rise ∧ Qt ((c - b) % 65521) (w - v) later ∧ Qt ((later - rise) % 65521) (w - u) bend ∧
  r0 = (a + (0 - u) * (rise + (0 - v) * bend)) % 65521 ∧ r7 = (a + (7 - u) * (rise + (7 - v) * bend)) % 65521 ∧ r8 = (a + (8 - u) * (rise + (8 - v) * bend)) % 65521
abbrev qtv {x d q : Int} (_ : Qt x d q) : Int := q
def ThrF (u a v rise bend : Int) (vv y : Value) : Prop := ∃ x t t', vv = .int x t ∧ y = .int ((a + (x - u) * (rise + (x - v) * bend)) % 65521) t'
theorem items3 {i : Nat} {a b c : Value} {x : Value} (h : #[a, b, c][i]? = some x) : x = a ∨ x = b ∨ x = c := by
  match i, h with
  | 0, h => left; simpa using h.symm
  | 1, h => right; left; simpa using h.symm
  | 2, h => right; right; simpa using h.symm
  | _ + 3, h => simp at h
theorem paired3 {F : Value → Value → Prop} {vs ys : List Value} {a b c : Value} (hl : vs.length = 3) (hv : ∀ (j : Nat) (v : Value), vs[j]? = some v → #[a, b, c][j]? = some v) (h : Paired F (vs.filter fun _ => true) ys) :
    ∃ y0 y1 y2, ys = [y0, y1, y2] ∧ F a y0 ∧ F b y1 ∧ F c y2 := by
  rw [List.filter_eq_self.mpr fun _ _ => rfl] at h
  obtain ⟨v0, v1, v2, rfl⟩ := len3 hl
  cases Option.some.inj (hv 0 v0 rfl)
  cases Option.some.inj (hv 1 v1 rfl)
  cases Option.some.inj (hv 2 v2 rfl)
  cases h with
  | cons f0 h => cases h with
    | cons f1 h => cases h with
      | cons f2 h => cases h with
        | nil => exact ⟨_, _, _, rfl, f0, f1, f2⟩


section
variable {w : World}
theorem fill_d3 : ∀ p, (heap9 p).In {} → PySem.Challenge.rw_zd0006_01 = PySem.Challenge.rw_zd0006_01 := by
  k_fill; exact fun _ _ => rfl
def S_through (z : Zx) : Prop := 1 ≤ (z.v.i 0) → (z.v.i 0) < (z.v.i 2) → (z.v.i 2) < (z.v.i 4) → (z.v.i 4) ≤ 6 → EnteredC z.w 4 175 [((z.v.p 0), kdv_tup [.int (z.v.i 0) (z.v.t 0), .int (z.v.i 1) (z.v.t 1)]), ((z.v.p 1), kdv_tup [.int (z.v.i 2) (z.v.t 2), .int (z.v.i 3) (z.v.t 3)]), ((z.v.p 2), kdv_tup [.int (z.v.i 4) (z.v.t 4), .int (z.v.i 5) (z.v.t 5)]), ((z.v.p 3), listOf #[.ref (z.v.p 0), .ref (z.v.p 1), .ref (z.v.p 2)] (z.v.n 0))] [.ref (z.v.p 3)] (fun tl v' => ∃ r n r0 r7 r8 s0 s7 s8, tl = [(r, listOf #[.int r0 s0, .int r7 s7, .int r8 s8] n)] ∧ v' = .ref r ∧ Thr (z.v.i 0) (z.v.i 1) (z.v.i 2) (z.v.i 3) (z.v.i 4) (z.v.i 5) r0 r7 r8) z.b
noncomputable def z_through : Zx := eps S_through
theorem b_through : S_through z_through := by
  intro hu1 hv1 hw1 h61
  refine' EnteredC.intro ?k6 ?k7 ?k9 ?kB ?kD ?c2 ?c3 ?c4 ?kW
  case k6 => k_is
  case k7 => k_is
  case k9 => exact rfl
  case kB => exact rfl
  case kD => decide +kernel
  case c2 => exact rfl
  case c3 => exact rfl
  case c4 => exact rfl
  intro F N Y B X T l1 hd hu hQ
  obtain ⟨hc0, hc1, hc2, hc3, hc4⟩ := cells5 Y
  clear Y
  replace N := news5 N
  replace l1 := allLt_of l1
  simp only [AllLt, and_true] at l1
  repeat' (first | (refine Stop.go ?_; first
      | ((with_reducible show wpAny _ _ (call (Value.ref 102) _) _ _ _); refine' use_int (does_add ) B ?kF X ?kN T rfl (fun _ h9 => nomatch h9) (rm hd rfl) (rm hu rfl) ?_; (case kF => assumption); (case kN => assumption); intro t9 h9 tk9 F N)
      | ((with_reducible show wpAny _ _ (call (Value.ref 130) _) _ _ _); refine' use_int (does_sub ) B ?kF X ?kN T rfl (fun _ h9 => nomatch h9) (rm hd rfl) (rm hu rfl) ?_; (case kF => assumption); (case kN => assumption); intro t9 h9 tk9 F N)
      | ((with_reducible show wpAny _ _ (call (Value.ref 116) _) _ _ _); refine' use_int (does_mod ?b1) B ?kF X ?kN T rfl (fun _ h9 => nomatch h9) (rm hd rfl) (rm hu rfl) ?_; (case b1 => first | assumption | decide | exact Int.emod_nonneg _ (by decide) | exact Int.emod_lt_of_pos _ (by decide) | omega); (case kF => assumption); (case kN => assumption); intro t9 h9 tk9 F N)
      | ((with_reducible show wpAny _ _ (call (Value.ref 123) _) _ _ _); refine' use_int (does_mul ?b1 ?b2) B ?kF X ?kN T rfl (fun _ h9 => nomatch h9) (rm hd rfl) (rm hu rfl) ?_; (case b1 => first | assumption | decide | exact Int.emod_nonneg _ (by decide) | exact Int.emod_lt_of_pos _ (by decide) | omega | exact mulb1 (by omega) (by omega) (by omega) (by omega) (by omega) (by omega)); (case b2 => first | assumption | decide | exact Int.emod_nonneg _ (by decide) | exact Int.emod_lt_of_pos _ (by decide) | omega | exact mulb2 (by omega) (by omega) (by omega) (by omega) (by omega) (by omega)); (case kF => assumption); (case kN => assumption); intro t9 h9 tk9 F N)
      | ((with_reducible show wpAny _ _ (call (Value.ref 109) _) _ _ _); refine' use_int (does_fdiv ?b1 ?b2 ?b3 ?b4) B ?kF X ?kN T rfl (fun _ h9 => nomatch h9) (rm hd rfl) (rm hu rfl) ?_; (case b1 => first | assumption | decide | exact Int.emod_nonneg _ (by decide) | exact Int.emod_lt_of_pos _ (by decide) | omega); (case b2 => first | assumption | decide | exact Int.emod_nonneg _ (by decide) | exact Int.emod_lt_of_pos _ (by decide) | omega); (case b3 => first | assumption | decide | exact Int.emod_nonneg _ (by decide) | exact Int.emod_lt_of_pos _ (by decide) | omega); (case b4 => first | assumption | decide | exact Int.emod_nonneg _ (by decide) | exact Int.emod_lt_of_pos _ (by decide) | omega); (case kF => assumption); (case kN => assumption); intro t9 h9 tk9 F N)
      | ((with_reducible show wpAny _ _ (call (Value.ref 170) _) _ _ _); refine' use_val (does_quot ?b1 ?b2 ?b3 ?b4) B ?kF X ?kN T rfl (fun _ h9 => nomatch h9) (rm hd rfl) (rm hu rfl) ?_; (case b1 => first | assumption | decide | exact Int.emod_nonneg _ (by decide) | exact Int.emod_lt_of_pos _ (by decide) | omega); (case b2 => first | assumption | decide | exact Int.emod_nonneg _ (by decide) | exact Int.emod_lt_of_pos _ (by decide) | omega); (case b3 => first | assumption | decide | exact Int.emod_nonneg _ (by decide) | exact Int.emod_lt_of_pos _ (by decide) | omega); (case b4 => first | assumption | decide | exact Int.emod_nonneg _ (by decide) | exact Int.emod_lt_of_pos _ (by decide) | omega); (case kF => assumption); (case kN => assumption); intro v9 h9 tk9 q9 F N; obtain ⟨q9, t9, qt9, e9⟩ := q9; subst e9; have q19 := qt9.lo; have q29 := qt9.hi)) | ((fail_if_success (with_reducible show Stop _)); first | walk1 | (dsimp only; walk1)))
  refine Stop.go ?_
  rename Fr _ _ _ _ => kF
  rename News _ _ _ _ => kN
  rename Qt _ _ _ => hq3
  revert hq3
  rename Qt _ _ _ => hq2
  revert hq2
  rename Qt _ _ _ => hq1
  intro hq2 hq3
  dsimp only
  refine ListComp_N (h₀ := z_through.b.g) (fun _ => true) (ThrF (z_through.v.i 0) (z_through.v.i 1) (z_through.v.i 2) (qtv hq1) (qtv hq3)) kF (by with_unfolding_all rfl) (by decide) (by rfl) (by decide) (by rfl) ?_
  k_steps
  refine Stop.go ?_
  rename Fr _ _ _ _ => kF
  rename News _ _ _ _ => kN
  refine ⟨_, _, _, ?hn, kF, kN, src_tuple rfl ⟨_, (kN _ (List.Mem.head _)).1, rfl, _, rfl⟩, ?ht, ?he, ?hf⟩
  case hn => show 3 ≤ sizeLine; decide
  case ht =>
    intro C oC i vv s₃ m₃ E' hP ho hm F₃ N₃ hlt
    exact tests_nil (Stop.go ⟨rfl, ⟨s₃.heap, s₃.toks, rfl, fun _ _ e => e⟩⟩)
  case he =>
    intro C oC i vv s₃ m₃ E' hP _ ho hm F₃ N₃ hlt
    have hx : ∃ x t, vv = .int x t ∧ 0 ≤ x ∧ x ≤ 8 := by
      rcases items3 hP with rfl | rfl | rfl <;> exact ⟨_, _, rfl, by decide, by decide⟩
    obtain ⟨x, t, rfl, hx0, hx8⟩ := hx
    clear kF kN
    obtain ⟨h3, gn3, dr3, tk3, os3⟩ := s₃
    repeat' (first | (refine Stop.go ?_; first
        | ((with_reducible show wpAny _ _ (call (Value.ref 102) _) _ _ _); refine' use_intK (does_add ) B ?kF X ?kN T rfl (fun _ h9 => nomatch h9) (rm hd rfl) (rm hu rfl) ?_; (case kF => assumption); (case kN => assumption); intro t9 h9 tk9 F N k9)
        | ((with_reducible show wpAny _ _ (call (Value.ref 130) _) _ _ _); refine' use_intK (does_sub ) B ?kF X ?kN T rfl (fun _ h9 => nomatch h9) (rm hd rfl) (rm hu rfl) ?_; (case kF => assumption); (case kN => assumption); intro t9 h9 tk9 F N k9)
        | ((with_reducible show wpAny _ _ (call (Value.ref 116) _) _ _ _); refine' use_intK (does_mod ?b1) B ?kF X ?kN T rfl (fun _ h9 => nomatch h9) (rm hd rfl) (rm hu rfl) ?_; (case b1 => first | assumption | decide | exact Int.emod_nonneg _ (by decide) | exact Int.emod_lt_of_pos _ (by decide) | omega); (case kF => assumption); (case kN => assumption); intro t9 h9 tk9 F N k9)
        | ((with_reducible show wpAny _ _ (call (Value.ref 123) _) _ _ _); refine' use_intK (does_mul ?b1 ?b2) B ?kF X ?kN T rfl (fun _ h9 => nomatch h9) (rm hd rfl) (rm hu rfl) ?_; (case b1 => first | assumption | decide | exact Int.emod_nonneg _ (by decide) | exact Int.emod_lt_of_pos _ (by decide) | omega | exact mulb1 (by omega) (by omega) (by omega) (by omega) (by omega) (by omega)); (case b2 => first | assumption | decide | exact Int.emod_nonneg _ (by decide) | exact Int.emod_lt_of_pos _ (by decide) | omega | exact mulb2 (by omega) (by omega) (by omega) (by omega) (by omega) (by omega)); (case kF => assumption); (case kN => assumption); intro t9 h9 tk9 F N k9)
        | ((with_reducible show wpAny _ _ (call (Value.ref 109) _) _ _ _); refine' use_intK (does_fdiv ?b1 ?b2 ?b3 ?b4) B ?kF X ?kN T rfl (fun _ h9 => nomatch h9) (rm hd rfl) (rm hu rfl) ?_; (case b1 => first | assumption | decide | exact Int.emod_nonneg _ (by decide) | exact Int.emod_lt_of_pos _ (by decide) | omega); (case b2 => first | assumption | decide | exact Int.emod_nonneg _ (by decide) | exact Int.emod_lt_of_pos _ (by decide) | omega); (case b3 => first | assumption | decide | exact Int.emod_nonneg _ (by decide) | exact Int.emod_lt_of_pos _ (by decide) | omega); (case b4 => first | assumption | decide | exact Int.emod_nonneg _ (by decide) | exact Int.emod_lt_of_pos _ (by decide) | omega); (case kF => assumption); (case kN => assumption); intro t9 h9 tk9 F N k9)) | ((fail_if_success (with_reducible show Stop _)); first | walk1 | (dsimp only; walk1)))
    exact Stop.go ⟨⟨_, _, _, rfl, rfl⟩, keepsOf fun b o e => by solve_by_elim (maxDepth := 20)⟩
  case hf =>
    intro D k h₄ tk₄ ys vs hl hv hp F₄ N₄ hne
    obtain ⟨y0, y1, y2, rfl, ⟨w0, w1, w2, e0, rfl⟩, ⟨w3, w4, w5, e3, rfl⟩, ⟨w6, w7, w8, e6, rfl⟩⟩ := paired3 hl hv hp
    cases e0; cases e3; cases e6
    clear kF kN
    k_steps
    exact hQ _ [(D, _)] _ _ _ _ N₄ (by kcj_all) F₄ (fun p hp q hq => by cases List.mem_singleton.mp hp; exact hne q ((by kcj_all : ∀ z ∈ _, z ∈ _) q hq)) ⟨_, _, _, _, _, _, _, _, rfl, rfl, _, _, _, hq1, hq2, hq3, rfl, rfl, rfl⟩
theorem does_through {q1 : Addr} {q2 : Addr} {q3 : Addr} {tt : Addr} {n3 : Nat} {x1 : Int} {y1 : Int} {x2 : Int} {y2 : Int} {x3 : Int} {y3 : Int} {t0 : Tok} {t1 : Tok} {t2 : Tok} {t3 : Tok} {t4 : Tok} {t5 : Tok} (hu1 : 1 ≤ x1) (hv1 : x1 < x2) (hw1 : x2 < x3) (h61 : x3 ≤ 6) : Does w 5 175 [(q1, kdv_tup [.int x1 t0, .int y1 t1]), (q2, kdv_tup [.int x2 t2, .int y2 t3]), (q3, kdv_tup [.int x3 t4, .int y3 t5]), (tt, listOf #[.ref q1, .ref q2, .ref q3] n3)] [.ref tt] (fun tl v' => ∃ r n r0 r7 r8 s0 s7 s8, tl = [(r, listOf #[.int r0 s0, .int r7 s7, .int r8 s8] n)] ∧ v' = .ref r ∧ Thr x1 y1 x2 y2 x3 y3 r0 r7 r8) :=
  does_ofC fun b => eps_all b_through ⟨w, b, { p := fun | 0 => q1 | 1 => q2 | 2 => q3 | _ => tt, n := fun | _ => n3, i := fun | 0 => x1 | 1 => y1 | 2 => x2 | 3 => y2 | 4 => x3 | _ => y3, t := fun | 0 => t0 | 1 => t1 | 2 => t2 | 3 => t3 | 4 => t4 | _ => t5 }⟩ hu1 hv1 hw1 h61

end
end
section
example : True ∧ True := by w_top off; first | (walk1 <;> trivial) | exact ⟨trivial, trivial⟩
open PySem PySem.W PyProof.Rows
set_option Elab.async false
set_option maxRecDepth 100000
set_option maxHeartbeats 8000000
set_option linter.unusedVariables false
set_option linter.unusedSimpArgs false
local macro_rules | `(tactic| walk_at $s:str) => lineAt ["call ref", "exec For Name Call cons nil", "pyIter ref", "exec Assign cons DictComp", "setItem ref int"] ([("subscriptTail Name Name ref int", `r_ditem, 4)] ++ linesN) s
def toldF (f : Int → Int) (d4 d5 wd : Int) (i : Int) : Int := if i = d4 % (6 * wd) / wd + 1 then f i + (d5 % 10 - f i / 10 ^ (wd - 1 - d4 % wd).toNat % 10) * 10 ^ (wd - 1 - d4 % wd).toNat else f i
theorem pow_all : ∀ k : Fin 5, 1 ≤ (10 : Int) ^ k.val ∧ (10 : Int) ^ k.val ≤ 10000 := by decide +kernel
theorem pow_wt {wd a : Int} (h0 : 0 ≤ a) (h1 : a < wd) (h2 : wd ≤ 5) : 1 ≤ (10 : Int) ^ (wd - 1 - a).toNat ∧ (10 : Int) ^ (wd - 1 - a).toNat ≤ 10000 :=
  pow_all ⟨(wd - 1 - a).toNat, by omega⟩

section
variable {w : World}
theorem fill_d4 : ∀ p, (heap9 p).In {} → PySem.Challenge.rw_zd0006_01 = PySem.Challenge.rw_zd0006_01 := by
  k_fill; exact fun _ _ => rfl
def S_told (z : Zx) : Prop := PDict PySem.Challenge.rw_zd0006_01.row.prog z.w (z.v.o 0) (z.v.f 0) → ((z.v.p 1) == sysModules) = false → (∀ k, 1 ≤ k → k ≤ 6 → 0 ≤ (z.v.f 0) k ∧ (z.v.f 0) k ≤ 65521) → 5 ≤ (z.v.i 4) → 4 ≤ (z.v.i 6) → (z.v.i 6) ≤ 5 → EnteredC z.w 2 156 [((z.v.p 0), listOf #[.int (z.v.i 0) (z.v.t 0), .int (z.v.i 1) (z.v.t 1), .int (z.v.i 2) (z.v.t 2), .int (z.v.i 3) (z.v.t 3), .int (z.v.i 4) (z.v.t 4), .int (z.v.i 5) (z.v.t 5)] (z.v.n 0)), ((z.v.p 1), (z.v.o 0))] [.ref (z.v.p 0), .ref (z.v.p 1), .int (z.v.i 6) (z.v.t 6)] (fun tl v => ∃ D o', tl = [(D, o')] ∧ v = .ref D ∧ (D == sysModules) = false ∧ PDict PySem.Challenge.rw_zd0006_01.row.prog z.w o' (toldF (z.v.f 0) (z.v.i 4) (z.v.i 5) (z.v.i 6))) z.b
noncomputable def z_told : Zx := eps S_told
theorem b_told : S_told z_told := by
  intro hd hs hf b0 b1 b2
  refine' EnteredC.intro ?k6 ?k7 ?k9 ?kB ?kD ?c2 ?c3 ?c4 ?kW
  case k6 => k_is
  case k7 => k_is
  case k9 => exact rfl
  case kB => exact rfl
  case kD => decide +kernel
  case c2 => exact rfl
  case c3 => exact rfl
  case c4 => exact rfl
  intro F N Y B X T l1 hdp hu hQ
  have hc0 := cells1 Y
  clear Y
  replace N := news1 N
  replace l1 := allLt_of l1
  simp only [AllLt, and_true] at l1
  have e1 : 0 ≤ (z_told.v.i 4) % (z_told.v.i 6) := Int.emod_nonneg _ (by omega)
  have e2 : (z_told.v.i 4) % (z_told.v.i 6) < (z_told.v.i 6) := Int.emod_lt_of_pos _ (by omega)
  have e3 : 0 ≤ (z_told.v.i 4) % (6 * (z_told.v.i 6)) := Int.emod_nonneg _ (by omega)
  have e4 : (z_told.v.i 4) % (6 * (z_told.v.i 6)) < 6 * (z_told.v.i 6) := Int.emod_lt_of_pos _ (by omega)
  have hc1 : 1 ≤ (z_told.v.i 4) % (6 * (z_told.v.i 6)) / (z_told.v.i 6) + 1 := by have := Int.ediv_nonneg e3 (show 0 ≤ (z_told.v.i 6) by omega); omega
  have hc6 : (z_told.v.i 4) % (6 * (z_told.v.i 6)) / (z_told.v.i 6) + 1 ≤ 6 := by have := Int.ediv_lt_of_lt_mul (show 0 < (z_told.v.i 6) by omega) (show (z_told.v.i 4) % (6 * (z_told.v.i 6)) < 6 * (z_told.v.i 6) from e4); omega
  have f3 := pow_wt e1 e2 b2
  have f4 : 0 < (10 : Int) ^ ((z_told.v.i 6) - 1 - (z_told.v.i 4) % (z_told.v.i 6)).toNat := f3.1
  have f5 : (10 : Int) ^ ((z_told.v.i 6) - 1 - (z_told.v.i 4) % (z_told.v.i 6)).toNat < 1000000 := by have := f3.2; omega
  have f6 := f3.2
  repeat' ((fail_if_success (with_reducible show Stop _)); first | walk1 | (dsimp only; walk1))
  refine Stop.go ?_
  rename Fr _ _ _ _ => kF
  rename News _ _ _ _ => kN
  refine Assign_DictComp_N (fun _ => true) (fun v k => ∃ t, v = .int k t) (fun v y => ∃ k t t', v = .int k t ∧ y = .int ((z_told.v.f 0) k) t') kF T.nolimit rfl (by rfl) (by with_unfolding_all rfl) (by decide) (by rfl) (by decide) (by rfl) (by rfl) (by rfl) ?_
  repeat' ((fail_if_success (with_reducible show Stop _)); first | walk1 | (dsimp only; walk1))
  refine Stop.go ?_
  refine ⟨_, _, _, ?hn, kF, kN, pd_src rfl kN (by k_mem) hd hs, ?ht, ?hk, ?hv, ?hf⟩
  case hn => show 6 ≤ sizeLine; decide
  case ht =>
    intro C oC i vv s₃ m₃ E' hP ho hm F₃ N₃ hlt
    exact tests_nil (Stop.go ⟨rfl, ⟨s₃.heap, s₃.toks, rfl, fun _ _ e => e⟩⟩)
  case hk =>
    intro C oC i vv s₃ m₃ E' hP _ ho hm F₃ N₃ hlt
    obtain ⟨hi, t, rfl⟩ := hP
    clear kF kN
    k_steps
    exact Stop.go ⟨⟨_, intKind_is _ _ _ _, _, rfl⟩, keepsOf fun _ _ e => e⟩
  case hv =>
    intro C oC i vv s₃ m₃ E' hP _ ho hm F₃ N₃ hlt
    obtain ⟨hi, t, rfl⟩ := hP
    have g1 : 1 ≤ (i : Int) + 1 := by omega
    have g6 : (i : Int) + 1 ≤ 6 := by omega
    obtain ⟨h3, gn3, dr3, tk3, os3⟩ := s₃
    dsimp only at N₃ F₃
    clear kF kN
    repeat' ((fail_if_success (with_reducible show Stop _)); first | walk1 | (dsimp only; walk1))
    exact Stop.go ⟨⟨_, _, _, rfl, rfl⟩, keepsOf fun _ _ e => e⟩
  case hf =>
    intro D oD' h₄ tk₄ kvs vs hD hl hv hst hod F₄ N₄ hne
    have hd' : PDict PySem.Challenge.rw_zd0006_01.row.prog z_told.w oD' (z_told.v.f 0) := pd_of_stored (fun k t y _ _ ⟨k', t', t'', e1, e2⟩ => by cases e1; exact ⟨_, e2⟩) hl hv hst hod
    have hs' := hD
    clear kF kN hst hv
    replace hne := allLt_of hne
    simp only [AllLt, and_true] at hne
    dsimp only
    repeat' ((fail_if_success (with_reducible show Stop _)); first | (refine r_ditem (by assumption) (by k_mem) hd' hs' hc1 hc6 ?_; intro _) | walk1 | (dsimp only; walk1))
    refine Stop.go ?_
    refine' r_dset F₄ (by assumption) ?U hd' hc1 hc6 ?_
    case U => k_updF
    intro h5 o5 F₅ N₅ hd5
    clear N₄
    repeat' ((fail_if_success (with_reducible show Stop _)); first | walk1 | (dsimp only; walk1))
    refine hQ _ [(D, o5)] _ _ _ _ N₅ (by kcj_all) F₅ (fun p hp q hq => ?_) ⟨D, o5, rfl, rfl, hD, hd5.congr fun k _ _ => ?_⟩
    · cases List.mem_singleton.mp hp
      have hm : q.1 = (z_told.v.p 0) ∨ q.1 = (z_told.v.p 1) := by
        rcases List.mem_cons.mp hq with rfl | hq
        · exact .inl rfl
        · cases List.mem_singleton.mp hq; exact .inr rfl
      rcases hm with e | e
      · exact e ▸ Nat.ne_of_lt hne.2.1
      · exact e ▸ Nat.ne_of_lt hne.2.2
    · show (if k = _ then _ else _) = toldF (z_told.v.f 0) (z_told.v.i 4) (z_told.v.i 5) (z_told.v.i 6) k
      unfold toldF
      by_cases he : k = (z_told.v.i 4) % (6 * (z_told.v.i 6)) / (z_told.v.i 6) + 1
      · rw [if_pos he, if_pos he, he]
      · rw [if_neg he, if_neg he]
theorem does_told {l : Addr} {n : Nat} {d0 : Int} {d1 : Int} {d2 : Int} {d3 : Int} {d4 : Int} {d5 : Int} {t0 : Tok} {t1 : Tok} {t2 : Tok} {t3 : Tok} {t4 : Tok} {t5 : Tok} {d : Addr} {oD : Obj} {f : Int → Int} {wd : Int} {tw : Tok} (hd : PDict PySem.Challenge.rw_zd0006_01.row.prog w oD f) (hs : (d == sysModules) = false) (hf : (∀ k, 1 ≤ k → k ≤ 6 → 0 ≤ f k ∧ f k ≤ 65521)) (b0 : 5 ≤ d4) (b1 : 4 ≤ wd) (b2 : wd ≤ 5) : Does w 3 156 [(l, listOf #[.int d0 t0, .int d1 t1, .int d2 t2, .int d3 t3, .int d4 t4, .int d5 t5] n), (d, oD)] [.ref l, .ref d, .int wd tw] (fun tl v => ∃ D o', tl = [(D, o')] ∧ v = .ref D ∧ (D == sysModules) = false ∧ PDict PySem.Challenge.rw_zd0006_01.row.prog w o' (toldF f d4 d5 wd)) :=
  does_ofC fun b => eps_all b_told ⟨w, b, { p := fun | 0 => l | _ => d, n := fun | _ => n, i := fun | 0 => d0 | 1 => d1 | 2 => d2 | 3 => d3 | 4 => d4 | 5 => d5 | _ => wd, t := fun | 0 => t0 | 1 => t1 | 2 => t2 | 3 => t3 | 4 => t4 | 5 => t5 | _ => tw, o := fun | _ => oD, f := fun | _ => f }⟩ hd hs hf b0 b1 b2

end
end
section
example : True ∧ True := by w_top off; first | (walk1 <;> trivial) | exact ⟨trivial, trivial⟩
open PySem PySem.W PyProof.Rows
set_option Elab.async false
set_option maxRecDepth 100000
set_option maxHeartbeats 8000000
set_option linter.unusedVariables false
set_option linter.unusedSimpArgs false
local macro_rules | `(tactic| walk_at $s:str) => lineAt ["call ref", "exec For Name Call cons nil", "pyIter ref", "exec For Tuple Call cons nil", "call type:enumerate", "subscriptTail Name Slice ref ref", "setItem ref int"] ([("subscriptTail Name Name ref int", `r_at, 5)] ++ linesN) s
abbrev DoesL (w : World) (k : Nat) (f : Addr) (sc : Addr) (vs : List Value) (sub : List (Addr × Obj)) (args : List Value) (P : List (Addr × Obj) → Value → Prop) : Prop :=
  DoesX w k f (fun h => h.IsList sc vs.toArray) sub args P
/-- the six numbers that the law draws -/
structure Drawn (d0 d1 d2 d3 d4 d5 : Int) : Prop where
  l0 : 100 ≤ d0
  l1 : 65519 ≤ d1
  l2 : 3 ≤ d2
  l3 : 9 ≤ d3
  l4 : 5 ≤ d4
  l5 : 7 ≤ d5
  h0 : d0 ≤ 1065519
  h1 : d1 ≤ 1065519
  h2 : d2 ≤ 1065519
  h3 : d3 ≤ 1065519
  h4 : d4 ≤ 1065519
  h5 : d5 ≤ 1065519
def NumP (tl : List (Addr × Obj)) (v : Value) : Prop := ∃ D n d0 d1 d2 d3 d4 d5 u0 u1 u2 u3 u4 u5, v = .ref D ∧ tl = [(D, listOf #[.int d0 u0, .int d1 u1, .int d2 u2, .int d3 u3, .int d4 u4, .int d5 u5] n)] ∧ Drawn d0 d1 d2 d3 d4 d5
theorem pick_take (vs : List Value) : (slicePick vs.toArray none (some 6) none).toList = vs.take 6 := by
  have e : sliceBounds none (some 6) none vs.toArray.size = (((0 : Nat) : Int), ((min 6 vs.length : Nat) : Int), 1) := by
    simp only [sliceBounds, Option.getD_none, show (1 : Int) > 0 by decide, if_true, if_neg (show ¬ ((6 : Int) < 0) by omega)]
    congr 1
    congr 1
    simp only [List.size_toArray]
    omega
  rw [kmk_pick_nat _ e, List.drop_zero, Nat.sub_zero]
  show vs.take (min 6 vs.length) = vs.take 6
  exact List.take_eq_take_iff.mpr (by omega)
def b6 : Nat → Int
  | 0 => 100 | 1 => 65519 | 2 => 3 | 3 => 9 | 4 => 5 | _ => 7
def DB (i : Nat) (ds : List Value) : Prop := ds.length = 6 ∧ ∀ j, j < 6 → ∃ x t, ds[j]? = some (.int x t) ∧ b6 j ≤ x ∧ x ≤ b6 j + (if j < i then 999999 else 0)
theorem DB.start {t0 t1 t2 t3 t4 t5 : Tok} : DB 0 [.int 100 t0, .int 65519 t1, .int 3 t2, .int 9 t3, .int 5 t4, .int 7 t5] :=
  ⟨rfl, fun
    | 0, _ => ⟨_, _, rfl, by decide, by decide⟩
    | 1, _ => ⟨_, _, rfl, by decide, by decide⟩
    | 2, _ => ⟨_, _, rfl, by decide, by decide⟩
    | 3, _ => ⟨_, _, rfl, by decide, by decide⟩
    | 4, _ => ⟨_, _, rfl, by decide, by decide⟩
    | 5, _ => ⟨_, _, rfl, by decide, by decide⟩
    | n + 6, h => absurd h (by omega)⟩
theorem DB.set {i : Nat} {ds : List Value} {x a : Int} {t u : Tok} (h : DB i ds) (hi : i < 6) (hx : ds[i]? = some (.int x t)) : DB (i + 1) (ds.set i (.int (x + a % 1000000) u)) := by
  refine ⟨by rw [List.length_set]; exact h.1, fun j hj => ?_⟩
  obtain ⟨y, s, e, l, r⟩ := h.2 j hj
  by_cases q : i = j
  · subst q
    rw [hx] at e
    cases e
    have p := Int.emod_nonneg a (show (1000000 : Int) ≠ 0 by decide)
    have p' := Int.emod_lt_of_pos a (show (0 : Int) < 1000000 by decide)
    rw [if_neg (Nat.lt_irrefl i)] at r
    refine ⟨_, _, List.getElem?_set_self (by rw [h.1]; exact hi), by omega, ?_⟩
    rw [if_pos (Nat.lt_succ_self i)]
    omega
  · refine ⟨y, s, by rw [List.getElem?_set_ne q]; exact e, l, Int.le_trans r ?_⟩
    have : (if j < i then (999999 : Int) else 0) ≤ (if j < i + 1 then 999999 else 0) := by split <;> split <;> omega
    omega
theorem DB.num {i n : Nat} {ds : List Value} {D : Addr} (h : DB i ds) : NumP [(D, listOf (List.toArray ds) n)] (.ref D) := by
  obtain ⟨hl, h⟩ := h
  have le : ∀ j, b6 j + (if j < i then (999999 : Int) else 0) ≤ b6 j + 999999 := fun j => by split <;> omega
  obtain ⟨d0, u0, e0, l0, r0⟩ := h 0 (by decide)
  obtain ⟨d1, u1, e1, l1, r1⟩ := h 1 (by decide)
  obtain ⟨d2, u2, e2, l2, r2⟩ := h 2 (by decide)
  obtain ⟨d3, u3, e3, l3, r3⟩ := h 3 (by decide)
  obtain ⟨d4, u4, e4, l4, r4⟩ := h 4 (by decide)
  obtain ⟨d5, u5, e5, l5, r5⟩ := h 5 (by decide)
  have q : ds = [.int d0 u0, .int d1 u1, .int d2 u2, .int d3 u3, .int d4 u4, .int d5 u5] := by
    refine List.ext_getElem? fun j => ?_
    match j with
    | 0 => exact e0
    | 1 => exact e1
    | 2 => exact e2
    | 3 => exact e3
    | 4 => exact e4
    | 5 => exact e5
    | j + 6 => rw [List.getElem?_eq_none (by omega)]; rfl
  exact ⟨D, n, d0, d1, d2, d3, d4, d5, u0, u1, u2, u3, u4, u5, rfl, by rw [q], l0, l1, l2, l3, l4, l5, Int.le_trans (Int.le_trans r0 (le 0)) (by decide), Int.le_trans (Int.le_trans r1 (le 1)) (by decide), Int.le_trans (Int.le_trans r2 (le 2)) (by decide), Int.le_trans (Int.le_trans r3 (le 3)) (by decide), Int.le_trans (Int.le_trans r4 (le 4)) (by decide), Int.le_trans (Int.le_trans r5 (le 5)) (by decide)⟩
theorem take_int {vs : List Value} {ns : List Int} (hi : IntsAre vs ns) {i : Nat} {x : Value} (h : (vs.take 6)[i]? = some x) : i < 6 ∧ ∃ a t, x = .int a t := by
  have h6 : i < 6 := by
    have := (List.getElem?_eq_some_iff.mp h).1
    rw [List.length_take] at this
    omega
  rw [List.getElem?_take_of_lt h6] at h
  have hl : i < ns.length := by rw [← hi.length]; exact (List.getElem?_eq_some_iff.mp h).1
  obtain ⟨t, e⟩ := hi.get i _ (List.getElem?_eq_getElem hl)
  rw [h] at e
  exact ⟨h6, _, t, Option.some.inj e⟩

section
variable {w : World}
theorem fill_dn : ∀ p, (heap9 p).In {} → PySem.Challenge.rw_zd0006_01 = PySem.Challenge.rw_zd0006_01 := by
  k_fill; exact fun _ _ => rfl
def S_numbers (z : Zx) : Prop := IntsAre (z.v.l 0) (z.v.j 0) → ((z.v.j 0)).length ≤ 63 → Entered z.w 0 137 [] [.ref (z.v.p 0)] NumP (fun h => h.IsList (z.v.p 0) (List.toArray (z.v.l 0))) z.b
noncomputable def z_numbers : Zx := eps S_numbers
theorem b_numbers : S_numbers z_numbers := by
  intro hi hl
  refine' Entered.intro ?k6 ?k7 ?k9 ?kB ?c2 ?c3 ?c4 ?c5 ?kW
  case k6 => k_is
  case k7 => k_is
  case k9 => exact rfl
  case kB => exact locs rfl
  case c2 => exact rfl
  case c3 => exact rfl
  case c4 => exact rfl
  case c5 => decide
  intro F N B X T l1 hd hu hx hQ
  repeat' ((fail_if_success (with_reducible show Stop _)); first | walk1 | (dsimp only; walk1))
  refine Stop.go ?_
  rename Fr _ _ _ _ => F
  rename News _ _ _ _ => N
  with_unfolding_all refine' For_turns F ?_
  repeat' ((fail_if_success (with_reducible show Stop _)); first | walk1 | (dsimp only; walk1))
  refine Stop.go ?_
  dsimp only
  refine' kmk_slice_lit (s := ⟨_, _, _, _, _⟩) F N ?kl IsPart.none (IsPart.int _ _) (pick_take _) ?go ?ks ?kt ?kz
  case kl => exact hx.at fun o e => F.keep _ o e
  case ks => with_unfolding_all rfl
  case kt => kmk_pure
  case kz => rw [List.size_toArray, hi.length, sizeLine_eq]; omega
  clear F N
  intro S h' F N l1
  repeat' ((fail_if_success (with_reducible show Stop _)); first | walk1 | (dsimp only; walk1))
  refine Stop.go ?_
  replace l1 := l1 _ (List.mem_cons_self ..)
  refine for_enum [(PySem.Str.ofString "drawn", .ref _)] (fun i news => ∃ ds n, news = [(_, listOf (List.toArray (((z_numbers.v.l 0)).take 6)) 0), (_, listOf (List.toArray ds) n)] ∧ DB i ds) rfl F N (List.mem_cons_self ..) (fun i news h => by obtain ⟨ds, n, rfl, _⟩ := h; exact List.mem_cons_self ..) (List.forall_mem_cons.mpr ⟨rfl, List.forall_mem_nil _⟩) ⟨_, _, rfl, DB.start⟩ ?step ?fin
  case fin =>
    clear F N
    rintro h' tk m' news' ⟨ds, n, rfl, hD⟩ F N
    repeat' ((fail_if_success (with_reducible show Stop _)); first | walk1 | (dsimp only; walk1))
    exact hQ _ [(_, _)] _ _ _ _ N (fun p hp => by cases List.mem_singleton.mp hp; exact .tail _ (.head _)) F (fun _ _ _ h9 => nomatch h9) hD.num
  case step =>
    clear F N
    rintro I i x T t o₁ o₂ m₁ news₁ h₁ tk₁ Q' hxi ⟨ds, n, rfl, hD⟩ hT F N hlt hn hr
    obtain ⟨h6, a, ta, rfl⟩ := take_int hi hxi
    obtain ⟨y, ty, hy, _, _⟩ := hD.2 i h6
    have hy' : (List.toArray ds)[i]? = some (.int y ty) := by rw [List.getElem?_toArray]; exact hy
    repeat' ((fail_if_success (with_reducible show Stop _)); first | walk1 | (dsimp only; walk1))
    refine Stop.go ?_
    rename Fr _ _ _ _ => F
    rename News _ _ _ _ => N
    have hDI := hlt _ (.tail _ (.head _))
    refine r_set F N (UpdF.tail (Nat.ne_of_gt (Nat.lt_succ_of_lt hDI)) (UpdF.tail (Nat.ne_of_gt hDI) (UpdF.tail (Nat.ne_of_gt l1) (UpdF.head (fun _ h9 => nomatch h9))))) (by rw [List.size_toArray, hD.1]; exact h6) (Nat.lt_trans h6 (by decide)) fun h' F' N' => ?_
    rw [List.setIfInBounds_toArray] at N'
    refine wpAny_execs_nil ?_
    exact hn _ _ _ _ F' N' (List.forall_mem_cons.mpr ⟨hlt _ (.head _), List.forall_mem_cons.mpr ⟨hDI, List.forall_mem_nil _⟩⟩) (List.forall_mem_cons.mpr ⟨rfl, List.forall_mem_nil _⟩) ⟨_, _, rfl, by rw [show (10 : Int) ^ Int.toNat 6 = 1000000 by decide]; exact hD.set h6 hy⟩
theorem does_numbers {sc : Addr} {vs : List Value} {ns : List Int} (hi : IntsAre vs ns) (hl : (ns).length ≤ 63) : DoesL w 1 137 sc vs [] [.ref sc] NumP :=
  does_ofX (fun h h' k x => x.at fun o e => k _ o e) fun b => eps_all b_numbers ⟨w, b, { p := fun | _ => sc, l := fun | _ => vs, j := fun | _ => ns }⟩ hi hl

end
end
section
example : True ∧ True := by w_top off; first | (walk1 <;> trivial) | exact ⟨trivial, trivial⟩
open PySem PySem.W PyProof.Rows
set_option Elab.async false
set_option maxRecDepth 100000
set_option maxHeartbeats 8000000
set_option linter.unusedVariables false
set_option linter.unusedSimpArgs false
local macro_rules | `(tactic| walk_at $s:str) => lineAt ["call ref", "exec For Name Call cons nil", "pyIter ref", "exec Assign cons IfExp", "exec If", "call builtin:list.append"] ([("binaryOp Add str str", `r_cat, 7), ("subscriptTail Name Name ref int", `r_ditem, 4)] ++ linesN) s
def TalkJ (T : Addr) (rest : List (Addr × Obj)) (F : Int → PySem.Str) (i : Nat) (news : List (Addr × Obj)) : Prop :=
  ∃ txs k, news = (T, listOf (List.toArray txs) k) :: rest ∧ txs.length = i ∧ ∀ j : Nat, j < i → ∃ t, txs[j]? = some (.str (F ((j : Int) + 1)) t)
theorem TalkJ.snoc {T : Addr} {rest : List (Addr × Obj)} {F : Int → PySem.Str} {i k : Nat} {txs : List Value} {y : PySem.Str} {t : Tok} (hl : txs.length = i) (h : ∀ j : Nat, j < i → ∃ t, txs[j]? = some (.str (F ((j : Int) + 1)) t)) (e : y = F (1 + (i : Int))) :
    TalkJ T rest F (i + 1) ((T, listOf (List.toArray (txs ++ [.str y t])) k) :: rest) := by
  refine ⟨_, _, rfl, by rw [List.length_append, hl]; rfl, fun j hj => ?_⟩
  by_cases hji : j < i
  · obtain ⟨t8, e8⟩ := h j hji
    exact ⟨t8, by rw [List.getElem?_append_left (by omega)]; exact e8⟩
  · have : j = i := by omega
    subst this
    refine ⟨_, (snoc_at hl).trans (congrArg some (str_eq (t := t) ?_))⟩
    rw [Int.add_comm (j : Int) 1]
    exact e
def TalkP (F : Int → PySem.Str) (tl : List (Addr × Obj)) (v : Value) : Prop := ∃ D txs k, v = .ref D ∧ tl = [(D, listOf (List.toArray txs) k)] ∧ txs.length = 6 ∧ ∀ j : Nat, j < 6 → ∃ t, txs[j]? = some (.str (F ((j : Int) + 1)) t)

section
variable {w : World}
theorem fill_dt : ∀ p, (heap9 p).In {} → PySem.Challenge.rw_zd0006_01 = PySem.Challenge.rw_zd0006_01 := by
  k_fill; exact fun _ _ => rfl
def S_talk (z : Zx) : Prop := PDict PySem.Challenge.rw_zd0006_01.row.prog z.w (z.v.o 0) (z.v.f 0) → ((z.v.p 1) == sysModules) = false → (∀ k, 1 ≤ k → k ≤ 6 → 1 ≤ (z.v.f 0) k ∧ (z.v.f 0) k ≤ 65521) → 9 ≤ (z.v.i 3) → 5 ≤ (z.v.i 4) → 7 ≤ (z.v.i 5) → 4 ≤ (z.v.i 7) → (z.v.i 7) ≤ 5 → Entered z.w 0 151 [((z.v.p 0), listOf #[.int (z.v.i 0) (z.v.t 0), .int (z.v.i 1) (z.v.t 1), .int (z.v.i 2) (z.v.t 2), .int (z.v.i 3) (z.v.t 3), .int (z.v.i 4) (z.v.t 4), .int (z.v.i 5) (z.v.t 5)] (z.v.n 0)), ((z.v.p 1), (z.v.o 0))] [.ref (z.v.p 0), .ref (z.v.p 1), .int (z.v.i 6) (z.v.t 6), .int (z.v.i 7) (z.v.t 7)] (TalkP (fun p => talkF (z.v.i 7) ((z.v.f 0) p) ((z.v.i 4) % (6 * (z.v.i 7)) / (z.v.i 7) + 1) ((z.v.i 4) % (z.v.i 7)) ((z.v.i 5) % 10) p (z.v.i 6) ((z.v.i 3) / 6 % 4))) (fun _ => True) z.b
noncomputable def z_talk : Zx := eps S_talk
theorem b_talk : S_talk z_talk := by
  intro hd hs hf h3 h4 h5 hw hw2
  refine' Entered.intro ?k6 ?k7 ?k9 ?kB ?c2 ?c3 ?c4 ?c5 ?kW
  case k6 => k_is
  case k7 => k_is
  case k9 => exact rfl
  case kB => exact locs rfl
  case c2 => exact rfl
  case c3 => exact rfl
  case c4 => exact rfl
  case c5 => decide
  intro F N B X T l1 hdp hu hx hQ
  clear hx
  replace l1 := allLt_of l1
  simp only [AllLt, and_true] at l1
  repeat' ((fail_if_success (with_reducible show Stop _)); first | walk1 | (dsimp only; walk1))
  refine Stop.go ?_
  with_unfolding_all refine' For_by ?_
  repeat' ((fail_if_success (with_reducible show Stop _)); first | walk1 | (dsimp only; walk1))
  refine Stop.go ?_
  rename IsRange _ _ _ _ _ _ _ _ => hR
  rename Fr _ _ _ _ => F
  rename News _ _ _ _ => N
  dsimp only
  refine for_range 6 [(PySem.Str.ofString "drawn", .ref (z_talk.v.p 0)), (PySem.Str.ofString "ports", .ref (z_talk.v.p 1)), (PySem.Str.ofString "talk", .ref _), (PySem.Str.ofString "lost", .int (z_talk.v.i 6) (z_talk.v.t 6)), (PySem.Str.ofString "width", .int (z_talk.v.i 7) (z_talk.v.t 7)), (PySem.Str.ofString "way", .int ((z_talk.v.i 3) / 6 % 4) _), (PySem.Str.ofString "column", .int ((z_talk.v.i 4) % (6 * (z_talk.v.i 7)) / (z_talk.v.i 7) + 1) _), (PySem.Str.ofString "at", .int ((z_talk.v.i 4) % (z_talk.v.i 7)) _)] (TalkJ _ [((z_talk.v.p 0), listOf #[.int (z_talk.v.i 0) (z_talk.v.t 0), .int (z_talk.v.i 1) (z_talk.v.t 1), .int (z_talk.v.i 2) (z_talk.v.t 2), .int (z_talk.v.i 3) (z_talk.v.t 3), .int (z_talk.v.i 4) (z_talk.v.t 4), .int (z_talk.v.i 5) (z_talk.v.t 5)] (z_talk.v.n 0)), ((z_talk.v.p 1), (z_talk.v.o 0))] (fun p => talkF (z_talk.v.i 7) ((z_talk.v.f 0) p) ((z_talk.v.i 4) % (6 * (z_talk.v.i 7)) / (z_talk.v.i 7) + 1) ((z_talk.v.i 4) % (z_talk.v.i 7)) ((z_talk.v.i 5) % 10) p (z_talk.v.i 6) ((z_talk.v.i 3) / 6 % 4))) rfl hR rfl rfl F N (List.forall_mem_cons.mpr ⟨rfl, List.forall_mem_cons.mpr ⟨rfl, List.forall_mem_cons.mpr ⟨rfl, List.forall_mem_cons.mpr ⟨rfl, List.forall_mem_cons.mpr ⟨rfl, List.forall_mem_cons.mpr ⟨rfl, List.forall_mem_cons.mpr ⟨rfl, List.forall_mem_cons.mpr ⟨rfl, List.forall_mem_nil _⟩⟩⟩⟩⟩⟩⟩⟩) ⟨[], 0, rfl, rfl, fun j hj => absurd hj (Nat.not_lt_zero j)⟩ ?step ?fin
  case fin =>
    clear F N hR
    rintro h' tk' m' news' ⟨txs, k, rfl, hlen, hstr⟩ F N
    repeat' ((fail_if_success (with_reducible show Stop _)); first | walk1 | (dsimp only; walk1))
    rename Fr _ _ _ _ => F
    rename News _ _ _ _ => N
    refine hQ _ [(_, _)] _ _ _ _ N (fun _ h9 => h9) F (fun p hp q hq => ?_) ⟨_, txs, k, rfl, rfl, hlen, hstr⟩
    cases List.mem_singleton.mp hp
    rcases List.mem_cons.mp hq with rfl | hq
    · exact Nat.ne_of_lt (by omega)
    · cases List.mem_singleton.mp hq; exact Nat.ne_of_lt (by omega)
  case step =>
    clear F N hR
    rintro i t m₁ news₁ IT oI h₁ tk₁ Q' hi ⟨txs, k, rfl, hlen, hstr⟩ F N off hn hr
    have hfi := hf (1 + i) (by omega) (by omega)
    have hsz : txs.length ≤ 1000 := by omega
    repeat' ((fail_if_success (with_reducible show Stop _)); first | walk1 | (dsimp only; walk1))
    refine Stop.go ?_
    rename Fr _ _ _ _ => F
    rename News _ _ _ _ => N
    have hg1 : 0 ≤ ((z_talk.v.i 5) % 10) := Int.emod_nonneg _ (by decide)
    have hg2 : ((z_talk.v.i 5) % 10) ≤ 9 := Int.le_of_lt_add_one (Int.emod_lt_of_pos _ (by decide))
    have q1 : (Txt.slice (pieceF (z_talk.v.i 7) ((z_talk.v.f 0) (1 + (i : Int)))) none (some ((z_talk.v.i 4) % (z_talk.v.i 7)))).length ≤ 10 := Nat.le_trans (slice_le _ _ _) (pieceF_le hfi.1 hfi.2 hw hw2)
    have q2 : (Txt.slice (pieceF (z_talk.v.i 7) ((z_talk.v.f 0) (1 + (i : Int)))) (some (((z_talk.v.i 4) % (z_talk.v.i 7)) + 1)) none).length ≤ 10 := Nat.le_trans (slice_le _ _ _) (pieceF_le hfi.1 hfi.2 hw hw2)
    have q3 : (PySem.Str.ofString (toString ((z_talk.v.i 5) % 10))).length ≤ 1 := (num_len (M := ((z_talk.v.i 5) % 10)) hg1 (k := 1) (by decide)).mpr (Int.lt_of_le_of_lt hg2 (by decide))
    refine r_ifset (x := PySem.Str.ofString "piece") (pieceO (z_talk.v.i 7) ((z_talk.v.f 0) (1 + (i : Int))) ((z_talk.v.i 4) % (6 * (z_talk.v.i 7)) / (z_talk.v.i 7) + 1) ((z_talk.v.i 4) % (z_talk.v.i 7)) ((z_talk.v.i 5) % 10) (1 + (i : Int))) F N (by with_unfolding_all rfl) ?hif ?hgo
    case hif =>
      repeat' ((fail_if_success (with_reducible show Stop _)); first | walk1 | (dsimp only; walk1))
      · rename (1 + (i : Int)) = _ => hEq
        rename Fr _ _ _ _ => F
        rename News _ _ _ _ => N
        refine Stop.go ⟨rfl, _, _, _, ⟨_, str_eq ?_⟩, rfl, F, N⟩
        unfold pieceO
        rw [if_pos hEq]
        with_unfolding_all rfl
      · rename ¬ ((1 + (i : Int)) = _) => hEq
        refine Stop.go ⟨⟨_, str_eq ?_⟩, keepsOf fun _ _ e => e⟩
        unfold pieceO
        rw [if_neg hEq]
        rfl
    case hgo =>
    (repeat (rename (_ ≤ PySem.Str.length _ ∧ _) => q; clear q))
    (repeat (rename (_ → PySem.Str.length _ = 0) => q; clear q))
    (repeat (rename (_ → ((PySem.Str.length _ : Nat) : Int) = _) => q; clear q))
    (repeat (rename (1 ≤ PySem.Str.length _) => q; clear q))
    (repeat (rename (PySem.Str.length _ ≤ 10) => q; clear q))
    have hPl := pieceO_le (col := ((z_talk.v.i 4) % (6 * (z_talk.v.i 7)) / (z_talk.v.i 7) + 1)) (at' := ((z_talk.v.i 4) % (z_talk.v.i 7))) (dg := ((z_talk.v.i 5) % 10)) (place := (1 + (i : Int))) hfi.1 hfi.2 hw hw2 hg1 hg2
    clear F N
    intro t9 h9 tk9 F N
    repeat' ((fail_if_success (with_reducible show Stop _)); first | walk1 | (dsimp only; walk1))
    refine Stop.go ?_
    rename Fr _ _ _ _ => F
    rename News _ _ _ _ => N
    refine r_assign (codeF (1 + (i : Int)) (z_talk.v.i 6) ((z_talk.v.i 3) / 6 % 4)) F N rfl rfl rfl rfl ?he ?hgo
    case he =>
      repeat' ((fail_if_success (with_reducible show Stop _)); first | walk1 | (dsimp only; walk1))
      all_goals (refine Stop.go ⟨⟨_, str_eq ?_⟩, keepsOf fun _ _ e => e⟩)
      all_goals (unfold codeF)
      all_goals first
        | ((rw [if_pos ⟨by assumption, by assumption⟩]) <;> with_unfolding_all rfl)
        | ((rw [if_neg (fun q => absurd q.1 (by assumption))]) <;> with_unfolding_all rfl)
        | ((rw [if_neg (fun q => absurd q.2 (by assumption))]) <;> with_unfolding_all rfl)
    case hgo =>
    clear F N
    intro t9 h9 tk9 F N
    have hcl := code_len (1 + (i : Int)) (z_talk.v.i 6) ((z_talk.v.i 3) / 6 % 4)
    repeat' ((fail_if_success (with_reducible show Stop _)); first | walk1 | (dsimp only; walk1))
    refine Stop.go ?_
    rename Fr _ _ _ _ => F
    rename News _ _ _ _ => N
    refine r_assign (aheadF (1 + (i : Int)) (z_talk.v.i 6) ((z_talk.v.i 3) / 6 % 4)) F N rfl rfl rfl rfl ?he ?hgo
    case he =>
      repeat' ((fail_if_success (with_reducible show Stop _)); first | walk1 | (dsimp only; walk1))
      all_goals (refine Stop.go ⟨⟨_, str_eq ?_⟩, keepsOf fun _ _ e => e⟩)
      all_goals (unfold aheadF)
      all_goals first
        | ((rw [if_pos ⟨by assumption, by assumption⟩]) <;> with_unfolding_all rfl)
        | ((rw [if_neg (fun q => absurd q.1 (by assumption))]) <;> with_unfolding_all rfl)
        | ((rw [if_neg (fun q => absurd q.2 (by assumption))]) <;> with_unfolding_all rfl)
    case hgo =>
    clear F N
    intro t9 h9 tk9 F N
    have hal := ahead_len (1 + (i : Int)) (z_talk.v.i 6) ((z_talk.v.i 3) / 6 % 4)
    repeat' ((fail_if_success (with_reducible show Stop _)); first | walk1 | (dsimp only; walk1))
    refine Stop.go ?_
    rename Fr _ _ _ _ => F
    rename News _ _ _ _ => N
    refine r_assign (letterF (1 + (i : Int)) (z_talk.v.i 6) ((z_talk.v.i 3) / 6 % 4)) F N rfl rfl rfl rfl ?he ?hgo
    case he =>
      repeat' ((fail_if_success (with_reducible show Stop _)); first | walk1 | (dsimp only; walk1))
      all_goals (refine Stop.go ⟨⟨_, str_eq ?_⟩, keepsOf fun _ _ e => e⟩)
      all_goals (unfold letterF)
      all_goals first
        | ((rw [if_pos ⟨by assumption, by assumption⟩]) <;> with_unfolding_all rfl)
        | ((rw [if_neg (fun q => absurd q.1 (by assumption))]) <;> with_unfolding_all rfl)
        | ((rw [if_neg (fun q => absurd q.2 (by assumption))]) <;> with_unfolding_all rfl)
    case hgo =>
    clear F N
    intro t9 h9 tk9 F N
    have hll := letter_len (1 + (i : Int)) (z_talk.v.i 6) ((z_talk.v.i 3) / 6 % 4)
    repeat' ((fail_if_success (with_reducible show Stop _)); first | walk1 | (dsimp only; walk1))
    refine Stop.go ?_
    rename Fr _ _ _ _ => F
    rename News _ _ _ _ => N
    refine r_assign (lastF (1 + (i : Int)) (z_talk.v.i 6) ((z_talk.v.i 3) / 6 % 4)) F N rfl rfl rfl rfl ?he ?hgo
    case he =>
      repeat' ((fail_if_success (with_reducible show Stop _)); first | walk1 | (dsimp only; walk1))
      all_goals (refine Stop.go ⟨⟨_, str_eq ?_⟩, keepsOf fun _ _ e => e⟩)
      all_goals (unfold lastF)
      all_goals first
        | ((rw [if_pos ⟨by assumption, by assumption⟩]) <;> with_unfolding_all rfl)
        | ((rw [if_neg (fun q => absurd q.1 (by assumption))]) <;> with_unfolding_all rfl)
        | ((rw [if_neg (fun q => absurd q.2 (by assumption))]) <;> with_unfolding_all rfl)
    case hgo =>
    clear F N
    intro t9 h9 tk9 F N
    have hsl := last_len (1 + (i : Int)) (z_talk.v.i 6) ((z_talk.v.i 3) / 6 % 4)
    repeat' ((fail_if_success (with_reducible show Stop _)); first | walk1 | (dsimp only; walk1))
    refine Stop.go ?_
    rename Fr _ _ _ _ => F
    rename News _ _ _ _ => N
    refine r_append F N (UpdF.tail (fun q => off _ (.head _) q.symm) (UpdF.head (by k_all))) hsz fun h' F' N' => ?_
    clear F N
    repeat' ((fail_if_success (with_reducible show Stop _)); first | walk1 | (dsimp only; walk1))
    exact hn _ _ _ _ F' N' (off_swap off) (List.forall_mem_cons.mpr ⟨rfl, List.forall_mem_cons.mpr ⟨rfl, List.forall_mem_cons.mpr ⟨rfl, List.forall_mem_cons.mpr ⟨rfl, List.forall_mem_cons.mpr ⟨rfl, List.forall_mem_cons.mpr ⟨rfl, List.forall_mem_cons.mpr ⟨rfl, List.forall_mem_cons.mpr ⟨rfl, List.forall_mem_nil _⟩⟩⟩⟩⟩⟩⟩⟩) (TalkJ.snoc hlen hstr rfl)
theorem does_talk {l : Addr} {n : Nat} {d0 : Int} {d1 : Int} {d2 : Int} {d3 : Int} {d4 : Int} {d5 : Int} {t0 : Tok} {t1 : Tok} {t2 : Tok} {t3 : Tok} {t4 : Tok} {t5 : Tok} {d : Addr} {oD : Obj} {f : Int → Int} {lost : Int} {wd : Int} {tl : Tok} {tw : Tok} (hd : PDict PySem.Challenge.rw_zd0006_01.row.prog w oD f) (hs : (d == sysModules) = false) (hf : (∀ k, 1 ≤ k → k ≤ 6 → 1 ≤ f k ∧ f k ≤ 65521)) (h3 : 9 ≤ d3) (h4 : 5 ≤ d4) (h5 : 7 ≤ d5) (hw : 4 ≤ wd) (hw2 : wd ≤ 5) : Does w 1 151 [(l, listOf #[.int d0 t0, .int d1 t1, .int d2 t2, .int d3 t3, .int d4 t4, .int d5 t5] n), (d, oD)] [.ref l, .ref d, .int lost tl, .int wd tw] (TalkP (fun p => talkF wd (f p) (d4 % (6 * wd) / wd + 1) (d4 % wd) (d5 % 10) p lost (d3 / 6 % 4))) :=
  does_of fun b => eps_all b_talk ⟨w, b, { p := fun | 0 => l | _ => d, n := fun | _ => n, i := fun | 0 => d0 | 1 => d1 | 2 => d2 | 3 => d3 | 4 => d4 | 5 => d5 | 6 => lost | _ => wd, t := fun | 0 => t0 | 1 => t1 | 2 => t2 | 3 => t3 | 4 => t4 | 5 => t5 | 6 => tl | _ => tw, o := fun | _ => oD, f := fun | _ => f }⟩ hd hs hf h3 h4 h5 hw hw2

end
end
section
example : True ∧ True := by w_top off; first | (walk1 <;> trivial) | exact ⟨trivial, trivial⟩
open PySem PySem.W PyProof.Rows
set_option Elab.async false
set_option maxRecDepth 100000
set_option compiler.extract_closed false
set_option maxHeartbeats 8000000
set_option linter.unusedVariables false
set_option linter.unusedSimpArgs false
local macro_rules | `(tactic| walk_at $s:str) => lineAt ["call ref", "exec For Name Call cons nil", "pyIter ref"] linesN s
local macro_rules | `(tactic| walk_at $s:str) => lineAt ["compareOp In none ref", "getMethod ref", "call builtin:dict.values", "call type:filter"] [] s
local macro_rules | `(tactic| walk_at "call builtin:max") => `(tactic| ((with_reducible show wpAny _ _ (call _ [Value.ref _] _) _ _ _); refine stop_at ?_))
theorem num_345 {M : Int} (h : 1 ≤ M) : ((PySem.Str.ofString (toString M)).length ≤ 3 ↔ M < 1000) ∧ ((PySem.Str.ofString (toString M)).length ≤ 4 ↔ M < 10000) ∧ ((PySem.Str.ofString (toString M)).length ≤ 5 ↔ M < 100000) :=
  ⟨num_len (Int.le_trans (by decide) h) (by decide), num_len (Int.le_trans (by decide) h) (by decide), num_len (Int.le_trans (by decide) h) (by decide)⟩
theorem val_eq {x y : Int} {t : Tok} (h : x = y) : Value.int x t = .int y t := by rw [h]

section
variable {w : World}
theorem fill_dw : ∀ p, (heap9 p).In {} → PySem.Challenge.rw_zd0006_01 = PySem.Challenge.rw_zd0006_01 := by
  k_fill; exact fun _ _ => rfl
def S_width (z : Zx) : Prop := LDict PySem.Challenge.rw_zd0006_01.row.prog z.w (z.v.o 0) (z.v.i) (z.v.n 0) → ((z.v.p 0) == sysModules) = false → (∀ j, j < 6 → j ≠ (z.v.n 0) → 1 ≤ (z.v.i) j ∧ (z.v.i) j ≤ 65521) → Entered z.w 4 51 [((z.v.p 0), (z.v.o 0))] [.ref (z.v.p 0)] (fun tl v => tl = [] ∧ ∃ M t, MaxOf (z.v.i) (z.v.n 0) M ∧ v = .int (if M ≤ 9999 then 4 else 5) t) (fun _ => True) z.b
noncomputable def z_width : Zx := eps S_width
theorem b_width : S_width z_width := by
  intro hD hs hp
  refine' Entered.intro ?k6 ?k7 ?k9 ?kB ?c2 ?c3 ?c4 ?c5 ?kW
  case k6 => k_is
  case k7 => k_is
  case k9 => exact rfl
  case kB => exact locs rfl
  case c2 => exact rfl
  case c3 => exact rfl
  case c4 => exact rfl
  case c5 => decide
  intro F N B X T l1 hd hu hx hQ
  clear hx
  repeat' (first | (refine Stop.go ?_; first
      | ((with_reducible show wpAny _ _ (compareOp CmpOp.In Value.none (Value.ref _)) _ _ _); k_dflt (refine' wv_none_in ?kh ?kF ?kN ?h1 ?h2 ?h3 ?_; (case kh => rfl); (case kF => assumption); (case kN => assumption); (case h1 => k_mem); (case h2 => k_mem); (case h3 => assumption); rename Fr _ _ _ _ => kF9; rename News _ _ _ _ => kN9; intro h' tk kF' kN'; clear kF9 kN9))
      | ((with_reducible show wpAny _ _ (getMethod (Value.ref _) (Str.ofString "values") _) _ _ _); k_dflt (refine' wv_method ?kN ?h1 ?h3 ?_; (case kN => assumption); (case h1 => k_mem); (case h3 => assumption)))
      | ((with_reducible show wpAny _ _ (call (Value.builtin "dict.values") [Value.ref _]) _ _ _); k_dflt (refine' wv_values ?kF ?kN ?h1 ?h2 ?h3 ?_; (case kF => assumption); (case kN => assumption); (case h1 => k_mem); (case h2 => assumption); (case h3 => assumption); rename Fr _ _ _ _ => kF9; rename News _ _ _ _ => kN9; intro kF' kN'; clear kF9 kN9))
      | ((with_reducible show wpAny _ _ (call (Value.type "filter") [Value.none, Value.ref _]) _ _ _); k_dflt (refine' wv_filter ?kF ?kN ?h1 ?h2 ?h3 ?_; (case kF => assumption); (case kN => assumption); (case h1 => k_mem); (case h2 => k_mem); (case h3 => assumption); rename Fr _ _ _ _ => kF9; rename News _ _ _ _ => kN9; intro Fl VI ep h' kF' he hVF hnv kN'; clear kF9 kN9))
      | ((with_reducible show wpAny _ _ (call (Value.builtin "max") [Value.ref _] _) _ _ _); k_dflt (with_unfolding_all refine' wv_max ?kh ?kF ?kN ?h1 ?h3 ?h4 ?h5 ?h6 ?h7 ?_; (case h7 => assumption); (case kh => rfl); (case kF => assumption); (case kN => assumption); (case h1 => k_mem); (case h3 => assumption); (case h4 => assumption); (case h5 => assumption); (case h6 => assumption); rename Fr _ _ _ _ => kF9; rename News _ _ _ _ => kN9; intro M tM h' tk hl6 hM1 hM2 hMe kF' kN'; clear kF9 kN9))) | ((fail_if_success (with_reducible show Stop _)); first | walk1 | (dsimp only; walk1)))
  · exfalso; omega
  all_goals (rename (1 : Int) ≤ _ => hM1; rename _ ≤ (65521 : Int) => hM2; rename MaxOf _ _ _ => hMM)
  all_goals (have e3 := num_345 hM1)
  all_goals (refine hQ _ [] _ _ _ _ (by assumption) (by kcj_all) (by assumption) (fun _ h9 => nomatch h9) ⟨rfl, _, _, hMM, val_eq ?_⟩)
  all_goals first
    | (split at * <;> split at * <;> (try split) <;> omega)
    | (split at * <;> (try split) <;> omega)
theorem does_width {d : Addr} {oD : Obj} {l : Nat} {p : Nat → Int} (hD : LDict PySem.Challenge.rw_zd0006_01.row.prog w oD p l) (hs : (d == sysModules) = false) (hp : (∀ j, j < 6 → j ≠ l → 1 ≤ p j ∧ p j ≤ 65521)) : Does w 5 51 [(d, oD)] [.ref d] (fun tl v => tl = [] ∧ ∃ M t, MaxOf p l M ∧ v = .int (if M ≤ 9999 then 4 else 5) t) :=
  does_of fun b => eps_all b_width ⟨w, b, { p := fun | _ => d, o := fun | _ => oD, n := fun | _ => l, i := p }⟩ hD hs hp

end
end
section
set_option maxRecDepth 100000
set_option Elab.async false
set_option linter.unusedVariables false
def crv (d0 d1 d2 x : Int) : Int := d0 + d1 * x + d2 * x * x
def Dm (u v w : Int) : Int := (v - u) * (w - v) * (w - u)
def cfA (u v w x : Int) : Int := (x - v) * (x - w) * (w - v)
def cfB (u v w x : Int) : Int := -((x - u) * (x - w) * (w - u))
def cfC (u v w x : Int) : Int := (x - u) * (x - v) * (v - u)
theorem mod_ex (x : Int) : ∃ k, x % 65521 = x + 65521 * k := ⟨-(x / 65521), by omega⟩
theorem crvL (u v w d0 d1 d2 x : Int) : cfA u v w x * crv d0 d1 d2 u + cfB u v w x * crv d0 d1 d2 v + cfC u v w x * crv d0 d1 d2 w = Dm u v w * crv d0 d1 d2 x := by
  unfold Dm cfA cfB cfC crv
  grind
theorem ident (u v w a b c rise later bend J1 J2 J3 J4 x r fu fv fw fx eu ev ew ka kb kc : Int) :
    (Dm u v w * (r - fx) - (cfA u v w x * eu + cfB u v w x * ev + cfC u v w x * ew)) - 65521 * ((x - u) * (w - v) * (w - u) * J1 + (x - u) * (x - v) * ((v - u) * (w - v) * J3 + (v - u) * J2 - (w - v) * J1) + Dm u v w * J4 + cfA u v w x * ka + cfB u v w x * kb + cfC u v w x * kc) =
    ((x - u) * (w - v) * (w - u) - (x - u) * (x - v) * (w - v)) * ((v - u) * rise - (b - a + 65521 * J1)) + (x - u) * (x - v) * (v - u) * ((w - v) * later - (c - b + 65521 * J2)) + (x - u) * (x - v) * (v - u) * (w - v) * ((w - u) * bend - (later - rise + 65521 * J3)) + Dm u v w * (r - (a + (x - u) * (rise + (x - v) * bend) + 65521 * J4))
     + cfA u v w x * (a - (fu + eu + 65521 * ka)) + cfB u v w x * (b - (fv + ev + 65521 * kb)) + cfC u v w x * (c - (fw + ew + 65521 * kc)) + (cfA u v w x * fu + cfB u v w x * fv + cfC u v w x * fw - Dm u v w * fx) := by
  unfold Dm cfA cfB cfC
  grind
theorem offK {u v w a b c rise later bend J1 J2 J3 J4 x r d0 d1 d2 eu ev ew ka kb kc : Int} (h1 : (v - u) * rise = b - a + 65521 * J1) (h2 : (w - v) * later = c - b + 65521 * J2) (h3 : (w - u) * bend = later - rise + 65521 * J3)
    (h4 : r = a + (x - u) * (rise + (x - v) * bend) + 65521 * J4) (ha : a = crv d0 d1 d2 u + eu + 65521 * ka) (hb : b = crv d0 d1 d2 v + ev + 65521 * kb) (hc : c = crv d0 d1 d2 w + ew + 65521 * kc) :
    Dm u v w * (r - crv d0 d1 d2 x) - (cfA u v w x * eu + cfB u v w x * ev + cfC u v w x * ew) = 65521 * ((x - u) * (w - v) * (w - u) * J1 + (x - u) * (x - v) * ((v - u) * (w - v) * J3 + (v - u) * J2 - (w - v) * J1) + Dm u v w * J4 + cfA u v w x * ka + cfB u v w x * kb + cfC u v w x * kc) := by
  have i := ident u v w a b c rise later bend J1 J2 J3 J4 x r (crv d0 d1 d2 u) (crv d0 d1 d2 v) (crv d0 d1 d2 w) (crv d0 d1 d2 x) eu ev ew ka kb kc
  have f := crvL u v w d0 d1 d2 x
  have z1 := Int.sub_eq_zero.mpr h1
  have z2 := Int.sub_eq_zero.mpr h2
  have z3 := Int.sub_eq_zero.mpr h3
  have z4 := Int.sub_eq_zero.mpr h4
  have z5 := Int.sub_eq_zero.mpr ha
  have z6 := Int.sub_eq_zero.mpr hb
  have z7 := Int.sub_eq_zero.mpr hc
  rw [z1, z2, z3, z4, z5, z6, z7, f] at i
  simp only [Int.mul_zero, Int.add_zero, Int.sub_self] at i
  exact Int.sub_eq_zero.mp i
theorem off_one {u v w a b c r x rise later bend J1 J2 J3 d0 d1 d2 eu ev ew ka kb kc : Int} (h1 : (v - u) * rise = b - a + 65521 * J1) (h2 : (w - v) * later = c - b + 65521 * J2) (h3 : (w - u) * bend = later - rise + 65521 * J3)
    (e : r = (a + (x - u) * (rise + (x - v) * bend)) % 65521) (ha : a = crv d0 d1 d2 u + eu + 65521 * ka) (hb : b = crv d0 d1 d2 v + ev + 65521 * kb) (hc : c = crv d0 d1 d2 w + ew + 65521 * kc) :
    (Dm u v w * (r - crv d0 d1 d2 x) - (cfA u v w x * eu + cfB u v w x * ev + cfC u v w x * ew)) % 65521 = 0 ∧ 0 ≤ r ∧ r < 65521 := by
  obtain ⟨k, n⟩ := mod_ex (a + (x - u) * (rise + (x - v) * bend))
  exact ⟨Int.emod_eq_zero_of_dvd ⟨_, offK h1 h2 h3 (e.trans n) ha hb hc⟩, e ▸ Int.emod_nonneg _ (by decide), e ▸ Int.emod_lt_of_pos _ (by decide)⟩
theorem qt_ex {x d q : Int} (h : Qt (x % 65521) d q) : ∃ J, d * q = x + 65521 * J := by
  obtain ⟨j, _, _, _, _, e⟩ := h
  obtain ⟨k, n⟩ := mod_ex x
  exact ⟨k + j, by rw [e, n, Int.mul_add, Int.add_assoc]⟩
theorem at_ex {x y e : Int} (h : (x - y - e) % 65521 = 0) : ∃ k, x = y + e + 65521 * k := by
  obtain ⟨k, hk⟩ := Int.dvd_of_emod_eq_zero h
  exact ⟨k, by rw [← hk]; omega⟩
theorem off_all {u v w a b c r0 r7 r8 d0 d1 d2 eu ev ew : Int} (h : Thr u a v b w c r0 r7 r8) (ha : (a - crv d0 d1 d2 u - eu) % 65521 = 0) (hb : (b - crv d0 d1 d2 v - ev) % 65521 = 0) (hc : (c - crv d0 d1 d2 w - ew) % 65521 = 0) :
    (Dm u v w * (r0 - crv d0 d1 d2 0) - (cfA u v w 0 * eu + cfB u v w 0 * ev + cfC u v w 0 * ew)) % 65521 = 0 ∧
    (Dm u v w * (r7 - crv d0 d1 d2 7) - (cfA u v w 7 * eu + cfB u v w 7 * ev + cfC u v w 7 * ew)) % 65521 = 0 ∧
    (Dm u v w * (r8 - crv d0 d1 d2 8) - (cfA u v w 8 * eu + cfB u v w 8 * ev + cfC u v w 8 * ew)) % 65521 = 0 ∧ 0 ≤ r0 ∧ r0 < 65521 ∧ 0 ≤ r7 ∧ r7 < 65521 ∧ 0 ≤ r8 ∧ r8 < 65521 := by
  obtain ⟨rise, later, bend, q1, q2, q3, e0, e7, e8⟩ := h
  obtain ⟨J1, h1⟩ := qt_ex q1
  obtain ⟨J2, h2⟩ := qt_ex q2
  obtain ⟨J3, h3⟩ := qt_ex q3
  obtain ⟨ka, hA⟩ := at_ex ha
  obtain ⟨kb, hB⟩ := at_ex hb
  obtain ⟨kc, hC⟩ := at_ex hc
  have x0 := off_one h1 h2 h3 e0 hA hB hC
  have x7 := off_one h1 h2 h3 e7 hA hB hC
  have x8 := off_one h1 h2 h3 e8 hA hB hC
  exact ⟨x0.1, x7.1, x8.1, x0.2.1, x0.2.2, x7.2.1, x7.2.2, x8.2.1, x8.2.2⟩
/-- the weight of a fault at c -/
def kap (u v w c x : Int) : Int := if u = c then cfA u v w x else if v = c then cfB u v w x else if w = c then cfC u v w x else 0
def Combs : List (Int × Int × Int) := [(1,2,3),(1,2,4),(1,2,5),(1,2,6),(1,3,4),(1,3,5),(1,3,6),(1,4,5),(1,4,6),(1,5,6),(2,3,4),(2,3,5),(2,3,6),(2,4,5),(2,4,6),(2,5,6),(3,4,5),(3,4,6),(3,5,6),(4,5,6)]
abbrev Prime' (x : Int) : Prop := Int.gcd x 65521 = 1
theorem cancel {m d : Int} (hm : Prime' m) (h : (m * d) % 65521 = 0) : d % 65521 = 0 := by
  have h1 : (65521 : Int) ∣ m * d := Int.dvd_of_emod_eq_zero h
  have h2 := Int.natAbs_dvd_natAbs.mpr h1
  rw [Int.natAbs_mul] at h2
  have h3 : Nat.Coprime (Int.natAbs 65521) m.natAbs := by
    have h4 : Nat.gcd m.natAbs (Int.natAbs 65521) = 1 := hm
    rw [Nat.gcd_comm] at h4
    exact h4
  exact Int.emod_eq_zero_of_dvd (Int.natAbs_dvd_natAbs.mp (h3.dvd_of_dvd_mul_left h2))
theorem chk_D : ∀ t ∈ Combs, Prime' (Dm t.1 t.2.1 t.2.2) ∧ t.1 < t.2.1 ∧ t.2.1 < t.2.2 := by decide +kernel
theorem chk_0 : ∀ t ∈ Combs, ∀ c ∈ [(1:Int),2,3,4,5,6], (t.1 = c ∨ t.2.1 = c ∨ t.2.2 = c) → Prime' (kap t.1 t.2.1 t.2.2 c 0) := by decide +kernel
theorem chk_2 : ∀ c ∈ [(1:Int),2,3,4,5,6], ∀ t ∈ Combs, (t.1 = c ∨ t.2.1 = c ∨ t.2.2 = c) → ∀ t' ∈ Combs, (t'.1 = c ∨ t'.2.1 = c ∨ t'.2.2 = c) → t ≠ t' →
   Prime' (Dm t.1 t.2.1 t.2.2 * kap t'.1 t'.2.1 t'.2.2 c 0 - Dm t'.1 t'.2.1 t'.2.2 * kap t.1 t.2.1 t.2.2 c 0) ∨ 
   Prime' (Dm t.1 t.2.1 t.2.2 * kap t'.1 t'.2.1 t'.2.2 c 7 - Dm t'.1 t'.2.1 t'.2.2 * kap t.1 t.2.1 t.2.2 c 7) ∨
   Prime' (Dm t.1 t.2.1 t.2.2 * kap t'.1 t'.2.1 t'.2.2 c 8 - Dm t'.1 t'.2.1 t'.2.2 * kap t.1 t.2.1 t.2.2 c 8) := by decide +kernel
/-- told: the curve but for the fault at c -/
def Told (d0 d1 d2 c dl : Int) (g : Int → Int) : Prop := ∀ i : Int, 1 ≤ i → i ≤ 6 → (g i - crv d0 d1 d2 i - (if i = c then dl else 0)) % 65521 = 0
def R3 (g : Int → Int) (t : Int × Int × Int) (r0 r7 r8 : Int) : Prop := Thr t.1 (g t.1) t.2.1 (g t.2.1) t.2.2 (g t.2.2) r0 r7 r8
theorem chk_1 : ∀ t ∈ Combs, (1 ≤ t.1 ∧ t.1 ≤ 6) ∧ (1 ≤ t.2.1 ∧ t.2.1 ≤ 6) ∧ (1 ≤ t.2.2 ∧ t.2.2 ≤ 6) := by decide +kernel
def Kr (d0 d1 d2 c dl : Int) (t : Int × Int × Int) (x r : Int) : Prop := (Dm t.1 t.2.1 t.2.2 * (r - crv d0 d1 d2 x) - kap t.1 t.2.1 t.2.2 c x * dl) % 65521 = 0 ∧ 0 ≤ r ∧ r < 65521
theorem kap_sum {u v w c x dl : Int} (h1 : u < v) (h2 : v < w) : cfA u v w x * (if u = c then dl else 0) + cfB u v w x * (if v = c then dl else 0) + cfC u v w x * (if w = c then dl else 0) = kap u v w c x * dl := by
  unfold kap
  by_cases a : u = c
  · subst a
    rw [if_pos rfl, if_pos rfl, if_neg (by omega), if_neg (by omega)]; simp
  · rw [if_neg a, if_neg a]
    by_cases b : v = c
    · subst b
      rw [if_pos rfl, if_pos rfl, if_neg (by omega)]; simp
    · rw [if_neg b, if_neg b]
      by_cases e : w = c
      · rw [if_pos e, if_pos e]; simp
      · rw [if_neg e, if_neg e]; simp
theorem three_kr {d0 d1 d2 c dl : Int} {g : Int → Int} (hg : Told d0 d1 d2 c dl g) {t : Int × Int × Int} (ht : t ∈ Combs) {r0 r7 r8 : Int} (h : R3 g t r0 r7 r8) : Kr d0 d1 d2 c dl t 0 r0 ∧ Kr d0 d1 d2 c dl t 7 r7 ∧ Kr d0 d1 d2 c dl t 8 r8 := by
  obtain ⟨⟨a1, a2⟩, ⟨b1, b2⟩, c1, c2⟩ := chk_1 t ht
  obtain ⟨_, l1, l2⟩ := chk_D t ht
  obtain ⟨k0, k7, k8, x1, x2, x3, x4, x5, x6⟩ := off_all h (hg _ a1 a2) (hg _ b1 b2) (hg _ c1 c2)
  rw [kap_sum l1 l2] at k0 k7 k8
  exact ⟨⟨k0, x1, x2⟩, ⟨k7, x3, x4⟩, ⟨k8, x5, x6⟩⟩
theorem kap_none {u v w c x : Int} (h1 : u ≠ c) (h2 : v ≠ c) (h3 : w ≠ c) : kap u v w c x = 0 := by
  unfold kap; rw [if_neg h1, if_neg h2, if_neg h3]
def Has (c : Int) (t : Int × Int × Int) : Prop := t.1 = c ∨ t.2.1 = c ∨ t.2.2 = c
theorem kr_same {d0 d1 d2 c dl x r : Int} {t : Int × Int × Int} (ht : t ∈ Combs) (hn : ¬ Has c t ∨ dl = 0) (h : Kr d0 d1 d2 c dl t x r) : r = crv d0 d1 d2 x % 65521 := by
  obtain ⟨h, l, m⟩ := h
  have hz : kap t.1 t.2.1 t.2.2 c x * dl = 0 := by
    rcases hn with hn | hn
    · rw [kap_none (fun e => hn (.inl e)) (fun e => hn (.inr (.inl e))) (fun e => hn (.inr (.inr e)))]; simp
    · rw [hn]; simp
  rw [hz, Int.sub_zero] at h
  have := cancel (chk_D t ht).1 h
  omega
theorem three_same {d0 d1 d2 c dl : Int} {g : Int → Int} (hg : Told d0 d1 d2 c dl g) {t : Int × Int × Int} (ht : t ∈ Combs) {r0 r7 r8 : Int} (h : R3 g t r0 r7 r8) (hn : ¬ Has c t ∨ dl = 0) :
    r0 = crv d0 d1 d2 0 % 65521 ∧ r7 = crv d0 d1 d2 7 % 65521 ∧ r8 = crv d0 d1 d2 8 % 65521 :=
  have ⟨a, b, e⟩ := three_kr hg ht h
  ⟨kr_same ht hn a, kr_same ht hn b, kr_same ht hn e⟩
theorem mem6_all : ∀ d : Fin 6, ((d.val : Nat) : Int) + 1 ∈ [(1:Int),2,3,4,5,6] := by decide +kernel
theorem mem6 {c : Int} (h1 : 1 ≤ c) (h2 : c ≤ 6) : c ∈ [(1:Int),2,3,4,5,6] := by
  obtain ⟨d, rfl⟩ := fin_at (n := 6) h1 h2
  exact mem6_all d
theorem three_off {d0 d1 d2 c dl : Int} {g : Int → Int} (hg : Told d0 d1 d2 c dl g) (hc : 1 ≤ c) (hc' : c ≤ 6) (hd : dl % 65521 ≠ 0) {t : Int × Int × Int} (ht : t ∈ Combs) {r0 r7 r8 : Int} (h : R3 g t r0 r7 r8) (hn : Has c t) :
    r0 ≠ crv d0 d1 d2 0 % 65521 := by
  intro e
  obtain ⟨⟨k, _, _⟩, _, _⟩ := three_kr hg ht h
  obtain ⟨m, hm⟩ := mod_ex (crv d0 d1 d2 0)
  rw [e, hm] at k
  have h0 : (kap t.1 t.2.1 t.2.2 c 0 * dl) % 65521 = 0 := by
    have : Dm t.1 t.2.1 t.2.2 * (crv d0 d1 d2 0 + 65521 * m - crv d0 d1 d2 0) = 65521 * (Dm t.1 t.2.1 t.2.2 * m) := by
      rw [show crv d0 d1 d2 0 + 65521 * m - crv d0 d1 d2 0 = 65521 * m by omega, Int.mul_left_comm]
    rw [this] at k
    generalize Dm t.1 t.2.1 t.2.2 * m = z at k
    generalize kap t.1 t.2.1 t.2.2 c 0 * dl = y at k ⊢
    omega
  exact hd (cancel (chk_0 t ht c (mem6 hc hc') hn) h0)
theorem kr_two {d0 d1 d2 c dl x r : Int} {t t' : Int × Int × Int} (h : Kr d0 d1 d2 c dl t x r) (h' : Kr d0 d1 d2 c dl t' x r) :
   ((Dm t.1 t.2.1 t.2.2 * kap t'.1 t'.2.1 t'.2.2 c x - Dm t'.1 t'.2.1 t'.2.2 * kap t.1 t.2.1 t.2.2 c x) * dl) % 65521 = 0 := by
  obtain ⟨k, hk⟩ := Int.dvd_of_emod_eq_zero h.1
  obtain ⟨k', hk'⟩ := Int.dvd_of_emod_eq_zero h'.1
  refine Int.emod_eq_zero_of_dvd ⟨Dm t'.1 t'.2.1 t'.2.2 * k - Dm t.1 t.2.1 t.2.2 * k', ?_⟩
  generalize Dm t.1 t.2.1 t.2.2 = D at *
  generalize Dm t'.1 t'.2.1 t'.2.2 = D' at *
  generalize kap t.1 t.2.1 t.2.2 c x = K at *
  generalize kap t'.1 t'.2.1 t'.2.2 c x = K' at *
  generalize r - crv d0 d1 d2 x = y at *
  have e1 : K * dl = D * y - 65521 * k := by omega
  have e2 : K' * dl = D' * y - 65521 * k' := by omega
  rw [Int.sub_mul, Int.mul_assoc, Int.mul_assoc, e1, e2]
  grind
theorem three_two {d0 d1 d2 c dl : Int} {g : Int → Int} (hg : Told d0 d1 d2 c dl g) (hc : 1 ≤ c) (hc' : c ≤ 6) (hd : dl % 65521 ≠ 0) {t t' : Int × Int × Int} (ht : t ∈ Combs) (ht' : t' ∈ Combs) (hne : t ≠ t') {r0 r7 r8 : Int} (h : R3 g t r0 r7 r8) (h' : R3 g t' r0 r7 r8) (hn : Has c t) (hn' : Has c t') : False := by
  obtain ⟨a0, a7, a8⟩ := three_kr hg ht h
  obtain ⟨b0, b7, b8⟩ := three_kr hg ht' h'
  rcases chk_2 c (mem6 hc hc') t ht hn t' ht' hn' hne with p | p | p
  · exact hd (cancel p (kr_two a0 b0))
  · exact hd (cancel p (kr_two a7 b7))
  · exact hd (cancel p (kr_two a8 b8))
end
section
open PySem PySem.W PyProof.Rows
section
example : True ∧ True := by w_top off; first | (walk1 <;> trivial) | exact ⟨trivial, trivial⟩
open PySem PySem.W PyProof.Rows PySem.Calls
set_option Elab.async false
set_option maxRecDepth 100000
set_option maxHeartbeats 8000000
set_option linter.unusedVariables false
set_option linter.unusedSimpArgs false
local macro_rules | `(tactic| walk_at $s:str) => lineAt ["call ref", "exec For Name Call cons nil", "pyIter ref", "exec Assign cons DictComp", "eval DictComp"] ([("storeName", `r_cell, 9)] ++ linesN) s
theorem fill_lb : ∀ p, (heap9 p).In {} → PySem.Challenge.rw_zd0006_01 = PySem.Challenge.rw_zd0006_01 := by
  k_fill; exact fun _ _ => rfl
def S_law_0 (z : Zx) : Prop :=
  (LawC (z.w) (z.b.loose) (z.b.mean) (z.b.mg) (z.b.mb) (z.b.g) (z.b.L)) →
  ((z.b.g).IsList (z.v.p 1) (z.v.l 0).toArray) →
  (IntsAre (z.v.l 0) (z.v.j 0)) →
  ((z.v.j 0).length ≤ 63) →
  ((z.v.m 0) (Str.ofString "script") = some (.ref (z.v.p 1))) →
  (Fr (z.b.g) (z.b.L) z.b.h (z.v.m 0)) →
  (News (z.b.g) (z.b.L) z.b.h [((z.b.L) + 5, (z.v.o 4)), ((z.b.L) + 4, (z.v.o 3)), ((z.b.L) + 3, (z.v.o 2)), ((z.b.L) + 2, (z.v.o 1)), ((z.b.L) + 1, (z.v.o 0)), (158, tabObj #[])]) →
  (Apart [(z.b.L) + 5, (z.b.L) + 4, (z.b.L) + 3, (z.b.L) + 2, (z.b.L) + 1, 158]) →
  ((z.v.o 0).data = .cell none) →
  (∀ {D : Addr} {d0 d1 d2 d3 d4 d5 : Int} {u0 u1 u2 u3 u4 u5 : Tok} {n : Nat} {o1' : Obj} {h' : Heap} {tk' : Nat} {m' : Str → Option Value}, Drawn d0 d1 d2 d3 d4 d5 → o1'.data = .cell (some (.ref D)) →  Fr (z.b.g) (z.b.L) h' m' →
      News (z.b.g) (z.b.L) h' [(D, listOf #[.int d0 u0, .int d1 u1, .int d2 u2, .int d3 u3, .int d4 u4, .int d5 u5] n), ((z.b.L) + 5, (z.v.o 4)), ((z.b.L) + 4, (z.v.o 3)), ((z.b.L) + 3, (z.v.o 2)), ((z.b.L) + 2, (z.v.o 1)), ((z.b.L) + 1, o1'), (158, tabObj #[])] → Apart [D, (z.b.L) + 5, (z.b.L) + 4, (z.b.L) + 3, (z.b.L) + 2, (z.b.L) + 1, 158] → LawAt (z.w) (z.b.L) (z.v.p 0) (z.v.v 0) 1 (z.b.Q) ⟨h', z.b.gn, z.b.dr, tk', z.b.os⟩) →
  LawAt (z.w) (z.b.L) (z.v.p 0) (z.v.v 0) 0 (z.b.Q) (⟨z.b.h, z.b.gn, z.b.dr, z.b.tk, z.b.os⟩ : Shared)
noncomputable def z_law_0 : Zx := eps S_law_0
/-- the law's first statement -/
theorem b_law_0 : S_law_0 z_law_0 := by
  intro H S I hl hm F N ap c1 K
  have F1 := fr_tab F [(Str.ofString "script", Value.ref (z_law_0.v.p 1))] (List.forall_mem_cons.mpr ⟨hm, List.forall_mem_nil _⟩)
  clear F hm
  obtain ⟨B, X, T, C, l1⟩ := H
  unfold LawAt lawE lawD dOf
  dsimp only [List.drop]
  refine wpC_execs_cons (wpC_of ?_)
  repeat' (first | (refine Stop.go ?_; first
      | ((with_reducible show wpAny _ _ (call (Value.ref 137) _) _ _ _); k_dflt (refine' use_x (does_numbers I hl ) B ?kF X ?kN T rfl ?ks (by decide) (by decide) S ?_; (case kF => assumption); (case kN => assumption); (case ks => exact (fun _ h9 => nomatch h9)); intro v9 tl9 h9 tk9 q9 F N sep; obtain ⟨D9, n9, e0, e1, e2, e3, e4, e5, u0, u1, u2, u3, u4, u5, rfl, rfl, dr9⟩ := q9; replace ap := Apart.push (sep _ (List.mem_cons_self ..)) ap; replace N : News _ _ _ (_ :: _) := N))) | ((fail_if_success (with_reducible show Stop _)); first | walk1 | (dsimp only; walk1)))
  exact K (by assumption) (by assumption) (by assumption) (by assumption) ap
theorem law_0 {w : World} {loose : List Str} {mean : ExcName → Option Value} {mg mb : Str → Option Value} {g : Heap} {L a : Addr} {cd : Value} {m : Str → Option Value} {s : Shared} {Q : Flow → Shared → Prop} (H : LawC w loose mean mg mb g L) {sc : Addr} {vs : List Value} {ns : List Int} {o1 o2 o3 o4 o5 : Obj} (S : g.IsList sc vs.toArray) (I : IntsAre vs ns) (hl : ns.length ≤ 63) (hm : m (Str.ofString "script") = some (.ref sc)) (F : Fr g L s.heap m)
    (N : News g L s.heap [(L + 5, o5), (L + 4, o4), (L + 3, o3), (L + 2, o2), (L + 1, o1), (158, tabObj #[])]) (ap : Apart [L + 5, L + 4, L + 3, L + 2, L + 1, 158]) (c1 : o1.data = .cell none)
    (K : ∀ {D : Addr} {d0 d1 d2 d3 d4 d5 : Int} {u0 u1 u2 u3 u4 u5 : Tok} {n : Nat} {o1' : Obj} {h' : Heap} {tk' : Nat} {m' : Str → Option Value}, Drawn d0 d1 d2 d3 d4 d5 → o1'.data = .cell (some (.ref D)) →  Fr g L h' m' →
      News g L h' [(D, listOf #[.int d0 u0, .int d1 u1, .int d2 u2, .int d3 u3, .int d4 u4, .int d5 u5] n), (L + 5, o5), (L + 4, o4), (L + 3, o3), (L + 2, o2), (L + 1, o1'), (158, tabObj #[])] → Apart [D, L + 5, L + 4, L + 3, L + 2, L + 1, 158] → LawAt w L a cd 1 Q { s with heap := h', toks := tk' }) : LawAt w L a cd 0 Q s :=
  eps_all b_law_0 ⟨w, { loose := loose, mean := mean, mg := mg, mb := mb, g := g, L := L, Q := Q, h := s.heap, gn := s.gens, dr := s.drawn, tk := s.toks, os := s.os }, { p := fun | 0 => a | _ => sc, v := fun | _ => cd, m := fun | _ => m, l := fun | _ => vs, j := fun | _ => ns, o := fun | 0 => o1 | 1 => o2 | 2 => o3 | 3 => o4 | _ => o5 }⟩ H S I hl hm F N ap c1 K

/-- the ports, by the curve -/
def portF (d0 d1 d2 : Int) (x : Int) : Int := (crv d0 d1 d2 x - 1) % 65521 + 1

def S_law_1 (z : Zx) : Prop :=
  (LawC (z.w) (z.b.loose) (z.b.mean) (z.b.mg) (z.b.mb) (z.b.g) (z.b.L)) →
  ((z.v.o 0).data = .cell (some (.ref (z.v.p 1)))) →
  ((z.v.o 1).data = .cell none) →
  (Fr (z.b.g) (z.b.L) z.b.h (z.v.m 0)) →
  (News (z.b.g) (z.b.L) z.b.h [((z.v.p 1), listOf #[.int (z.v.i 0) (z.v.t 0), .int (z.v.i 1) (z.v.t 1), .int (z.v.i 2) (z.v.t 2), .int (z.v.i 3) (z.v.t 3), .int (z.v.i 4) (z.v.t 4), .int (z.v.i 5) (z.v.t 5)] (z.v.n 0)), ((z.b.L) + 5, (z.v.o 4)), ((z.b.L) + 4, (z.v.o 3)), ((z.b.L) + 3, (z.v.o 2)), ((z.b.L) + 2, (z.v.o 1)), ((z.b.L) + 1, (z.v.o 0)), (158, tabObj #[])]) →
  (Apart [(z.v.p 1), (z.b.L) + 5, (z.b.L) + 4, (z.b.L) + 3, (z.b.L) + 2, (z.b.L) + 1, 158]) →
  (∀ {P : Addr} {oP o2' : Obj} {h' : Heap} {tk' : Nat} {m' : Str → Option Value}, PDict PySem.Challenge.rw_zd0006_01.row.prog (z.w) oP (portF (z.v.i 0) (z.v.i 1) (z.v.i 2)) → (P == sysModules) = false → o2'.data = .cell (some (.ref P)) →  Fr (z.b.g) (z.b.L) h' m' →
      News (z.b.g) (z.b.L) h' [(P, oP), ((z.v.p 1), listOf #[.int (z.v.i 0) (z.v.t 0), .int (z.v.i 1) (z.v.t 1), .int (z.v.i 2) (z.v.t 2), .int (z.v.i 3) (z.v.t 3), .int (z.v.i 4) (z.v.t 4), .int (z.v.i 5) (z.v.t 5)] (z.v.n 0)), ((z.b.L) + 5, (z.v.o 4)), ((z.b.L) + 4, (z.v.o 3)), ((z.b.L) + 3, (z.v.o 2)), ((z.b.L) + 2, o2'), ((z.b.L) + 1, (z.v.o 0)), (158, tabObj #[])] → Apart [P, (z.v.p 1), (z.b.L) + 5, (z.b.L) + 4, (z.b.L) + 3, (z.b.L) + 2, (z.b.L) + 1, 158] → LawAt (z.w) (z.b.L) (z.v.p 0) (z.v.v 0) 2 (z.b.Q) ⟨h', z.b.gn, z.b.dr, tk', z.b.os⟩) →
  LawAt (z.w) (z.b.L) (z.v.p 0) (z.v.v 0) 1 (z.b.Q) (⟨z.b.h, z.b.gn, z.b.dr, z.b.tk, z.b.os⟩ : Shared)
noncomputable def z_law_1 : Zx := eps S_law_1
/-- the law's second statement -/
theorem b_law_1 : S_law_1 z_law_1 := by
  intro H c1 c2 F N ap K
  obtain ⟨B, X, T, C, l1⟩ := H
  unfold LawAt lawE lawD dOf
  dsimp only [List.drop]
  refine wpC_execs_cons (wpC_of ?_)
  refine wpAny_Assign_Name ?_ (by rfl)
  refine DictComp_N (fun _ => true) (fun v k => ∃ t, v = .int k t) (fun v y => ∃ k t t', v = .int k t ∧ y = .int (portF (z_law_1.v.i 0) (z_law_1.v.i 1) (z_law_1.v.i 2) k) t') F T.nolimit (by with_unfolding_all rfl) (by decide) (by rfl) (by decide) (by rfl) ?_
  repeat' ((fail_if_success (with_reducible show Stop _)); first | walk1 | (dsimp only; walk1))
  refine Stop.go ?_
  rename Fr _ _ _ _ => kF
  rename News _ _ _ _ => kN
  rename IsRange _ _ _ _ _ _ _ _ => kR
  refine ⟨6, fun i v => i < 6 ∧ ∃ t, v = .int ((i : Int) + 1) t, _, by (show 6 ≤ sizeLine; decide), kF, kN, src_mono (src_range rfl kR rfl rfl) (fun i v hi ⟨t, e⟩ => ⟨hi, t, by rw [e, Int.add_comm]⟩), ?ht, ?hk, ?hv, ?hf⟩
  case ht =>
    intro C oC i vv s₃ m₃ E' hP ho hm F₃ N₃ hlt
    exact tests_nil (Stop.go ⟨rfl, ⟨s₃.heap, s₃.toks, rfl, fun _ _ e => e⟩⟩)
  case hk =>
    intro C oC i vv s₃ m₃ E' hP _ ho hm F₃ N₃ hlt
    obtain ⟨hi, t, rfl⟩ := hP
    clear kF kN
    repeat' ((fail_if_success (with_reducible show Stop _)); first | walk1 | (dsimp only; walk1))
    exact Stop.go ⟨⟨_, intKind_is _ _ _ _, _, rfl⟩, keepsOf fun _ _ e => e⟩
  case hv =>
    intro C oC i vv s₃ m₃ E' hP _ ho hm F₃ N₃ hlt
    obtain ⟨hi, t, rfl⟩ := hP
    obtain ⟨h3, gn3, dr3, tk3, os3⟩ := s₃
    dsimp only at F₃ N₃
    clear kF kN
    repeat' (first | (refine Stop.go ?_; first
        | ((with_reducible show wpAny _ _ (call (Value.ref 144) _) _ _ _); k_dflt (refine' use_intK (does_curve ?b1 ?b2) B ?kF X ?kN T rfl ?ks (by decide) (by decide) ?_; (case b1 => omega); (case b2 => omega); (case kF => assumption); (case kN => assumption); (case ks => exact (List.forall_mem_cons.mpr ⟨by k_mem, List.forall_mem_nil _⟩)); intro t9 h9 tk9 F N k9))) | ((fail_if_success (with_reducible show Stop _)); first | walk1 | (dsimp only; walk1)))
    exact Stop.go ⟨⟨_, _, _, rfl, congrArg (Value.int · _) rfl⟩, keepsOf (by assumption)⟩
  case hf =>
    intro D' oD' h₄ tk₄ kvs vs hD hl hv hst hod F₄ N₄ hne
    have hd' : PDict PySem.Challenge.rw_zd0006_01.row.prog (z_law_1.w) oD' (portF (z_law_1.v.i 0) (z_law_1.v.i 1) (z_law_1.v.i 2)) := pd_of_stored (fun k t y _ _ ⟨k', t', t'', e1, e2⟩ => by cases e1; exact ⟨_, e2⟩) hl hv hst hod
    replace ap := Apart.above hne ap
    clear kF kN hst hv
    dsimp only
    repeat' ((fail_if_success (with_reducible show Stop _)); first | walk1 | (dsimp only; walk1))
    exact K hd' hD (by assumption) (by assumption) (by assumption) ap
theorem law_1 {w : World} {loose : List Str} {mean : ExcName → Option Value} {mg mb : Str → Option Value} {g : Heap} {L a : Addr} {cd : Value} {m : Str → Option Value} {s : Shared} {Q : Flow → Shared → Prop} (H : LawC w loose mean mg mb g L) {D : Addr} {d0 d1 d2 d3 d4 d5 : Int} {u0 u1 u2 u3 u4 u5 : Tok} {n : Nat} {o1 o2 o3 o4 o5 : Obj} (c1 : o1.data = .cell (some (.ref D))) (c2 : o2.data = .cell none) (F : Fr g L s.heap m)
    (N : News g L s.heap [(D, listOf #[.int d0 u0, .int d1 u1, .int d2 u2, .int d3 u3, .int d4 u4, .int d5 u5] n), (L + 5, o5), (L + 4, o4), (L + 3, o3), (L + 2, o2), (L + 1, o1), (158, tabObj #[])]) (ap : Apart [D, L + 5, L + 4, L + 3, L + 2, L + 1, 158])
    (K : ∀ {P : Addr} {oP o2' : Obj} {h' : Heap} {tk' : Nat} {m' : Str → Option Value}, PDict PySem.Challenge.rw_zd0006_01.row.prog w oP (portF d0 d1 d2) → (P == sysModules) = false → o2'.data = .cell (some (.ref P)) →  Fr g L h' m' →
      News g L h' [(P, oP), (D, listOf #[.int d0 u0, .int d1 u1, .int d2 u2, .int d3 u3, .int d4 u4, .int d5 u5] n), (L + 5, o5), (L + 4, o4), (L + 3, o3), (L + 2, o2'), (L + 1, o1), (158, tabObj #[])] → Apart [P, D, L + 5, L + 4, L + 3, L + 2, L + 1, 158] → LawAt w L a cd 2 Q { s with heap := h', toks := tk' }) : LawAt w L a cd 1 Q s :=
  eps_all b_law_1 ⟨w, { loose := loose, mean := mean, mg := mg, mb := mb, g := g, L := L, Q := Q, h := s.heap, gn := s.gens, dr := s.drawn, tk := s.toks, os := s.os }, { p := fun | 0 => a | _ => D, v := fun | _ => cd, m := fun | _ => m, i := fun | 0 => d0 | 1 => d1 | 2 => d2 | 3 => d3 | 4 => d4 | _ => d5, t := fun | 0 => u0 | 1 => u1 | 2 => u2 | 3 => u3 | 4 => u4 | _ => u5, n := fun | _ => n, o := fun | 0 => o1 | 1 => o2 | 2 => o3 | 3 => o4 | _ => o5 }⟩ H c1 c2 F N ap K
end
section
open PySem PySem.W PyProof.Rows
section
example : True ∧ True := by w_top off; first | (walk1 <;> trivial) | exact ⟨trivial, trivial⟩
open PySem PySem.W PyProof.Rows PySem.Calls
set_option Elab.async false
set_option maxRecDepth 100000
set_option maxHeartbeats 8000000
set_option linter.unusedVariables false
set_option linter.unusedSimpArgs false
local macro_rules | `(tactic| walk_at $s:str) => lineAt ["call ref", "exec For Name Call cons nil", "pyIter ref", "eval DictComp", "eval ListComp", "exec Assign cons ListComp"] ([("storeName", `r_cell, 9), ("subscriptTail Name Name ref int", `r_ditem, 4)] ++ linesN) s
theorem fill_lc1 : ∀ p, (heap9 p).In {} → PySem.Challenge.rw_zd0006_01 = PySem.Challenge.rw_zd0006_01 := by
  k_fill; exact fun _ _ => rfl
open PyProof.V in
theorem six_one {kvs : List (Int × Value)} {f : Int → Int} {l : Nat} (hl : l < 6) (hf : ∀ k, 1 ≤ k → k ≤ 6 → f k ≠ 0) {g : Int → PyData} (hg : ∀ k, g k = if k = (l : Int) + 1 then .none else .int (f k))
    (h : FlatPairs PyData.int kvs [(.int 1, g 1), (.int 2, g 2), (.int 3, g 3), (.int 4, g 4), (.int 5, g 5), (.int 6, g 6)]) : SixOne kvs l (fun j => f ((j : Int) + 1)) := by
  have idx : ∀ {kvs : List (Int × Value)} {D : List (PyData × PyData)}, FlatPairs PyData.int kvs D → kvs.length = D.length ∧ ∀ (j : Nat) (a b : PyData), D[j]? = some (a, b) → ∃ k v, kvs[j]? = some (k, v) ∧ Flat v b := by
    intro kvs D h
    induction h with
    | nil => exact ⟨rfl, fun j a b e => by simp at e⟩
    | cons hf hr ih =>
      refine ⟨by rw [List.length_cons, List.length_cons, ih.1], fun j a b e => ?_⟩
      cases j with
      | zero =>
        rw [List.getElem?_cons_zero] at e
        cases e
        exact ⟨_, _, rfl, hf⟩
      | succ j =>
        rw [List.getElem?_cons_succ] at e
        exact ih.2 j a b e
  obtain ⟨h6, hi⟩ := idx h
  have at' : ∀ j : Nat, j < 6 → ∃ k v, kvs[j]? = some (k, v) ∧ Flat v (g ((j : Int) + 1)) := fun j hj => by
    match j, hj with
    | 0, _ => exact hi 0 _ _ rfl
    | 1, _ => exact hi 1 _ _ rfl
    | 2, _ => exact hi 2 _ _ rfl
    | 3, _ => exact hi 3 _ _ rfl
    | 4, _ => exact hi 4 _ _ rfl
    | 5, _ => exact hi 5 _ _ rfl
  refine ⟨h6, hl, ?_, fun j hj hne => ?_⟩
  · obtain ⟨k, v, e, fl⟩ := at' l hl
    rw [hg, if_pos rfl] at fl
    have fl := fl default
    cases fl
    exact ⟨k, e⟩
  · obtain ⟨k, v, e, fl⟩ := at' j hj
    rw [hg, if_neg (by omega)] at fl
    have fl := fl default
    cases fl
    exact ⟨k, _, e, hf _ (by omega) (by omega)⟩
theorem portF_lo (d0 d1 d2 x : Int) : 1 ≤ portF d0 d1 d2 x := by unfold portF; omega
theorem portF_hi (d0 d1 d2 x : Int) : portF d0 d1 d2 x ≤ 65521 := by unfold portF; omega
open PyProof.V in
theorem ldict_of {prog : Program} {w : World} {o : Obj} {d0 d1 d2 lost : Int} (h1 : 1 ≤ lost) (h6 : lost ≤ 6) {vs : List Value} (hl : vs.length = 6) (hv : ∀ (j : Nat) (v : Value), vs[j]? = some v → j < 6 ∧ ∃ t, v = .int ((j : Int) + 1) t) {kvs : List (Int × Value)}
    (h : StoredAll (fun v k => ∃ t, v = Value.int k t) (fun v y => ∃ k t, v = .int k t ∧ ((k = lost ∧ y = .none) ∨ (k ≠ lost ∧ ∃ t', y = .int (portF d0 d1 d2 k) t'))) (vs.filter fun _ => true) kvs) (ho : o.IsDictOf (intKind prog w) kvs) :
    LDict prog w o (fun j => portF d0 d1 d2 ((j : Int) + 1)) (lost - 1).toNat := by
  rw [filter_tt] at h
  have el : (((lost - 1).toNat : Nat) : Int) = lost - 1 := Int.toNat_of_nonneg (by omega)
  refine ⟨kvs, ho, six_one (g := fun k => if k = (((lost - 1).toNat : Nat) : Int) + 1 then .none else .int (portF d0 d1 d2 k)) (by omega) (fun k _ _ => by have := portF_lo d0 d1 d2 k; omega) (fun _ => rfl) (stored_six (g := fun k => if k = (((lost - 1).toNat : Nat) : Int) + 1 then .none else .int (portF d0 d1 d2 k)) (fun k t y a b hy => ?_) hl (fun j v hj => (hv j v hj).2) h)⟩
  obtain ⟨k', t', e, hy⟩ := hy
  cases e
  rcases hy with ⟨e, rfl⟩ | ⟨e, t', rfl⟩
  · show Flat _ (if _ then _ else _)
    rw [if_pos (by omega)]; exact .none
  · show Flat _ (if _ then _ else _)
    rw [if_neg (by omega)]; exact .int _ _

def S_law_2 (z : Zx) : Prop :=
  (LawC (z.w) (z.b.loose) (z.b.mean) (z.b.mg) (z.b.mb) (z.b.g) (z.b.L)) →
  (Drawn (z.v.i 0) (z.v.i 1) (z.v.i 2) (z.v.i 3) (z.v.i 4) (z.v.i 5)) →
  (PDict PySem.Challenge.rw_zd0006_01.row.prog (z.w) (z.v.o 0) (portF (z.v.i 0) (z.v.i 1) (z.v.i 2))) →
  (((z.v.p 2) == sysModules) = false) →
  ((z.v.o 1).data = .cell (some (.ref (z.v.p 1)))) →
  ((z.v.o 2).data = .cell (some (.ref (z.v.p 2)))) →
  ((z.v.o 3).data = .cell none) →
  (Fr (z.b.g) (z.b.L) z.b.h (z.v.m 0)) →
  (News (z.b.g) (z.b.L) z.b.h [((z.v.p 2), (z.v.o 0)), ((z.v.p 1), listOf #[.int (z.v.i 0) (z.v.t 0), .int (z.v.i 1) (z.v.t 1), .int (z.v.i 2) (z.v.t 2), .int (z.v.i 3) (z.v.t 3), .int (z.v.i 4) (z.v.t 4), .int (z.v.i 5) (z.v.t 5)] (z.v.n 0)), ((z.b.L) + 5, (z.v.o 5)), ((z.b.L) + 4, (z.v.o 4)), ((z.b.L) + 3, (z.v.o 3)), ((z.b.L) + 2, (z.v.o 2)), ((z.b.L) + 1, (z.v.o 1)), (158, tabObj #[])]) →
  (Apart [(z.v.p 2), (z.v.p 1), (z.b.L) + 5, (z.b.L) + 4, (z.b.L) + 3, (z.b.L) + 2, (z.b.L) + 1, 158]) →
  (∀ {o3' : Obj} {t3 : Tok} {h' : Heap} {tk' : Nat} {m' : Str → Option Value}, o3'.data = .cell (some (.int ((z.v.i 3) % 6 + 1) t3)) → Fr (z.b.g) (z.b.L) h' m' →
      News (z.b.g) (z.b.L) h' [((z.v.p 2), (z.v.o 0)), ((z.v.p 1), listOf #[.int (z.v.i 0) (z.v.t 0), .int (z.v.i 1) (z.v.t 1), .int (z.v.i 2) (z.v.t 2), .int (z.v.i 3) (z.v.t 3), .int (z.v.i 4) (z.v.t 4), .int (z.v.i 5) (z.v.t 5)] (z.v.n 0)), ((z.b.L) + 5, (z.v.o 5)), ((z.b.L) + 4, (z.v.o 4)), ((z.b.L) + 3, o3'), ((z.b.L) + 2, (z.v.o 2)), ((z.b.L) + 1, (z.v.o 1)), (158, tabObj #[])] → Apart [(z.v.p 2), (z.v.p 1), (z.b.L) + 5, (z.b.L) + 4, (z.b.L) + 3, (z.b.L) + 2, (z.b.L) + 1, 158] → LawAt (z.w) (z.b.L) (z.v.p 0) (z.v.v 0) 3 (z.b.Q) ⟨h', z.b.gn, z.b.dr, tk', z.b.os⟩) →
  LawAt (z.w) (z.b.L) (z.v.p 0) (z.v.v 0) 2 (z.b.Q) (⟨z.b.h, z.b.gn, z.b.dr, z.b.tk, z.b.os⟩ : Shared)
noncomputable def z_law_2 : Zx := eps S_law_2
/-- the law's third statement -/
theorem b_law_2 : S_law_2 z_law_2 := by
  intro H dr hP hPs c1 c2 c3 F N ap K
  obtain ⟨B, X, T, C, l1⟩ := H
  unfold LawAt lawE lawD dOf
  dsimp only [List.drop]
  refine wpC_execs_cons (wpC_of ?_)
  repeat' ((fail_if_success (with_reducible show Stop _)); first | walk1 | (dsimp only; walk1))
  exact K (by assumption) (by assumption) (by assumption) ap
theorem law_2 {w : World} {loose : List Str} {mean : ExcName → Option Value} {mg mb : Str → Option Value} {g : Heap} {L a : Addr} {cd : Value} {m : Str → Option Value} {s : Shared} {Q : Flow → Shared → Prop} (H : LawC w loose mean mg mb g L) {D P : Addr} {d0 d1 d2 d3 d4 d5 : Int} {u0 u1 u2 u3 u4 u5 : Tok} {n : Nat} {oP o1 o2 o3 o4 o5 : Obj} (dr : Drawn d0 d1 d2 d3 d4 d5) (hP : PDict PySem.Challenge.rw_zd0006_01.row.prog w oP (portF d0 d1 d2)) (hPs : (P == sysModules) = false) (c1 : o1.data = .cell (some (.ref D))) (c2 : o2.data = .cell (some (.ref P))) (c3 : o3.data = .cell none) (F : Fr g L s.heap m)
    (N : News g L s.heap [(P, oP), (D, listOf #[.int d0 u0, .int d1 u1, .int d2 u2, .int d3 u3, .int d4 u4, .int d5 u5] n), (L + 5, o5), (L + 4, o4), (L + 3, o3), (L + 2, o2), (L + 1, o1), (158, tabObj #[])]) (ap : Apart [P, D, L + 5, L + 4, L + 3, L + 2, L + 1, 158])
    (K : ∀ {o3' : Obj} {t3 : Tok} {h' : Heap} {tk' : Nat} {m' : Str → Option Value}, o3'.data = .cell (some (.int (d3 % 6 + 1) t3)) → Fr g L h' m' →
      News g L h' [(P, oP), (D, listOf #[.int d0 u0, .int d1 u1, .int d2 u2, .int d3 u3, .int d4 u4, .int d5 u5] n), (L + 5, o5), (L + 4, o4), (L + 3, o3'), (L + 2, o2), (L + 1, o1), (158, tabObj #[])] → Apart [P, D, L + 5, L + 4, L + 3, L + 2, L + 1, 158] → LawAt w L a cd 3 Q { s with heap := h', toks := tk' }) : LawAt w L a cd 2 Q s :=
  eps_all b_law_2 ⟨w, { loose := loose, mean := mean, mg := mg, mb := mb, g := g, L := L, Q := Q, h := s.heap, gn := s.gens, dr := s.drawn, tk := s.toks, os := s.os }, { p := fun | 0 => a | 1 => D | _ => P, v := fun | _ => cd, m := fun | _ => m, i := fun | 0 => d0 | 1 => d1 | 2 => d2 | 3 => d3 | 4 => d4 | _ => d5, t := fun | 0 => u0 | 1 => u1 | 2 => u2 | 3 => u3 | 4 => u4 | _ => u5, n := fun | _ => n, o := fun | 0 => oP | 1 => o1 | 2 => o2 | 3 => o3 | 4 => o4 | _ => o5 }⟩ H dr hP hPs c1 c2 c3 F N ap K

def S_law_3 (z : Zx) : Prop :=
  (LawC (z.w) (z.b.loose) (z.b.mean) (z.b.mg) (z.b.mb) (z.b.g) (z.b.L)) →
  (Drawn (z.v.i 0) (z.v.i 1) (z.v.i 2) (z.v.i 3) (z.v.i 4) (z.v.i 5)) →
  (PDict PySem.Challenge.rw_zd0006_01.row.prog (z.w) (z.v.o 0) (portF (z.v.i 0) (z.v.i 1) (z.v.i 2))) →
  (((z.v.p 2) == sysModules) = false) →
  ((z.v.o 1).data = .cell (some (.ref (z.v.p 1)))) →
  ((z.v.o 2).data = .cell (some (.ref (z.v.p 2)))) →
  ((z.v.o 3).data = .cell (some (.int ((z.v.i 3) % 6 + 1) (z.v.t 6)))) →
  (Fr (z.b.g) (z.b.L) z.b.h (z.v.m 0)) →
  (News (z.b.g) (z.b.L) z.b.h [((z.v.p 2), (z.v.o 0)), ((z.v.p 1), listOf #[.int (z.v.i 0) (z.v.t 0), .int (z.v.i 1) (z.v.t 1), .int (z.v.i 2) (z.v.t 2), .int (z.v.i 3) (z.v.t 3), .int (z.v.i 4) (z.v.t 4), .int (z.v.i 5) (z.v.t 5)] (z.v.n 0)), ((z.b.L) + 5, (z.v.o 5)), ((z.b.L) + 4, (z.v.o 4)), ((z.b.L) + 3, (z.v.o 3)), ((z.b.L) + 2, (z.v.o 2)), ((z.b.L) + 1, (z.v.o 1)), (158, tabObj #[])]) →
  (Apart [(z.v.p 2), (z.v.p 1), (z.b.L) + 5, (z.b.L) + 4, (z.b.L) + 3, (z.b.L) + 2, (z.b.L) + 1, 158]) →
  (∀ {M : Int} {t9 : Tok} {h' : Heap} {tk' : Nat} {m' : Str → Option Value}, MaxOf (fun j => portF (z.v.i 0) (z.v.i 1) (z.v.i 2) ((j : Int) + 1)) ((z.v.i 3) % 6).toNat M → m' (Str.ofString "width") = some (.int (if M ≤ 9999 then 4 else 5) t9) → Fr (z.b.g) (z.b.L) h' m' →
      News (z.b.g) (z.b.L) h' [((z.v.p 2), (z.v.o 0)), ((z.v.p 1), listOf #[.int (z.v.i 0) (z.v.t 0), .int (z.v.i 1) (z.v.t 1), .int (z.v.i 2) (z.v.t 2), .int (z.v.i 3) (z.v.t 3), .int (z.v.i 4) (z.v.t 4), .int (z.v.i 5) (z.v.t 5)] (z.v.n 0)), ((z.b.L) + 5, (z.v.o 5)), ((z.b.L) + 4, (z.v.o 4)), ((z.b.L) + 3, (z.v.o 3)), ((z.b.L) + 2, (z.v.o 2)), ((z.b.L) + 1, (z.v.o 1)), (158, tabObj #[])] → Apart [(z.v.p 2), (z.v.p 1), (z.b.L) + 5, (z.b.L) + 4, (z.b.L) + 3, (z.b.L) + 2, (z.b.L) + 1, 158] → LawAt (z.w) (z.b.L) (z.v.p 0) (z.v.v 0) 4 (z.b.Q) ⟨h', z.b.gn, z.b.dr, tk', z.b.os⟩) →
  LawAt (z.w) (z.b.L) (z.v.p 0) (z.v.v 0) 3 (z.b.Q) (⟨z.b.h, z.b.gn, z.b.dr, z.b.tk, z.b.os⟩ : Shared)
noncomputable def z_law_3 : Zx := eps S_law_3
/-- the law's fourth statement -/
theorem b_law_3 : S_law_3 z_law_3 := by
  intro H dr hP hPs c1 c2 c3 F N ap K
  obtain ⟨B, X, T, C, l1⟩ := H
  unfold LawAt lawE lawD dOf
  dsimp only [List.drop]
  refine wpC_execs_cons (wpC_of ?_)
  repeat' ((fail_if_success (with_reducible show Stop _)); first | walk1 | (dsimp only; walk1))
  refine Stop.go ?_
  refine DictComp_N (fun _ => true) (fun v k => ∃ t, v = .int k t) (fun v y => ∃ k t, v = .int k t ∧ ((k = (z_law_3.v.i 3) % 6 + 1 ∧ y = .none) ∨ (k ≠ (z_law_3.v.i 3) % 6 + 1 ∧ ∃ t', y = .int (portF (z_law_3.v.i 0) (z_law_3.v.i 1) (z_law_3.v.i 2) k) t'))) F T.nolimit (by with_unfolding_all rfl) (by decide) (by rfl) (by decide) (by rfl) ?_
  repeat' ((fail_if_success (with_reducible show Stop _)); first | walk1 | (dsimp only; walk1))
  refine Stop.go ?_
  refine ⟨_, _, _, ?hn, F, N, pd_src rfl N (by k_mem) hP hPs, ?ht, ?hk, ?hv, ?hf⟩
  case hn => show 6 ≤ sizeLine; decide
  case ht =>
    intro C oC i vv s₃ m₃ E' hP ho hm F₃ N₃ hlt
    exact tests_nil (Stop.go ⟨rfl, ⟨s₃.heap, s₃.toks, rfl, fun _ _ e => e⟩⟩)
  case hk =>
    intro C oC i vv s₃ m₃ E' hQ _ ho hm F₃ N₃ hlt
    obtain ⟨hi, t, rfl⟩ := hQ
    repeat' ((fail_if_success (with_reducible show Stop _)); first | walk1 | (dsimp only; walk1))
    exact Stop.go ⟨⟨_, intKind_is _ _ _ _, _, rfl⟩, keepsOf fun _ _ e => e⟩
  case hv =>
    intro C oC i vv s₃ m₃ E' hQ _ ho hm F₃ N₃ hlt
    obtain ⟨hi, t, rfl⟩ := hQ
    have g1 : 1 ≤ (i : Int) + 1 := by omega
    have g6 : (i : Int) + 1 ≤ 6 := by omega
    obtain ⟨h3, gn3, dr3, tk3, os3⟩ := s₃
    dsimp only at F₃ N₃
    repeat' ((fail_if_success (with_reducible show Stop _)); first | walk1 | (dsimp only; walk1))
    · exact Stop.go ⟨⟨_, _, rfl, .inl ⟨by assumption, rfl⟩⟩, keepsOf fun _ _ e => e⟩
    · exact Stop.go ⟨⟨_, _, rfl, .inr ⟨by assumption, _, rfl⟩⟩, keepsOf fun _ _ e => e⟩
  case hf =>
    intro D' oD' h₄ tk₄ kvs vs hD hl hv hst hod F₄ N₄ hne
    have hd9 := ldict_of (by omega) (by omega) hl hv hst hod
    have hp9 : ∀ j : Nat, j < 6 → j ≠ ((z_law_3.v.i 3) % 6 + 1 - 1).toNat → 1 ≤ portF (z_law_3.v.i 0) (z_law_3.v.i 1) (z_law_3.v.i 2) ((j : Int) + 1) ∧ portF (z_law_3.v.i 0) (z_law_3.v.i 1) (z_law_3.v.i 2) ((j : Int) + 1) ≤ 65521 := fun j _ _ => ⟨portF_lo .., portF_hi ..⟩
    clear hst hv
    dsimp only
    repeat' (first | (refine Stop.go ?_; first
        | ((with_reducible show wpAny _ _ (call (Value.ref 51) _) _ _ _); k_dflt (refine' use_val (does_width hd9 hD hp9 ) B ?kF X ?kN T rfl ?ks (by decide) (by decide) ?_; (case kF => assumption); (case kN => assumption); (case ks => exact (List.forall_mem_cons.mpr ⟨by k_mem, List.forall_mem_nil _⟩)); intro v9 h9 tk9 q9 F N; obtain ⟨M9, t9, mx9, rfl⟩ := q9))) | ((fail_if_success (with_reducible show Stop _)); first | walk1 | (dsimp only; walk1)))
    rename Fr _ _ _ _ => kF
    rename News _ _ _ _ => kN
    rename MaxOf _ _ _ => kM
    rw [show (z_law_3.v.i 3) % 6 + 1 - 1 = (z_law_3.v.i 3) % 6 by omega] at kM
    exact K kM (if_pos rfl) kF (fun p hp => kN p (List.mem_cons_of_mem _ hp)) ap
theorem law_3 {w : World} {loose : List Str} {mean : ExcName → Option Value} {mg mb : Str → Option Value} {g : Heap} {L a : Addr} {cd : Value} {m : Str → Option Value} {s : Shared} {Q : Flow → Shared → Prop} (H : LawC w loose mean mg mb g L) {D P : Addr} {d0 d1 d2 d3 d4 d5 : Int} {u0 u1 u2 u3 u4 u5 : Tok} {n : Nat} {oP o1 o2 o3 o4 o5 : Obj} (dr : Drawn d0 d1 d2 d3 d4 d5) (hP : PDict PySem.Challenge.rw_zd0006_01.row.prog w oP (portF d0 d1 d2)) (hPs : (P == sysModules) = false) (c1 : o1.data = .cell (some (.ref D))) (c2 : o2.data = .cell (some (.ref P))) {t3 : Tok} (c3 : o3.data = .cell (some (.int (d3 % 6 + 1) t3))) (F : Fr g L s.heap m)
    (N : News g L s.heap [(P, oP), (D, listOf #[.int d0 u0, .int d1 u1, .int d2 u2, .int d3 u3, .int d4 u4, .int d5 u5] n), (L + 5, o5), (L + 4, o4), (L + 3, o3), (L + 2, o2), (L + 1, o1), (158, tabObj #[])]) (ap : Apart [P, D, L + 5, L + 4, L + 3, L + 2, L + 1, 158])
    (K : ∀ {M : Int} {t9 : Tok} {h' : Heap} {tk' : Nat} {m' : Str → Option Value}, MaxOf (fun j => portF d0 d1 d2 ((j : Int) + 1)) (d3 % 6).toNat M → m' (Str.ofString "width") = some (.int (if M ≤ 9999 then 4 else 5) t9) → Fr g L h' m' →
      News g L h' [(P, oP), (D, listOf #[.int d0 u0, .int d1 u1, .int d2 u2, .int d3 u3, .int d4 u4, .int d5 u5] n), (L + 5, o5), (L + 4, o4), (L + 3, o3), (L + 2, o2), (L + 1, o1), (158, tabObj #[])] → Apart [P, D, L + 5, L + 4, L + 3, L + 2, L + 1, 158] → LawAt w L a cd 4 Q { s with heap := h', toks := tk' }) : LawAt w L a cd 3 Q s :=
  eps_all b_law_3 ⟨w, { loose := loose, mean := mean, mg := mg, mb := mb, g := g, L := L, Q := Q, h := s.heap, gn := s.gens, dr := s.drawn, tk := s.toks, os := s.os }, { p := fun | 0 => a | 1 => D | _ => P, v := fun | _ => cd, m := fun | _ => m, i := fun | 0 => d0 | 1 => d1 | 2 => d2 | 3 => d3 | 4 => d4 | _ => d5, t := fun | 0 => u0 | 1 => u1 | 2 => u2 | 3 => u3 | 4 => u4 | 5 => u5 | _ => t3, n := fun | _ => n, o := fun | 0 => oP | 1 => o1 | 2 => o2 | 3 => o3 | 4 => o4 | _ => o5 }⟩ H dr hP hPs c1 c2 c3 F N ap K
end
section
example : True ∧ True := by w_top off; first | (walk1 <;> trivial) | exact ⟨trivial, trivial⟩
open PySem PySem.W PyProof.Rows PySem.Calls
set_option Elab.async false
set_option maxRecDepth 100000
set_option maxHeartbeats 8000000
set_option linter.unusedVariables false
set_option linter.unusedSimpArgs false
local macro_rules | `(tactic| walk_at $s:str) => lineAt ["call ref", "exec For Name Call cons nil", "pyIter ref", "eval ListComp", "exec Assign cons ListComp"] ([("storeName", `r_cell, 9), ("subscriptTail Name Name ref int", `r_ditem, 4)] ++ linesN) s
theorem fill_ld1 : ∀ p, (heap9 p).In {} → PySem.Challenge.rw_zd0006_01 = PySem.Challenge.rw_zd0006_01 := by
  k_fill; exact fun _ _ => rfl
/-- a place that is heard, with a port over 9999 -/
def greatP (d0 d1 d2 lost : Int) (v : Value) : Bool := match v with
  | .int k _ => decide (k ≠ lost) && decide (9999 < portF d0 d1 d2 k)
  | _ => false
theorem great_none {d0 d1 d2 d3 M : Int} (hM : MaxOf (fun j => portF d0 d1 d2 ((j : Int) + 1)) (d3 % 6).toNat M) {vs : List Value} (hl : vs.length = 6) (hv : ∀ (j : Nat) (v : Value), vs[j]? = some v → j < 6 ∧ ∃ t, v = .int ((j : Int) + 1) t)
    {F : Value → Value → Prop} {ys : List Value} (h : Paired F (vs.filter (greatP d0 d1 d2 (d3 % 6 + 1))) ys) : ys.toArray.size = 0 ↔ M ≤ 9999 := by
  have hlen : ys.length = (vs.filter (greatP d0 d1 d2 (d3 % 6 + 1))).length := by
    clear hv hl hM
    generalize vs.filter (greatP d0 d1 d2 (d3 % 6 + 1)) = zs at h
    induction h with
    | nil => rfl
    | cons _ _ ih => rw [List.length_cons, List.length_cons, ih]
  have e0 : ys.toArray.size = (vs.filter (greatP d0 d1 d2 (d3 % 6 + 1))).length := by rw [List.size_toArray, hlen]
  rw [e0, List.length_eq_zero_iff, List.filter_eq_nil_iff]
  obtain ⟨⟨j, hj, hjl, hMj⟩, hall⟩ := hM
  constructor
  · intro hn
    have hv' : ∃ v, vs[j]? = some v := ⟨vs[j]'(by omega), List.getElem?_eq_getElem _⟩
    obtain ⟨v, hv'⟩ := hv'
    obtain ⟨_, t, rfl⟩ := hv j v hv'
    have := hn _ (List.mem_of_getElem? hv')
    simp only [greatP, Bool.and_eq_true, decide_eq_true_eq, not_and] at this
    have h9 := this (by omega)
    rw [hMj]
    show portF d0 d1 d2 ((j : Int) + 1) ≤ 9999
    omega
  · intro hM9 v hvm
    obtain ⟨i, hi, rfl⟩ := List.getElem_of_mem hvm
    obtain ⟨hi6, t, e⟩ := hv i _ (List.getElem?_eq_getElem hi)
    rw [e]
    simp only [greatP, Bool.and_eq_true, decide_eq_true_eq, not_and]
    intro hne
    have := hall i hi6 (by omega)
    have h2 : portF d0 d1 d2 ((i : Int) + 1) ≤ M := this
    omega

def S_law_4 (z : Zx) : Prop :=
  (LawC (z.w) (z.b.loose) (z.b.mean) (z.b.mg) (z.b.mb) (z.b.g) (z.b.L)) →
  (Drawn (z.v.i 0) (z.v.i 1) (z.v.i 2) (z.v.i 3) (z.v.i 4) (z.v.i 5)) →
  (PDict PySem.Challenge.rw_zd0006_01.row.prog (z.w) (z.v.o 0) (portF (z.v.i 0) (z.v.i 1) (z.v.i 2))) →
  (((z.v.p 2) == sysModules) = false) →
  ((z.v.o 1).data = .cell (some (.ref (z.v.p 1)))) →
  ((z.v.o 2).data = .cell (some (.ref (z.v.p 2)))) →
  ((z.v.o 3).data = .cell (some (.int ((z.v.i 3) % 6 + 1) (z.v.t 6)))) →
  (MaxOf (fun j => portF (z.v.i 0) (z.v.i 1) (z.v.i 2) ((j : Int) + 1)) ((z.v.i 3) % 6).toNat (z.v.i 6)) →
  ((z.v.m 0) (Str.ofString "width") = some (.int (if (z.v.i 6) ≤ 9999 then 4 else 5) (z.v.t 7))) →
  (Fr (z.b.g) (z.b.L) z.b.h (z.v.m 0)) →
  (News (z.b.g) (z.b.L) z.b.h [((z.v.p 2), (z.v.o 0)), ((z.v.p 1), listOf #[.int (z.v.i 0) (z.v.t 0), .int (z.v.i 1) (z.v.t 1), .int (z.v.i 2) (z.v.t 2), .int (z.v.i 3) (z.v.t 3), .int (z.v.i 4) (z.v.t 4), .int (z.v.i 5) (z.v.t 5)] (z.v.n 0)), ((z.b.L) + 5, (z.v.o 5)), ((z.b.L) + 4, (z.v.o 4)), ((z.b.L) + 3, (z.v.o 3)), ((z.b.L) + 2, (z.v.o 2)), ((z.b.L) + 1, (z.v.o 1)), (158, tabObj #[])]) →
  (Apart [(z.v.p 2), (z.v.p 1), (z.b.L) + 5, (z.b.L) + 4, (z.b.L) + 3, (z.b.L) + 2, (z.b.L) + 1, 158]) →
  (∀ {G : Addr} {ys : List Value} {k : Nat} {h' : Heap} {tk' : Nat} {m' : Str → Option Value}, (ys.toArray.size = 0 ↔ (z.v.i 6) ≤ 9999) → m' (Str.ofString "width") = some (.int (if (z.v.i 6) ≤ 9999 then 4 else 5) (z.v.t 7)) → m' (Str.ofString "great") = some (.ref G) → Fr (z.b.g) (z.b.L) h' m' →
      News (z.b.g) (z.b.L) h' ((G, listOf ys.toArray k) :: [((z.v.p 2), (z.v.o 0)), ((z.v.p 1), listOf #[.int (z.v.i 0) (z.v.t 0), .int (z.v.i 1) (z.v.t 1), .int (z.v.i 2) (z.v.t 2), .int (z.v.i 3) (z.v.t 3), .int (z.v.i 4) (z.v.t 4), .int (z.v.i 5) (z.v.t 5)] (z.v.n 0)), ((z.b.L) + 5, (z.v.o 5)), ((z.b.L) + 4, (z.v.o 4)), ((z.b.L) + 3, (z.v.o 3)), ((z.b.L) + 2, (z.v.o 2)), ((z.b.L) + 1, (z.v.o 1)), (158, tabObj #[])]) → LawAt (z.w) (z.b.L) (z.v.p 0) (z.v.v 0) 5 (z.b.Q) ⟨h', z.b.gn, z.b.dr, tk', z.b.os⟩) →
  LawAt (z.w) (z.b.L) (z.v.p 0) (z.v.v 0) 4 (z.b.Q) (⟨z.b.h, z.b.gn, z.b.dr, z.b.tk, z.b.os⟩ : Shared)
noncomputable def z_law_4 : Zx := eps S_law_4
/-- the law's fifth statement -/
theorem b_law_4 : S_law_4 z_law_4 := by
  intro H dr hP hPs c1 c2 c3 hM hw F N ap K
  obtain ⟨B, X, T, C, l1⟩ := H
  unfold LawAt lawE lawD dOf
  dsimp only [List.drop]
  refine wpC_execs_cons (wpC_of ?_)
  repeat' ((fail_if_success (with_reducible show Stop _)); first | walk1 | (dsimp only; walk1))
  refine Stop.go ?_
  refine Assign_ListComp_N (greatP (z_law_4.v.i 0) (z_law_4.v.i 1) (z_law_4.v.i 2) ((z_law_4.v.i 3) % 6 + 1)) (fun _ _ => True) rfl (by rfl) F (by with_unfolding_all rfl) (by decide) (by rfl) (by decide) (by rfl) (by rfl) (by rfl) ?_
  repeat' ((fail_if_success (with_reducible show Stop _)); first | walk1 | (dsimp only; walk1))
  refine Stop.go ?_
  refine ⟨_, _, _, ?hn, F, N, pd_src rfl N (by k_mem) hP hPs, ?ht, ?hv, ?hf⟩
  case hn => show 6 ≤ sizeLine; decide
  case ht =>
    intro C oC i vv s₃ m₃ E' hQ ho hm F₃ N₃ hlt
    obtain ⟨hi, t, rfl⟩ := hQ
    have g1 : 1 ≤ (i : Int) + 1 := by omega
    have g6 : (i : Int) + 1 ≤ 6 := by omega
    obtain ⟨h3, gn3, dr3, tk3, os3⟩ := s₃
    dsimp only at F₃ N₃
    refine tests_one ?_
    repeat' ((fail_if_success (with_reducible show Stop _)); first | walk1 | (dsimp only; walk1))
    · refine Stop.go ⟨?_, keepsOf fun _ _ e => e⟩
      show true = (decide _ && decide _)
      rw [decide_eq_true (by assumption), decide_eq_true (by assumption)]
      rfl
    · refine Stop.go ⟨?_, keepsOf fun _ _ e => e⟩
      show false = (decide _ && decide _)
      rw [decide_eq_true (by assumption), decide_eq_false (by assumption)]
      rfl
    · refine Stop.go ⟨?_, keepsOf fun _ _ e => e⟩
      show false = (decide _ && decide _)
      rw [decide_eq_false (fun h => h (by assumption))]
      rfl
  case hv =>
    intro C oC i vv s₃ m₃ E' hQ _ ho hm F₃ N₃ hlt
    obtain ⟨hi, t, rfl⟩ := hQ
    repeat' ((fail_if_success (with_reducible show Stop _)); first | walk1 | (dsimp only; walk1))
    exact Stop.go ⟨trivial, keepsOf fun _ _ e => e⟩
  case hf =>
    intro D' k h₄ tk₄ ys vs hl hv hp F₄ N₄ hne
    have hg := great_none hM hl hv hp
    exact K hg ((if_neg (by decide)).trans hw) (if_pos rfl) F₄ N₄
theorem law_4 {w : World} {loose : List Str} {mean : ExcName → Option Value} {mg mb : Str → Option Value} {g : Heap} {L a : Addr} {cd : Value} {m : Str → Option Value} {s : Shared} {Q : Flow → Shared → Prop} (H : LawC w loose mean mg mb g L) {D P : Addr} {d0 d1 d2 d3 d4 d5 : Int} {u0 u1 u2 u3 u4 u5 : Tok} {n : Nat} {oP o1 o2 o3 o4 o5 : Obj} (dr : Drawn d0 d1 d2 d3 d4 d5) (hP : PDict PySem.Challenge.rw_zd0006_01.row.prog w oP (portF d0 d1 d2)) (hPs : (P == sysModules) = false) (c1 : o1.data = .cell (some (.ref D))) (c2 : o2.data = .cell (some (.ref P))) {t3 : Tok} (c3 : o3.data = .cell (some (.int (d3 % 6 + 1) t3))) {M : Int} {t9 : Tok} (hM : MaxOf (fun j => portF d0 d1 d2 ((j : Int) + 1)) (d3 % 6).toNat M) (hw : m (Str.ofString "width") = some (.int (if M ≤ 9999 then 4 else 5) t9)) (F : Fr g L s.heap m)
    (N : News g L s.heap [(P, oP), (D, listOf #[.int d0 u0, .int d1 u1, .int d2 u2, .int d3 u3, .int d4 u4, .int d5 u5] n), (L + 5, o5), (L + 4, o4), (L + 3, o3), (L + 2, o2), (L + 1, o1), (158, tabObj #[])]) (ap : Apart [P, D, L + 5, L + 4, L + 3, L + 2, L + 1, 158])
    (K : ∀ {G : Addr} {ys : List Value} {k : Nat} {h' : Heap} {tk' : Nat} {m' : Str → Option Value}, (ys.toArray.size = 0 ↔ M ≤ 9999) → m' (Str.ofString "width") = some (.int (if M ≤ 9999 then 4 else 5) t9) → m' (Str.ofString "great") = some (.ref G) → Fr g L h' m' →
      News g L h' ((G, listOf ys.toArray k) :: [(P, oP), (D, listOf #[.int d0 u0, .int d1 u1, .int d2 u2, .int d3 u3, .int d4 u4, .int d5 u5] n), (L + 5, o5), (L + 4, o4), (L + 3, o3), (L + 2, o2), (L + 1, o1), (158, tabObj #[])]) → LawAt w L a cd 5 Q { s with heap := h', toks := tk' }) : LawAt w L a cd 4 Q s :=
  eps_all b_law_4 ⟨w, { loose := loose, mean := mean, mg := mg, mb := mb, g := g, L := L, Q := Q, h := s.heap, gn := s.gens, dr := s.drawn, tk := s.toks, os := s.os }, { p := fun | 0 => a | 1 => D | _ => P, v := fun | _ => cd, m := fun | _ => m, i := fun | 0 => d0 | 1 => d1 | 2 => d2 | 3 => d3 | 4 => d4 | 5 => d5 | _ => M, t := fun | 0 => u0 | 1 => u1 | 2 => u2 | 3 => u3 | 4 => u4 | 5 => u5 | 6 => t3 | _ => t9, n := fun | _ => n, o := fun | 0 => oP | 1 => o1 | 2 => o2 | 3 => o3 | 4 => o4 | _ => o5 }⟩ H dr hP hPs c1 c2 c3 hM hw F N ap K

theorem eq_nil {w : World} {s : Shared} {prog : Program} {A : Around} {E : Value → Shared → Prop} {l b : Addr} {items : Array Value} {Q : Value → Shared → Prop} (hl : s.heap.IsList l items) (hb : s.heap.IsList b #[]) (hu : A.units < cLine) (h : Q (.bool (decide (items.size = 0))) s) :
    wpAny (model prog w) A (compareOp .Eq (.ref l) (.ref b)) Q E s := by
  by_cases e : items.size = 0
  · refine PySem.SeqAt.eq_listAt (e := fun _ => true) hl hb e hu (fun j h1 _ => by omega) ?_
    rw [e]
    rw [decide_eq_true e] at h
    exact h
  · refine PySem.SeqAt.eq_list_lengthsAt hl hb (by simpa using e) hu ?_
    rw [decide_eq_false e] at h
    exact h

local macro_rules | `(tactic| walk_at "compareOp Eq ref ref") => `(tactic| (k_here; k_dflt (refine eq_nil (News.isList (by assumption) (by k_mem)) (News.isList (by assumption) (by k_mem)) (by (show (4 + 3 : Nat) < cLine; decide)) ?_)))

def S_law_5 (z : Zx) : Prop :=
  (LawC (z.w) (z.b.loose) (z.b.mean) (z.b.mg) (z.b.mb) (z.b.g) (z.b.L)) →
  (Drawn (z.v.i 0) (z.v.i 1) (z.v.i 2) (z.v.i 3) (z.v.i 4) (z.v.i 5)) →
  (PDict PySem.Challenge.rw_zd0006_01.row.prog (z.w) (z.v.o 0) (portF (z.v.i 0) (z.v.i 1) (z.v.i 2))) →
  (((z.v.p 2) == sysModules) = false) →
  ((z.v.o 1).data = .cell (some (.ref (z.v.p 1)))) →
  ((z.v.o 2).data = .cell (some (.ref (z.v.p 2)))) →
  ((z.v.l 0).toArray.size = 0 ↔ (z.v.i 6) ≤ 9999) →
  ((z.v.m 0) (Str.ofString "width") = some (.int (if (z.v.i 6) ≤ 9999 then 4 else 5) (z.v.t 6))) →
  ((z.v.m 0) (Str.ofString "great") = some (.ref (z.v.p 3))) →
  (Fr (z.b.g) (z.b.L) z.b.h (z.v.m 0)) →
  (News (z.b.g) (z.b.L) z.b.h (((z.v.p 3), listOf (z.v.l 0).toArray (z.v.n 1)) :: [((z.v.p 2), (z.v.o 0)), ((z.v.p 1), listOf #[.int (z.v.i 0) (z.v.t 0), .int (z.v.i 1) (z.v.t 1), .int (z.v.i 2) (z.v.t 2), .int (z.v.i 3) (z.v.t 3), .int (z.v.i 4) (z.v.t 4), .int (z.v.i 5) (z.v.t 5)] (z.v.n 0)), ((z.b.L) + 5, (z.v.o 5)), ((z.b.L) + 4, (z.v.o 4)), ((z.b.L) + 3, (z.v.o 3)), ((z.b.L) + 2, (z.v.o 2)), ((z.b.L) + 1, (z.v.o 1)), (158, tabObj #[])])) →
  (Apart [(z.v.p 2), (z.v.p 1), (z.b.L) + 5, (z.b.L) + 4, (z.b.L) + 3, (z.b.L) + 2, (z.b.L) + 1, 158]) →
  (∀ {h' : Heap} {tk' : Nat} {m' : Str → Option Value}, m' (Str.ofString "width") = some (.int (if (z.v.i 6) ≤ 9999 then 4 else 5) (z.v.t 6)) → Fr (z.b.g) (z.b.L) h' m' →
      News (z.b.g) (z.b.L) h' [((z.v.p 2), (z.v.o 0)), ((z.v.p 1), listOf #[.int (z.v.i 0) (z.v.t 0), .int (z.v.i 1) (z.v.t 1), .int (z.v.i 2) (z.v.t 2), .int (z.v.i 3) (z.v.t 3), .int (z.v.i 4) (z.v.t 4), .int (z.v.i 5) (z.v.t 5)] (z.v.n 0)), ((z.b.L) + 5, (z.v.o 5)), ((z.b.L) + 4, (z.v.o 4)), ((z.b.L) + 3, (z.v.o 3)), ((z.b.L) + 2, (z.v.o 2)), ((z.b.L) + 1, (z.v.o 1)), (158, tabObj #[])] → Apart [(z.v.p 2), (z.v.p 1), (z.b.L) + 5, (z.b.L) + 4, (z.b.L) + 3, (z.b.L) + 2, (z.b.L) + 1, 158] → LawAt (z.w) (z.b.L) (z.v.p 0) (z.v.v 0) 6 (z.b.Q) ⟨h', z.b.gn, z.b.dr, tk', z.b.os⟩) →
  LawAt (z.w) (z.b.L) (z.v.p 0) (z.v.v 0) 5 (z.b.Q) (⟨z.b.h, z.b.gn, z.b.dr, z.b.tk, z.b.os⟩ : Shared)
noncomputable def z_law_5 : Zx := eps S_law_5
/-- the law's sixth statement -/
theorem b_law_5 : S_law_5 z_law_5 := by
  intro H dr hP hPs c1 c2 hy hw hG F N ap K
  have F1 := fr_tab F [(Str.ofString "width", .int (if (z_law_5.v.i 6) ≤ 9999 then 4 else 5) (z_law_5.v.t 6)), (Str.ofString "great", Value.ref (z_law_5.v.p 3))] (List.forall_mem_cons.mpr ⟨hw, List.forall_mem_cons.mpr ⟨hG, List.forall_mem_nil _⟩⟩)
  clear F
  obtain ⟨B, X, T, C, l1⟩ := H
  unfold LawAt lawE lawD dOf
  dsimp only [List.drop]
  refine wpC_execs_cons (wpC_of ?_)
  repeat' ((fail_if_success (with_reducible show Stop _)); first | walk1 | (dsimp only; walk1))
  · exfalso
    rename_i a1 a2
    rw [if_pos (hy.mp a1)] at a2
    exact a2 rfl
  · rename Fr _ _ _ _ => kF
    rename News _ _ _ _ => kN
    exact K rfl kF (fun p hp => kN p (List.mem_cons_of_mem _ (List.mem_cons_of_mem _ hp))) ap
  · exfalso
    rename_i a1 a2
    rw [if_neg fun h => a1 (hy.mpr h)] at a2
    exact a2 rfl
  · rename Fr _ _ _ _ => kF
    rename News _ _ _ _ => kN
    exact K rfl kF (fun p hp => kN p (List.mem_cons_of_mem _ (List.mem_cons_of_mem _ hp))) ap
theorem law_5 {w : World} {loose : List Str} {mean : ExcName → Option Value} {mg mb : Str → Option Value} {g : Heap} {L a : Addr} {cd : Value} {m : Str → Option Value} {s : Shared} {Q : Flow → Shared → Prop} (H : LawC w loose mean mg mb g L) {D P : Addr} {d0 d1 d2 d3 d4 d5 : Int} {u0 u1 u2 u3 u4 u5 : Tok} {n : Nat} {oP o1 o2 o3 o4 o5 : Obj} (dr : Drawn d0 d1 d2 d3 d4 d5) (hP : PDict PySem.Challenge.rw_zd0006_01.row.prog w oP (portF d0 d1 d2)) (hPs : (P == sysModules) = false) (c1 : o1.data = .cell (some (.ref D))) (c2 : o2.data = .cell (some (.ref P))) {M : Int} {t9 : Tok} {G : Addr} {ys : List Value} {k : Nat} (hy : ys.toArray.size = 0 ↔ M ≤ 9999) (hw : m (Str.ofString "width") = some (.int (if M ≤ 9999 then 4 else 5) t9)) (hG : m (Str.ofString "great") = some (.ref G)) (F : Fr g L s.heap m) (N : News g L s.heap ((G, listOf ys.toArray k) :: [(P, oP), (D, listOf #[.int d0 u0, .int d1 u1, .int d2 u2, .int d3 u3, .int d4 u4, .int d5 u5] n), (L + 5, o5), (L + 4, o4), (L + 3, o3), (L + 2, o2), (L + 1, o1), (158, tabObj #[])]))
    (ap : Apart [P, D, L + 5, L + 4, L + 3, L + 2, L + 1, 158]) (K : ∀ {h' : Heap} {tk' : Nat} {m' : Str → Option Value}, m' (Str.ofString "width") = some (.int (if M ≤ 9999 then 4 else 5) t9) → Fr g L h' m' →
      News g L h' [(P, oP), (D, listOf #[.int d0 u0, .int d1 u1, .int d2 u2, .int d3 u3, .int d4 u4, .int d5 u5] n), (L + 5, o5), (L + 4, o4), (L + 3, o3), (L + 2, o2), (L + 1, o1), (158, tabObj #[])] → Apart [P, D, L + 5, L + 4, L + 3, L + 2, L + 1, 158] → LawAt w L a cd 6 Q { s with heap := h', toks := tk' }) : LawAt w L a cd 5 Q s :=
  eps_all b_law_5 ⟨w, { loose := loose, mean := mean, mg := mg, mb := mb, g := g, L := L, Q := Q, h := s.heap, gn := s.gens, dr := s.drawn, tk := s.toks, os := s.os }, { p := fun | 0 => a | 1 => D | 2 => P | _ => G, v := fun | _ => cd, m := fun | _ => m, i := fun | 0 => d0 | 1 => d1 | 2 => d2 | 3 => d3 | 4 => d4 | 5 => d5 | _ => M, t := fun | 0 => u0 | 1 => u1 | 2 => u2 | 3 => u3 | 4 => u4 | 5 => u5 | _ => t9, n := fun | 0 => n | _ => k, o := fun | 0 => oP | 1 => o1 | 2 => o2 | 3 => o3 | 4 => o4 | _ => o5, l := fun | _ => ys }⟩ H dr hP hPs c1 c2 hy hw hG F N ap K
end
end
section
example : True ∧ True := by w_top off; first | (walk1 <;> trivial) | exact ⟨trivial, trivial⟩
open PySem PySem.W PyProof.Rows PySem.Calls
set_option Elab.async false
set_option maxRecDepth 100000
set_option maxHeartbeats 8000000
set_option linter.unusedVariables false
set_option linter.unusedSimpArgs false
local macro_rules | `(tactic| walk_at $s:str) => lineAt ["call ref", "exec For Name Call cons nil", "pyIter ref"] ([("storeName", `r_cell, 9), ("newList", `r_list, 6)] ++ linesN) s
theorem fill_le1 : ∀ p, (heap9 p).In {} → PySem.Challenge.rw_zd0006_01 = PySem.Challenge.rw_zd0006_01 := by
  k_fill; exact fun _ _ => rfl
/-- the texts of the talk -/
structure TxAt (F : Int → Str) (txs : List Value) : Prop where
  at' : ∀ j : Nat, j < 6 → ∃ t, txs[j]? = some (.str (F ((j : Int) + 1)) t)
theorem talk_out {F : Int → Str} {tl : List (Addr × Obj)} {v : Value} (h : TalkP F tl v) : ∃ D txs k, v = .ref D ∧ tl = [(D, listOf (List.toArray txs) k)] ∧ txs.length = 6 ∧ TxAt F txs := by
  obtain ⟨D, txs, k, a, b, c, d⟩ := h
  exact ⟨D, txs, k, a, b, c, ⟨d⟩⟩

def S_law_6 (z : Zx) : Prop :=
  (LawC (z.w) (z.b.loose) (z.b.mean) (z.b.mg) (z.b.mb) (z.b.g) (z.b.L)) →
  (Drawn (z.v.i 0) (z.v.i 1) (z.v.i 2) (z.v.i 3) (z.v.i 4) (z.v.i 5)) →
  (PDict PySem.Challenge.rw_zd0006_01.row.prog (z.w) (z.v.o 0) (portF (z.v.i 0) (z.v.i 1) (z.v.i 2))) →
  (((z.v.p 2) == sysModules) = false) →
  ((z.v.o 1).data = .cell (some (.ref (z.v.p 1)))) →
  ((z.v.o 2).data = .cell (some (.ref (z.v.p 2)))) →
  ((z.v.o 3).data = .cell (some (.int ((z.v.i 3) % 6 + 1) (z.v.t 6)))) →
  ((z.v.o 4).data = .cell none) →
  (4 ≤ (z.v.i 6)) →
  ((z.v.i 6) ≤ 5) →
  ((z.v.m 0) (Str.ofString "width") = some (.int (z.v.i 6) (z.v.t 7))) →
  (Fr (z.b.g) (z.b.L) z.b.h (z.v.m 0)) →
  (News (z.b.g) (z.b.L) z.b.h [((z.v.p 2), (z.v.o 0)), ((z.v.p 1), listOf #[.int (z.v.i 0) (z.v.t 0), .int (z.v.i 1) (z.v.t 1), .int (z.v.i 2) (z.v.t 2), .int (z.v.i 3) (z.v.t 3), .int (z.v.i 4) (z.v.t 4), .int (z.v.i 5) (z.v.t 5)] (z.v.n 0)), ((z.b.L) + 5, (z.v.o 5)), ((z.b.L) + 4, (z.v.o 4)), ((z.b.L) + 3, (z.v.o 3)), ((z.b.L) + 2, (z.v.o 2)), ((z.b.L) + 1, (z.v.o 1)), (158, tabObj #[])]) →
  (Apart [(z.v.p 2), (z.v.p 1), (z.b.L) + 5, (z.b.L) + 4, (z.b.L) + 3, (z.b.L) + 2, (z.b.L) + 1, 158]) →
  (∀ {Tk O Pt : Addr} {txs : List Value} {nt kp : Nat} {oO o4' : Obj} {h' : Heap} {tk' : Nat} {m' : Str → Option Value} {rf : Int} {tr : Tok}, txs.length = 6 → (∀ j : Nat, j < 6 → ∃ t, txs[j]? = some (.str (talkF (z.v.i 6) (portF (z.v.i 0) (z.v.i 1) (z.v.i 2) ((j : Int) + 1)) ((z.v.i 4) % (6 * (z.v.i 6)) / (z.v.i 6) + 1) ((z.v.i 4) % (z.v.i 6)) ((z.v.i 5) % 10) ((j : Int) + 1) ((z.v.i 3) % 6 + 1) ((z.v.i 3) / 6 % 4)) t)) →
      PDict PySem.Challenge.rw_zd0006_01.row.prog (z.w) oO (toldF (portF (z.v.i 0) (z.v.i 1) (z.v.i 2)) (z.v.i 4) (z.v.i 5) (z.v.i 6)) → (O == sysModules) = false → o4'.data = .cell (some (.ref O)) →
      m' (Str.ofString "talk") = some (.ref Tk) → m' (Str.ofString "refused") = some (.int rf tr) → m' (Str.ofString "points") = some (.ref Pt) → ((((z.v.i 3) / 6 % 4) = 3 ∧ rf = 1) ∨ (((z.v.i 3) / 6 % 4) ≠ 3 ∧ rf = ((z.v.i 3) / 6 % 4))) →
         Fr (z.b.g) (z.b.L) h' m' → News (z.b.g) (z.b.L) h' [(Pt, listOf #[] kp), (O, oO), (Tk, listOf txs.toArray nt), ((z.v.p 2), (z.v.o 0)), ((z.v.p 1), listOf #[.int (z.v.i 0) (z.v.t 0), .int (z.v.i 1) (z.v.t 1), .int (z.v.i 2) (z.v.t 2), .int (z.v.i 3) (z.v.t 3), .int (z.v.i 4) (z.v.t 4), .int (z.v.i 5) (z.v.t 5)] (z.v.n 0)), ((z.b.L) + 5, (z.v.o 5)), ((z.b.L) + 4, o4'), ((z.b.L) + 3, (z.v.o 3)), ((z.b.L) + 2, (z.v.o 2)), ((z.b.L) + 1, (z.v.o 1)), (158, tabObj #[])] → Apart [Pt, O, Tk, (z.v.p 2), (z.v.p 1), (z.b.L) + 5, (z.b.L) + 4, (z.b.L) + 3, (z.b.L) + 2, (z.b.L) + 1, 158] → LawAt (z.w) (z.b.L) (z.v.p 0) (z.v.v 0) 11 (z.b.Q) ⟨h', z.b.gn, z.b.dr, tk', z.b.os⟩) →
  LawAt (z.w) (z.b.L) (z.v.p 0) (z.v.v 0) 6 (z.b.Q) (⟨z.b.h, z.b.gn, z.b.dr, z.b.tk, z.b.os⟩ : Shared)
noncomputable def z_law_6 : Zx := eps S_law_6
/-- the law's statements 7 to 11 -/
theorem b_law_6 : S_law_6 z_law_6 := by
  intro H dr hP hPs c1 c2 c3 c4 hw4 hw5 hw F N ap K
  have F1 := fr_tab F [(Str.ofString "width", .int (z_law_6.v.i 6) (z_law_6.v.t 7))] (List.forall_mem_cons.mpr ⟨hw, List.forall_mem_nil _⟩)
  clear F
  have h3 := dr.l3
  have h4 : 5 ≤ (z_law_6.v.i 4) := dr.l4
  have h5 := dr.l5
  have hp1 : ∀ k, 1 ≤ k → k ≤ 6 → 1 ≤ portF (z_law_6.v.i 0) (z_law_6.v.i 1) (z_law_6.v.i 2) k ∧ portF (z_law_6.v.i 0) (z_law_6.v.i 1) (z_law_6.v.i 2) k ≤ 65521 := fun k _ _ => ⟨portF_lo .., portF_hi ..⟩
  have hp0 : ∀ k, 1 ≤ k → k ≤ 6 → 0 ≤ portF (z_law_6.v.i 0) (z_law_6.v.i 1) (z_law_6.v.i 2) k ∧ portF (z_law_6.v.i 0) (z_law_6.v.i 1) (z_law_6.v.i 2) k ≤ 65521 := fun k _ _ => ⟨Int.le_trans (by decide) (portF_lo ..), portF_hi ..⟩
  obtain ⟨B, X, T, C, l1⟩ := H
  unfold LawAt lawE lawD dOf
  dsimp only [List.drop]
  iterate 4
    refine wpC_execs_cons (wpC_of ?_)
    repeat' (first | (refine Stop.go ?_; first
      | ((with_reducible show wpAny _ _ (call (Value.ref 151) _) _ _ _); k_dflt (refine' use_d (does_talk hP hPs hp1 h3 h4 h5 hw4 hw5 ) B ?kF X ?kN T rfl ?ks (by decide) (by decide) ?_; (case kF => assumption); (case kN => assumption); (case ks => exact (List.forall_mem_cons.mpr ⟨by k_mem, List.forall_mem_cons.mpr ⟨by k_mem, List.forall_mem_nil _⟩⟩)); intro v9 tl9 h9 tk9 q9 F N sep; obtain ⟨D9, txs9, kk9, rfl, rfl, tlen9, tat9⟩ := talk_out q9; replace ap := Apart.push (sep _ (List.mem_cons_self ..)) ap; replace N : News _ _ _ (_ :: _) := N))
      | ((with_reducible show wpAny _ _ (call (Value.ref 156) _) _ _ _); k_dflt (refine' use_d (does_told hP hPs hp0 h4 hw4 hw5 ) B ?kF X ?kN T rfl ?ks (by decide) (by decide) ?_; (case kF => assumption); (case kN => assumption); (case ks => exact (List.forall_mem_cons.mpr ⟨by k_mem, List.forall_mem_cons.mpr ⟨by k_mem, List.forall_mem_nil _⟩⟩)); intro v9 tl9 h9 tk9 q9 F N sep; obtain ⟨D9, o9, rfl, rfl, s9, pd9⟩ := q9; replace ap := Apart.push (sep _ (List.mem_cons_self ..)) ap; replace N : News _ _ _ (_ :: _) := N))) | ((fail_if_success (with_reducible show Stop _)); first | walk1 | (dsimp only; walk1)))
    all_goals (try dsimp only)
  all_goals refine wpC_execs_cons (wpC_of ?_)
  repeat' (first | (refine Stop.go ?_; first
      | ((with_reducible show wpAny _ _ (call (Value.ref 151) _) _ _ _); k_dflt (refine' use_d (does_talk hP hPs hp1 h3 h4 h5 hw4 hw5 ) B ?kF X ?kN T rfl ?ks (by decide) (by decide) ?_; (case kF => assumption); (case kN => assumption); (case ks => exact (List.forall_mem_cons.mpr ⟨by k_mem, List.forall_mem_cons.mpr ⟨by k_mem, List.forall_mem_nil _⟩⟩)); intro v9 tl9 h9 tk9 q9 F N sep; obtain ⟨D9, txs9, kk9, rfl, rfl, tlen9, tat9⟩ := talk_out q9; replace ap := Apart.push (sep _ (List.mem_cons_self ..)) ap; replace N : News _ _ _ (_ :: _) := N))
      | ((with_reducible show wpAny _ _ (call (Value.ref 156) _) _ _ _); k_dflt (refine' use_d (does_told hP hPs hp0 h4 hw4 hw5 ) B ?kF X ?kN T rfl ?ks (by decide) (by decide) ?_; (case kF => assumption); (case kN => assumption); (case ks => exact (List.forall_mem_cons.mpr ⟨by k_mem, List.forall_mem_cons.mpr ⟨by k_mem, List.forall_mem_nil _⟩⟩)); intro v9 tl9 h9 tk9 q9 F N sep; obtain ⟨D9, o9, rfl, rfl, s9, pd9⟩ := q9; replace ap := Apart.push (sep _ (List.mem_cons_self ..)) ap; replace N : News _ _ _ (_ :: _) := N))) | ((fail_if_success (with_reducible show Stop _)); first | walk1 | (dsimp only; walk1)))
  all_goals (rename TxAt _ _ => kA; rename Fr _ _ _ _ => kF; rename News _ _ _ _ => kN; rename Apart _ => kP; refine K (by assumption) kA.at' (by assumption) (by assumption) (by assumption) (by rfl) (by rfl) (by rfl) ?_ kF kN kP)
  · exact .inl ⟨by assumption, rfl⟩
  · exact .inr ⟨by assumption, rfl⟩
theorem law_6 {w : World} {loose : List Str} {mean : ExcName → Option Value} {mg mb : Str → Option Value} {g : Heap} {L a : Addr} {cd : Value} {m : Str → Option Value} {s : Shared} {Q : Flow → Shared → Prop} (H : LawC w loose mean mg mb g L) {D P : Addr} {d0 d1 d2 d3 d4 d5 : Int} {u0 u1 u2 u3 u4 u5 : Tok} {n : Nat} {oP o1 o2 o3 o4 o5 : Obj} (dr : Drawn d0 d1 d2 d3 d4 d5) (hP : PDict PySem.Challenge.rw_zd0006_01.row.prog w oP (portF d0 d1 d2)) (hPs : (P == sysModules) = false) (c1 : o1.data = .cell (some (.ref D))) (c2 : o2.data = .cell (some (.ref P))) {t3 : Tok} (c3 : o3.data = .cell (some (.int (d3 % 6 + 1) t3))) (c4 : o4.data = .cell none) {wd : Int} {t9 : Tok} (hw4 : 4 ≤ wd) (hw5 : wd ≤ 5) (hw : m (Str.ofString "width") = some (.int wd t9)) (F : Fr g L s.heap m)
    (N : News g L s.heap [(P, oP), (D, listOf #[.int d0 u0, .int d1 u1, .int d2 u2, .int d3 u3, .int d4 u4, .int d5 u5] n), (L + 5, o5), (L + 4, o4), (L + 3, o3), (L + 2, o2), (L + 1, o1), (158, tabObj #[])]) (ap : Apart [P, D, L + 5, L + 4, L + 3, L + 2, L + 1, 158])
    (K : ∀ {Tk O Pt : Addr} {txs : List Value} {nt kp : Nat} {oO o4' : Obj} {h' : Heap} {tk' : Nat} {m' : Str → Option Value} {rf : Int} {tr : Tok}, txs.length = 6 → (∀ j : Nat, j < 6 → ∃ t, txs[j]? = some (.str (talkF wd (portF d0 d1 d2 ((j : Int) + 1)) (d4 % (6 * wd) / wd + 1) (d4 % wd) (d5 % 10) ((j : Int) + 1) (d3 % 6 + 1) (d3 / 6 % 4)) t)) →
      PDict PySem.Challenge.rw_zd0006_01.row.prog w oO (toldF (portF d0 d1 d2) d4 d5 wd) → (O == sysModules) = false → o4'.data = .cell (some (.ref O)) →
      m' (Str.ofString "talk") = some (.ref Tk) → m' (Str.ofString "refused") = some (.int rf tr) → m' (Str.ofString "points") = some (.ref Pt) → (((d3 / 6 % 4) = 3 ∧ rf = 1) ∨ ((d3 / 6 % 4) ≠ 3 ∧ rf = (d3 / 6 % 4))) →
         Fr g L h' m' → News g L h' [(Pt, listOf #[] kp), (O, oO), (Tk, listOf txs.toArray nt), (P, oP), (D, listOf #[.int d0 u0, .int d1 u1, .int d2 u2, .int d3 u3, .int d4 u4, .int d5 u5] n), (L + 5, o5), (L + 4, o4'), (L + 3, o3), (L + 2, o2), (L + 1, o1), (158, tabObj #[])] → Apart [Pt, O, Tk, P, D, L + 5, L + 4, L + 3, L + 2, L + 1, 158] → LawAt w L a cd 11 Q { s with heap := h', toks := tk' }) : LawAt w L a cd 6 Q s :=
  eps_all b_law_6 ⟨w, { loose := loose, mean := mean, mg := mg, mb := mb, g := g, L := L, Q := Q, h := s.heap, gn := s.gens, dr := s.drawn, tk := s.toks, os := s.os }, { p := fun | 0 => a | 1 => D | _ => P, v := fun | _ => cd, m := fun | _ => m, i := fun | 0 => d0 | 1 => d1 | 2 => d2 | 3 => d3 | 4 => d4 | 5 => d5 | _ => wd, t := fun | 0 => u0 | 1 => u1 | 2 => u2 | 3 => u3 | 4 => u4 | 5 => u5 | 6 => t3 | _ => t9, n := fun | _ => n, o := fun | 0 => oP | 1 => o1 | 2 => o2 | 3 => o3 | 4 => o4 | _ => o5 }⟩ H dr hP hPs c1 c2 c3 c4 hw4 hw5 hw F N ap K
end
end
end
section
open PySem PySem.W PyProof.Rows PySem.Calls
set_option Elab.async false
set_option maxRecDepth 100000
set_option linter.unusedVariables false

/-- as RetS, of a def that makes a def: its table of codes may have grown -/
def RetT (h₀ : Heap) (L T : Addr) (g : Heap) (sub : List (Addr × Obj)) (s : Shared) (P : List (Addr × Obj) → Array Value → Value → Prop) (r : Result) (s' : Shared) : Prop :=
  ∃ v tl h' tk' ps', r = .ok (.ret v) ∧ s' = { s with heap := h', toks := tk' } ∧ News h₀ L h' (tl ++ (T, tabObj ps') :: sub) ∧ (∀ p ∈ tl, g.get? p.1 = none) ∧ (∀ p ∈ tl, ∀ q ∈ sub, (q.1 : Nat) ≠ p.1) ∧ (∀ p ∈ tl, (p.1 : Nat) ≠ T) ∧ P tl ps' v

theorem RetT.intro {h₀ g : Heap} {L T : Addr} {sub : List (Addr × Obj)} {s : Shared} {P : List (Addr × Obj) → Array Value → Value → Prop} {v : Value} {h' : Heap} {tk' : Nat} (tl : List (Addr × Obj)) (ps' : Array Value)
    (N : News h₀ L h' (tl ++ (T, tabObj ps') :: sub)) (a : ∀ p ∈ tl, g.get? p.1 = none) (b : ∀ p ∈ tl, ∀ q ∈ sub, (q.1 : Nat) ≠ p.1) (c : ∀ p ∈ tl, (p.1 : Nat) ≠ T) (hP : P tl ps' v) : RetT h₀ L T g sub s P (.ok (.ret v)) { s with heap := h', toks := tk' } :=
  ⟨v, tl, h', tk', ps', rfl, rfl, N, a, b, c, hP⟩

def RetCT (h₀ : Heap) (L T : Addr) (m : Str → Option Value) (news : List (Addr × Obj)) (u : Obj → List (Addr × Obj)) (s : Shared) (P : List (Addr × Obj) → Array Value → Value → Prop) (r : Result) (s' : Shared) : Prop :=
  ∃ v tl h' tk' ps', r = .ok (.ret v) ∧ s' = { s with heap := h', toks := tk' } ∧ Fr h₀ L h' m ∧ News h₀ L h' (tl ++ u (tabObj ps')) ∧ (∀ p ∈ tl, ∀ q ∈ news, (q.1 : Nat) ≠ p.1) ∧ P tl ps' v

section
variable {prog : Program} {w : World} {A₀ A : Around} {E : Value → Shared → Prop} {s : Shared} {base h₀ : Heap} {outer : List Env} {L T : Addr} {m mg mb : Str → Option Value} {news sub : List (Addr × Obj)} {K : Frag}
  {p : Program} {loose : List Str} {mean : ExcName → Option Value} {P : List (Addr × Obj) → Array Value → Value → Prop} {env : Env} {ps : Array Value} {u : Obj → List (Addr × Obj)}
  {name qual : Str} {params : Arguments} {body : List Stmt} {scope : Scope} {dV kV doc pm cdv ct oc : Value} {an od : Option Addr} {osl : Array (Option Value)} {f : Addr} {args : Args} {binds : List (Str × Value)}

theorem retCT_of (B : Below A₀ base outer h₀) (F : Fr h₀ L s.heap m) (N : News h₀ L s.heap news) (U : UpdF T (tabObj ps) news u) (hsub : ∀ p ∈ sub, p ∈ news) {r : Result} {s' : Shared} {L' : Addr} {m' : Str → Option Value}
    (hr : RetT h₀ L T (hideAll s.heap (((T, tabObj ps) :: sub).map (·.1))) sub s P r s') (F' : Fr (hideAll s.heap (((T, tabObj ps) :: sub).map (·.1))) L' s'.heap m') : RetCT h₀ L T m news u s P r s' := by
  obtain ⟨v, tl, h', tk', ps', rfl, rfl, NS, ha, hb, hc, hP⟩ := hr
  obtain ⟨pre, post, rfl, hu, n1, n2⟩ := U.split
  have hT : (T, tabObj ps) ∈ pre ++ (T, tabObj ps) :: post := List.mem_append_right _ (.head _)
  have hsub' : ∀ p ∈ (T, tabObj ps) :: sub, p ∈ pre ++ (T, tabObj ps) :: post := fun p hp => by
    rcases List.mem_cons.mp hp with rfl | hp
    · exact hT
    · exact hsub p hp
  have nm : ∀ b o, h₀.get? b = some o → b ∉ ((T, tabObj ps) :: sub).map (·.1) := fun b o e q => by
    obtain ⟨p, hp, rfl⟩ := List.mem_map.mp q
    rw [(N p (hsub' p hp)).2.2] at e; cases e
  have nL : L ∉ ((T, tabObj ps) :: sub).map (·.1) := fun q => by
    obtain ⟨p, hp, e⟩ := List.mem_map.mp q
    exact (N p (hsub' p hp)).2.1 e
  have kept : ∀ p ∈ pre ++ (T, tabObj ps) :: post, p.1 ∉ ((T, tabObj ps) :: sub).map (·.1) → (hideAll s.heap (((T, tabObj ps) :: sub).map (·.1))).get? p.1 = some p.2 := fun p hp hn => hideAll_get _ (N p hp).1 hn
  have insub : ∀ p ∈ pre ++ (T, tabObj ps) :: post, p.1 ≠ T → p.1 ∈ ((T, tabObj ps) :: sub).map (·.1) → p ∈ sub := fun p hp hT' hn => by
    obtain ⟨q, hq, e⟩ := List.mem_map.mp hn
    have h1 := (N p hp).1
    have h2 := (N q (hsub' q hq)).1
    rw [e] at h2
    have hpq : p = q := Prod.ext e.symm (Option.some.inj (h1.symm.trans h2))
    rcases List.mem_cons.mp hq with rfl | hq
    · exact absurd e.symm hT'
    · exact hpq ▸ hq
  have back : ∀ p ∈ pre ++ (T, tabObj ps) :: post, p.1 ≠ T → h'.get? p.1 = some p.2 ∧ p.1 ≠ L ∧ h₀.get? p.1 = none := fun p hp hT' => by
    by_cases hn : p.1 ∈ ((T, tabObj ps) :: sub).map (·.1)
    · exact NS p (List.mem_append_right _ (.tail _ (insub p hp hT' hn)))
    · exact ⟨F'.keep _ _ (kept p hp hn), (N p hp).2⟩
  refine ⟨v, tl, h', tk', ps', rfl, rfl, ?_, fun p hp => ?_, fun p hp q hq => ?_, hP⟩
  · obtain ⟨oL, es, ep, hL, hLd, hLk, hLf⟩ := F.ns
    exact ⟨⟨oL, es, ep, F'.keep L oL (hideAll_get _ hL nL), hLd, hLk, hLf⟩, fun b o e => F'.keep b o (hideAll_get _ (F.keep b o e) (nm b o e)), F.above⟩
  · rcases List.mem_append.mp hp with hp | hp
    · exact NS p (List.mem_append_left _ hp)
    · rw [hu] at hp
      rcases List.mem_append.mp hp with hp | hp
      · exact back p (List.mem_append_left _ hp) (n1 p hp)
      · rcases List.mem_cons.mp hp with rfl | hp
        · exact NS _ (List.mem_append_right _ (.head _))
        · exact back p (List.mem_append_right _ (.tail _ hp)) (n2 p hp)
  · by_cases hq' : q.1 = T
    · exact fun e => hc p hp (e ▸ hq')
    · by_cases hn : q.1 ∈ ((T, tabObj ps) :: sub).map (·.1)
      · exact hb p hp q (insub q hq hq' hn)
      · intro e
        have h1 := ha p hp
        have h2 := kept q hq hn
        have e' : q.1 = p.1 := e
        rw [e', h1] at h2
        cases h2

theorem enterT (T : Addr) (sub : List (Addr × Obj)) (B : Below A₀ base outer h₀) (F : Fr h₀ L s.heap m) (X₀ : K.In h₀) (N : News h₀ L s.heap news) (TT : Top p loose mean mg mb h₀) (C : CodeHd h₀ 162 T) (U : UpdF T (tabObj ps) news u) (hsub : ∀ p ∈ sub, p ∈ news) (hA : A.frames = some (env :: outer)) (hf : env.frame = some L) (hke : env.scope.kind = .function)
    (ho : K.lookup f = some ⟨oc, od, .func (fnOf name qual params body scope dV kV doc pm an cdv ct), osl⟩) (hcd : codeIn K cdv qual = true) (hroom : A.depth < recursionLimit)
    (hbind : BindsTo s (fnOf name qual params body scope dV kV doc pm an cdv ct) args binds) (hloc : ∀ y ∈ binds, scope.names.lookup y.1 = some .local)
    (h : ∀ g L' h₁, Fr h₀ L g m → Fr g L' h₁ (fun y => binds.reverse.lookup y) → News g L' h₁ ((T, tabObj ps) :: sub) → Below A base (env :: outer) g → K.In g → Top p loose mean mg mb g → CodeHd g 162 T → (∀ p ∈ (T, tabObj ps) :: sub, (p.1 : Nat) < L') →
      wpAny (model prog w) (A.deeper (envOf qual scope L' f cdv)) (execs body (envOf qual scope L' f cdv))
        (fun fl s' => LeaveK h₀ L m g (RetT h₀ L T g sub s P) (match fl with | .ret v => v | _ => .none) s')
        (fun e s' => False)
        { s with heap := h₁, toks := s.toks + binds.length })
    (hco : scope.isCoroutine = false) (hgen : scope.isGenerator = false) (hk : scope.kind = .function)
    (hcell : ∀ x ∈ scope.names, x.2 ≠ .cell) : codeAny (model prog w) A (.call (.ref f) args) (RetCT h₀ L T m news u s P) s := by
  have hsub' : ∀ p ∈ (T, tabObj ps) :: sub, p ∈ news := fun p hp => by
    rcases List.mem_cons.mp hp with rfl | hp
    · obtain ⟨pre, post, rfl, _⟩ := U.split; exact List.mem_append_right _ (.head _)
    · exact hsub p hp
  have NS : News h₀ L s.heap ((T, tabObj ps) :: sub) := fun p hp => N p (hsub' p hp)
  obtain ⟨FG, BG, st, lv⟩ := groundX (R := RetT h₀ L T (hideAll s.heap (((T, tabObj ps) :: sub).map (·.1))) sub s P) B F NS hA hf hke
  refine codeAny_call_def (fd := fnOf name qual params body scope dV kV doc pm an cdv ct) (body := body) (binds := binds) hroom ((X₀.keeps F.keep) _ _ ho) rfl (TT.nolimit.keeps F.keep) (codeRec_of (X₀.keeps F.keep) hcd) rfl hbind hcell hloc (fun h₁ hns hk₁ => ?_) hco hgen hk
  refine wpAny_mono (h _ s.heap.objs.size h₁ FG ⟨hns, fun b o e => hk₁ b o (of_hideAll _ e), Nat.le_of_eq (hideAll_size _ _)⟩
    (fun p hp => ⟨hk₁ _ _ (NS p hp).1, Nat.ne_of_lt (Heap.lt_size (NS p hp).1), hideAll_none _ (List.mem_map_of_mem hp)⟩) BG (X₀.keeps st) (TT.keeps st) (C.keeps st) (fun p hp => Heap.lt_size (NS p hp).1)) (fun fl s' hl => ?_) fun _ _ y => y.elim
  have hr := lv _ _ hl
  obtain ⟨L', m', news', F', _, _⟩ := hl
  exact retCT_of B F N U hsub hr F'

theorem call_retCT (h : codeAny (model prog w) A (.call (.ref f) args) (RetCT h₀ L T m news u s P) s) {Q : Value → Shared → Prop} {pos : List Value} {kw : List (Str × Value)} (ha : args = ⟨pos, kw⟩)
    (hret : ∀ v tl h' tk' ps', P tl ps' v → Fr h₀ L h' m → News h₀ L h' (tl ++ u (tabObj ps')) → (∀ p ∈ tl, ∀ q ∈ news, (q.1 : Nat) ≠ p.1) → Q v { s with heap := h', toks := tk' }) : wpAny (model prog w) A (call (.ref f) pos kw) Q E s := by
  subst ha
  refine wpAny_call (codeAny_mono h fun r s' hr => ?_)
  obtain ⟨v, tl, h', tk', ps', rfl, rfl, hF, hN, hsep, hP⟩ := hr
  exact hret v tl h' tk' ps' hP hF hN hsep
end

/-- the contract of a def that makes a def -/
abbrev DoesT (w : World) (k : Nat) (f : Addr) (ps : Array Value) (sub : List (Addr × Obj)) (args : List Value) (P : List (Addr × Obj) → Array Value → Value → Prop) : Prop :=
  ∀ (loose : List Str) (mean : ExcName → Option Value) (mg mb : Str → Option Value) (dp un : Nat) (gd : Option (List Code)) (cn : Str) (cs : Scope) (a : Addr) (ccd : Value) (cl : List (Str × Addr)) (outer : List Env) (A₀ : Around) (base h₀ : Heap) (L : Addr) (m : Str → Option Value) (news : List (Addr × Obj)) (u : Obj → List (Addr × Obj)) (s : Shared) (Q E : Value → Shared → Prop),
    Below A₀ base outer h₀ → Fr h₀ L s.heap m → (heap9 w.params).In h₀ → News h₀ L s.heap news → Top topProg loose mean mg mb h₀ → CodeHd h₀ 162 158 → UpdF 158 (tabObj ps) news u → cs.kind = .function → (∀ p ∈ sub, p ∈ news) → dp + k < recursionLimit → un + 8 * k < cLine →
    (∀ v tl h' tk' ps', P tl ps' v → Fr h₀ L h' m → News h₀ L h' (tl ++ u (tabObj ps')) → (∀ p ∈ tl, ∀ q ∈ news, (q.1 : Nat) ≠ p.1) → Q v { s with heap := h', toks := tk' }) →
    wpAny (model PySem.Challenge.rw_zd0006_01.row.prog w) (ktrTop dp un gd cn cs L a ccd cl outer) (call (.ref f) args) Q E s
end
section
open PySem PySem.W PyProof.Rows PySem.Calls
set_option Elab.async false
set_option maxRecDepth 100000
set_option linter.unusedVariables false
/-- a code's record by the name -/
def CodeOb (qual : Str) (oc : Obj) : Prop := ∃ vs t, oc.data = .fields vs ∧ vs[1]? = some (.str qual t)
/-- the table of a def's inner codes: empty, or with the one code, which is of the ledger -/
def TabOk (line col : Nat) (qual : Str) (ps : Array Value) (tb : List (Addr × Obj)) : Prop := ps = #[] ∨ ∃ c' oc, ps = #[rawInt line, rawInt col, .ref c'] ∧ (c', oc) ∈ tb ∧ CodeOb qual oc

section
variable {M : Model} {A : Around} {E : Value → Shared → Prop} {s : Shared} {h₀ : Heap} {L a c P : Addr} {m mg mb : Str → Option Value} {cn : Str} {cs : Scope} {ccd : Value} {cl : List (Str × Addr)} {news tb : List (Addr × Obj)} {g : Obj → List (Addr × Obj)}
  {p : Program} {loose : List Str} {mean : ExcName → Option Value} {name qual : Str} {params : Arguments} {body : List Stmt} {scope : Scope} {ps : Array Value} {pos : Pos} {firstLine : Nat} {clos : List (Str × Addr)}

theorem updF_same {d : Addr} {o : Obj} {l : List (Addr × Obj)} {u : Obj → List (Addr × Obj)} (U : UpdF d o l u) : u o = l := by
  obtain ⟨pre, post, rfl, h, _, _⟩ := U.split
  exact h o
theorem updF_mem {d : Addr} {o o' : Obj} {l : List (Addr × Obj)} {u : Obj → List (Addr × Obj)} (U : UpdF d o l u) : (d, o') ∈ u o' := by
  obtain ⟨pre, post, rfl, h, _, _⟩ := U.split
  rw [h]; exact List.mem_append_right _ (.head _)
theorem updF_other {d : Addr} {o o' : Obj} {l : List (Addr × Obj)} {u : Obj → List (Addr × Obj)} (U : UpdF d o l u) {q : Addr × Obj} (hq : q ∈ l) (hn : q.1 ≠ d) : q ∈ u o' := by
  obtain ⟨pre, post, rfl, h, _, _⟩ := U.split
  rw [h]
  rcases List.mem_append.mp hq with h1 | h1
  · exact List.mem_append_left _ h1
  · rcases List.mem_cons.mp h1 with rfl | h1
    · exact absurd rfl hn
    · exact List.mem_append_right _ (.tail _ h1)

theorem nest_any {Q : Value → Shared → Prop} (F : Fr h₀ L s.heap m) (N : News h₀ L s.heap news) (T : Top p loose mean mg mb h₀) (C : CodeHd h₀ c P) (hcd : ccd = .ref c) (U : UpdF P (tabObj ps) news g) (ht : TabOk pos.line pos.col qual ps tb) (htb : ∀ q ∈ tb, q ∈ news)
    (hcl : closureFor scope (envX cn cs L a ccd cl) = pure clos)
    (h : ∀ f c' oc vs t ctv doc h' tk, Fr h₀ L h' m →
      News h₀ L h' ((f, fnMade name qual params body scope clos doc ((mg "__name__").getD .none) c' ctv) :: (c', oc) :: g (tabObj #[rawInt pos.line, rawInt pos.col, .ref c'])) →
      oc.data = .fields vs → vs[1]? = some (.str qual t) → ((c', oc) ∈ tb ∨ ∀ q ∈ news, (q.1 : Nat) ≠ c') → (∀ q ∈ news, q.1 < f) → c' < f → Q (.ref f) { s with heap := h', toks := tk }) :
    wpAny M A (makeFunction name qual params (.stmts body) scope (envX cn cs L a ccd cl) [] [] [] pos firstLine) Q E s := by
  rcases ht with rfl | ⟨c', oc, rfl, hm, vs, t, h1, h2⟩
  · refine nest_K F N T C hcd U True.intro rfl hcl fun f c' oc vs t ctv doc h' tk F' N' e1 e2 l1 l2 => h f c' oc vs t ctv doc h' tk F' ?_ e1 e2 (.inr fun q hq => Nat.ne_of_lt (l1 q hq)) (fun q hq => Nat.lt_trans (l1 q hq) l2) l2
    simpa using N'
  · have hN := htb _ hm
    obtain ⟨pre, post, hnews, _, _, _⟩ := U.split
    refine nestHit_K F N T C hcd (c' := c') (ps := #[rawInt pos.line, rawInt pos.col, .ref c']) (hnews ▸ List.mem_append_right _ (.head _)) (by simp [TriplesOk, rawInt]) (by simp [codeAmong, rawInt]) hcl fun f ctv doc h' tk F' N' l1 => ?_
    refine h f c' oc vs t ctv doc h' tk F' (fun q hq => ?_) h1 h2 (.inl hm) l1 (l1 _ hN)
    rw [updF_same U] at hq
    rcases List.mem_cons.mp hq with rfl | hq
    · exact N' _ (.head _)
    · rcases List.mem_cons.mp hq with rfl | hq
      · exact N' _ (.tail _ hN)
      · exact N' _ (.tail _ hq)
end
theorem allLt_ne {d : Addr} : ∀ {l : List (Addr × Obj)}, AllLt d l → ∀ q ∈ l, (q.1 : Nat) ≠ d
  | [], _, _, h => nomatch h
  | _ :: _, x, q, h => by
    rcases List.mem_cons.mp h with rfl | h
    · exact Nat.ne_of_lt x.1
    · exact allLt_ne x.2 q h

theorem RetT.fin {h₀ g : Heap} {L L' T c' : Addr} {oc : Obj} {s : Shared} {P : List (Addr × Obj) → Array Value → Value → Prop} {v : Value} {h' : Heap} {tk' : Nat} {ps ps' : Array Value} {line col : Nat} {qual : Str} {all tb : List (Addr × Obj)} (res : List (Addr × Obj))
    (NG : News g L' h' all) (N₀ : News h₀ L h' all) (hr : ∀ p ∈ res, p ∈ all) (hc : (c', oc) ∈ all) (hT : (T, tabObj ps') ∈ all) (htb : ∀ q ∈ tb, q ∈ all) (hlt : ∀ p ∈ res, (c' : Nat) < p.1 ∧ (T : Nat) < p.1 ∧ AllLt p.1 tb)
    (q9 : (c', oc) ∈ tb ∨ ∀ q ∈ (T, tabObj ps) :: tb, (q.1 : Nat) ≠ c') (hps : ps' = #[rawInt line, rawInt col, .ref c']) (hco : CodeOb qual oc) (hP : ∀ tl, (∀ p ∈ res, p ∈ tl) → TabOk line col qual ps' (tl ++ tb) → P tl ps' v) : RetT h₀ L T g tb s P (.ok (.ret v)) { s with heap := h', toks := tk' } := by
  have sep : ∀ p ∈ res, ∀ q ∈ tb, (q.1 : Nat) ≠ p.1 := fun p hp => allLt_ne (hlt p hp).2.2
  rcases q9 with hm | hn
  · refine RetT.intro res ps' (fun p hp => ?_) (fun p hp => (NG p (hr p hp)).2.2) sep (fun p hp => Nat.ne_of_gt (hlt p hp).2.1) (hP res (fun _ h => h) (.inr ⟨c', oc, hps, List.mem_append_right _ hm, hco⟩))
    rcases List.mem_append.mp hp with hp | hp
    · exact N₀ p (hr p hp)
    · rcases List.mem_cons.mp hp with rfl | hp
      · exact N₀ _ hT
      · exact N₀ p (htb p hp)
  · refine RetT.intro (res ++ [(c', oc)]) ps' (fun p hp => ?_) (fun p hp => ?_) (fun p hp => ?_) (fun p hp => ?_) (hP _ (fun _ h => List.mem_append_left _ h) (.inr ⟨c', oc, hps, List.mem_append_left _ (List.mem_append_right _ (.head _)), hco⟩))
    · rcases List.mem_append.mp hp with hp | hp
      · rcases List.mem_append.mp hp with hp | hp
        · exact N₀ p (hr p hp)
        · cases List.mem_singleton.mp hp; exact N₀ _ hc
      · rcases List.mem_cons.mp hp with rfl | hp
        · exact N₀ _ hT
        · exact N₀ p (htb p hp)
    · rcases List.mem_append.mp hp with hp | hp
      · exact (NG p (hr p hp)).2.2
      · cases List.mem_singleton.mp hp; exact (NG _ hc).2.2
    · rcases List.mem_append.mp hp with hp | hp
      · exact sep p hp
      · cases List.mem_singleton.mp hp; exact fun q hq => hn q (.tail _ hq)
    · rcases List.mem_append.mp hp with hp | hp
      · exact Nat.ne_of_gt (hlt p hp).2.1
      · cases List.mem_singleton.mp hp; exact (hn _ (.head _)).symm
/-- the inner code's name -/
abbrev rdr : Str := (Str.ofString "_law_heard" ++ (".<locals>." : Str)) ++ Str.ofString "reader"
end
section
open PySem PySem.W PyProof.Rows PySem.Calls
set_option Elab.async false
set_option maxRecDepth 100000
set_option linter.unusedVariables false

section
variable {prog : Program} {w : World} {A₀ A : Around} {E : Value → Shared → Prop} {s : Shared} {base h₀ : Heap} {L T : Addr} {m mg mb : Str → Option Value} {news sub : List (Addr × Obj)} {K : Frag}
  {p : Program} {loose : List Str} {mean : ExcName → Option Value} {P : List (Addr × Obj) → Array Value → Value → Prop} {env : Env} {ps : Array Value} {u : Obj → List (Addr × Obj)}
  {name qual : Str} {params : Arguments} {body : List Stmt} {scope : Scope} {dV kV doc pm cdv ct oc : Value} {an od : Option Addr} {osl : Array (Option Value)} {f : Addr} {args : Args} {binds : List (Str × Value)}

theorem kts_back {fs : List Addr} {g g' : Heap} (x : KtsTurn fs g g') {b : Addr} (e : g'.get? b = none) : g.get? b = none := by
  cases q : g.get? b with
  | none => rfl
  | some o => obtain ⟨sl, h⟩ := x.up q; rw [e] at h; cases h

theorem news_back {fs : List Addr} {g g' h : Heap} {L : Addr} {l : List (Addr × Obj)} (x : KtsTurn fs g g') (N : News g' L h l) : News g L h l := fun p hp => ⟨(N p hp).1, (N p hp).2.1, kts_back x (N p hp).2.2⟩

theorem retCT_ofS (F : Fr h₀ L s.heap m) (N : News h₀ L s.heap news) (U : UpdF T (tabObj ps) news u) (hsub : ∀ p ∈ sub, p ∈ news) {r : Result} {s' : Shared} {L' : Addr} {m' : Str → Option Value} {g' : Heap}
    (hr : RetT h₀ L T (hideAll s.heap (((T, tabObj ps) :: sub).map (·.1))) sub s P r s') (F' : Fr g' L' s'.heap m') (Tn : KtsTurn [L] (hideAll s.heap (((T, tabObj ps) :: sub).map (·.1))) g') : RetCT h₀ L T m news u s P r s' := by
  obtain ⟨v, tl, h', tk', ps', rfl, rfl, NS, ha, hb, hc, hP⟩ := hr
  obtain ⟨pre, post, rfl, hu, n1, n2⟩ := U.split
  have hT : (T, tabObj ps) ∈ pre ++ (T, tabObj ps) :: post := List.mem_append_right _ (.head _)
  have hsub' : ∀ p ∈ (T, tabObj ps) :: sub, p ∈ pre ++ (T, tabObj ps) :: post := fun p hp => by
    rcases List.mem_cons.mp hp with rfl | hp
    · exact hT
    · exact hsub p hp
  have nm : ∀ b o, h₀.get? b = some o → b ∉ ((T, tabObj ps) :: sub).map (·.1) := fun b o e q => by
    obtain ⟨p, hp, rfl⟩ := List.mem_map.mp q
    rw [(N p (hsub' p hp)).2.2] at e; cases e
  have nL : L ∉ ((T, tabObj ps) :: sub).map (·.1) := fun q => by
    obtain ⟨p, hp, e⟩ := List.mem_map.mp q
    exact (N p (hsub' p hp)).2.1 e
  have notL : ∀ b, b ≠ L → b ∉ [L] := fun b hb hm => hb (List.mem_singleton.mp hm)
  have kept : ∀ p ∈ pre ++ (T, tabObj ps) :: post, p.1 ∉ ((T, tabObj ps) :: sub).map (·.1) → g'.get? p.1 = some p.2 := fun p hp hn => Tn.other _ _ (hideAll_get _ (N p hp).1 hn) (notL _ (N p hp).2.1)
  have insub : ∀ p ∈ pre ++ (T, tabObj ps) :: post, p.1 ≠ T → p.1 ∈ ((T, tabObj ps) :: sub).map (·.1) → p ∈ sub := fun p hp hT' hn => by
    obtain ⟨q, hq, e⟩ := List.mem_map.mp hn
    have h1 := (N p hp).1
    have h2 := (N q (hsub' q hq)).1
    rw [e] at h2
    have hpq : p = q := Prod.ext e.symm (Option.some.inj (h1.symm.trans h2))
    rcases List.mem_cons.mp hq with rfl | hq
    · exact absurd e.symm hT'
    · exact hpq ▸ hq
  have back : ∀ p ∈ pre ++ (T, tabObj ps) :: post, p.1 ≠ T → h'.get? p.1 = some p.2 ∧ p.1 ≠ L ∧ h₀.get? p.1 = none := fun p hp hT' => by
    by_cases hn : p.1 ∈ ((T, tabObj ps) :: sub).map (·.1)
    · exact NS p (List.mem_append_right _ (.tail _ (insub p hp hT' hn)))
    · exact ⟨F'.keep _ _ (kept p hp hn), (N p hp).2⟩
  have nL₀ : h₀.get? L = none := kts_self F
  refine ⟨v, tl, h', tk', ps', rfl, rfl, ?_, fun p hp => ?_, fun p hp q hq => ?_, hP⟩
  · obtain ⟨oL, es, ep, hL, hLd, hLk, hLf⟩ := F.ns
    obtain ⟨sl, hs⟩ := Tn.up (hideAll_get (((T, tabObj ps) :: sub).map (·.1)) hL nL)
    exact ⟨⟨{ oL with slots := sl }, es, ep, F'.keep L _ hs, hLd, hLk, hLf⟩, fun b o e => F'.keep b o (Tn.other _ _ (hideAll_get _ (F.keep b o e) (nm b o e)) (notL _ fun q => by rw [q, nL₀] at e; cases e)), F.above⟩
  · rcases List.mem_append.mp hp with hp | hp
    · exact NS p (List.mem_append_left _ hp)
    · rw [hu] at hp
      rcases List.mem_append.mp hp with hp | hp
      · exact back p (List.mem_append_left _ hp) (n1 p hp)
      · rcases List.mem_cons.mp hp with rfl | hp
        · exact NS _ (List.mem_append_right _ (.head _))
        · exact back p (List.mem_append_right _ (.tail _ hp)) (n2 p hp)
  · by_cases hq' : q.1 = T
    · exact fun e => hc p hp (e ▸ hq')
    · by_cases hn : q.1 ∈ ((T, tabObj ps) :: sub).map (·.1)
      · exact hb p hp q (insub q hq hq' hn)
      · intro e
        have h1 := ha p hp
        have h2 := hideAll_get (((T, tabObj ps) :: sub).map (·.1)) (N q hq).1 hn
        have e' : q.1 = p.1 := e
        rw [e', h1] at h2
        cases h2

theorem enterTS (T : Addr) (sub : List (Addr × Obj)) (B : Below A₀ base [] h₀) (F : Fr h₀ L s.heap m) (X₀ : K.In h₀) (N : News h₀ L s.heap news) (TT : Top p loose mean mg mb h₀) (C : CodeHd h₀ 162 T) (U : UpdF T (tabObj ps) news u) (hsub : ∀ p ∈ sub, p ∈ news) (hA : A.frames = some [env]) (hf : env.frame = some L) (hke : env.scope.kind = .function)
    (ho : K.lookup f = some ⟨oc, od, .func (fnOf name qual params body scope dV kV doc pm an cdv ct), osl⟩) (hcd : codeIn K cdv qual = true) (hroom : A.depth < recursionLimit)
    (hbind : BindsTo s (fnOf name qual params body scope dV kV doc pm an cdv ct) args binds) (hloc : ∀ y ∈ binds, scope.names.lookup y.1 = some .local)
    (h : ∀ g L' h₁, Fr h₀ L g m → Fr g L' h₁ (fun y => binds.reverse.lookup y) → News g L' h₁ ((T, tabObj ps) :: sub) → Below A base [env] g → K.In g → Top p loose mean mg mb g → CodeHd g 162 T → (∀ p ∈ (T, tabObj ps) :: sub, (p.1 : Nat) < L') → KtsDicts ([env].filterMap (·.frame)) g →
      wpAny (model prog w) (A.deeper (envOf qual scope L' f cdv)) (execs body (envOf qual scope L' f cdv))
        (fun fl s' => LeaveS0 ([env].filterMap (·.frame)) h₀ L m g (RetT h₀ L T g sub s P) (match fl with | .ret v => v | _ => .none) s')
        (fun e s' => False)
        { s with heap := h₁, toks := s.toks + binds.length })
    (hco : scope.isCoroutine = false) (hgen : scope.isGenerator = false) (hk : scope.kind = .function)
    (hcell : ∀ x ∈ scope.names, x.2 ≠ .cell) : codeAny (model prog w) A (.call (.ref f) args) (RetCT h₀ L T m news u s P) s := by
  have hfs : [env].filterMap (·.frame) = [L] := by simp [hf]
  have hsub' : ∀ p ∈ (T, tabObj ps) :: sub, p ∈ news := fun p hp => by
    rcases List.mem_cons.mp hp with rfl | hp
    · obtain ⟨pre, post, rfl, _⟩ := U.split; exact List.mem_append_right _ (.head _)
    · exact hsub p hp
  have NS : News h₀ L s.heap ((T, tabObj ps) :: sub) := fun p hp => N p (hsub' p hp)
  obtain ⟨FG, BG, st, _⟩ := groundX (R := RetT h₀ L T (hideAll s.heap (((T, tabObj ps) :: sub).map (·.1))) sub s P) B F NS hA hf hke
  have nL₀ : h₀.get? L = none := kts_self F
  refine codeAny_call_def (fd := fnOf name qual params body scope dV kV doc pm an cdv ct) (body := body) (binds := binds) hroom ((X₀.keeps F.keep) _ _ ho) rfl (TT.nolimit.keeps F.keep) (codeRec_of (X₀.keeps F.keep) hcd) rfl hbind hcell hloc (fun h₁ hns hk₁ => ?_) hco hgen hk
  refine wpAny_mono (h _ s.heap.objs.size h₁ FG ⟨hns, fun b o e => hk₁ b o (of_hideAll _ e), Nat.le_of_eq (hideAll_size _ _)⟩
    (fun p hp => ⟨hk₁ _ _ (NS p hp).1, Nat.ne_of_lt (Heap.lt_size (NS p hp).1), hideAll_none _ (List.mem_map_of_mem hp)⟩) BG (X₀.keeps st) (TT.keeps st) (C.keeps st) (fun p hp => Heap.lt_size (NS p hp).1) (fun b hb => ?_)) (fun fl s' hl => ?_) fun _ _ y => y.elim
  · rw [hfs] at hb
    cases List.mem_singleton.mp hb
    obtain ⟨oL, es, ep, hL, hLd, _⟩ := FG.ns
    exact ⟨oL, es, ep, hL, hLd⟩
  · obtain ⟨g', L', m', news', Tn, F', N', k⟩ := hl
    rw [hfs] at Tn
    have notL : ∀ b, b ≠ L → b ∉ [L] := fun b hb hm => hb (List.mem_singleton.mp hm)
    obtain ⟨oL, es, ep, hL, hLd, hLk, hLf⟩ := FG.ns
    obtain ⟨sl, hs⟩ := Tn.up hL
    have Fh : Fr h₀ L s'.heap m := ⟨⟨{ oL with slots := sl }, es, ep, F'.keep L _ hs, hLd, hLk, hLf⟩, fun b o e => F'.keep b o (Tn.other _ _ (st b o e) (notL _ fun q => by rw [q, nL₀] at e; cases e)), F.above⟩
    have Nh : News h₀ L s'.heap news' := fun p hp => by
      refine ⟨(N' p hp).1, fun q => ?_, ?_⟩
      · have := (N' p hp).2.2; rw [q, hs] at this; cases this
      · cases q : h₀.get? p.1 with
        | none => rfl
        | some o =>
          obtain ⟨sl', hs'⟩ := Tn.up (st _ _ q)
          have := (N' p hp).2.2
          rw [hs'] at this; cases this
    have hr := k Fh Nh
    exact retCT_ofS F N U hsub hr F' Tn
end

/-- the contract of a def that makes a def and catches what its callees raise: its caller is the lowest frame -/
abbrev DoesTS (w : World) (k : Nat) (f : Addr) (ps : Array Value) (sub : List (Addr × Obj)) (args : List Value) (P : List (Addr × Obj) → Array Value → Value → Prop) : Prop :=
  ∀ (loose : List Str) (mean : ExcName → Option Value) (mg mb : Str → Option Value) (dp un : Nat) (gd : Option (List Code)) (cn : Str) (cs : Scope) (a : Addr) (ccd : Value) (cl : List (Str × Addr)) (A₀ : Around) (base h₀ : Heap) (L : Addr) (m : Str → Option Value) (news : List (Addr × Obj)) (u : Obj → List (Addr × Obj)) (s : Shared) (Q E : Value → Shared → Prop),
    Below A₀ base [] h₀ → (heap9 w.params).In base → Top topProg loose mean mg mb base → Fr h₀ L s.heap m → (heap9 w.params).In h₀ → News h₀ L s.heap news → Top topProg loose mean mg mb h₀ → CodeHd h₀ 162 158 → UpdF 158 (tabObj ps) news u → cs.kind = .function → (∀ p ∈ sub, p ∈ news) → dp + k < recursionLimit → un + 8 * k < cLine →
    (∀ v tl h' tk' ps', P tl ps' v → Fr h₀ L h' m → News h₀ L h' (tl ++ u (tabObj ps')) → (∀ p ∈ tl, ∀ q ∈ news, (q.1 : Nat) ≠ p.1) → Q v { s with heap := h', toks := tk' }) →
    wpAny (model PySem.Challenge.rw_zd0006_01.row.prog w) (ktrTop dp un gd cn cs L a ccd cl []) (call (.ref f) args) Q E s
end
section
open PySem PySem.W PyProof.Rows PySem.Calls PySem.NumText
set_option Elab.async false
set_option maxRecDepth 100000
set_option linter.unusedVariables false
section
variable {prog : Program} {w : World} {A : Around} {E : Value → Shared → Prop} {s : Shared} {R : Result → Shared → Prop}
theorem wpC_delta {α : Type} {M : Model} {t t2 : Sem α} {Q : α → Shared → Prop} (h : wpAny M A t2 (fun _ _ => True) (fun _ _ => True) s → wpAny M A t (fun _ _ => True) (fun _ _ => True) s) (e : t = t2) (k : wpC M A t2 Q E s) : wpC M A t Q E s := e ▸ k
theorem wpC_pos {α : Type} {M : Model} {c : Prop} [Decidable c] {a b : Sem α} {Q : α → Shared → Prop} (hc : c) (h : wpC M A a Q E s) : wpC M A (if c then a else b) Q E s := by rw [if_pos hc]; exact h
theorem wpC_neg {α : Type} {M : Model} {c : Prop} [Decidable c] {a b : Sem α} {Q : α → Shared → Prop} (hc : ¬c) (h : wpC M A b Q E s) : wpC M A (if c then a else b) Q E s := by rw [if_neg hc]; exact h
theorem codeC_builtin {id : String} {args : Args} {b : Builtin} (hb : entryFor table id = some b)
    (h : wpC (model prog w) (A.under (.builtin id args)) (b args)
      (fun fin s' => match fin with | .done f => R (.ok f) s' | .again c' => c'.quiet = true ∧ codeC (model prog w) A c' R s') (fun e s' => R (.error e) s') s) :
    codeC (model prog w) A (.builtin id args) R s := by
  refine codeC_of_tree ?_
  show wpC _ _ (match entryFor table id with | some b => b args | none => unsupported ((withoutEnding? id "#data").getD id)) _ _ s
  rw [hb]; exact h
theorem codeC_call_builtin {id : String} {args : Args} {b : Builtin} (hq : plainId id = true) (hb : entryFor table id = some b) (hc : checkBuiltinCall id args = pure ())
    (h : wpC (model prog w) A.in1 (b args) (fun fin s' => match fin with | .done f => R (.ok f) s' | .again c' => c'.quiet = true ∧ codeC (model prog w) A c' R s') (fun e s' => R (.error e) s') s) :
    codeC (model prog w) A (.call (.builtin id) args) R s := by
  refine codeC_of_tree ?_
  show wpC _ _ (callAny (.builtin id) args) _ _ s
  simp only [callAny]
  refine wpC_then (wpAny_of_eq hc ?_)
  refine wpC_pure ⟨plainId_quiet hq args, codeC_builtin hb ?_⟩
  rw [Around.under_plainId hq args]
  exact h
theorem call_int_C {x : Str} {t : Tok} {Q : Value → Shared → Prop} (hi : wpC (model prog w) A.in1.in1 (Builtin.«int.__new__» ⟨[.type "int", .str x t], []⟩) (fun _ _ => False) E s) :
    wpC (model prog w) A (call (.type "int") [.str x t]) Q E s := by
  obtain ⟨c, tl, hmro⟩ := F.called_int.mro
  have hmade := F.called_int.made
  have hsub := F.called_int.sub
  refine wpC_call (codeC_of_tree ?_)
  show wpC _ _ (callAny (.type "int") _) _ _ _
  refine wpC_pure ⟨Code.quiet_builtin _ (by decide +kernel), codeC_builtin F.entry_type_call ?_⟩
  rw [Around.under_plain (weight_type_call_type "int" [.str x t] []) (units_type_call_type "int" [.str x t] [])]
  have h1 := F.called_int.notType
  have h2 := F.called_int.canCreate
  have hct := F.typeCall_int_1 (.str x t)
  have hcn := F.newCall_int_1 (.str x t)
  unfold Builtin.«type.__call__»
  dsimp only
  simp only [h1, h2, hct, hmro, hmade, pure_bind, List.isEmpty_cons, Bool.false_eq_true, if_false]
  refine wpC_bind (wpC_holding (wpC_call ?_))
  refine codeC_mono (codeC_call_builtin F.called_int.plain F.entry_int_new hcn (wpC_mono hi (fun _ _ h => h.elim) fun _ _ h => ?_)) (R := fun r s' => ∃ e, r = .error e ∧ E e s') fun r s' hr => ?_
  · exact ⟨_, rfl, h⟩
  · obtain ⟨e, rfl, he⟩ := hr
    exact he
theorem msg_fits (y : Str) : (Str.ofString (toString "invalid literal for int() with base " ++ toString 10 ++ toString ": ") ++ (⟨y.cps.extract 0 200⟩ : Str)).length ≤ sizeLine := by
  have h1 : (Str.ofString (toString "invalid literal for int() with base " ++ toString 10 ++ toString ": ")).cps.size ≤ 100 := by decide +kernel
  show (Array.append _ _).size ≤ sizeLine
  rw [show Array.append (Str.ofString (toString "invalid literal for int() with base " ++ toString 10 ++ toString ": ")).cps (y.cps.extract 0 200) = (Str.ofString (toString "invalid literal for int() with base " ++ toString 10 ++ toString ": ")).cps ++ y.cps.extract 0 200 from rfl, Array.size_append, Array.size_extract, sizeLine_eq]
  omega
theorem text_C {v : Value} {text : List Nat} {Q : Value → Shared → Prop} (hA : A.handled = none) (hs : (text.takeWhile (· != 0)).length ≤ 640)
    (hr : (int_private% "readNumeral") 0 10 (text.takeWhile (· != 0)) = int_private% "Numeral.invalid" ∨ ∃ i, (int_private% "readNumeral") 0 10 (text.takeWhile (· != 0)) = (int_private% "Numeral.value") i ∧ ¬ ((text.takeWhile (· != 0)).length == text.length) = true)
    (hv : (int_private% "bytesOf?") v = pure none) (h : ∀ h' tk e, Heap.NewExc s.heap h' e "ValueError" → E (.ref e) { s with heap := h', toks := tk })
    (hrep : ∀ (s : Shared) (Q : Str → Shared → Prop) (E : Value → Shared → Prop), (∀ y, Q y { s with toks := s.toks + 1 }) → wpAny (model prog w) A (pyRepr v) Q E s) : wpC (model prog w) A ((int_private% "intFromText") v text 10) Q E s := by
  refine' wpC_delta ?h ?e ?_
  case h => intro h; wp_delta; exact h
  case e => rfl
  refine wpC_pos hs ?_
  refine wpC_then (wpAny_pure ?_)
  dsimp only
  rcases hr with hr | ⟨i, hr, ha⟩
  · rw [hr]
    dsimp only
    refine wpC_then (wpAny_of_eq hv ?_)
    simp only [Option.isSome_none, Bool.false_and, Bool.false_eq_true, if_false]
    refine wpC_then (wpAny_rule ?_)
    refine wpC_then (wpAny_of_eq hv ?_)
    dsimp only
    refine wpC_then (hrep _ _ _ fun y => ?_)
    refine wpC_then (wpAny_mkStr ?_ (msg_fits y))
    refine wpC_then (wpAny_newExc_plain plainExc_ValueError (fun h9 e9 hm9 => ?_))
    refine wpC_bind (wpC_mark ?_)
    exact wpC_of (wpAny_raiseNew_none hA (h _ _ _ ⟨hm9.keeps, hm9.new, hm9.newExc.there⟩))
  · rw [hr]
    dsimp only
    rw [if_neg ha]
    refine wpC_then (wpAny_rule ?_)
    refine wpC_then (wpAny_of_eq hv ?_)
    dsimp only
    refine wpC_then (hrep _ _ _ fun y => ?_)
    refine wpC_then (wpAny_mkStr ?_ (msg_fits y))
    refine wpC_then (wpAny_newExc_plain plainExc_ValueError (fun h9 e9 hm9 => ?_))
    refine wpC_bind (wpC_mark ?_)
    exact wpC_of (wpAny_raiseNew_none hA (h _ _ _ ⟨hm9.keeps, hm9.new, hm9.newExc.there⟩))
set_option maxHeartbeats 4000000 in
theorem int_new_C {x : Str} {t : Tok} {Q : PySem.Fin → Shared → Prop} (hA : A.handled = none) (hl : x.length ≤ 100) (hn : PySem.intText? x = none)
    (h : ∀ h' tk e, Heap.NewExc s.heap h' e "ValueError" → E (.ref e) { s with heap := h', toks := tk })
    (hrep : ∀ (s : Shared) (Q : Str → Shared → Prop) (E : Value → Shared → Prop), (∀ y, Q y { s with toks := s.toks + 1 }) → wpAny (model prog w) A (pyRepr (.str x t)) Q E s) : wpC (model prog w) A (Builtin.«int.__new__» ⟨[.type "int", .str x t], []⟩) Q E s := by
  obtain ⟨hp, g, d, tk, os⟩ := s
  have f1 := F.conv_sub_int
  have f2 := F.madeHere_int
  have f3 := KIN.str_int
  have f4 := KIN.str_idx
  have f5 := KIN.str_trunc
  have f6 : typeOf (.str x t) = pure (.type "str") := rfl
  have hs : (numSeenOf x).length ≤ 640 := Nat.le_trans (Nat.le_trans (seen_length x) hl) (by decide)
  have hr : (int_private% "readNumeral") 0 10 (numSeenOf x) = int_private% "Numeral.invalid" ∨ ∃ i, (int_private% "readNumeral") 0 10 (numSeenOf x) = (int_private% "Numeral.value") i ∧ ¬ ((numSeenOf x).length == (numTextOf x).length) = true := by
    rcases read0 x hs with ⟨m, h1, _⟩ | ⟨_, h⟩
    · rw [hn] at h1; cases h1
    · exact h
  have hk := KIN.Hid.mk (And.intro hs hr)
  clear hs hr
  unfold Builtin.«int.__new__»
  dsimp only
  repeat (any_goals (first | assumption | (with_reducible refine wpC_bind (m := (int_private% "intFromObject") _) ?_) | (with_reducible refine text_C hA hk.out.1 hk.out.2 rfl h hrep) | (with_reducible refine wpC_then ?_) | ((with_reducible refine' wpC_neg ?hc9 ?_); (case hc9 => first | decide | (simp; done))) | ((with_reducible refine' wpC_pos ?hc9 ?_); (case hc9 => first | decide | (simp; done))) | (with_reducible refine wpC_pure ?_) | wp_step | ((with_reducible refine' wpC_delta ?h ?e ?_); (case h => intro h; wp_delta; exact h); (case e => rfl))))
/-- a text that tells no number is refused, and no mark is left -/
theorem int_refused_C {x : Str} {t : Tok} {Q : Value → Shared → Prop} (hA : A.handled = none) (hl : x.length ≤ 100) (hc : ∀ c ∈ x.cps.toList, c < 16 ^ 8) (hn : PySem.intText? x = none)
    (h : ∀ h' tk e, Heap.NewExc s.heap h' e "ValueError" → E (.ref e) { s with heap := h', toks := tk }) : wpC (model prog w) A (call (.type "int") [.str x t]) Q E s :=
  call_int_C (int_new_C hA hl hn h fun s Q E k => wpAny_pyRepr_str (k _) (by have := StrLaws.reprText_len x hc; rw [sizeLine_eq]; omega))
end
end
section
open PySem PySem.W PyProof.Rows PySem.Calls
set_option Elab.async false
set_option maxRecDepth 100000
set_option linter.unusedVariables false
section
variable {prog : Program} {w : World} {A A₀ : Around} {E : Value → Shared → Prop} {s : Shared} {base h₀ : Heap} {outer : List Env} {L : Addr} {m mg mb : Str → Option Value} {env : Env} {news : List (Addr × Obj)} {K : Frag}
  {p : Program} {loose : List Str} {mean : ExcName → Option Value}
  {R : Result → Shared → Prop} {name qual : Str} {params : Arguments} {body : List Stmt} {scope : Scope} {cl : List (Str × Addr)} {dV kV doc pm cdv ct oc : Value} {an od : Option Addr} {osl : Array (Option Value)} {f : Addr} {args : Args} {binds : List (Str × Value)}

/-- a frame of a call that never comes back but by what it raises -/
theorem frameC (B : Below A₀ base outer h₀) (F : Fr h₀ L s.heap m) (N : News h₀ L s.heap news) (hlim : h₀.NoLimit) (hA : A.frames = some (env :: outer)) (hf : env.frame = some L) (hke : env.scope.kind = .function)
    (hloc : ∀ y ∈ binds, scope.names.lookup y.1 = some .local) (hcell : ∀ x ∈ scope.names, x.2 ≠ .cell) (hk : scope.kind = .function)
    (h : ∀ g L' h₁, Fr h₀ L g m → Fr g L' h₁ (fun y => binds.reverse.lookup y) → News g L' h₁ news → Below A base (env :: outer) g → h₀.StaysIn g →
      wpC (model prog w) (A.deeper (envX qual scope L' f cdv cl)) (execs body (envX qual scope L' f cdv cl)) (fun _ _ => False)
        (fun e s' => wpAny (model prog w) (A.deeper (envX qual scope L' f cdv cl)) (leaving (envX qual scope L' f cdv cl) e) (fun _ s'' => R (.error e) s'') (fun e' s'' => R (.error e') s'') s')
        { s with heap := h₁, toks := s.toks + binds.length }) :
    wpAny (model prog w) A.in1 (newFunctionEnv scope mainGlobals cl binds (qual ++ ".<locals>.") (some f) cdv none builtinsNs) (fun env s₂ => s₂.heap.NoLimit ∧ codeC (model prog w) A (.func body env) R s₂) E s := by
  obtain ⟨FG, BG, st, _⟩ := groundX (R := R) B F N hA hf hke
  refine wpAny_newFunctionEnv hcell hloc (fun h₁ hns hsb => ⟨(hlim.keeps F.keep).fresh _ hsb, codeC_func ?_⟩) hk
  have hk₁ : ∀ b o, s.heap.get? b = some o → h₁.get? b = some o := fun b o e => hsb.extBut b o (Nat.ne_of_lt (Heap.lt_size e)) (Heap.get?_push_of_some _ e)
  exact wpC_mono (h _ s.heap.objs.size h₁ FG ⟨hns, fun b o e => hk₁ b o (of_hideAll _ e), Nat.le_of_eq (hideAll_size _ _)⟩
    (fun p hp => ⟨hk₁ _ _ (N p hp).1, Nat.ne_of_lt (Heap.lt_size (N p hp).1), hideAll_none _ (List.mem_map_of_mem hp)⟩) BG st) (fun fl s' hl => hl.elim) fun _ _ y => y

/-- a written def -/
theorem enterK_C (B : Below A₀ base outer h₀) (F : Fr h₀ L s.heap m) (X₀ : K.In h₀) (N : News h₀ L s.heap news) (T : Top p loose mean mg mb h₀) (hA : A.frames = some (env :: outer)) (hf : env.frame = some L) (hke : env.scope.kind = .function)
    (ho : K.lookup f = some ⟨oc, od, .func (fnOf name qual params body scope dV kV doc pm an cdv ct), osl⟩) (hcd : codeIn K cdv qual = true) (hroom : A.depth < recursionLimit)
    (hbind : BindsTo s (fnOf name qual params body scope dV kV doc pm an cdv ct) args binds) (hloc : ∀ y ∈ binds, scope.names.lookup y.1 = some .local)
    (h : ∀ g L' h₁, Fr h₀ L g m → Fr g L' h₁ (fun y => binds.reverse.lookup y) → News g L' h₁ news → Below A base (env :: outer) g → K.In g → Top p loose mean mg mb g →
      wpC (model prog w) (A.deeper (envOf qual scope L' f cdv)) (execs body (envOf qual scope L' f cdv)) (fun _ _ => False)
        (fun e s' => wpAny (model prog w) (A.deeper (envOf qual scope L' f cdv)) (leaving (envOf qual scope L' f cdv) e) (fun _ s'' => R (.error e) s'') (fun e' s'' => R (.error e') s'') s')
        { s with heap := h₁, toks := s.toks + binds.length })
    (hco : scope.isCoroutine = false) (hgen : scope.isGenerator = false) (hk : scope.kind = .function) (hcell : ∀ x ∈ scope.names, x.2 ≠ .cell) : codeC (model prog w) A (.call (.ref f) args) R s :=
  codeC_call_function (fd := fnOf name qual params body scope dV kV doc pm an cdv ct) (body := body) hroom ((X₀.keeps F.keep) _ _ ho) rfl hco hgen rfl (codeRec_of (X₀.keeps F.keep) hcd)
    (hbind _ _ _ _ (frameC (cl := []) B F N T.nolimit hA hf hke hloc hcell hk fun g L' h₁ FG F' N' B' st => h g L' h₁ FG F' N' B' (X₀.keeps st) (T.keeps st)))

/-- a def of the ledger -/
theorem enterNew_C {c' : Addr} {ctv : Value} (B : Below A₀ base outer h₀) (F : Fr h₀ L s.heap m) (X₀ : K.In h₀) (N : News h₀ L s.heap news) (T : Top p loose mean mg mb h₀) (hA : A.frames = some (env :: outer)) (hf : env.frame = some L) (hke : env.scope.kind = .function)
    (ho : (f, fnMade name qual params body scope cl doc pm c' ctv) ∈ news) (hcd : s.heap.CodeRec (.ref c') qual) (hroom : A.depth < recursionLimit)
    (hbind : BindsTo s (fnX name qual params body scope cl .none .none doc pm none (.ref c') ctv) args binds) (hloc : ∀ y ∈ binds, scope.names.lookup y.1 = some .local)
    (h : ∀ g L' h₁, Fr h₀ L g m → Fr g L' h₁ (fun y => binds.reverse.lookup y) → News g L' h₁ news → Below A base (env :: outer) g → K.In g → Top p loose mean mg mb g →
      wpC (model prog w) (A.deeper (envX qual scope L' f (.ref c') cl)) (execs body (envX qual scope L' f (.ref c') cl)) (fun _ _ => False)
        (fun e s' => wpAny (model prog w) (A.deeper (envX qual scope L' f (.ref c') cl)) (leaving (envX qual scope L' f (.ref c') cl) e) (fun _ s'' => R (.error e) s'') (fun e' s'' => R (.error e') s'') s')
        { s with heap := h₁, toks := s.toks + binds.length })
    (hco : scope.isCoroutine = false) (hgen : scope.isGenerator = false) (hk : scope.kind = .function) (hcell : ∀ x ∈ scope.names, x.2 ≠ .cell) : codeC (model prog w) A (.call (.ref f) args) R s :=
  codeC_call_function (fd := fnX name qual params body scope cl .none .none doc pm none (.ref c') ctv) (body := body) hroom (N _ ho).1 rfl hco hgen rfl hcd
    (hbind _ _ _ _ (frameC (cl := cl) B F N T.nolimit hA hf hke hloc hcell hk fun g L' h₁ FG F' N' B' st => h g L' h₁ FG F' N' B' (X₀.keeps st) (T.keeps st)))

/-- a written def with further words -/
theorem enterMore_C {nm : Str} {ex front : List (Str × Value)} {g₁ : Addr → Sem (List (Str × Value))} (B : Below A₀ base outer h₀) (F : Fr h₀ L s.heap m) (X₀ : K.In h₀) (N : News h₀ L s.heap news) (T : Top p loose mean mg mb h₀) (hA : A.frames = some (env :: outer)) (hf : env.frame = some L) (hke : env.scope.kind = .function)
    (ho : K.lookup f = some ⟨oc, od, .func (fnOf name qual params body scope dV kV doc pm an cdv ct), osl⟩) (hcd : codeIn K cdv qual = true) (hroom : A.depth < recursionLimit) (hn : kwDistinct ex = true)
    (hp : peekA K ⟨prog, w.params⟩ (bindArgs (fnOf name qual params body scope dV kV doc pm an cdv ct) args) = some (dictOf [] 0, g₁))
    (hk₁ : ∀ D, g₁ D = (forIn ex PUnit.unit (fun x _ => (nsSet D x.1 x.2 >>= fun _ => pure (ForInStep.yield PUnit.unit))) >>= fun _ => pure (front ++ [(nm, Value.ref D)])))
    (hloc : ∀ D, ∀ y ∈ front ++ [(nm, Value.ref D)], scope.names.lookup y.1 = some .local)
    (h : ∀ D o g L' h₁ tk, (∀ p ∈ news, p.1 < D) → (D == sysModules) = false → o.IsDictOf (strKind prog w) ex → Fr h₀ L g m → Fr g L' h₁ (fun y => (front ++ [(nm, Value.ref D)]).reverse.lookup y) → News g L' h₁ ((D, o) :: news) → Below A base (env :: outer) g → K.In g → Top p loose mean mg mb g →
      wpC (model prog w) (A.deeper (envOf qual scope L' f cdv)) (execs body (envOf qual scope L' f cdv)) (fun _ _ => False)
        (fun e s' => wpAny (model prog w) (A.deeper (envOf qual scope L' f cdv)) (leaving (envOf qual scope L' f cdv) e) (fun _ s'' => R (.error e) s'') (fun e' s'' => R (.error e') s'') s')
        { s with heap := h₁, toks := tk })
    (hco : scope.isCoroutine = false) (hgen : scope.isGenerator = false) (hk : scope.kind = .function) (hcell : ∀ x ∈ scope.names, x.2 ≠ .cell) : codeC (model prog w) A (.call (.ref f) args) R s := by
  have hn' := kwDistinct_nodup hn
  refine codeC_call_function (fd := fnOf name qual params body scope dV kV doc pm an cdv ct) (body := body) hroom ((X₀.keeps F.keep) _ _ ho) rfl hco hgen rfl (codeRec_of (X₀.keeps F.keep) hcd) ?_
  refine wp_of_peekA (o := dictOf [] 0) F N (X₀.keeps F.keep) rfl _ g₁ hp fun h' F' N' l => ?_
  rw [hk₁]
  refine wpAny_bind (kp_fill ex { s with heap := h' } [] 0 F' N' (fun p hp => Nat.ne_of_lt (l p hp)) (fun _ he => nomatch he) (fun _ he => nomatch he) hn' fun h'' F'' N'' => wpAny_pure ?_)
  exact frameC (cl := []) (s := { s with heap := h'', toks := s.toks + ex.length }) B F'' N'' T.nolimit hA hf hke (hloc _) hcell hk
    fun g L' h₁ FG FL NG BG st => h _ _ g L' h₁ _ l (F.notModules (modules_low T.nolimit)) (kp_isDict s.toks (0 + ex.length) hn') FG FL NG BG (X₀.keeps st) (T.keeps st)
end
section
variable {prog : Program} {w : World} {A₀ A : Around} {E : Value → Shared → Prop} {s : Shared} {base h₀ : Heap} {L T : Addr} {m mg mb : Str → Option Value} {news sub : List (Addr × Obj)} {K : Frag}
  {p : Program} {loose : List Str} {mean : ExcName → Option Value} {P : List (Addr × Obj) → Array Value → Value → Prop} {env : Env} {ps : Array Value} {u : Obj → List (Addr × Obj)}
  {name qual : Str} {params : Arguments} {body : List Stmt} {scope : Scope} {dV kV doc pm cdv ct oc : Value} {an od : Option Addr} {osl : Array (Option Value)} {f : Addr} {args : Args} {binds : List (Str × Value)}

theorem enterTS_C (T : Addr) (sub : List (Addr × Obj)) (B : Below A₀ base [] h₀) (F : Fr h₀ L s.heap m) (X₀ : K.In h₀) (N : News h₀ L s.heap news) (TT : Top p loose mean mg mb h₀) (C : CodeHd h₀ 162 T) (U : UpdF T (tabObj ps) news u) (hsub : ∀ p ∈ sub, p ∈ news) (hA : A.frames = some [env]) (hf : env.frame = some L) (hke : env.scope.kind = .function)
    (ho : K.lookup f = some ⟨oc, od, .func (fnOf name qual params body scope dV kV doc pm an cdv ct), osl⟩) (hcd : codeIn K cdv qual = true) (hroom : A.depth < recursionLimit)
    (hbind : BindsTo s (fnOf name qual params body scope dV kV doc pm an cdv ct) args binds) (hloc : ∀ y ∈ binds, scope.names.lookup y.1 = some .local)
    (h : ∀ g L' h₁, Fr h₀ L g m → Fr g L' h₁ (fun y => binds.reverse.lookup y) → News g L' h₁ ((T, tabObj ps) :: sub) → Below A base [env] g → K.In g → Top p loose mean mg mb g → CodeHd g 162 T → (∀ p ∈ (T, tabObj ps) :: sub, (p.1 : Nat) < L') → KtsDicts ([env].filterMap (·.frame)) g →
      wpC (model prog w) (A.deeper (envOf qual scope L' f cdv)) (execs body (envOf qual scope L' f cdv))
        (fun fl s' => LeaveS0 ([env].filterMap (·.frame)) h₀ L m g (RetT h₀ L T g sub s P) (match fl with | .ret v => v | _ => .none) s')
        (fun e s' => False)
        { s with heap := h₁, toks := s.toks + binds.length })
    (hco : scope.isCoroutine = false) (hgen : scope.isGenerator = false) (hk : scope.kind = .function)
    (hcell : ∀ x ∈ scope.names, x.2 ≠ .cell) : codeC (model prog w) A (.call (.ref f) args) (RetCT h₀ L T m news u s P) s := by
  have hfs : [env].filterMap (·.frame) = [L] := by simp [hf]
  have hsub' : ∀ p ∈ (T, tabObj ps) :: sub, p ∈ news := fun p hp => by
    rcases List.mem_cons.mp hp with rfl | hp
    · obtain ⟨pre, post, rfl, _⟩ := U.split; exact List.mem_append_right _ (.head _)
    · exact hsub p hp
  have NS : News h₀ L s.heap ((T, tabObj ps) :: sub) := fun p hp => N p (hsub' p hp)
  obtain ⟨FG, BG, st, _⟩ := groundX (R := RetT h₀ L T (hideAll s.heap (((T, tabObj ps) :: sub).map (·.1))) sub s P) B F NS hA hf hke
  have nL₀ : h₀.get? L = none := kts_self F
  refine codeC_call_def (fd := fnOf name qual params body scope dV kV doc pm an cdv ct) (body := body) (binds := binds) hroom ((X₀.keeps F.keep) _ _ ho) rfl (TT.nolimit.keeps F.keep) (codeRec_of (X₀.keeps F.keep) hcd) rfl hbind hcell hloc (fun h₁ hns hk₁ => ?_) hco hgen hk
  refine wpC_mono (h _ s.heap.objs.size h₁ FG ⟨hns, fun b o e => hk₁ b o (of_hideAll _ e), Nat.le_of_eq (hideAll_size _ _)⟩
    (fun p hp => ⟨hk₁ _ _ (NS p hp).1, Nat.ne_of_lt (Heap.lt_size (NS p hp).1), hideAll_none _ (List.mem_map_of_mem hp)⟩) BG (X₀.keeps st) (TT.keeps st) (C.keeps st) (fun p hp => Heap.lt_size (NS p hp).1) (fun b hb => ?_)) (fun fl s' hl => ?_) fun _ _ y => y.elim
  · rw [hfs] at hb
    cases List.mem_singleton.mp hb
    obtain ⟨oL, es, ep, hL, hLd, _⟩ := FG.ns
    exact ⟨oL, es, ep, hL, hLd⟩
  · obtain ⟨g', L', m', news', Tn, F', N', k⟩ := hl
    rw [hfs] at Tn
    have notL : ∀ b, b ≠ L → b ∉ [L] := fun b hb hm => hb (List.mem_singleton.mp hm)
    obtain ⟨oL, es, ep, hL, hLd, hLk, hLf⟩ := FG.ns
    obtain ⟨sl, hs⟩ := Tn.up hL
    have Fh : Fr h₀ L s'.heap m := ⟨⟨{ oL with slots := sl }, es, ep, F'.keep L _ hs, hLd, hLk, hLf⟩, fun b o e => F'.keep b o (Tn.other _ _ (st b o e) (notL _ fun q => by rw [q, nL₀] at e; cases e)), F.above⟩
    have Nh : News h₀ L s'.heap news' := fun p hp => by
      refine ⟨(N' p hp).1, fun q => ?_, ?_⟩
      · have := (N' p hp).2.2; rw [q, hs] at this; cases this
      · cases q : h₀.get? p.1 with
        | none => rfl
        | some o =>
          obtain ⟨sl', hs'⟩ := Tn.up (st _ _ q)
          have := (N' p hp).2.2
          rw [hs'] at this; cases this
    have hr := k Fh Nh
    exact retCT_ofS F N U hsub hr F' Tn
theorem call_retCT_C (h : codeC (model prog w) A (.call (.ref f) args) (RetCT h₀ L T m news u s P) s) {Q : Value → Shared → Prop} {pos : List Value} {kw : List (Str × Value)} (ha : args = ⟨pos, kw⟩)
    (hret : ∀ v tl h' tk' ps', P tl ps' v → Fr h₀ L h' m → News h₀ L h' (tl ++ u (tabObj ps')) → (∀ p ∈ tl, ∀ q ∈ news, (q.1 : Nat) ≠ p.1) → Q v { s with heap := h', toks := tk' }) : wpC (model prog w) A (call (.ref f) pos kw) Q E s := by
  subst ha
  refine wpC_call (codeC_mono h fun r s' hr => ?_)
  obtain ⟨v, tl, h', tk', ps', rfl, rfl, hF, hN, hsep, hP⟩ := hr
  exact hret v tl h' tk' ps' hP hF hN hsep
end
/-- the contract of a def that makes a def and catches what its callees raise: its caller is the lowest frame, under the claim's caller -/
abbrev DoesTC (w : World) (k : Nat) (f : Addr) (ps : Array Value) (sub : List (Addr × Obj)) (args : List Value) (P : List (Addr × Obj) → Array Value → Value → Prop) : Prop :=
  ∀ (loose : List Str) (mean : ExcName → Option Value) (mg mb : Str → Option Value) (dp un : Nat) (gd : Option (List Code)) (cn : Str) (cs : Scope) (a : Addr) (ccd : Value) (cl : List (Str × Addr)) (A₀ : Around) (base h₀ : Heap) (L : Addr) (m : Str → Option Value) (news : List (Addr × Obj)) (u : Obj → List (Addr × Obj)) (s : Shared) (Q E : Value → Shared → Prop),
    Below A₀ base [] h₀ → (heap9 w.params).In base → Top topProg loose mean mg mb base → Fr h₀ L s.heap m → (heap9 w.params).In h₀ → News h₀ L s.heap news → Top topProg loose mean mg mb h₀ → CodeHd h₀ 162 158 → UpdF 158 (tabObj ps) news u → cs.kind = .function → (∀ p ∈ sub, p ∈ news) → dp + k < recursionLimit → un + 8 * k < cLine →
    (∀ v tl h' tk' ps', P tl ps' v → Fr h₀ L h' m → News h₀ L h' (tl ++ u (tabObj ps')) → (∀ p ∈ tl, ∀ q ∈ news, (q.1 : Nat) ≠ p.1) → Q v { s with heap := h', toks := tk' }) →
    wpC (model PySem.Challenge.rw_zd0006_01.row.prog w) (ktrTop dp un gd cn cs L a ccd cl []) (call (.ref f) args) Q E s
end
section
open PySem PySem.W PyProof.Rows PySem.Calls
set_option Elab.async false
set_option maxRecDepth 100000
set_option linter.unusedVariables false
/-- what a def that makes a def hands back -/
def FinT (T line col : Nat) (qual : Str) (tb : List (Addr × Obj)) (ps : Array Value) (P : List (Addr × Obj) → Array Value → Value → Prop) (all : List (Addr × Obj)) (v : Value) : Prop :=
  ∃ (res : List (Addr × Obj)) (c' : Addr) (oc : Obj) (ps' : Array Value), (∀ p ∈ res, p ∈ all) ∧ (c', oc) ∈ all ∧ (T, tabObj ps') ∈ all ∧ (∀ q ∈ tb, q ∈ all) ∧ (∀ p ∈ res, (c' : Nat) < p.1 ∧ (T : Nat) < p.1 ∧ AllLt p.1 tb) ∧
    ((c', oc) ∈ tb ∨ ∀ q ∈ (T, tabObj ps) :: tb, (q.1 : Nat) ≠ c') ∧ ps' = #[rawInt line, rawInt col, .ref c'] ∧ CodeOb qual oc ∧ (∀ tl, (∀ p ∈ res, p ∈ tl) → TabOk line col qual ps' (tl ++ tb) → P tl ps' v)
theorem FinT.intro {T line col c' : Nat} {qual : Str} {oc : Obj} {tb all : List (Addr × Obj)} {ps ps' : Array Value} {P : List (Addr × Obj) → Array Value → Value → Prop} {v : Value} (res : List (Addr × Obj))
    (hr : ∀ p ∈ res, p ∈ all) (hc : (c', oc) ∈ all) (hT : (T, tabObj ps') ∈ all) (htb : ∀ q ∈ tb, q ∈ all) (hlt : ∀ p ∈ res, (c' : Nat) < p.1 ∧ (T : Nat) < p.1 ∧ AllLt p.1 tb)
    (q9 : (c', oc) ∈ tb ∨ ∀ q ∈ (T, tabObj ps) :: tb, (q.1 : Nat) ≠ c') (hps : ps' = #[rawInt line, rawInt col, .ref c']) (hco : CodeOb qual oc) (hP : ∀ tl, (∀ p ∈ res, p ∈ tl) → TabOk line col qual ps' (tl ++ tb) → P tl ps' v) : FinT T line col qual tb ps P all v :=
  ⟨res, c', oc, ps', hr, hc, hT, htb, hlt, q9, hps, hco, hP⟩
/-- what stands around the call -/
abbrev lowA (b : Bx) : Around := { handled := none, depth := b.dp, frames := some b.outer, guards := b.gd, units := b.un }
/-- as BodyW, of a def that makes a def and may catch -/
def BodyT (w : World) (f : Addr) (k : Nat) (qual : Str) (scope : Scope) (cdv : Value) (body : List Stmt) (m : Str → Option Value) (sub : List (Addr × Obj)) (ps : Array Value) (P : List (Addr × Obj) → Array Value → Value → Prop) (b : Bx) : Prop :=
  Fr b.g b.L b.h m → News b.g b.L b.h ((158, tabObj ps) :: sub) → Below (lowA b) b.base b.outer b.g → (heap9 w.params).In b.g → Top topProg b.loose b.mean b.mg b.mb b.g → CodeHd b.g 162 158 → (∀ p ∈ (158, tabObj ps) :: sub, (p.1 : Nat) < b.L) → KtsDicts (b.outer.filterMap (·.frame)) b.g →
    (heap9 w.params).In b.base → Top topProg b.loose b.mean b.mg b.mb b.base → b.dp + (k + 1) < recursionLimit → b.un + 8 * (k + 1) < cLine →
    (∀ v h' tk' g' m' all, KtsTurn (b.outer.filterMap (·.frame)) b.g g' → Fr g' b.L h' m' → News g' b.L h' all → FinT 158 91 4 rdr sub ps P all v → b.Q (.ret v) ⟨h', b.gn, b.dr, tk', b.os⟩) →
    wpC (model PySem.Challenge.rw_zd0006_01.row.prog w) ((lowA b).deeper (envOf qual scope b.L f cdv)) (execs body (envOf qual scope b.L f cdv)) b.Q (fun _ _ => False) ⟨b.h, b.gn, b.dr, b.tk, b.os⟩
def EnteredT (w : World) (k : Nat) (f : Addr) (sub : List (Addr × Obj)) (args : List Value) (ps : Array Value) (P : List (Addr × Obj) → Array Value → Value → Prop) (b : Bx) : Prop :=
  ∃ (name qual : Str) (params : Arguments) (body : List Stmt) (scope : Scope) (dV kV doc pm cdv ct oc : Value) (an od : Option Addr) (osl : Array (Option Value)) (binds : List (Str × Value)),
    (heap9 w.params).lookup f = some ⟨oc, od, .func (fnOf name qual params body scope dV kV doc pm an cdv ct), osl⟩ ∧ codeIn (heap9 w.params) cdv qual = true ∧
    bindArgs (fnOf name qual params body scope dV kV doc pm an cdv ct) ⟨args, []⟩ = pure binds ∧ (∀ y ∈ binds, scope.names.lookup y.1 = some .local) ∧
    scope.isCoroutine = false ∧ scope.isGenerator = false ∧ scope.kind = .function ∧ (∀ x ∈ scope.names, x.2 ≠ .cell) ∧
    BodyT w f k qual scope cdv body (fun y => binds.reverse.lookup y) sub ps P b
theorem EnteredT.intro {w k f sub args ps P b} {name qual : Str} {params : Arguments} {body : List Stmt} {scope : Scope} {dV kV doc pm cdv ct oc : Value} {an od : Option Addr} {osl : Array (Option Value)} {binds : List (Str × Value)}
    (ho : (heap9 w.params).lookup f = some ⟨oc, od, .func (fnOf name qual params body scope dV kV doc pm an cdv ct), osl⟩) (hcd : codeIn (heap9 w.params) cdv qual = true)
    (hb : bindArgs (fnOf name qual params body scope dV kV doc pm an cdv ct) ⟨args, []⟩ = pure binds) (hl : ∀ y ∈ binds, scope.names.lookup y.1 = some .local)
    (h1 : scope.isCoroutine = false) (h2 : scope.isGenerator = false) (h3 : scope.kind = .function) (h4 : ∀ x ∈ scope.names, x.2 ≠ .cell)
    (h : BodyT w f k qual scope cdv body (fun y => binds.reverse.lookup y) sub ps P b) : EnteredT w k f sub args ps P b :=
  ⟨name, qual, params, body, scope, dV, kV, doc, pm, cdv, ct, oc, an, od, osl, binds, ho, hcd, hb, hl, h1, h2, h3, h4, h⟩
theorem EnteredT.out {w k f sub args ps P b} (h : EnteredT w k f sub args ps P b) {name qual : Str} {params : Arguments} {body : List Stmt} {scope : Scope} {dV kV doc pm cdv ct oc : Value} {an od : Option Addr} {osl : Array (Option Value)} {binds : List (Str × Value)}
    (ho : (heap9 w.params).lookup f = some ⟨oc, od, .func (fnOf name qual params body scope dV kV doc pm an cdv ct), osl⟩) (hb : bindArgs (fnOf name qual params body scope dV kV doc pm an cdv ct) ⟨args, []⟩ = pure binds) : BodyT w f k qual scope cdv body (fun y => binds.reverse.lookup y) sub ps P b := by
  obtain ⟨name', qual', params', body', scope', dV', kV', doc', pm', cdv', ct', oc', an', od', osl', binds', ho', -, hb', h⟩ := h
  replace h := h.2.2.2.2.2
  have e : fnOf name qual params body scope dV kV doc pm an cdv ct = fnOf name' qual' params' body' scope' dV' kV' doc' pm' an' cdv' ct' := Data.func.inj (congrArg Obj.data (Option.some.inj (ho.symm.trans ho')))
  rw [e] at hb
  rw [pure_inj' (hb.symm.trans hb'), show qual = qual' from congrArg FuncData.qualname e, show body = body' from FuncBody.stmts.inj (congrArg FuncData.body e), show scope = scope' from congrArg FuncData.scope e, show cdv = cdv' from congrArg FuncData.code e]
  exact h
theorem does_ofT {w k f ps sub args P} (h : ∀ b : Bx, EnteredT w k f sub args ps P b) : DoesTC w (k + 1) f ps sub args P := by
  intro loose mean mg mb dp un gd cn cs a ccd cl A₀ base h₀ L m news u s Q E B XB TB F X N T C U hk hsub hdp hu hret
  refine call_retCT_C (T := 158) (P := P) (args := ⟨args, []⟩) ?_ rfl hret
  obtain ⟨name, qual, params, body, scope, dV, kV, doc, pm, cdv, ct, oc, an, od, osl, binds, ho, hcd, hb, hl, h1, h2, h3, h4, _⟩ := h ⟨loose, mean, mg, mb, dp, un, gd, A₀, base, [], h₀, L, h₀, s.gens, s.drawn, 0, s.os, fun _ => default, fun _ _ => True⟩
  refine enterTS_C (A := ktrTop dp un gd cn cs L a ccd cl []) (K := heap9 w.params) 158 sub B F X N T C U hsub rfl rfl hk ho hcd (by show dp < recursionLimit; omega) (BindsTo.of_eq hb) hl (fun g L' h₁ FG F' N' B' X' T' C' l1 D' => ?_) h1 h2 h3 h4
  refine EnteredT.out (h ⟨loose, mean, mg, mb, dp, un, gd, ktrTop dp un gd cn cs L a ccd cl [], base, [envX cn cs L a ccd cl], g, L', h₁, s.gens, s.drawn, s.toks + binds.length, s.os, fun _ => default, fun fl s' => LeaveS0 ([envX cn cs L a ccd cl].filterMap (·.frame)) h₀ L m g (RetT h₀ L 158 g sub s P) (match fl with | .ret v => v | _ => .none) s'⟩) ho hb F' N' B' X' T' C' l1 D' XB TB hdp hu fun v h' tk' g' m' all Tn F'' N'' Z => ?_
  refine ⟨g', L', m', all, Tn, F'', N'', fun _ N₀ => ?_⟩
  obtain ⟨res, c', oc', ps', hr, hc, hT, ht, hlt, q9, hps, hco, hP⟩ := Z
  exact RetT.fin res (news_back Tn N'') N₀ hr hc hT ht hlt q9 hps hco hP
end
section
open PySem PySem.W PyProof.Rows PySem.Calls
set_option Elab.async false
set_option maxRecDepth 100000
set_option linter.unusedVariables false
set_option linter.unusedSimpArgs false
section
variable {prog : Program} {w : World} {A : Around} {E : Value → Shared → Prop} {s : Shared}

theorem one_entry {o : Obj} {n : Str} {val : Value} (h : o.IsDictOf (strKind prog w) [(n, val)]) : ∃ e ep t, o.ExactDict ∧ o.data = .dict #[e] ep ∧ e.key = .str n t ∧ e.val = val ∧ e.hash = (strKind prog w).hash n ∧ (strKind prog w).is n e.key = true := by
  obtain ⟨es, ep, hx, hd, hk, hp, _⟩ := h
  obtain ⟨l⟩ := es
  cases hp with
  | cons h1 h2 h3 =>
    cases h3
    obtain ⟨t, ht⟩ := Value.isStrOf_shape h1
    refine ⟨_, ep, t, hx, hd, ht, h2, ?_, h1⟩
    obtain ⟨k', h4, h5⟩ := hk _ (by simp; rfl)
    rw [h5, (strKind prog w).inj _ _ _ h4 h1]

theorem forIn_one {α β : Type} {a : α} {b : β} {f : α → β → Sem (ForInStep β)} {Q : β → Shared → Prop} {M : Model} (h : wpAny M A (f a b) (fun r s' => match r with | .yield c => Q c s' | .done c => Q c s') E s) : wpAny M A (forIn [a] b f) Q E s := by
  rw [List.forIn_cons]
  refine wpAny_bind (wpAny_mono h (fun r s' hr => ?_) fun _ _ x => x)
  cases r with
  | yield c => simp only [List.forIn_nil]; exact wpAny_pure hr
  | done c => exact wpAny_pure hr
theorem forIn_oneA {α β : Type} {a : α} {b : β} {f : α → β → Sem (ForInStep β)} {Q : β → Shared → Prop} {M : Model} (h : wpAny M A (f a b) (fun r s' => match r with | .yield c => Q c s' | .done c => Q c s') E s) : wpAny M A (forIn #[a] b f) Q E s := by
  rw [← Array.forIn_toList]
  exact forIn_one h

theorem merge_one {d a : Addr} {od o : Obj} {n : Str} {val : Value} {ep0 : Nat} {Q : Unit → Shared → Prop} (hd : s.heap.get? d = some od) (hdd : od.data = .dict #[] ep0) (ha : s.heap.get? a = some o) (hne : a ≠ d) (hs : (a == sysModules) = false) (ho : o.IsDictOf (strKind prog w) [(n, val)])
    (h : ∀ e t, e.key = .str n t → e.val = val → Q () { s with heap := s.heap.update d (Obj.mapDictKeys (·.push e)) }) : wpAny (model prog w) A (mergeMapping d (.ref a) true) Q E s := by
  obtain ⟨e, ep, t, hx, hes, hk, hv, hks, hkey⟩ := one_entry ho
  have hT : s.TypeIs (.ref a) "dict" := ⟨o, ha, hx.1⟩
  unfold mergeMapping
  with_reducible refine wpAny_bind ?_
  refine wpAny_isInstance (U := "dict") (b := true) hT isSubtype_dict_dict ?_
  simp only [if_true]
  with_reducible refine wpAny_bind ?_
  refine wpAny_specialOf hT PySem.F.slot_dict_iter.lookup ?_
  with_reducible refine wpAny_bind ?_
  with_reducible refine wpAny_pure ?_
  rw [show ((some (Value.builtin "dict.__iter__") == some (Value.builtin "dict.__iter__")) = true) from by simp]
  dsimp only
  rw [hs]
  simp only [Bool.false_eq_true, if_false]
  with_reducible refine wpAny_bind (wpAny_dictEntries hd hdd ?_)
  simp only [Array.isEmpty_iff, List.size_toArray, List.length_nil, if_true, Array.isEmpty, decide_true]
  with_reducible refine wpAny_bind (wpAny_dictEntries ha hes ?_)
  with_reducible refine wpAny_bind ?_
  refine forIn_oneA ?_
  rw [hk]
  dsimp only
  refine wpAny_pure ?_
  dsimp only
  with_reducible refine wpAny_bind (wpAny_dictEntries ha hes ?_)
  with_reducible refine wpAny_bind (wpAny_dictEpoch ha hes ?_)
  with_reducible refine wpAny_bind ?_
  rw [show List.range #[e].size = [0] from rfl]
  refine forIn_one ?_
  with_reducible refine wpAny_bind (wpAny_dictEntries ha hes ?_)
  rw [show #[e][0]? = some e from rfl]
  dsimp only
  with_reducible refine wpAny_bind ?_
  with_reducible refine wpAny_holding ?_
  with_reducible refine wpAny_bind ?_
  have nokeys : KeysOf (strKind prog w) #[] := fun _ h => by simp at h
  rw [hks]
  refine wpAny_dictFind_of hkey hd hdd nokeys ?_
  simp
  unfold dictPut
  with_reducible refine wpAny_bind ?_
  refine wpAny_dictFind_of hkey hd hdd nokeys ?_
  simp only [Array.findIdx?_empty]
  refine wpAny_updateDictKeys hd hdd ?_ (by size_fits) (by simp)
  have ha' : (s.heap.update d (Obj.mapDictKeys (·.push ⟨(strKind prog w).hash n, e.key, e.val⟩))).get? a = some o := (Heap.get?_update_ne _ _ _ _ hne).trans ha
  with_reducible refine wpAny_bind (wpAny_dictEpoch ha' hes ?_)
  simp only [bne_self_eq_false, Bool.false_eq_true, if_false]
  refine wpAny_pure ?_
  dsimp only
  refine wpAny_pure ?_
  exact h _ t hk hv

theorem keywords_one {M : Model} {f : Value} {d : Addr} {od : Obj} {e : DictEntry} {ep : Nat} {n : Str} {t : Tok} {val : Value} {Q : List (Str × Value) → Shared → Prop} (hd : s.heap.get? d = some od) (hdd : od.data = .dict #[e] ep) (hk : e.key = .str n t) (hv : e.val = val) (h : Q [(n, val)] s) :
    wpAny M A (keywordsIn f d) Q E s := by
  unfold keywordsIn
  with_reducible refine wpAny_bind (wpAny_dictEntries hd hdd ?_)
  with_reducible refine wpAny_bind ?_
  refine forIn_oneA ?_
  rw [hk]
  dsimp only
  refine wpAny_pure ?_
  dsimp only
  refine wpAny_pure ?_
  rw [hv]
  exact h

theorem fnAt_up {h₀ h : Heap} {L q : Addr} {oc : Value} {od : Option Addr} {fd : FuncData} {sl : Array (Option Value)} {news : List (Addr × Obj)} (N : News h₀ L h news) (hm : (q, (⟨oc, od, .func fd, sl⟩ : Obj)) ∈ news) :
    ∀ h', (∀ b o, h.get? b = some o → h'.get? b = some o) → FnAt q h' := fun h' k => ⟨oc, od, fd, sl, k _ _ (N _ hm).1⟩

section
variable {h₀ : Heap} {L d q : Addr} {m : Str → Option Value} {news : List (Addr × Obj)} {env : Env} {o : Obj} {n : Str} {v val : Value} {Q : Value → Shared → Prop} {x y : Str} {px py kp pos : Pos}
theorem callWith_KS (F : Fr h₀ L s.heap m) (N : News h₀ L s.heap news) (hf : ∀ h, (∀ b o, s.heap.get? b = some o → h.get? b = some o) → FnAt q h) (hd : (d, o) ∈ news) (ho : o.IsDictOf (strKind prog w) [(n, val)]) (hs : (d == sysModules) = false)
    (hx : ∀ (s' : Shared) (P : Value → Shared → Prop) (E' : Value → Shared → Prop), Fr h₀ L s'.heap m → P v s' → wpAny (model prog w) A (eval (.Name x px) env) P E' s')
    (hy : ∀ (s' : Shared) (P : Value → Shared → Prop) (E' : Value → Shared → Prop), Fr h₀ L s'.heap m → P (.ref d) s' → wpAny (model prog w) A (eval (.Name y py) env) P E' s')
    (h : ∀ h', Fr h₀ L h' m → News h₀ L h' news → wpAny (model prog w) A (call (.ref q) [v] [(n, val)]) Q E { s with heap := h' }) :
    wpAny (model prog w) A (callWith pos (.ref q) [] (backTo pos (starEach [.Name x px] env)) (backToKw pos (keywordEach [⟨none, .Name y py, kp⟩] env))) Q E s := by
  have dlt : d < s.heap.objs.size := Heap.lt_size (N _ hd).1
  have hne : d ≠ s.heap.objs.size := Nat.ne_of_lt dlt
  unfold callWith
  with_reducible refine wpAny_bind ?_
  with_reducible refine wpAny_holding ?_
  unfold evalArgs
  show wpAny _ A (spliced [(false, eval (.Name x px) env)] >>= _) _ _ s
  with_reducible refine wpAny_bind ?_
  unfold spliced
  with_reducible refine wpAny_bind ?_
  refine hx _ _ _ F ?_
  simp only [Bool.false_eq_true, if_false]
  with_reducible refine wpAny_bind (wpAny_pure ?_)
  with_reducible refine wpAny_bind (wpAny_holding ?_)
  unfold spliced
  with_reducible refine wpAny_pure ?_
  with_reducible refine wpAny_pure ?_
  with_reducible refine wpAny_bind (wpAny_pure ?_)
  dsimp only
  with_reducible refine wpAny_holding ?_
  show wpAny _ A (mergedKeywords (.ref q) (backToKw pos (keywordEach [⟨none, .Name y py, kp⟩] env)) >>= _) _ _ s
  with_reducible refine wpAny_bind ?_
  rw [show backToKw pos (keywordEach [⟨none, .Name y py, kp⟩] env) = [(none, (do let v ← eval (.Name y py) env; standAt pos; pure v))] from rfl]
  unfold mergedKeywords
  with_reducible refine wpAny_bind ?_
  refine wpAny_alloc ?_
  have F₁ : Fr h₀ L (s.heap.push { cls := .type "dict", data := .dict #[] }) m := F.push _
  have N₁ := N.push F { cls := .type "dict", data := .dict #[] } rfl
  have hD := (N₁ _ (List.Mem.head _)).1
  with_reducible refine wpAny_bind ?_
  with_reducible refine wpAny_holding ?_
  dsimp only
  with_reducible refine wpAny_bind ?_
  refine forIn_one ?_
  dsimp only
  with_reducible refine wpAny_bind ?_
  rw [if_pos (by rfl)]
  with_reducible refine wpAny_pure ?_
  with_reducible refine wpAny_bind ?_
  with_reducible refine wpAny_bind ?_
  refine hy _ _ _ F₁ ?_
  with_reducible refine wpAny_bind ?_
  refine wpAny_standAt ?_
  with_reducible refine wpAny_pure ?_
  with_reducible refine wpAny_bind ?_
  refine wpAny_onRaise ?_
  with_reducible refine wpAny_holding ?_
  refine wpAny_tryCatch ?_
  refine wpAny_onRaise ?_
  refine merge_one (ep0 := 0) hD rfl (N₁ _ (List.mem_cons_of_mem _ hd)).1 hne hs ho fun e t hk hv => ?_
  with_reducible refine wpAny_pure ?_
  dsimp only
  rw [if_pos (by rfl)]
  with_reducible refine wpAny_pure ?_
  with_reducible refine wpAny_pure ?_
  with_reducible refine wpAny_bind (wpAny_pure ?_)
  with_reducible refine wpAny_bind ?_
  with_reducible refine wpAny_holding ?_
  have hmap : Obj.mapDictKeys (·.push e) ({ cls := .type "dict", data := .dict #[] } : Obj) = { cls := .type "dict", data := .dict #[e] 1 } := rfl
  have hD₂ : (({ s with heap := s.heap.push { cls := .type "dict", data := .dict #[] } } : Shared).heap.update s.heap.objs.size (Obj.mapDictKeys (·.push e))).get? s.heap.objs.size = some { cls := .type "dict", data := .dict #[e] 1 } :=
    hmap ▸ Heap.get?_update_self _ hD rfl
  refine keywords_one hD₂ rfl hk hv ?_
  with_reducible refine wpAny_pure ?_
  with_reducible refine wpAny_bind ?_
  refine wpAny_standAt ?_
  have keep : ∀ b ob, s.heap.get? b = some ob → (({ s with heap := s.heap.push { cls := .type "dict", data := .dict #[] } } : Shared).heap.update s.heap.objs.size (Obj.mapDictKeys (·.push e))).get? b = some ob := fun b ob eb =>
    (Heap.get?_update_ne _ _ _ _ (Nat.ne_of_lt (Heap.lt_size eb))).trans (Heap.get?_push_of_some _ eb)
  obtain ⟨k, hk', Lk⟩ := keeps_F (M := model prog w) _ (hf _ keep)
  have fin := h _ (F.keeps keep) fun p hp => ⟨keep _ _ (N p hp).1, (N p hp).2⟩
  refine wpAny_bind (Lk.here ?_)
  have tail : ∀ {t : Sem Value} {s₁ : Shared}, wpAny (model prog w) A t Q E s₁ → wpAny (model prog w) A (t >>= fun r => holding [r] point >>= fun _ => pure r) Q E s₁ :=
    fun ht => wpAny_bind (wpAny_mono ht (fun r s₂ hr => wpAny_bind (wpAny_holding (wpAny_point (wpAny_pure hr)))) fun _ _ x => x)
  rcases hk' with rfl | rfl | rfl <;> dsimp only
  · refine tail ?_
    unfold callMarked
    exact Calls.wpAny_keep fin
  · exact tail (wpAny_operating fin)
  · exact tail (wpAny_operating fin)
end
end
end
section
open PySem PySem.W PyProof.Rows PySem.Calls PySem.Builtin PySem.Builtin.Str
set_option Elab.async false
set_option maxRecDepth 100000
set_option linter.unusedVariables false
section
variable {prog : Program} {w : World} {A : Around} {E : Value → Shared → Prop} {s : Shared} {value slice : Expr} {x y z : PySem.Str} {t u : Tok} {h₀ : Heap} {L : Addr} {m : PySem.Str → Option Value} {news : List (Addr × Obj)} {Q : Value → Shared → Prop} {i j k : Int} {ui uj : Tok}

theorem small100 {n : Nat} (h : n ≤ 100) : n ≤ sizeLine := by rw [sizeLine_eq]; omega
theorem small102 {n : Nat} (h : n ≤ 100) : n + 2 ≤ sizeLine := by rw [sizeLine_eq]; omega

theorem tx_ns (hF : Fr h₀ L s.heap m) (hN : News h₀ L s.heap news) (e : Txt.slice x none (some j) = y) (hl : x.length ≤ 100) (h : ∀ h' t' k, Fr h₀ L h' m → News h₀ L h' news → Q (.str y t') { s with heap := h', toks := k })
    (hs : subscripted slice false (.str x t) (.ref s.heap.objs.size) = operate [.ref s.heap.objs.size, .str x t] (getItem (.str x t) (.ref s.heap.objs.size)) := by with_unfolding_all rfl)
    (ht : ∀ r, letTemporaryGo value (.str x t) r = pure () := by intro _; with_unfolding_all rfl) :
    wpAny (model prog w) A (subscriptTail value slice (.str x t) (.ref s.heap.objs.size)) Q E { s with heap := s.heap.push { cls := .type "slice", data := .fields #[.none, .int j uj, .none] } } :=
  slice_strN_ns hF hN (fun h' t' k a b => by rw [e]; exact h h' t' k a b) hs ht (small100 hl)
theorem tx_sn (hF : Fr h₀ L s.heap m) (hN : News h₀ L s.heap news) (e : Txt.slice x (some i) none = y) (hl : x.length ≤ 100) (h : ∀ h' t' k, Fr h₀ L h' m → News h₀ L h' news → Q (.str y t') { s with heap := h', toks := k })
    (hs : subscripted slice false (.str x t) (.ref s.heap.objs.size) = operate [.ref s.heap.objs.size, .str x t] (getItem (.str x t) (.ref s.heap.objs.size)) := by with_unfolding_all rfl)
    (ht : ∀ r, letTemporaryGo value (.str x t) r = pure () := by intro _; with_unfolding_all rfl) :
    wpAny (model prog w) A (subscriptTail value slice (.str x t) (.ref s.heap.objs.size)) Q E { s with heap := s.heap.push { cls := .type "slice", data := .fields #[.int i ui, .none, .none] } } :=
  slice_strN_sn hF hN (fun h' t' k a b => by rw [e]; exact h h' t' k a b) hs ht (small100 hl)
theorem tx_ss (hF : Fr h₀ L s.heap m) (hN : News h₀ L s.heap news) (e : Txt.slice x (some i) (some j) = y) (hl : x.length ≤ 100) (h : ∀ h' t' k, Fr h₀ L h' m → News h₀ L h' news → Q (.str y t') { s with heap := h', toks := k })
    (hs : subscripted slice false (.str x t) (.ref s.heap.objs.size) = operate [.ref s.heap.objs.size, .str x t] (getItem (.str x t) (.ref s.heap.objs.size)) := by with_unfolding_all rfl)
    (ht : ∀ r, letTemporaryGo value (.str x t) r = pure () := by intro _; with_unfolding_all rfl) :
    wpAny (model prog w) A (subscriptTail value slice (.str x t) (.ref s.heap.objs.size)) Q E { s with heap := s.heap.push { cls := .type "slice", data := .fields #[.int i ui, .int j uj, .none] } } :=
  slice_strN_ss hF hN (fun h' t' k a b => by rw [e]; exact h h' t' k a b) hs ht (small100 hl)
theorem tx_find (e : Txt.find x z = i) (h : ∀ t' k, Q (.int i t') { s with toks := k }) : wpAny (model prog w) A (call (.builtin "str.find") [.str x t, .str z u]) Q E s := SC.find (by rw [e]; exact h _ _)
theorem tx_find3 (e : Txt.find3 x z j = i) (h : ∀ t' k, Q (.int i t') { s with toks := k }) : wpAny (model prog w) A (call (.builtin "str.find") [.str x t, .str z u, .int j uj]) Q E s := SC.find3 (by rw [e]; exact h _ _)
theorem tx_item (e : Txt.item x i = y) (hl : x.length ≤ 100) (h0 : 0 ≤ i) (h1 : i < (x.length : Int)) (h : ∀ t' k, Q (.str y t') { s with toks := k })
    (hs : subscripted slice false (.str x t) (.int i u) = operate [.str x t, .int i u] (getItem (.str x t) (.int i u)) := by with_unfolding_all rfl)
    (ht : ∀ r, letTemporaryGo value (.str x t) r = pure () := by intro _; with_unfolding_all rfl) :
    wpAny (model prog w) A (subscriptTail value slice (.str x t) (.int i u)) Q E s :=
  KXi.item (n := x.length) rfl (by omega) h1 (by omega) (fun _ => by rw [e]; exact h _ _) hs ht
theorem tx_split5 {a b c d f : PySem.Str} (hF : Fr h₀ L s.heap m) (hN : News h₀ L s.heap news) (hy : (y.length == 0) = false) (e : Txt.split x y = [a, b, c, d, f]) (hl : x.length ≤ 100)
    (h : ∀ D ta tb tc td tf h' k, Fr h₀ L h' m → News h₀ L h' ((D, listOf #[.str a ta, .str b tb, .str c tc, .str d td, .str f tf] 0) :: news) → (∀ p ∈ news, p.1 < D) → Q (.ref D) { s with heap := h', toks := k }) :
    wpAny (model prog w) A (call (.builtin "str.split") [.str x t, .str y u]) Q E s := by
  refine KSpl.split1 hF hN hy (fun D l h' k el _ F N lt => ?_) (small102 hl)
  rw [e] at el
  obtain ⟨ta, l1, rfl, e1⟩ := KSpl.cons_of el
  obtain ⟨tb, l2, rfl, e2⟩ := KSpl.cons_of e1
  obtain ⟨tc, l3, rfl, e3⟩ := KSpl.cons_of e2
  obtain ⟨td, l4, rfl, e4⟩ := KSpl.cons_of e3
  obtain ⟨tf, l5, rfl, e5⟩ := KSpl.cons_of e4
  cases KSpl.nil_of e5
  exact h D ta tb tc td tf h' k F N lt
theorem tx_split4 {a b c d : PySem.Str} (hF : Fr h₀ L s.heap m) (hN : News h₀ L s.heap news) (hy : (y.length == 0) = false) (e : Txt.split x y = [a, b, c, d]) (hl : x.length ≤ 100)
    (h : ∀ D ta tb tc td h' k, Fr h₀ L h' m → News h₀ L h' ((D, listOf #[.str a ta, .str b tb, .str c tc, .str d td] 0) :: news) → (∀ p ∈ news, p.1 < D) → Q (.ref D) { s with heap := h', toks := k }) :
    wpAny (model prog w) A (call (.builtin "str.split") [.str x t, .str y u]) Q E s := by
  refine KSpl.split1 hF hN hy (fun D l h' k el _ F N lt => ?_) (small102 hl)
  rw [e] at el
  obtain ⟨ta, l1, rfl, e1⟩ := KSpl.cons_of el
  obtain ⟨tb, l2, rfl, e2⟩ := KSpl.cons_of e1
  obtain ⟨tc, l3, rfl, e3⟩ := KSpl.cons_of e2
  obtain ⟨td, l4, rfl, e4⟩ := KSpl.cons_of e3
  cases KSpl.nil_of e4
  exact h D ta tb tc td h' k F N lt
theorem tx_int {n : Int} (hn : PySem.intText? x = some n) (hl : x.length ≤ 100) (h : ∀ t' k, Q (.int n t') { s with toks := k }) : wpAny (model prog w) A (call (.type "int") [.str x t]) Q E s :=
  KIN.call_text hn (Nat.le_trans hl (by decide)) (h _ _)
theorem tx_ne_same (h : Q (.bool false) s) : wpAny (model prog w) A (compareOp .NotEq (.str x t) (.str x u)) Q E s := ne_str (by rw [bne_self_eq_false]; exact h)
theorem tx_ne_diff (e : x ≠ y) (h : Q (.bool true) s) : wpAny (model prog w) A (compareOp .NotEq (.str x t) (.str y u)) Q E s := ne_str (by rw [show (x != y) = true from by simpa using e]; exact h)
end
end
section
open PySem PySem.W PyProof.Rows PySem.Calls PySem.Builtin PySem.Builtin.Str PySem.Builtin.BaseException PySem.Builtin.Exceptions
set_option Elab.async false
set_option maxRecDepth 100000
set_option linter.unusedVariables false
section
variable {prog : Program} {w : World} {A : Around} {E : Value → Shared → Prop} {s : Shared} {K : Frag} {e t C : Addr} {m : Str} {tk : Tok}

/-- an object of a class of the text, with its args -/
def OwnExc (h : Heap) (e : Addr) (C t : Addr) : Prop := ∃ o vs, h.get? e = some o ∧ o.cls = .ref C ∧ o.data = .fields vs ∧ vs[0]? = some (.ref t)

theorem es_args {M : Model} {items : List Value} {Q : Value × List Value → Shared → Prop} (x : OwnExc s.heap e C t) (ht : s.heap.TupAt t items) (hq : Q (.ref t, items) s) : wpAny M A (bexcArgs (.ref e)) Q E s := by
  obtain ⟨o, vs, ho, _, hd, h0⟩ := x
  obtain ⟨ot, k, hto, _, htd⟩ := ht
  unfold bexcArgs
  refine wpAny_bind (wpAny_field ho hd h0 (wpAny_bind (wpAny_seqItems hto htd ?_)))
  have : items.toArray.toList = items := by simp
  show wpAny M A (pure (Value.ref t, items.toArray.toList)) Q E s
  rw [this]; exact wpAny_pure hq

theorem es_entry {Q : Fin → Shared → Prop} (x : OwnExc s.heap e C t) (ht : s.heap.TupAt t [.str m tk]) (hq : Q (.done (.ret (.str m tk))) s) : wpAny (model prog w) A (Builtin.«BaseException.__str__» ⟨[.ref e], []⟩) Q E s := by
  unfold Builtin.«BaseException.__str__»
  repeat (first | with_reducible refine es_args x ht ?_ | wp_step)
  exact hq

theorem es_kind : builtinKind "BaseException.__str__" = some .slot := by decide +kernel
theorem es_split : splitId "BaseException.__str__" = some ("BaseException", "__str__") := by decide +kernel

theorem es_sub {Q : Bool → Shared → Prop} (X : K.In s.heap) (hm : mroIn K C (.type "BaseException") = some true) (x : OwnExc s.heap e C t) (hq : Q true s) : wpAny (model prog w) A (isInstance (.ref e) (.type "BaseException")) Q E s := by
  obtain ⟨o, vs, ho, hc, _⟩ := x
  unfold isInstance
  refine wpAny_bind ?_
  simp only [typeOf]
  refine wpAny_bind (wpAny_load ho (wpAny_pure ?_))
  rw [hc]
  exact (looks_mroIn (M := model prog w) X hm).here hq

theorem es_call {Q : Value → Shared → Prop} (X : K.In s.heap) (hm : mroIn K C (.type "BaseException") = some true) (x : OwnExc s.heap e C t) (ht : s.heap.TupAt t [.str m tk]) (hq : Q (.str m tk) s) :
    wpAny (model prog w) A (call (.builtin "BaseException.__str__") [.ref e]) Q E s := by
  refine wpAny_call (codeAny_call_builtin PySem.F.excStr_Exception.str.plain PySem.F.entry_bexc_str ?_)
  simp only [checkBuiltinCall, es_kind, es_split]
  refine wpAny_bind (es_sub X hm x ?_)
  simp only [Bool.not_true, Bool.false_eq_true, if_false]
  have ha : argsOk "BaseException.__str__" ⟨[.ref e], []⟩ := PySem.F.args_bexc_str _
  have fin : wpAny (model prog w) A.in1 (Builtin.«BaseException.__str__» ⟨[.ref e], []⟩) (fun fin s' => match fin with | .done (.ret v) => Q v s' | _ => False) E s := es_entry x ht hq
  cases hsig : Manifest.signature? "BaseException.__str__" with
  | none =>
    refine wpAny_pure ?_
    exact es_entry x ht hq
  | some sig =>
    simp only [argsOk, hsig] at ha
    have h2 : Bind.checkArgs "BaseException.__str__" sig ⟨[.ref e], []⟩ = pure () := ha
    show wpAny (model prog w) _ (Bind.checkArgs "BaseException.__str__" sig ⟨[.ref e], []⟩) _ _ s
    rw [h2]
    refine wpAny_pure ?_
    exact es_entry x ht hq

theorem es_special {Q : Option Value → Shared → Prop} (X : K.In s.heap) (hf : findIn K (.ref C) "__str__" = some (some (.builtin "BaseException.__str__"))) (hm : mroIn K C (.type "BaseException") = some true) (x : OwnExc s.heap e C t) (ht : s.heap.TupAt t [.str m tk]) (hq : Q (some (.str m tk)) s) :
    wpAny (model prog w) A (callSpecial? (.ref e) "__str__") Q E s := by
  have x' := x
  obtain ⟨o, vs, ho, hc, _⟩ := x'
  simp only [callSpecial?, specialOf]
  refine wpAny_bind (wpAny_bind ?_)
  simp only [typeOf]
  refine wpAny_bind (wpAny_load ho (wpAny_pure ?_))
  rw [hc]
  refine (looks_findIn (M := model prog w) X hf).here ?_
  simp only [PySem.F.excStr_Exception.str.bind]
  exact wpAny_holding (wpAny_bind (wpAny_pure (wpAny_bind (es_call X hm x ht (wpAny_pure hq)))))

theorem es_strOf {Q : Value → Shared → Prop} (X : K.In s.heap) (hf : findIn K (.ref C) "__str__" = some (some (.builtin "BaseException.__str__"))) (hm : mroIn K C (.type "BaseException") = some true) (x : OwnExc s.heap e C t) (ht : s.heap.TupAt t [.str m tk]) (hu : A.units < cLine) (hq : Q (.str m tk) s) :
    wpAny (model prog w) A (PySem.Builtin.Str.strOf (.ref e)) Q E s := by
  unfold PySem.Builtin.Str.strOf
  repeat (first | with_reducible refine wpAny_cRoomFor hu ?_ | with_reducible refine es_special X hf hm x ht ?_ | wp_step)
  exact hq

theorem es_str {Q : Value → Shared → Prop} (X : K.In s.heap) (hf : findIn K (.ref C) "__str__" = some (some (.builtin "BaseException.__str__"))) (hm : mroIn K C (.type "BaseException") = some true) (x : OwnExc s.heap e C t) (ht : s.heap.TupAt t [.str m tk]) (hu : A.units + 2 < cLine) (hq : Q (.str m tk) s) :
    wpAny (model prog w) A (call (.type "str") [.ref e]) Q E s :=
  callType_new F.called_str (by decide) (F.typeCall_str_1 _) (F.newCall_str_1 _) (fun obj => F.args_object_init_2 obj _) F.entry_str_new
    (meets_str_new (S := fun A' R s' => A'.units + 1 < cLine ∧ K.In s'.heap ∧ OwnExc s'.heap e C t ∧ s'.heap.TupAt t [.str m tk] ∧ R (.ok (.ret (.str m tk))) s')
      fun _ _ A' _ _ hq => es_strOf (A := A'.in1) hq.2.1 hf hm hq.2.2.1 hq.2.2.2.1 hq.1 hq.2.2.2.2)
    ⟨(show A.units + 1 + 1 < cLine from hu), X, x, ht, typeIs_str _ _ _, hq⟩

theorem es_got {h₀ : Heap} {L : Addr} {news : List (Addr × Obj)} {mm : Str → Option Value} {Q : Value → Shared → Prop} (X : K.In h₀) (F : Fr h₀ L s.heap mm) (hf : findIn K (.ref C) "__str__" = some (some (.builtin "BaseException.__str__"))) (hm : mroIn K C (.type "BaseException") = some true) (N : News h₀ L s.heap news) (G : Got news e t (.ref C) [.str m tk]) (hu : A.units + 2 < cLine) (hq : Q (.str m tk) s) :
    wpAny (model prog w) A (call (.type "str") [.ref e]) Q E s := by
  obtain ⟨oe, ot, ws, nt, h1, h2, hc, hd, h0, htc, htd⟩ := G
  exact es_str (X.keeps F.keep) hf hm ⟨oe, ws, N.get h1, hc, hd, h0⟩ ⟨ot, nt, N.get h2, htc, htd⟩ hu hq
end
end
section
open PySem PySem.W PyProof.Rows PySem.Calls
set_option Elab.async false
set_option maxRecDepth 100000
set_option linter.unusedVariables false
set_option linter.unusedSimpArgs false
section
variable {prog : Program} {w : World} {A : Around} {E : Value → Shared → Prop} {s : Shared}
variable {h₀ : Heap} {L d q : Addr} {m : Str → Option Value} {news : List (Addr × Obj)} {env : Env} {o : Obj} {n : Str} {v val : Value} {Q : Value → Shared → Prop} {x y : Str} {px py kp pos : Pos}
theorem evalArgs_KS {P : Args → Shared → Prop} (F : Fr h₀ L s.heap m) (N : News h₀ L s.heap news) (hd : (d, o) ∈ news) (ho : o.IsDictOf (strKind prog w) [(n, val)]) (hs : (d == sysModules) = false)
    (hx : ∀ (s' : Shared) (P : Value → Shared → Prop) (E' : Value → Shared → Prop), Fr h₀ L s'.heap m → P v s' → wpAny (model prog w) A (eval (.Name x px) env) P E' s')
    (hy : ∀ (s' : Shared) (P : Value → Shared → Prop) (E' : Value → Shared → Prop), Fr h₀ L s'.heap m → P (.ref d) s' → wpAny (model prog w) A (eval (.Name y py) env) P E' s')
    (h : ∀ h', Fr h₀ L h' m → News h₀ L h' news → P ⟨[v], [(n, val)]⟩ { s with heap := h' }) :
    wpAny (model prog w) A (evalArgs (.ref q) true (backTo pos (starEach [.Name x px] env)) (backToKw pos (keywordEach [⟨none, .Name y py, kp⟩] env))) P E s := by
  have dlt : d < s.heap.objs.size := Heap.lt_size (N _ hd).1
  have hne : d ≠ s.heap.objs.size := Nat.ne_of_lt dlt
  unfold evalArgs
  show wpAny _ A (spliced [(false, eval (.Name x px) env)] >>= _) _ _ s
  with_reducible refine wpAny_bind ?_
  unfold spliced
  with_reducible refine wpAny_bind ?_
  refine hx _ _ _ F ?_
  simp only [Bool.false_eq_true, if_false]
  with_reducible refine wpAny_bind (wpAny_pure ?_)
  with_reducible refine wpAny_bind (wpAny_holding ?_)
  unfold spliced
  with_reducible refine wpAny_pure ?_
  with_reducible refine wpAny_pure ?_
  with_reducible refine wpAny_bind (wpAny_pure ?_)
  dsimp only
  with_reducible refine wpAny_holding ?_
  show wpAny _ A (mergedKeywords (.ref q) (backToKw pos (keywordEach [⟨none, .Name y py, kp⟩] env)) >>= _) _ _ s
  with_reducible refine wpAny_bind ?_
  rw [show backToKw pos (keywordEach [⟨none, .Name y py, kp⟩] env) = [(none, (do let v ← eval (.Name y py) env; standAt pos; pure v))] from rfl]
  unfold mergedKeywords
  with_reducible refine wpAny_bind ?_
  refine wpAny_alloc ?_
  have F₁ : Fr h₀ L (s.heap.push { cls := .type "dict", data := .dict #[] }) m := F.push _
  have N₁ := N.push F { cls := .type "dict", data := .dict #[] } rfl
  have hD := (N₁ _ (List.Mem.head _)).1
  with_reducible refine wpAny_bind ?_
  with_reducible refine wpAny_holding ?_
  dsimp only
  with_reducible refine wpAny_bind ?_
  refine forIn_one ?_
  dsimp only
  with_reducible refine wpAny_bind ?_
  rw [if_pos (by rfl)]
  with_reducible refine wpAny_pure ?_
  with_reducible refine wpAny_bind ?_
  with_reducible refine wpAny_bind ?_
  refine hy _ _ _ F₁ ?_
  with_reducible refine wpAny_bind ?_
  refine wpAny_standAt ?_
  with_reducible refine wpAny_pure ?_
  with_reducible refine wpAny_bind ?_
  refine wpAny_onRaise ?_
  with_reducible refine wpAny_holding ?_
  refine wpAny_tryCatch ?_
  refine wpAny_onRaise ?_
  refine merge_one (ep0 := 0) hD rfl (N₁ _ (List.mem_cons_of_mem _ hd)).1 hne hs ho fun e t hk hv => ?_
  with_reducible refine wpAny_pure ?_
  dsimp only
  rw [if_pos (by rfl)]
  with_reducible refine wpAny_pure ?_
  with_reducible refine wpAny_pure ?_
  with_reducible refine wpAny_bind (wpAny_pure ?_)
  with_reducible refine wpAny_bind ?_
  with_reducible refine wpAny_holding ?_
  have hmap : Obj.mapDictKeys (·.push e) ({ cls := .type "dict", data := .dict #[] } : Obj) = { cls := .type "dict", data := .dict #[e] 1 } := rfl
  have hD₂ : (({ s with heap := s.heap.push { cls := .type "dict", data := .dict #[] } } : Shared).heap.update s.heap.objs.size (Obj.mapDictKeys (·.push e))).get? s.heap.objs.size = some { cls := .type "dict", data := .dict #[e] 1 } :=
    hmap ▸ Heap.get?_update_self _ hD rfl
  refine keywords_one hD₂ rfl hk hv ?_
  with_reducible refine wpAny_pure ?_
  have keep : ∀ b ob, s.heap.get? b = some ob → (({ s with heap := s.heap.push { cls := .type "dict", data := .dict #[] } } : Shared).heap.update s.heap.objs.size (Obj.mapDictKeys (·.push e))).get? b = some ob := fun b ob eb =>
    (Heap.get?_update_ne _ _ _ _ (Nat.ne_of_lt (Heap.lt_size eb))).trans (Heap.get?_push_of_some _ eb)
  exact h _ (F.keeps keep) fun p hp => ⟨keep _ _ (N p hp).1, (N p hp).2⟩
end
end
section
open PySem PySem.W PyProof.Rows PySem.Calls Builtin Builtin.Str PySem.StrLaws
set_option Elab.async false
set_option maxRecDepth 100000
set_option linter.unusedVariables false
/-! where a sign stands in a text -/
theorem occ_go (x : PySem.Str) (c limit : Nat) : ∀ (n lo : Nat) (st : Array Nat × Nat), st.2 ≤ lo → st.1.size ≤ limit →
    (forIn (List.range' lo n) st (occBody x ⟨#[c]⟩ x.length limit)).run.fst.toList = st.1.toList ++ ((List.range' lo n).filter fun i => x.cps.toList[i]? == some c).take (limit - st.1.size)
  | 0, lo, st, _, _ => by simp
  | n + 1, lo, st, h1, h2 => by
    rw [List.range'_succ, List.forIn_cons, List.filter_cons]
    unfold occBody
    have hs := subAt_one x c lo
    by_cases hx : x.cps.toList[lo]? = some c
    · obtain ⟨ha, hb⟩ := hs.mpr hx
      rw [if_pos (show (x.cps.toList[lo]? == some c) = true by rw [hx]; exact beq_self_eq_true _)]
      by_cases hl : st.1.size < limit
      · rw [if_pos ⟨⟨⟨hl, h1⟩, ha⟩, hb⟩]
        have := occ_go x c limit n (lo + 1) (st.1.push lo, lo + 1) (Nat.le_refl _) (by simp only [Array.size_push]; omega)
        refine Eq.trans this ?_
        simp only [Array.toList_push, Array.size_push]
        rw [show limit - st.1.size = (limit - (st.1.size + 1)) + 1 by omega, List.take_succ_cons, List.append_assoc]
        rfl
      · rw [if_neg (fun h => hl h.1.1.1)]
        have := occ_go x c limit n (lo + 1) (st.1, st.2) (by show st.2 ≤ lo + 1; omega) h2
        refine Eq.trans this ?_
        have e : limit - st.1.size = 0 := by omega
        simp only [e, List.take_zero]
    · rw [if_neg (show ¬ (x.cps.toList[lo]? == some c) = true by simpa using hx), if_neg (fun h => hx (hs.mp ⟨h.1.2, h.2⟩))]
      exact occ_go x c limit n (lo + 1) (st.1, st.2) (by show st.2 ≤ lo + 1; omega) h2
theorem occ_one (x : PySem.Str) (c lo limit : Nat) : occurrences x ⟨#[c]⟩ lo x.length limit = ((List.range' lo (x.length + 1 - lo)).filter fun i => x.cps.toList[i]? == some c).take limit := by
  rw [occ_eq]
  exact (occ_go x c limit _ lo (#[], lo) (Nat.le_refl _) (Nat.zero_le _)).trans (by simp)
end
section
open PySem PySem.W PyProof.Rows PySem.Calls Builtin PySem.StrLaws
set_option Elab.async false
set_option maxRecDepth 100000
set_option linter.unusedVariables false
set_option linter.unusedSimpArgs false
theorem tx_n4 {mk c0 c1 c2 c3 : Nat} (hm : mk ≠ 41 ∧ mk ≠ 120) (hk : mk < 256) (h0 : (c0 ≠ 41 ∧ c0 ≠ mk) ∧ c0 < 256) (h1 : (c1 ≠ 41 ∧ c1 ≠ mk) ∧ c1 < 256) (h2 : (c2 ≠ 41 ∧ c2 ≠ mk) ∧ c2 < 256) (h3 : (c3 ≠ 41 ∧ c3 ≠ mk) ∧ c3 < 256) :
    Txt.slice ⟨#[50, 50, 57, 32, 40, mk, mk, mk, c0, c1, c2, c3, mk, 41]⟩ none (some 3) = PySem.Str.ofString "229" ∧ Txt.find ⟨#[50, 50, 57, 32, 40, mk, mk, mk, c0, c1, c2, c3, mk, 41]⟩ (PySem.Str.ofString "(") = 4 ∧ Txt.find3 ⟨#[50, 50, 57, 32, 40, mk, mk, mk, c0, c1, c2, c3, mk, 41]⟩ (PySem.Str.ofString ")") (4 + 1) = 13 ∧ Txt.item ⟨#[50, 50, 57, 32, 40, mk, mk, mk, c0, c1, c2, c3, mk, 41]⟩ (4 + 1) = ⟨#[mk]⟩ ∧ Txt.item ⟨#[50, 50, 57, 32, 40, mk, mk, mk, c0, c1, c2, c3, mk, 41]⟩ (13 - 1) = ⟨#[mk]⟩ ∧
      Txt.slice ⟨#[50, 50, 57, 32, 40, mk, mk, mk, c0, c1, c2, c3, mk, 41]⟩ (some (4 + 1)) (some 13) = ⟨#[mk, mk, mk, c0, c1, c2, c3, mk]⟩ := by
  refine ⟨rfl, ?_, ?_, rfl, rfl, rfl⟩
  · unfold Txt.find
    rw [show PySem.Str.ofString "(" = ⟨#[40]⟩ from rfl, occ_one]
    rfl
  · unfold Txt.find3
    rw [show PySem.Str.ofString ")" = ⟨#[41]⟩ from rfl, occ_one]
    have e : (List.filter (fun i : Nat => (⟨#[50, 50, 57, 32, 40, mk, mk, mk, c0, c1, c2, c3, mk, 41]⟩ : PySem.Str).cps.toList[i]? == some 41) [5, 6, 7, 8, 9, 10, 11, 12, 13, 14]).take 1 = [13] := by
      simp [List.filter_cons, hm, h0, h1, h2, h3]
    show (match (List.filter (fun i : Nat => (⟨#[50, 50, 57, 32, 40, mk, mk, mk, c0, c1, c2, c3, mk, 41]⟩ : PySem.Str).cps.toList[i]? == some 41) [5, 6, 7, 8, 9, 10, 11, 12, 13, 14]).take 1 with | k :: _ => ((k : Nat) : Int) | [] => -1) = 13
    rw [e]
    rfl
theorem sp_n4 {mk c0 c1 c2 c3 : Nat} (hm : mk ≠ 41 ∧ mk ≠ 120) (hk : mk < 256) (h0 : (c0 ≠ 41 ∧ c0 ≠ mk) ∧ c0 < 256) (h1 : (c1 ≠ 41 ∧ c1 ≠ mk) ∧ c1 < 256) (h2 : (c2 ≠ 41 ∧ c2 ≠ mk) ∧ c2 < 256) (h3 : (c3 ≠ 41 ∧ c3 ≠ mk) ∧ c3 < 256) :
    Txt.split ⟨#[mk, mk, mk, c0, c1, c2, c3, mk]⟩ ⟨#[mk]⟩ = [⟨#[]⟩, ⟨#[]⟩, ⟨#[]⟩, ⟨#[c0, c1, c2, c3]⟩, ⟨#[]⟩] := by
  have hm' : (120 = mk) = False := eq_false fun q => hm.2 q.symm
  have ho : Builtin.Str.occurrences ⟨#[mk, mk, mk, c0, c1, c2, c3, mk]⟩ ⟨#[mk]⟩ 0 (⟨#[mk, mk, mk, c0, c1, c2, c3, mk]⟩ : PySem.Str).length ((⟨#[mk, mk, mk, c0, c1, c2, c3, mk]⟩ : PySem.Str).length + 1) = [0, 1, 2, 7] := by
    rw [occ_one]
    show (List.filter (fun i : Nat => (⟨#[mk, mk, mk, c0, c1, c2, c3, mk]⟩ : PySem.Str).cps.toList[i]? == some mk) [0, 1, 2, 3, 4, 5, 6, 7, 8]).take 9 = [0, 1, 2, 7]
    simp [List.filter_cons, hm', h0, h1, h2, h3]
  unfold Txt.split
  rw [ho]
  have k1 : Builtin.Str.strKind ⟨#[mk, mk, mk, c0, c1, c2, c3, mk]⟩ = 1 := by unfold Builtin.Str.strKind; simp [hk, h0, h1, h2, h3]
  have k2 : Builtin.Str.strKind ⟨#[mk]⟩ = 1 := by unfold Builtin.Str.strKind; simp [hk]
  rw [k1, k2]
  rfl
theorem tx_14 {mk c0 c1 c2 c3 : Nat} (hm : mk ≠ 41 ∧ mk ≠ 120) (hk : mk < 256) (h0 : (c0 ≠ 41 ∧ c0 ≠ mk) ∧ c0 < 256) (h1 : (c1 ≠ 41 ∧ c1 ≠ mk) ∧ c1 < 256) (h2 : (c2 ≠ 41 ∧ c2 ≠ mk) ∧ c2 < 256) (h3 : (c3 ≠ 41 ∧ c3 ≠ mk) ∧ c3 < 256) :
    Txt.slice ⟨#[50, 50, 57, 32, 40, mk, mk, c0, c1, c2, c3, mk, 41]⟩ none (some 3) = PySem.Str.ofString "229" ∧ Txt.find ⟨#[50, 50, 57, 32, 40, mk, mk, c0, c1, c2, c3, mk, 41]⟩ (PySem.Str.ofString "(") = 4 ∧ Txt.find3 ⟨#[50, 50, 57, 32, 40, mk, mk, c0, c1, c2, c3, mk, 41]⟩ (PySem.Str.ofString ")") (4 + 1) = 12 ∧ Txt.item ⟨#[50, 50, 57, 32, 40, mk, mk, c0, c1, c2, c3, mk, 41]⟩ (4 + 1) = ⟨#[mk]⟩ ∧ Txt.item ⟨#[50, 50, 57, 32, 40, mk, mk, c0, c1, c2, c3, mk, 41]⟩ (12 - 1) = ⟨#[mk]⟩ ∧
      Txt.slice ⟨#[50, 50, 57, 32, 40, mk, mk, c0, c1, c2, c3, mk, 41]⟩ (some (4 + 1)) (some 12) = ⟨#[mk, mk, c0, c1, c2, c3, mk]⟩ := by
  refine ⟨rfl, ?_, ?_, rfl, rfl, rfl⟩
  · unfold Txt.find
    rw [show PySem.Str.ofString "(" = ⟨#[40]⟩ from rfl, occ_one]
    rfl
  · unfold Txt.find3
    rw [show PySem.Str.ofString ")" = ⟨#[41]⟩ from rfl, occ_one]
    have e : (List.filter (fun i : Nat => (⟨#[50, 50, 57, 32, 40, mk, mk, c0, c1, c2, c3, mk, 41]⟩ : PySem.Str).cps.toList[i]? == some 41) [5, 6, 7, 8, 9, 10, 11, 12, 13]).take 1 = [12] := by
      simp [List.filter_cons, hm, h0, h1, h2, h3]
    show (match (List.filter (fun i : Nat => (⟨#[50, 50, 57, 32, 40, mk, mk, c0, c1, c2, c3, mk, 41]⟩ : PySem.Str).cps.toList[i]? == some 41) [5, 6, 7, 8, 9, 10, 11, 12, 13]).take 1 with | k :: _ => ((k : Nat) : Int) | [] => -1) = 12
    rw [e]
    rfl
theorem sp_14 {mk c0 c1 c2 c3 : Nat} (hm : mk ≠ 41 ∧ mk ≠ 120) (hk : mk < 256) (h0 : (c0 ≠ 41 ∧ c0 ≠ mk) ∧ c0 < 256) (h1 : (c1 ≠ 41 ∧ c1 ≠ mk) ∧ c1 < 256) (h2 : (c2 ≠ 41 ∧ c2 ≠ mk) ∧ c2 < 256) (h3 : (c3 ≠ 41 ∧ c3 ≠ mk) ∧ c3 < 256) :
    Txt.split ⟨#[mk, mk, c0, c1, c2, c3, mk]⟩ ⟨#[mk]⟩ = [⟨#[]⟩, ⟨#[]⟩, ⟨#[c0, c1, c2, c3]⟩, ⟨#[]⟩] := by
  have hm' : (120 = mk) = False := eq_false fun q => hm.2 q.symm
  have ho : Builtin.Str.occurrences ⟨#[mk, mk, c0, c1, c2, c3, mk]⟩ ⟨#[mk]⟩ 0 (⟨#[mk, mk, c0, c1, c2, c3, mk]⟩ : PySem.Str).length ((⟨#[mk, mk, c0, c1, c2, c3, mk]⟩ : PySem.Str).length + 1) = [0, 1, 6] := by
    rw [occ_one]
    show (List.filter (fun i : Nat => (⟨#[mk, mk, c0, c1, c2, c3, mk]⟩ : PySem.Str).cps.toList[i]? == some mk) [0, 1, 2, 3, 4, 5, 6, 7]).take 8 = [0, 1, 6]
    simp [List.filter_cons, hm', h0, h1, h2, h3]
  unfold Txt.split
  rw [ho]
  have k1 : Builtin.Str.strKind ⟨#[mk, mk, c0, c1, c2, c3, mk]⟩ = 1 := by unfold Builtin.Str.strKind; simp [hk, h0, h1, h2, h3]
  have k2 : Builtin.Str.strKind ⟨#[mk]⟩ = 1 := by unfold Builtin.Str.strKind; simp [hk]
  rw [k1, k2]
  rfl
theorem tx_24 {mk c0 c1 c2 c3 : Nat} (hm : mk ≠ 41 ∧ mk ≠ 120) (hk : mk < 256) (h0 : (c0 ≠ 41 ∧ c0 ≠ mk) ∧ c0 < 256) (h1 : (c1 ≠ 41 ∧ c1 ≠ mk) ∧ c1 < 256) (h2 : (c2 ≠ 41 ∧ c2 ≠ mk) ∧ c2 < 256) (h3 : (c3 ≠ 41 ∧ c3 ≠ mk) ∧ c3 < 256) :
    Txt.slice ⟨#[50, 50, 57, 32, 40, mk, mk, mk, 120, c0, c1, c2, c3, mk, 41]⟩ none (some 3) = PySem.Str.ofString "229" ∧ Txt.find ⟨#[50, 50, 57, 32, 40, mk, mk, mk, 120, c0, c1, c2, c3, mk, 41]⟩ (PySem.Str.ofString "(") = 4 ∧ Txt.find3 ⟨#[50, 50, 57, 32, 40, mk, mk, mk, 120, c0, c1, c2, c3, mk, 41]⟩ (PySem.Str.ofString ")") (4 + 1) = 14 ∧ Txt.item ⟨#[50, 50, 57, 32, 40, mk, mk, mk, 120, c0, c1, c2, c3, mk, 41]⟩ (4 + 1) = ⟨#[mk]⟩ ∧ Txt.item ⟨#[50, 50, 57, 32, 40, mk, mk, mk, 120, c0, c1, c2, c3, mk, 41]⟩ (14 - 1) = ⟨#[mk]⟩ ∧
      Txt.slice ⟨#[50, 50, 57, 32, 40, mk, mk, mk, 120, c0, c1, c2, c3, mk, 41]⟩ (some (4 + 1)) (some 14) = ⟨#[mk, mk, mk, 120, c0, c1, c2, c3, mk]⟩ := by
  refine ⟨rfl, ?_, ?_, rfl, rfl, rfl⟩
  · unfold Txt.find
    rw [show PySem.Str.ofString "(" = ⟨#[40]⟩ from rfl, occ_one]
    rfl
  · unfold Txt.find3
    rw [show PySem.Str.ofString ")" = ⟨#[41]⟩ from rfl, occ_one]
    have e : (List.filter (fun i : Nat => (⟨#[50, 50, 57, 32, 40, mk, mk, mk, 120, c0, c1, c2, c3, mk, 41]⟩ : PySem.Str).cps.toList[i]? == some 41) [5, 6, 7, 8, 9, 10, 11, 12, 13, 14, 15]).take 1 = [14] := by
      simp [List.filter_cons, hm, h0, h1, h2, h3]
    show (match (List.filter (fun i : Nat => (⟨#[50, 50, 57, 32, 40, mk, mk, mk, 120, c0, c1, c2, c3, mk, 41]⟩ : PySem.Str).cps.toList[i]? == some 41) [5, 6, 7, 8, 9, 10, 11, 12, 13, 14, 15]).take 1 with | k :: _ => ((k : Nat) : Int) | [] => -1) = 14
    rw [e]
    rfl
theorem sp_24 {mk c0 c1 c2 c3 : Nat} (hm : mk ≠ 41 ∧ mk ≠ 120) (hk : mk < 256) (h0 : (c0 ≠ 41 ∧ c0 ≠ mk) ∧ c0 < 256) (h1 : (c1 ≠ 41 ∧ c1 ≠ mk) ∧ c1 < 256) (h2 : (c2 ≠ 41 ∧ c2 ≠ mk) ∧ c2 < 256) (h3 : (c3 ≠ 41 ∧ c3 ≠ mk) ∧ c3 < 256) :
    Txt.split ⟨#[mk, mk, mk, 120, c0, c1, c2, c3, mk]⟩ ⟨#[mk]⟩ = [⟨#[]⟩, ⟨#[]⟩, ⟨#[]⟩, ⟨#[120, c0, c1, c2, c3]⟩, ⟨#[]⟩] := by
  have hm' : (120 = mk) = False := eq_false fun q => hm.2 q.symm
  have ho : Builtin.Str.occurrences ⟨#[mk, mk, mk, 120, c0, c1, c2, c3, mk]⟩ ⟨#[mk]⟩ 0 (⟨#[mk, mk, mk, 120, c0, c1, c2, c3, mk]⟩ : PySem.Str).length ((⟨#[mk, mk, mk, 120, c0, c1, c2, c3, mk]⟩ : PySem.Str).length + 1) = [0, 1, 2, 8] := by
    rw [occ_one]
    show (List.filter (fun i : Nat => (⟨#[mk, mk, mk, 120, c0, c1, c2, c3, mk]⟩ : PySem.Str).cps.toList[i]? == some mk) [0, 1, 2, 3, 4, 5, 6, 7, 8, 9]).take 10 = [0, 1, 2, 8]
    simp [List.filter_cons, hm', h0, h1, h2, h3]
  unfold Txt.split
  rw [ho]
  have k1 : Builtin.Str.strKind ⟨#[mk, mk, mk, 120, c0, c1, c2, c3, mk]⟩ = 1 := by unfold Builtin.Str.strKind; simp [hk, h0, h1, h2, h3]
  have k2 : Builtin.Str.strKind ⟨#[mk]⟩ = 1 := by unfold Builtin.Str.strKind; simp [hk]
  rw [k1, k2]
  rfl
theorem tx_34 {mk c0 c1 c2 c3 : Nat} (hm : mk ≠ 41 ∧ mk ≠ 120) (hk : mk < 256) (h0 : (c0 ≠ 41 ∧ c0 ≠ mk) ∧ c0 < 256) (h1 : (c1 ≠ 41 ∧ c1 ≠ mk) ∧ c1 < 256) (h2 : (c2 ≠ 41 ∧ c2 ≠ mk) ∧ c2 < 256) (h3 : (c3 ≠ 41 ∧ c3 ≠ mk) ∧ c3 < 256) :
    Txt.slice ⟨#[50, 50, 57, 32, 40, mk, mk, mk, c0, c1, c2, c3, mk, 120, 41]⟩ none (some 3) = PySem.Str.ofString "229" ∧ Txt.find ⟨#[50, 50, 57, 32, 40, mk, mk, mk, c0, c1, c2, c3, mk, 120, 41]⟩ (PySem.Str.ofString "(") = 4 ∧ Txt.find3 ⟨#[50, 50, 57, 32, 40, mk, mk, mk, c0, c1, c2, c3, mk, 120, 41]⟩ (PySem.Str.ofString ")") (4 + 1) = 14 ∧ Txt.item ⟨#[50, 50, 57, 32, 40, mk, mk, mk, c0, c1, c2, c3, mk, 120, 41]⟩ (4 + 1) = ⟨#[mk]⟩ ∧ Txt.item ⟨#[50, 50, 57, 32, 40, mk, mk, mk, c0, c1, c2, c3, mk, 120, 41]⟩ (14 - 1) = ⟨#[120]⟩ ∧
      Txt.slice ⟨#[50, 50, 57, 32, 40, mk, mk, mk, c0, c1, c2, c3, mk, 120, 41]⟩ (some (4 + 1)) (some 14) = ⟨#[mk, mk, mk, c0, c1, c2, c3, mk, 120]⟩ := by
  refine ⟨rfl, ?_, ?_, rfl, rfl, rfl⟩
  · unfold Txt.find
    rw [show PySem.Str.ofString "(" = ⟨#[40]⟩ from rfl, occ_one]
    rfl
  · unfold Txt.find3
    rw [show PySem.Str.ofString ")" = ⟨#[41]⟩ from rfl, occ_one]
    have e : (List.filter (fun i : Nat => (⟨#[50, 50, 57, 32, 40, mk, mk, mk, c0, c1, c2, c3, mk, 120, 41]⟩ : PySem.Str).cps.toList[i]? == some 41) [5, 6, 7, 8, 9, 10, 11, 12, 13, 14, 15]).take 1 = [14] := by
      simp [List.filter_cons, hm, h0, h1, h2, h3]
    show (match (List.filter (fun i : Nat => (⟨#[50, 50, 57, 32, 40, mk, mk, mk, c0, c1, c2, c3, mk, 120, 41]⟩ : PySem.Str).cps.toList[i]? == some 41) [5, 6, 7, 8, 9, 10, 11, 12, 13, 14, 15]).take 1 with | k :: _ => ((k : Nat) : Int) | [] => -1) = 14
    rw [e]
    rfl
theorem tx_n5 {mk c0 c1 c2 c3 c4 : Nat} (hm : mk ≠ 41 ∧ mk ≠ 120) (hk : mk < 256) (h0 : (c0 ≠ 41 ∧ c0 ≠ mk) ∧ c0 < 256) (h1 : (c1 ≠ 41 ∧ c1 ≠ mk) ∧ c1 < 256) (h2 : (c2 ≠ 41 ∧ c2 ≠ mk) ∧ c2 < 256) (h3 : (c3 ≠ 41 ∧ c3 ≠ mk) ∧ c3 < 256) (h4 : (c4 ≠ 41 ∧ c4 ≠ mk) ∧ c4 < 256) :
    Txt.slice ⟨#[50, 50, 57, 32, 40, mk, mk, mk, c0, c1, c2, c3, c4, mk, 41]⟩ none (some 3) = PySem.Str.ofString "229" ∧ Txt.find ⟨#[50, 50, 57, 32, 40, mk, mk, mk, c0, c1, c2, c3, c4, mk, 41]⟩ (PySem.Str.ofString "(") = 4 ∧ Txt.find3 ⟨#[50, 50, 57, 32, 40, mk, mk, mk, c0, c1, c2, c3, c4, mk, 41]⟩ (PySem.Str.ofString ")") (4 + 1) = 14 ∧ Txt.item ⟨#[50, 50, 57, 32, 40, mk, mk, mk, c0, c1, c2, c3, c4, mk, 41]⟩ (4 + 1) = ⟨#[mk]⟩ ∧ Txt.item ⟨#[50, 50, 57, 32, 40, mk, mk, mk, c0, c1, c2, c3, c4, mk, 41]⟩ (14 - 1) = ⟨#[mk]⟩ ∧
      Txt.slice ⟨#[50, 50, 57, 32, 40, mk, mk, mk, c0, c1, c2, c3, c4, mk, 41]⟩ (some (4 + 1)) (some 14) = ⟨#[mk, mk, mk, c0, c1, c2, c3, c4, mk]⟩ := by
  refine ⟨rfl, ?_, ?_, rfl, rfl, rfl⟩
  · unfold Txt.find
    rw [show PySem.Str.ofString "(" = ⟨#[40]⟩ from rfl, occ_one]
    rfl
  · unfold Txt.find3
    rw [show PySem.Str.ofString ")" = ⟨#[41]⟩ from rfl, occ_one]
    have e : (List.filter (fun i : Nat => (⟨#[50, 50, 57, 32, 40, mk, mk, mk, c0, c1, c2, c3, c4, mk, 41]⟩ : PySem.Str).cps.toList[i]? == some 41) [5, 6, 7, 8, 9, 10, 11, 12, 13, 14, 15]).take 1 = [14] := by
      simp [List.filter_cons, hm, h0, h1, h2, h3, h4]
    show (match (List.filter (fun i : Nat => (⟨#[50, 50, 57, 32, 40, mk, mk, mk, c0, c1, c2, c3, c4, mk, 41]⟩ : PySem.Str).cps.toList[i]? == some 41) [5, 6, 7, 8, 9, 10, 11, 12, 13, 14, 15]).take 1 with | k :: _ => ((k : Nat) : Int) | [] => -1) = 14
    rw [e]
    rfl
theorem sp_n5 {mk c0 c1 c2 c3 c4 : Nat} (hm : mk ≠ 41 ∧ mk ≠ 120) (hk : mk < 256) (h0 : (c0 ≠ 41 ∧ c0 ≠ mk) ∧ c0 < 256) (h1 : (c1 ≠ 41 ∧ c1 ≠ mk) ∧ c1 < 256) (h2 : (c2 ≠ 41 ∧ c2 ≠ mk) ∧ c2 < 256) (h3 : (c3 ≠ 41 ∧ c3 ≠ mk) ∧ c3 < 256) (h4 : (c4 ≠ 41 ∧ c4 ≠ mk) ∧ c4 < 256) :
    Txt.split ⟨#[mk, mk, mk, c0, c1, c2, c3, c4, mk]⟩ ⟨#[mk]⟩ = [⟨#[]⟩, ⟨#[]⟩, ⟨#[]⟩, ⟨#[c0, c1, c2, c3, c4]⟩, ⟨#[]⟩] := by
  have hm' : (120 = mk) = False := eq_false fun q => hm.2 q.symm
  have ho : Builtin.Str.occurrences ⟨#[mk, mk, mk, c0, c1, c2, c3, c4, mk]⟩ ⟨#[mk]⟩ 0 (⟨#[mk, mk, mk, c0, c1, c2, c3, c4, mk]⟩ : PySem.Str).length ((⟨#[mk, mk, mk, c0, c1, c2, c3, c4, mk]⟩ : PySem.Str).length + 1) = [0, 1, 2, 8] := by
    rw [occ_one]
    show (List.filter (fun i : Nat => (⟨#[mk, mk, mk, c0, c1, c2, c3, c4, mk]⟩ : PySem.Str).cps.toList[i]? == some mk) [0, 1, 2, 3, 4, 5, 6, 7, 8, 9]).take 10 = [0, 1, 2, 8]
    simp [List.filter_cons, hm', h0, h1, h2, h3, h4]
  unfold Txt.split
  rw [ho]
  have k1 : Builtin.Str.strKind ⟨#[mk, mk, mk, c0, c1, c2, c3, c4, mk]⟩ = 1 := by unfold Builtin.Str.strKind; simp [hk, h0, h1, h2, h3, h4]
  have k2 : Builtin.Str.strKind ⟨#[mk]⟩ = 1 := by unfold Builtin.Str.strKind; simp [hk]
  rw [k1, k2]
  rfl
theorem tx_15 {mk c0 c1 c2 c3 c4 : Nat} (hm : mk ≠ 41 ∧ mk ≠ 120) (hk : mk < 256) (h0 : (c0 ≠ 41 ∧ c0 ≠ mk) ∧ c0 < 256) (h1 : (c1 ≠ 41 ∧ c1 ≠ mk) ∧ c1 < 256) (h2 : (c2 ≠ 41 ∧ c2 ≠ mk) ∧ c2 < 256) (h3 : (c3 ≠ 41 ∧ c3 ≠ mk) ∧ c3 < 256) (h4 : (c4 ≠ 41 ∧ c4 ≠ mk) ∧ c4 < 256) :
    Txt.slice ⟨#[50, 50, 57, 32, 40, mk, mk, c0, c1, c2, c3, c4, mk, 41]⟩ none (some 3) = PySem.Str.ofString "229" ∧ Txt.find ⟨#[50, 50, 57, 32, 40, mk, mk, c0, c1, c2, c3, c4, mk, 41]⟩ (PySem.Str.ofString "(") = 4 ∧ Txt.find3 ⟨#[50, 50, 57, 32, 40, mk, mk, c0, c1, c2, c3, c4, mk, 41]⟩ (PySem.Str.ofString ")") (4 + 1) = 13 ∧ Txt.item ⟨#[50, 50, 57, 32, 40, mk, mk, c0, c1, c2, c3, c4, mk, 41]⟩ (4 + 1) = ⟨#[mk]⟩ ∧ Txt.item ⟨#[50, 50, 57, 32, 40, mk, mk, c0, c1, c2, c3, c4, mk, 41]⟩ (13 - 1) = ⟨#[mk]⟩ ∧
      Txt.slice ⟨#[50, 50, 57, 32, 40, mk, mk, c0, c1, c2, c3, c4, mk, 41]⟩ (some (4 + 1)) (some 13) = ⟨#[mk, mk, c0, c1, c2, c3, c4, mk]⟩ := by
  refine ⟨rfl, ?_, ?_, rfl, rfl, rfl⟩
  · unfold Txt.find
    rw [show PySem.Str.ofString "(" = ⟨#[40]⟩ from rfl, occ_one]
    rfl
  · unfold Txt.find3
    rw [show PySem.Str.ofString ")" = ⟨#[41]⟩ from rfl, occ_one]
    have e : (List.filter (fun i : Nat => (⟨#[50, 50, 57, 32, 40, mk, mk, c0, c1, c2, c3, c4, mk, 41]⟩ : PySem.Str).cps.toList[i]? == some 41) [5, 6, 7, 8, 9, 10, 11, 12, 13, 14]).take 1 = [13] := by
      simp [List.filter_cons, hm, h0, h1, h2, h3, h4]
    show (match (List.filter (fun i : Nat => (⟨#[50, 50, 57, 32, 40, mk, mk, c0, c1, c2, c3, c4, mk, 41]⟩ : PySem.Str).cps.toList[i]? == some 41) [5, 6, 7, 8, 9, 10, 11, 12, 13, 14]).take 1 with | k :: _ => ((k : Nat) : Int) | [] => -1) = 13
    rw [e]
    rfl
theorem sp_15 {mk c0 c1 c2 c3 c4 : Nat} (hm : mk ≠ 41 ∧ mk ≠ 120) (hk : mk < 256) (h0 : (c0 ≠ 41 ∧ c0 ≠ mk) ∧ c0 < 256) (h1 : (c1 ≠ 41 ∧ c1 ≠ mk) ∧ c1 < 256) (h2 : (c2 ≠ 41 ∧ c2 ≠ mk) ∧ c2 < 256) (h3 : (c3 ≠ 41 ∧ c3 ≠ mk) ∧ c3 < 256) (h4 : (c4 ≠ 41 ∧ c4 ≠ mk) ∧ c4 < 256) :
    Txt.split ⟨#[mk, mk, c0, c1, c2, c3, c4, mk]⟩ ⟨#[mk]⟩ = [⟨#[]⟩, ⟨#[]⟩, ⟨#[c0, c1, c2, c3, c4]⟩, ⟨#[]⟩] := by
  have hm' : (120 = mk) = False := eq_false fun q => hm.2 q.symm
  have ho : Builtin.Str.occurrences ⟨#[mk, mk, c0, c1, c2, c3, c4, mk]⟩ ⟨#[mk]⟩ 0 (⟨#[mk, mk, c0, c1, c2, c3, c4, mk]⟩ : PySem.Str).length ((⟨#[mk, mk, c0, c1, c2, c3, c4, mk]⟩ : PySem.Str).length + 1) = [0, 1, 7] := by
    rw [occ_one]
    show (List.filter (fun i : Nat => (⟨#[mk, mk, c0, c1, c2, c3, c4, mk]⟩ : PySem.Str).cps.toList[i]? == some mk) [0, 1, 2, 3, 4, 5, 6, 7, 8]).take 9 = [0, 1, 7]
    simp [List.filter_cons, hm', h0, h1, h2, h3, h4]
  unfold Txt.split
  rw [ho]
  have k1 : Builtin.Str.strKind ⟨#[mk, mk, c0, c1, c2, c3, c4, mk]⟩ = 1 := by unfold Builtin.Str.strKind; simp [hk, h0, h1, h2, h3, h4]
  have k2 : Builtin.Str.strKind ⟨#[mk]⟩ = 1 := by unfold Builtin.Str.strKind; simp [hk]
  rw [k1, k2]
  rfl
theorem tx_25 {mk c0 c1 c2 c3 c4 : Nat} (hm : mk ≠ 41 ∧ mk ≠ 120) (hk : mk < 256) (h0 : (c0 ≠ 41 ∧ c0 ≠ mk) ∧ c0 < 256) (h1 : (c1 ≠ 41 ∧ c1 ≠ mk) ∧ c1 < 256) (h2 : (c2 ≠ 41 ∧ c2 ≠ mk) ∧ c2 < 256) (h3 : (c3 ≠ 41 ∧ c3 ≠ mk) ∧ c3 < 256) (h4 : (c4 ≠ 41 ∧ c4 ≠ mk) ∧ c4 < 256) :
    Txt.slice ⟨#[50, 50, 57, 32, 40, mk, mk, mk, 120, c0, c1, c2, c3, c4, mk, 41]⟩ none (some 3) = PySem.Str.ofString "229" ∧ Txt.find ⟨#[50, 50, 57, 32, 40, mk, mk, mk, 120, c0, c1, c2, c3, c4, mk, 41]⟩ (PySem.Str.ofString "(") = 4 ∧ Txt.find3 ⟨#[50, 50, 57, 32, 40, mk, mk, mk, 120, c0, c1, c2, c3, c4, mk, 41]⟩ (PySem.Str.ofString ")") (4 + 1) = 15 ∧ Txt.item ⟨#[50, 50, 57, 32, 40, mk, mk, mk, 120, c0, c1, c2, c3, c4, mk, 41]⟩ (4 + 1) = ⟨#[mk]⟩ ∧ Txt.item ⟨#[50, 50, 57, 32, 40, mk, mk, mk, 120, c0, c1, c2, c3, c4, mk, 41]⟩ (15 - 1) = ⟨#[mk]⟩ ∧
      Txt.slice ⟨#[50, 50, 57, 32, 40, mk, mk, mk, 120, c0, c1, c2, c3, c4, mk, 41]⟩ (some (4 + 1)) (some 15) = ⟨#[mk, mk, mk, 120, c0, c1, c2, c3, c4, mk]⟩ := by
  refine ⟨rfl, ?_, ?_, rfl, rfl, rfl⟩
  · unfold Txt.find
    rw [show PySem.Str.ofString "(" = ⟨#[40]⟩ from rfl, occ_one]
    rfl
  · unfold Txt.find3
    rw [show PySem.Str.ofString ")" = ⟨#[41]⟩ from rfl, occ_one]
    have e : (List.filter (fun i : Nat => (⟨#[50, 50, 57, 32, 40, mk, mk, mk, 120, c0, c1, c2, c3, c4, mk, 41]⟩ : PySem.Str).cps.toList[i]? == some 41) [5, 6, 7, 8, 9, 10, 11, 12, 13, 14, 15, 16]).take 1 = [15] := by
      simp [List.filter_cons, hm, h0, h1, h2, h3, h4]
    show (match (List.filter (fun i : Nat => (⟨#[50, 50, 57, 32, 40, mk, mk, mk, 120, c0, c1, c2, c3, c4, mk, 41]⟩ : PySem.Str).cps.toList[i]? == some 41) [5, 6, 7, 8, 9, 10, 11, 12, 13, 14, 15, 16]).take 1 with | k :: _ => ((k : Nat) : Int) | [] => -1) = 15
    rw [e]
    rfl
theorem sp_25 {mk c0 c1 c2 c3 c4 : Nat} (hm : mk ≠ 41 ∧ mk ≠ 120) (hk : mk < 256) (h0 : (c0 ≠ 41 ∧ c0 ≠ mk) ∧ c0 < 256) (h1 : (c1 ≠ 41 ∧ c1 ≠ mk) ∧ c1 < 256) (h2 : (c2 ≠ 41 ∧ c2 ≠ mk) ∧ c2 < 256) (h3 : (c3 ≠ 41 ∧ c3 ≠ mk) ∧ c3 < 256) (h4 : (c4 ≠ 41 ∧ c4 ≠ mk) ∧ c4 < 256) :
    Txt.split ⟨#[mk, mk, mk, 120, c0, c1, c2, c3, c4, mk]⟩ ⟨#[mk]⟩ = [⟨#[]⟩, ⟨#[]⟩, ⟨#[]⟩, ⟨#[120, c0, c1, c2, c3, c4]⟩, ⟨#[]⟩] := by
  have hm' : (120 = mk) = False := eq_false fun q => hm.2 q.symm
  have ho : Builtin.Str.occurrences ⟨#[mk, mk, mk, 120, c0, c1, c2, c3, c4, mk]⟩ ⟨#[mk]⟩ 0 (⟨#[mk, mk, mk, 120, c0, c1, c2, c3, c4, mk]⟩ : PySem.Str).length ((⟨#[mk, mk, mk, 120, c0, c1, c2, c3, c4, mk]⟩ : PySem.Str).length + 1) = [0, 1, 2, 9] := by
    rw [occ_one]
    show (List.filter (fun i : Nat => (⟨#[mk, mk, mk, 120, c0, c1, c2, c3, c4, mk]⟩ : PySem.Str).cps.toList[i]? == some mk) [0, 1, 2, 3, 4, 5, 6, 7, 8, 9, 10]).take 11 = [0, 1, 2, 9]
    simp [List.filter_cons, hm', h0, h1, h2, h3, h4]
  unfold Txt.split
  rw [ho]
  have k1 : Builtin.Str.strKind ⟨#[mk, mk, mk, 120, c0, c1, c2, c3, c4, mk]⟩ = 1 := by unfold Builtin.Str.strKind; simp [hk, h0, h1, h2, h3, h4]
  have k2 : Builtin.Str.strKind ⟨#[mk]⟩ = 1 := by unfold Builtin.Str.strKind; simp [hk]
  rw [k1, k2]
  rfl
theorem tx_35 {mk c0 c1 c2 c3 c4 : Nat} (hm : mk ≠ 41 ∧ mk ≠ 120) (hk : mk < 256) (h0 : (c0 ≠ 41 ∧ c0 ≠ mk) ∧ c0 < 256) (h1 : (c1 ≠ 41 ∧ c1 ≠ mk) ∧ c1 < 256) (h2 : (c2 ≠ 41 ∧ c2 ≠ mk) ∧ c2 < 256) (h3 : (c3 ≠ 41 ∧ c3 ≠ mk) ∧ c3 < 256) (h4 : (c4 ≠ 41 ∧ c4 ≠ mk) ∧ c4 < 256) :
    Txt.slice ⟨#[50, 50, 57, 32, 40, mk, mk, mk, c0, c1, c2, c3, c4, mk, 120, 41]⟩ none (some 3) = PySem.Str.ofString "229" ∧ Txt.find ⟨#[50, 50, 57, 32, 40, mk, mk, mk, c0, c1, c2, c3, c4, mk, 120, 41]⟩ (PySem.Str.ofString "(") = 4 ∧ Txt.find3 ⟨#[50, 50, 57, 32, 40, mk, mk, mk, c0, c1, c2, c3, c4, mk, 120, 41]⟩ (PySem.Str.ofString ")") (4 + 1) = 15 ∧ Txt.item ⟨#[50, 50, 57, 32, 40, mk, mk, mk, c0, c1, c2, c3, c4, mk, 120, 41]⟩ (4 + 1) = ⟨#[mk]⟩ ∧ Txt.item ⟨#[50, 50, 57, 32, 40, mk, mk, mk, c0, c1, c2, c3, c4, mk, 120, 41]⟩ (15 - 1) = ⟨#[120]⟩ ∧
      Txt.slice ⟨#[50, 50, 57, 32, 40, mk, mk, mk, c0, c1, c2, c3, c4, mk, 120, 41]⟩ (some (4 + 1)) (some 15) = ⟨#[mk, mk, mk, c0, c1, c2, c3, c4, mk, 120]⟩ := by
  refine ⟨rfl, ?_, ?_, rfl, rfl, rfl⟩
  · unfold Txt.find
    rw [show PySem.Str.ofString "(" = ⟨#[40]⟩ from rfl, occ_one]
    rfl
  · unfold Txt.find3
    rw [show PySem.Str.ofString ")" = ⟨#[41]⟩ from rfl, occ_one]
    have e : (List.filter (fun i : Nat => (⟨#[50, 50, 57, 32, 40, mk, mk, mk, c0, c1, c2, c3, c4, mk, 120, 41]⟩ : PySem.Str).cps.toList[i]? == some 41) [5, 6, 7, 8, 9, 10, 11, 12, 13, 14, 15, 16]).take 1 = [15] := by
      simp [List.filter_cons, hm, h0, h1, h2, h3, h4]
    show (match (List.filter (fun i : Nat => (⟨#[50, 50, 57, 32, 40, mk, mk, mk, c0, c1, c2, c3, c4, mk, 120, 41]⟩ : PySem.Str).cps.toList[i]? == some 41) [5, 6, 7, 8, 9, 10, 11, 12, 13, 14, 15, 16]).take 1 with | k :: _ => ((k : Nat) : Int) | [] => -1) = 15
    rw [e]
    rfl
end
section
open PySem PySem.W PyProof.Rows PySem.Calls Builtin PySem.StrLaws PySem.NumText
set_option Elab.async false
set_option maxRecDepth 100000
set_option linter.unusedVariables false
set_option linter.unusedSimpArgs false
theorem val_zeros (L : List Nat) : ∀ k, digitsVal (List.replicate k 48 ++ L) = digitsVal L
  | 0 => rfl
  | k + 1 => by
    rw [List.replicate_succ, List.cons_append, digitsVal_zero]
    exact val_zeros L k
theorem mul0 {k : Int} (h0 : 0 ≤ k) (h4 : k ≤ 4) : (Txt.mul (PySem.Str.ofString "0") k).cps.toList = List.replicate k.toNat 48 := by
  have : k = 0 ∨ k = 1 ∨ k = 2 ∨ k = 3 ∨ k = 4 := by omega
  rcases this with rfl | rfl | rfl | rfl | rfl <;> rfl
theorem str_ext {x y : PySem.Str} (h : x.cps.toList = y.cps.toList) : x = y := by
  cases x; cases y
  exact congrArg PySem.Str.mk (Array.ext' h)
theorem digits_nat (m : Nat) : AllDigits ((Nat.toDigits 10 m).map Char.toNat) := by
  intro c hc
  obtain ⟨d, hd, rfl⟩ := List.mem_map.mp hc
  have := Nat.isDigit_of_mem_toDigits (b := 10) (by decide) (by decide) hd
  simp only [Char.isDigit, Bool.and_eq_true, decide_eq_true_eq] at this
  exact ⟨UInt32.le_iff_toNat_le.mp this.1, UInt32.le_iff_toNat_le.mp this.2⟩
theorem piece_digits {wd n : Int} (h0 : 1 ≤ n) (h1 : n ≤ 65521) (hw : 4 ≤ wd) (hw2 : wd ≤ 5) (hf : n ≤ 9999 ∨ wd = 5) :
    ∃ L : List Nat, pieceF wd n = ⟨L.toArray⟩ ∧ (L.length : Int) = wd ∧ AllDigits L ∧ (digitsVal L : Int) = n := by
  have hl := pieceF_len h0 h1 hw hw2 hf
  obtain ⟨m, rfl⟩ := Int.eq_ofNat_of_zero_le (show 0 ≤ n by omega)
  refine ⟨(pieceF wd m).cps.toList, rfl, ?_, ?_, ?_⟩
  · rw [Array.length_toList]; exact hl
  · have e5 := num_len (M := (m : Int)) (by omega) (k := 5) (by decide)
    unfold pieceF
    intro c hc
    rw [PySem.Str.cps_append, Array.toList_append] at hc
    rcases List.mem_append.mp hc with hc | hc
    · have hk : (PySem.Str.ofString (toString (m : Int))).length ≥ 1 := KLn.one_le (by omega)
      by_cases hn : 0 ≤ wd - ((PySem.Str.ofString (toString (m : Int))).length : Int)
      · rw [mul0 hn (by omega)] at hc
        rw [List.eq_of_mem_replicate hc]
        decide
      · unfold Txt.mul at hc
        rw [if_pos (by omega)] at hc
        exact nomatch hc
    · rw [KIN.signs_num] at hc
      exact digits_nat m c hc
  · have hk : (PySem.Str.ofString (toString (m : Int))).length ≥ 1 := KLn.one_le (by omega)
    unfold pieceF at hl ⊢
    rw [PySem.Str.cps_append, Array.toList_append, KIN.signs_num]
    by_cases hn : 0 ≤ wd - ((PySem.Str.ofString (toString (m : Int))).length : Int)
    · rw [mul0 hn (by omega), val_zeros, KIN.val_back]
    · unfold Txt.mul
      rw [if_pos (by omega)]
      show ((digitsVal ([] ++ _) : Nat) : Int) = _
      rw [List.nil_append, KIN.val_back]
theorem dgt_all : ∀ d : Fin 10, PySem.Str.ofString (toString ((d.val : Nat) : Int)) = ⟨#[48 + d.val]⟩ := by decide +kernel
theorem dg_text {dg : Int} (g0 : 0 ≤ dg) (g1 : dg ≤ 9) : PySem.Str.ofString (toString dg) = ⟨#[48 + dg.toNat]⟩ := by
  obtain ⟨d, rfl⟩ := fin_of (n := 10) g0 (Int.lt_of_le_of_lt g1 (by decide))
  exact dgt_all d
end
section
open PySem PySem.W PyProof.Rows PySem.Calls Builtin PySem.StrLaws PySem.NumText
set_option Elab.async false
set_option maxRecDepth 100000
set_option linter.unusedVariables false
set_option linter.unusedSimpArgs false
set_option maxHeartbeats 1000000
theorem slice_of {x : PySem.Str} {n : Nat} {l u : Option Int} {js : List Nat} (hn : x.length = n) (hi : Builtin.Str.strSliceIndices l u 1 n = js) (hne : (js.length == n) = false) : Txt.slice x l u = ⟨(js.filterMap (x.cps[·]?)).toArray⟩ := by
  unfold Txt.slice
  rw [hn, hi, hne]
  rfl
theorem dig4 (a b c d : Nat) : digitsVal [a, b, c, d] = ((((0 * 10 + (a - 48)) * 10 + (b - 48)) * 10 + (c - 48)) * 10 + (d - 48)) := rfl
theorem dig5 (a b c d e : Nat) : digitsVal [a, b, c, d, e] = (((((0 * 10 + (a - 48)) * 10 + (b - 48)) * 10 + (c - 48)) * 10 + (d - 48)) * 10 + (e - 48)) := rfl
theorem all_mem {L : List Nat} (h : AllDigits L) (c : Nat) (hc : c ∈ L) : 48 ≤ c ∧ c ≤ 57 := h c hc
theorem list4 {L : List Nat} (h : L.length = 4) : ∃ a b c d, L = [a, b, c, d] := len4 h
theorem list5 {L : List Nat} (h : L.length = 5) : ∃ a b c d e, L = [a, b, c, d, e] := len5 h
theorem dv_fold (S : List Nat) : ∀ (x : Nat), S.foldl (fun acc c => acc * 10 + (c - 48)) x = x * 10 ^ S.length + digitsVal S := by
  induction S with
  | nil => intro x; show x = x * 10 ^ 0 + 0; rw [Nat.pow_zero, Nat.mul_one, Nat.add_zero]
  | cons c S ih =>
    intro x
    show S.foldl _ (x * 10 + (c - 48)) = x * 10 ^ (S.length + 1) + S.foldl _ (0 * 10 + (c - 48))
    rw [ih, ih, Nat.zero_mul, Nat.zero_add, Nat.add_mul, Nat.pow_succ, Nat.mul_assoc, Nat.mul_comm 10, Nat.add_assoc]
theorem dv_app (P S : List Nat) : digitsVal (P ++ S) = digitsVal P * 10 ^ S.length + digitsVal S := by
  show List.foldl _ _ _ = _
  rw [List.foldl_append]
  exact dv_fold S _
theorem dv_lt {S : List Nat} (h : AllDigits S) : digitsVal S < 10 ^ S.length := by
  induction S with
  | nil => exact Nat.one_pos
  | cons c S ih =>
    have hc := h.head
    have h1 := ih h.tail
    have e : digitsVal (c :: S) = (c - 48) * 10 ^ S.length + digitsVal S := by
      have := dv_app [c] S
      rw [show digitsVal [c] = 0 * 10 + (c - 48) from rfl, Nat.zero_mul, Nat.zero_add] at this
      exact this
    have h2 : (c - 48) * 10 ^ S.length ≤ 9 * 10 ^ S.length := Nat.mul_le_mul_right _ (by omega)
    rw [e, List.length_cons, Nat.pow_succ]
    omega
theorem ov {hi dig lo W dg n : Int} (hn : n = (hi * 10 + dig) * W + lo) (hW : 0 < W) (l0 : 0 ≤ lo) (l1 : lo < W) (d0 : 0 ≤ dig) (d1 : dig ≤ 9) : n + (dg - n / W % 10) * W = (hi * 10 + dg) * W + lo := by
  have e : n / W = hi * 10 + dig := by
    rw [hn, Int.add_comm, Int.add_mul_ediv_right _ _ (Int.ne_of_gt hW), Int.ediv_eq_zero_of_lt l0 l1, Int.zero_add]
  rw [e, Int.add_comm (hi * 10) dig, Int.add_mul_emod_self_right, Int.emod_eq_of_lt d0 (by omega), hn, Int.add_mul, Int.add_mul, Int.sub_mul]
  omega
/-- one figure overwritten -/
theorem dv_over {P S : List Nat} {c : Nat} {n dg : Int} (hA : AllDigits (P ++ c :: S)) (hv : (digitsVal (P ++ c :: S) : Int) = n) (g0 : 0 ≤ dg) :
    (digitsVal (P ++ (48 + dg.toNat) :: S) : Int) = n + (dg - n / 10 ^ S.length % 10) * 10 ^ S.length := by
  have hc := hA c (by simp)
  have hS : AllDigits S := fun z hz => hA z (by simp [hz])
  have e : ∀ x : Nat, digitsVal (P ++ x :: S) = (digitsVal P * 10 + (x - 48)) * 10 ^ S.length + digitsVal S := fun x => by
    rw [show P ++ x :: S = (P ++ [x]) ++ S by simp, dv_app, digitsVal_snoc]
  have hl := dv_lt hS
  rw [e] at hv
  have hl2 : (digitsVal S : Int) < (10 : Int) ^ S.length := by exact_mod_cast hl
  have q := ov (hi := digitsVal P) (dig := ((c - 48 : Nat) : Int)) (lo := digitsVal S) (W := (10 : Int) ^ S.length) (dg := dg) (n := n) (by rw [← hv]; push_cast; rfl) (by omega) (by omega) hl2 (by omega) (by omega)
  rw [e, q, show 48 + dg.toNat - 48 = dg.toNat by omega]
  push_cast
  rw [Int.toNat_of_nonneg g0]
theorem dg_all {P S : List Nat} {c : Nat} {dg : Int} (hA : AllDigits (P ++ c :: S)) (g0 : 0 ≤ dg) (g1 : dg ≤ 9) : AllDigits (P ++ (48 + dg.toNat) :: S) := fun z hz => by
  rcases List.mem_append.mp hz with h | h
  · exact hA z (List.mem_append_left _ h)
  · rcases List.mem_cons.mp h with rfl | h
    · omega
    · exact hA z (List.mem_append_right _ (.tail _ h))
theorem over4 {x9 : PySem.Str} {n at' dg : Int} {a b c d : Nat} (hL : x9 = ⟨#[a, b, c, d]⟩) (hA : AllDigits [a, b, c, d]) (hv : (digitsVal [a, b, c, d] : Int) = n) (a0 : 0 ≤ at') (a1 : at' < 4) (g0 : 0 ≤ dg) (g1 : dg ≤ 9) :
    ∃ L : List Nat, Txt.slice x9 none (some at') ++ PySem.Str.ofString (toString dg) ++ Txt.slice x9 (some (at' + 1)) none = ⟨L.toArray⟩ ∧ L.length = 4 ∧ AllDigits L ∧
      (digitsVal L : Int) = n + (dg - n / 10 ^ (4 - 1 - at').toNat % 10) * 10 ^ (4 - 1 - at').toNat := by
  have : at' = 0 ∨ at' = 1 ∨ at' = 2 ∨ at' = 3 := by omega
  rcases this with rfl | rfl | rfl | rfl
  · refine ⟨[48 + dg.toNat, b, c, d], ?_, rfl, ?_, ?_⟩
    · rw [hL, dg_text g0 g1]
      generalize 48 + dg.toNat = x
      have s1 : Txt.slice ⟨#[a, b, c, d]⟩ none (some 0) = ⟨#[]⟩ := slice_of (n := 4) (js := []) rfl (by decide) (by decide)
      have s2 : Txt.slice ⟨#[a, b, c, d]⟩ (some (0 + 1)) none = ⟨#[b, c, d]⟩ := slice_of (n := 4) (js := [1, 2, 3]) rfl (by decide) (by decide)
      rw [s1, s2]
      exact str_ext rfl
    · exact dg_all (P := []) (S := [b, c, d]) hA g0 g1
    · exact dv_over (P := []) (S := [b, c, d]) hA hv g0
  · refine ⟨[a, 48 + dg.toNat, c, d], ?_, rfl, ?_, ?_⟩
    · rw [hL, dg_text g0 g1]
      generalize 48 + dg.toNat = x
      have s1 : Txt.slice ⟨#[a, b, c, d]⟩ none (some 1) = ⟨#[a]⟩ := slice_of (n := 4) (js := [0]) rfl (by decide) (by decide)
      have s2 : Txt.slice ⟨#[a, b, c, d]⟩ (some (1 + 1)) none = ⟨#[c, d]⟩ := slice_of (n := 4) (js := [2, 3]) rfl (by decide) (by decide)
      rw [s1, s2]
      exact str_ext rfl
    · exact dg_all (P := [a]) (S := [c, d]) hA g0 g1
    · exact dv_over (P := [a]) (S := [c, d]) hA hv g0
  · refine ⟨[a, b, 48 + dg.toNat, d], ?_, rfl, ?_, ?_⟩
    · rw [hL, dg_text g0 g1]
      generalize 48 + dg.toNat = x
      have s1 : Txt.slice ⟨#[a, b, c, d]⟩ none (some 2) = ⟨#[a, b]⟩ := slice_of (n := 4) (js := [0, 1]) rfl (by decide) (by decide)
      have s2 : Txt.slice ⟨#[a, b, c, d]⟩ (some (2 + 1)) none = ⟨#[d]⟩ := slice_of (n := 4) (js := [3]) rfl (by decide) (by decide)
      rw [s1, s2]
      exact str_ext rfl
    · exact dg_all (P := [a, b]) (S := [d]) hA g0 g1
    · exact dv_over (P := [a, b]) (S := [d]) hA hv g0
  · refine ⟨[a, b, c, 48 + dg.toNat], ?_, rfl, ?_, ?_⟩
    · rw [hL, dg_text g0 g1]
      generalize 48 + dg.toNat = x
      have s1 : Txt.slice ⟨#[a, b, c, d]⟩ none (some 3) = ⟨#[a, b, c]⟩ := slice_of (n := 4) (js := [0, 1, 2]) rfl (by decide) (by decide)
      have s2 : Txt.slice ⟨#[a, b, c, d]⟩ (some (3 + 1)) none = ⟨#[]⟩ := slice_of (n := 4) (js := []) rfl (by decide) (by decide)
      rw [s1, s2]
      exact str_ext rfl
    · exact dg_all (P := [a, b, c]) (S := []) hA g0 g1
    · exact dv_over (P := [a, b, c]) (S := []) hA hv g0
theorem over5 {x9 : PySem.Str} {n at' dg : Int} {a b c d e : Nat} (hL : x9 = ⟨#[a, b, c, d, e]⟩) (hA : AllDigits [a, b, c, d, e]) (hv : (digitsVal [a, b, c, d, e] : Int) = n) (a0 : 0 ≤ at') (a1 : at' < 5) (g0 : 0 ≤ dg) (g1 : dg ≤ 9) :
    ∃ L : List Nat, Txt.slice x9 none (some at') ++ PySem.Str.ofString (toString dg) ++ Txt.slice x9 (some (at' + 1)) none = ⟨L.toArray⟩ ∧ L.length = 5 ∧ AllDigits L ∧
      (digitsVal L : Int) = n + (dg - n / 10 ^ (5 - 1 - at').toNat % 10) * 10 ^ (5 - 1 - at').toNat := by
  have : at' = 0 ∨ at' = 1 ∨ at' = 2 ∨ at' = 3 ∨ at' = 4 := by omega
  rcases this with rfl | rfl | rfl | rfl | rfl
  · refine ⟨[48 + dg.toNat, b, c, d, e], ?_, rfl, ?_, ?_⟩
    · rw [hL, dg_text g0 g1]
      generalize 48 + dg.toNat = x
      have s1 : Txt.slice ⟨#[a, b, c, d, e]⟩ none (some 0) = ⟨#[]⟩ := slice_of (n := 5) (js := []) rfl (by decide) (by decide)
      have s2 : Txt.slice ⟨#[a, b, c, d, e]⟩ (some (0 + 1)) none = ⟨#[b, c, d, e]⟩ := slice_of (n := 5) (js := [1, 2, 3, 4]) rfl (by decide) (by decide)
      rw [s1, s2]
      exact str_ext rfl
    · exact dg_all (P := []) (S := [b, c, d, e]) hA g0 g1
    · exact dv_over (P := []) (S := [b, c, d, e]) hA hv g0
  · refine ⟨[a, 48 + dg.toNat, c, d, e], ?_, rfl, ?_, ?_⟩
    · rw [hL, dg_text g0 g1]
      generalize 48 + dg.toNat = x
      have s1 : Txt.slice ⟨#[a, b, c, d, e]⟩ none (some 1) = ⟨#[a]⟩ := slice_of (n := 5) (js := [0]) rfl (by decide) (by decide)
      have s2 : Txt.slice ⟨#[a, b, c, d, e]⟩ (some (1 + 1)) none = ⟨#[c, d, e]⟩ := slice_of (n := 5) (js := [2, 3, 4]) rfl (by decide) (by decide)
      rw [s1, s2]
      exact str_ext rfl
    · exact dg_all (P := [a]) (S := [c, d, e]) hA g0 g1
    · exact dv_over (P := [a]) (S := [c, d, e]) hA hv g0
  · refine ⟨[a, b, 48 + dg.toNat, d, e], ?_, rfl, ?_, ?_⟩
    · rw [hL, dg_text g0 g1]
      generalize 48 + dg.toNat = x
      have s1 : Txt.slice ⟨#[a, b, c, d, e]⟩ none (some 2) = ⟨#[a, b]⟩ := slice_of (n := 5) (js := [0, 1]) rfl (by decide) (by decide)
      have s2 : Txt.slice ⟨#[a, b, c, d, e]⟩ (some (2 + 1)) none = ⟨#[d, e]⟩ := slice_of (n := 5) (js := [3, 4]) rfl (by decide) (by decide)
      rw [s1, s2]
      exact str_ext rfl
    · exact dg_all (P := [a, b]) (S := [d, e]) hA g0 g1
    · exact dv_over (P := [a, b]) (S := [d, e]) hA hv g0
  · refine ⟨[a, b, c, 48 + dg.toNat, e], ?_, rfl, ?_, ?_⟩
    · rw [hL, dg_text g0 g1]
      generalize 48 + dg.toNat = x
      have s1 : Txt.slice ⟨#[a, b, c, d, e]⟩ none (some 3) = ⟨#[a, b, c]⟩ := slice_of (n := 5) (js := [0, 1, 2]) rfl (by decide) (by decide)
      have s2 : Txt.slice ⟨#[a, b, c, d, e]⟩ (some (3 + 1)) none = ⟨#[e]⟩ := slice_of (n := 5) (js := [4]) rfl (by decide) (by decide)
      rw [s1, s2]
      exact str_ext rfl
    · exact dg_all (P := [a, b, c]) (S := [e]) hA g0 g1
    · exact dv_over (P := [a, b, c]) (S := [e]) hA hv g0
  · refine ⟨[a, b, c, d, 48 + dg.toNat], ?_, rfl, ?_, ?_⟩
    · rw [hL, dg_text g0 g1]
      generalize 48 + dg.toNat = x
      have s1 : Txt.slice ⟨#[a, b, c, d, e]⟩ none (some 4) = ⟨#[a, b, c, d]⟩ := slice_of (n := 5) (js := [0, 1, 2, 3]) rfl (by decide) (by decide)
      have s2 : Txt.slice ⟨#[a, b, c, d, e]⟩ (some (4 + 1)) none = ⟨#[]⟩ := slice_of (n := 5) (js := []) rfl (by decide) (by decide)
      rw [s1, s2]
      exact str_ext rfl
    · exact dg_all (P := [a, b, c, d]) (S := []) hA g0 g1
    · exact dv_over (P := [a, b, c, d]) (S := []) hA hv g0

/-- what the reply's number reads as -/
theorem piece_over {wd n col at' dg p : Int} (h0 : 1 ≤ n) (h1 : n ≤ 65521) (hw : 4 ≤ wd) (hw2 : wd ≤ 5) (hf : n ≤ 9999 ∨ wd = 5) (a0 : 0 ≤ at') (a1 : at' < wd) (g0 : 0 ≤ dg) (g1 : dg ≤ 9) :
    ∃ L : List Nat, pieceO wd n col at' dg p = ⟨L.toArray⟩ ∧ (L.length : Int) = wd ∧ AllDigits L ∧ (digitsVal L : Int) = if p = col then n + (dg - n / 10 ^ (wd - 1 - at').toNat % 10) * 10 ^ (wd - 1 - at').toNat else n := by
  obtain ⟨L, hL, hl, hA, hv⟩ := piece_digits h0 h1 hw hw2 hf
  unfold pieceO
  by_cases hp : p = col
  · rw [if_pos hp, if_pos hp]
    have : wd = 4 ∨ wd = 5 := by omega
    rcases this with rfl | rfl
    · obtain ⟨a, b, c, d, rfl⟩ := list4 (show L.length = 4 by omega)
      obtain ⟨L', e1, e2, e3, e4⟩ := over4 hL hA hv a0 a1 g0 g1
      exact ⟨L', e1, by rw [e2]; rfl, e3, e4⟩
    · obtain ⟨a, b, c, d, e, rfl⟩ := list5 (show L.length = 5 by omega)
      obtain ⟨L', e1, e2, e3, e4⟩ := over5 hL hA hv a0 a1 g0 g1
      exact ⟨L', e1, by rw [e2]; rfl, e3, e4⟩
  · rw [if_neg hp, if_neg hp]
    exact ⟨L, hL, hl, hA, hv⟩
end
section
open PySem PySem.W PyProof.Rows PySem.Calls Builtin PySem.StrLaws PySem.NumText
set_option Elab.async false
set_option maxRecDepth 100000
set_option linter.unusedVariables false
set_option linter.unusedSimpArgs false
theorem mark_is {p : Int} (h1 : 1 ≤ p) (h6 : p ≤ 6) : ∃ mk : Nat, markF p = ⟨#[mk]⟩ ∧ (mk ≠ 41 ∧ mk ≠ 120) ∧ mk < 256 ∧ ∀ c, 48 ≤ c → c ≤ 57 → c ≠ mk := by
  have : p = 1 ∨ p = 2 ∨ p = 3 ∨ p = 4 ∨ p = 5 ∨ p = 6 := by omega
  rcases this with rfl | rfl | rfl | rfl | rfl | rfl
  · exact ⟨124, rfl, by decide, by decide, fun c _ _ => by omega⟩
  · exact ⟨33, rfl, by decide, by decide, fun c _ _ => by omega⟩
  · exact ⟨47, rfl, by decide, by decide, fun c _ _ => by omega⟩
  · exact ⟨126, rfl, by decide, by decide, fun c _ _ => by omega⟩
  · exact ⟨59, rfl, by decide, by decide, fun c _ _ => by omega⟩
  · exact ⟨35, rfl, by decide, by decide, fun c _ _ => by omega⟩
theorem mul2 (c : Nat) : Txt.mul ⟨#[c]⟩ 2 = ⟨#[c, c]⟩ := rfl
theorem mul3 (c : Nat) : Txt.mul ⟨#[c]⟩ 3 = ⟨#[c, c, c]⟩ := rfl
theorem dfact {L : List Nat} {mk : Nat} (hA : AllDigits L) (hd : ∀ c, 48 ≤ c → c ≤ 57 → c ≠ mk) {c : Nat} (hc : c ∈ L) : (c ≠ 41 ∧ c ≠ mk) ∧ c < 256 := by
  have := hA c hc
  exact ⟨⟨by omega, hd c this.1 this.2⟩, by omega⟩
theorem int_digits {L : List Nat} (hA : AllDigits L) (hne : L ≠ []) (hl : L.length ≤ 4300) : PySem.intText? ⟨L.toArray⟩ = some ((digitsVal L : Nat) : Int) :=
  intText_digits (x := ⟨L.toArray⟩) hA hne (by show L.toArray.size ≤ _; rw [List.size_toArray]; exact hl)

/-- a reply that is heard -/
structure Heard (r : PySem.Str) (n : Int) : Prop where
  out : ∃ (mk body s0 s1 s2 s3 s4 : PySem.Str) (R : Int), r.length ≤ 100 ∧ body.length ≤ 100 ∧ s3.length ≤ 100 ∧ 5 ≤ R ∧ R < r.length ∧ (mk.length == 0) = false ∧ Txt.slice r none (some 3) = PySem.Str.ofString "229" ∧ Txt.find r (PySem.Str.ofString "(") = 4 ∧
    Txt.find3 r (PySem.Str.ofString ")") (4 + 1) = R ∧ Txt.item r (4 + 1) = mk ∧ Txt.item r (R - 1) = mk ∧ Txt.slice r (some (4 + 1)) (some R) = body ∧ Txt.split body mk = [s0, s1, s2, s3, s4] ∧ PySem.intText? s3 = some n
/-- a reply whose number has another sign before it -/
structure BadNum (r : PySem.Str) : Prop where
  out : ∃ (mk body s0 s1 s2 s3 s4 : PySem.Str) (R : Int), r.length ≤ 100 ∧ body.length ≤ 100 ∧ s3.length ≤ 100 ∧ 5 ≤ R ∧ R < r.length ∧ (mk.length == 0) = false ∧ Txt.slice r none (some 3) = PySem.Str.ofString "229" ∧ Txt.find r (PySem.Str.ofString "(") = 4 ∧
    Txt.find3 r (PySem.Str.ofString ")") (4 + 1) = R ∧ Txt.item r (4 + 1) = mk ∧ Txt.item r (R - 1) = mk ∧ Txt.slice r (some (4 + 1)) (some R) = body ∧ Txt.split body mk = [s0, s1, s2, s3, s4] ∧ ∃ L, s3 = ⟨(120 :: L).toArray⟩ ∧ AllDigits L ∧ L.length ≤ 5
/-- a reply of four parts -/
structure BadCount (r : PySem.Str) : Prop where
  out : ∃ (mk body s0 s1 s2 s3 : PySem.Str) (R : Int), r.length ≤ 100 ∧ body.length ≤ 100 ∧ 5 ≤ R ∧ R < r.length ∧ (mk.length == 0) = false ∧ Txt.slice r none (some 3) = PySem.Str.ofString "229" ∧ Txt.find r (PySem.Str.ofString "(") = 4 ∧
    Txt.find3 r (PySem.Str.ofString ")") (4 + 1) = R ∧ Txt.item r (4 + 1) = mk ∧ Txt.item r (R - 1) = mk ∧ Txt.slice r (some (4 + 1)) (some R) = body ∧ Txt.split body mk = [s0, s1, s2, s3]
/-- a reply whose last sign is not its first -/
structure BadMark (r : PySem.Str) : Prop where
  out : ∃ (mk mk2 : PySem.Str) (R : Int), r.length ≤ 100 ∧ 5 ≤ R ∧ R < r.length ∧ (mk.length == 0) = false ∧ Txt.slice r none (some 3) = PySem.Str.ofString "229" ∧ Txt.find r (PySem.Str.ofString "(") = 4 ∧
    Txt.find3 r (PySem.Str.ofString ")") (4 + 1) = R ∧ Txt.item r (4 + 1) = mk ∧ Txt.item r (R - 1) = mk2 ∧ mk ≠ mk2
/-- a reply of another code -/
structure BadCode (r : PySem.Str) : Prop where
  len : r.length ≤ 100
  out : Txt.slice r none (some 3) = PySem.Str.ofString "250"
theorem heard4 {mk : Nat} {a b c d : Nat} {r : PySem.Str} (hm : mk ≠ 41 ∧ mk ≠ 120) (hk : mk < 256) (hdig : ∀ c, 48 ≤ c → c ≤ 57 → c ≠ mk) (hA : AllDigits [a, b, c, d]) (hr : r = ⟨#[50, 50, 57, 32, 40, mk, mk, mk, a, b, c, d, mk, 41]⟩) : Heard r ((digitsVal [a, b, c, d] : Nat) : Int) := by
  have ha := dfact hA hdig (c := a) (by simp)
  have hb := dfact hA hdig (c := b) (by simp)
  have hc := dfact hA hdig (c := c) (by simp)
  have hd := dfact hA hdig (c := d) (by simp)
  subst hr
  obtain ⟨e1, e2, e3, e4, e5, e6⟩ := tx_n4 hm hk ha hb hc hd
  exact ⟨⟨_, _, _, _, _, _, _, _, by show 14 ≤ 100; decide, by show 8 ≤ 100; decide, by show 4 ≤ 100; decide, by decide, by show (13 : Int) < 14; decide, rfl, e1, e2, e3, e4, e5, e6, sp_n4 hm hk ha hb hc hd, int_digits hA (by simp) (by simp)⟩⟩
theorem badnum4 {mk : Nat} {a b c d : Nat} {r : PySem.Str} (hm : mk ≠ 41 ∧ mk ≠ 120) (hk : mk < 256) (hdig : ∀ c, 48 ≤ c → c ≤ 57 → c ≠ mk) (hA : AllDigits [a, b, c, d]) (hr : r = ⟨#[50, 50, 57, 32, 40, mk, mk, mk, 120, a, b, c, d, mk, 41]⟩) : BadNum r := by
  have ha := dfact hA hdig (c := a) (by simp)
  have hb := dfact hA hdig (c := b) (by simp)
  have hc := dfact hA hdig (c := c) (by simp)
  have hd := dfact hA hdig (c := d) (by simp)
  subst hr
  obtain ⟨e1, e2, e3, e4, e5, e6⟩ := tx_24 hm hk ha hb hc hd
  exact ⟨⟨_, _, _, _, _, _, _, _, by show 15 ≤ 100; decide, by show 9 ≤ 100; decide, by show 5 ≤ 100; decide, by decide, by show (14 : Int) < 15; decide, rfl, e1, e2, e3, e4, e5, e6, sp_24 hm hk ha hb hc hd, _, rfl, hA, by simp⟩⟩
theorem badcount4 {mk : Nat} {a b c d : Nat} {r : PySem.Str} (hm : mk ≠ 41 ∧ mk ≠ 120) (hk : mk < 256) (hdig : ∀ c, 48 ≤ c → c ≤ 57 → c ≠ mk) (hA : AllDigits [a, b, c, d]) (hr : r = ⟨#[50, 50, 57, 32, 40, mk, mk, a, b, c, d, mk, 41]⟩) : BadCount r := by
  have ha := dfact hA hdig (c := a) (by simp)
  have hb := dfact hA hdig (c := b) (by simp)
  have hc := dfact hA hdig (c := c) (by simp)
  have hd := dfact hA hdig (c := d) (by simp)
  subst hr
  obtain ⟨e1, e2, e3, e4, e5, e6⟩ := tx_14 hm hk ha hb hc hd
  exact ⟨⟨_, _, _, _, _, _, _, by show 13 ≤ 100; decide, by show 7 ≤ 100; decide, by decide, by show (12 : Int) < 13; decide, rfl, e1, e2, e3, e4, e5, e6, sp_14 hm hk ha hb hc hd⟩⟩
theorem badmark4 {mk : Nat} {a b c d : Nat} {r : PySem.Str} (hm : mk ≠ 41 ∧ mk ≠ 120) (hk : mk < 256) (hdig : ∀ c, 48 ≤ c → c ≤ 57 → c ≠ mk) (hA : AllDigits [a, b, c, d]) (hr : r = ⟨#[50, 50, 57, 32, 40, mk, mk, mk, a, b, c, d, mk, 120, 41]⟩) : BadMark r := by
  have ha := dfact hA hdig (c := a) (by simp)
  have hb := dfact hA hdig (c := b) (by simp)
  have hc := dfact hA hdig (c := c) (by simp)
  have hd := dfact hA hdig (c := d) (by simp)
  subst hr
  obtain ⟨e1, e2, e3, e4, e5, e6⟩ := tx_34 hm hk ha hb hc hd
  exact ⟨⟨_, _, _, by show 15 ≤ 100; decide, by decide, by show (14 : Int) < 15; decide, rfl, e1, e2, e3, e4, e5, fun q => hm.2 (by injection q with q; injection q with q; injection q)⟩⟩
theorem heard5 {mk : Nat} {a b c d e : Nat} {r : PySem.Str} (hm : mk ≠ 41 ∧ mk ≠ 120) (hk : mk < 256) (hdig : ∀ c, 48 ≤ c → c ≤ 57 → c ≠ mk) (hA : AllDigits [a, b, c, d, e]) (hr : r = ⟨#[50, 50, 57, 32, 40, mk, mk, mk, a, b, c, d, e, mk, 41]⟩) : Heard r ((digitsVal [a, b, c, d, e] : Nat) : Int) := by
  have ha := dfact hA hdig (c := a) (by simp)
  have hb := dfact hA hdig (c := b) (by simp)
  have hc := dfact hA hdig (c := c) (by simp)
  have hd := dfact hA hdig (c := d) (by simp)
  have he := dfact hA hdig (c := e) (by simp)
  subst hr
  obtain ⟨e1, e2, e3, e4, e5, e6⟩ := tx_n5 hm hk ha hb hc hd he
  exact ⟨⟨_, _, _, _, _, _, _, _, by show 15 ≤ 100; decide, by show 9 ≤ 100; decide, by show 5 ≤ 100; decide, by decide, by show (14 : Int) < 15; decide, rfl, e1, e2, e3, e4, e5, e6, sp_n5 hm hk ha hb hc hd he, int_digits hA (by simp) (by simp)⟩⟩
theorem badnum5 {mk : Nat} {a b c d e : Nat} {r : PySem.Str} (hm : mk ≠ 41 ∧ mk ≠ 120) (hk : mk < 256) (hdig : ∀ c, 48 ≤ c → c ≤ 57 → c ≠ mk) (hA : AllDigits [a, b, c, d, e]) (hr : r = ⟨#[50, 50, 57, 32, 40, mk, mk, mk, 120, a, b, c, d, e, mk, 41]⟩) : BadNum r := by
  have ha := dfact hA hdig (c := a) (by simp)
  have hb := dfact hA hdig (c := b) (by simp)
  have hc := dfact hA hdig (c := c) (by simp)
  have hd := dfact hA hdig (c := d) (by simp)
  have he := dfact hA hdig (c := e) (by simp)
  subst hr
  obtain ⟨e1, e2, e3, e4, e5, e6⟩ := tx_25 hm hk ha hb hc hd he
  exact ⟨⟨_, _, _, _, _, _, _, _, by show 16 ≤ 100; decide, by show 10 ≤ 100; decide, by show 6 ≤ 100; decide, by decide, by show (15 : Int) < 16; decide, rfl, e1, e2, e3, e4, e5, e6, sp_25 hm hk ha hb hc hd he, _, rfl, hA, by simp⟩⟩
theorem badcount5 {mk : Nat} {a b c d e : Nat} {r : PySem.Str} (hm : mk ≠ 41 ∧ mk ≠ 120) (hk : mk < 256) (hdig : ∀ c, 48 ≤ c → c ≤ 57 → c ≠ mk) (hA : AllDigits [a, b, c, d, e]) (hr : r = ⟨#[50, 50, 57, 32, 40, mk, mk, a, b, c, d, e, mk, 41]⟩) : BadCount r := by
  have ha := dfact hA hdig (c := a) (by simp)
  have hb := dfact hA hdig (c := b) (by simp)
  have hc := dfact hA hdig (c := c) (by simp)
  have hd := dfact hA hdig (c := d) (by simp)
  have he := dfact hA hdig (c := e) (by simp)
  subst hr
  obtain ⟨e1, e2, e3, e4, e5, e6⟩ := tx_15 hm hk ha hb hc hd he
  exact ⟨⟨_, _, _, _, _, _, _, by show 14 ≤ 100; decide, by show 8 ≤ 100; decide, by decide, by show (13 : Int) < 14; decide, rfl, e1, e2, e3, e4, e5, e6, sp_15 hm hk ha hb hc hd he⟩⟩
theorem badmark5 {mk : Nat} {a b c d e : Nat} {r : PySem.Str} (hm : mk ≠ 41 ∧ mk ≠ 120) (hk : mk < 256) (hdig : ∀ c, 48 ≤ c → c ≤ 57 → c ≠ mk) (hA : AllDigits [a, b, c, d, e]) (hr : r = ⟨#[50, 50, 57, 32, 40, mk, mk, mk, a, b, c, d, e, mk, 120, 41]⟩) : BadMark r := by
  have ha := dfact hA hdig (c := a) (by simp)
  have hb := dfact hA hdig (c := b) (by simp)
  have hc := dfact hA hdig (c := c) (by simp)
  have hd := dfact hA hdig (c := d) (by simp)
  have he := dfact hA hdig (c := e) (by simp)
  subst hr
  obtain ⟨e1, e2, e3, e4, e5, e6⟩ := tx_35 hm hk ha hb hc hd he
  exact ⟨⟨_, _, _, by show 16 ≤ 100; decide, by decide, by show (15 : Int) < 16; decide, rfl, e1, e2, e3, e4, e5, fun q => hm.2 (by injection q with q; injection q with q; injection q)⟩⟩

theorem talk_cps {wd n col at' dg p lost way : Int} {mk : Nat} {L : List Nat} (hmk : markF p = ⟨#[mk]⟩) (hL : pieceO wd n col at' dg p = ⟨L.toArray⟩) :
    (p ≠ lost → talkF wd n col at' dg p lost way = ⟨([50, 50, 57, 32, 40, mk, mk, mk] ++ L ++ [mk, 41]).toArray⟩) ∧
    (p = lost → way = 0 → talkF wd n col at' dg p lost way = ⟨([50, 53, 48, 32, 40, mk, mk, mk] ++ L ++ [mk, 41]).toArray⟩) ∧
    (p = lost → way = 1 → talkF wd n col at' dg p lost way = ⟨([50, 50, 57, 32, 40, mk, mk] ++ L ++ [mk, 41]).toArray⟩) ∧
    (p = lost → way = 2 → talkF wd n col at' dg p lost way = ⟨([50, 50, 57, 32, 40, mk, mk, mk, 120] ++ L ++ [mk, 41]).toArray⟩) ∧
    (p = lost → way = 3 → talkF wd n col at' dg p lost way = ⟨([50, 50, 57, 32, 40, mk, mk, mk] ++ L ++ [mk, 120, 41]).toArray⟩) := by
  have s229 : (PySem.Str.ofString "229").cps.toList = [50, 50, 57] := rfl
  have s250 : (PySem.Str.ofString "250").cps.toList = [50, 53, 48] := rfl
  have sp : (PySem.Str.ofString " (").cps.toList = [32, 40] := rfl
  have sx : (PySem.Str.ofString "x").cps.toList = [120] := rfl
  have se : (PySem.Str.ofString "").cps.toList = [] := rfl
  have sc : (PySem.Str.ofString ")").cps.toList = [41] := rfl
  refine ⟨fun h => ?_, fun h y => ?_, fun h y => ?_, fun h y => ?_, fun h y => ?_⟩
  all_goals
    unfold talkF codeF aheadF letterF lastF
    rw [hL, hmk]
    refine str_ext ?_
    first | subst y | skip
    simp [h, s229, s250, sp, sx, se, sc, mul2, mul3, PySem.Str.cps_append]
end
section
example : True ∧ True := by w_top off; first | (walk1 <;> trivial) | exact ⟨trivial, trivial⟩
open PySem PySem.W PyProof.Rows
set_option Elab.async false
set_option maxRecDepth 100000
set_option compiler.extract_closed false
set_option maxHeartbeats 8000000
set_option linter.unusedVariables false
set_option linter.unusedSimpArgs false
local macro_rules | `(tactic| k_room) => `(tactic| ktr_room)
local macro_rules | `(tactic| walk_at "callWith ref") => `(tactic| (k_here; (with_reducible show wpAny _ _ (callWith _ (Value.ref _) [] (backTo _ (starEach [Expr.Name _ _] _)) (backToKw _ (keywordEach [Keyword.mk Option.none (Expr.Name _ _) _] _))) _ _ _); (with_reducible rename Fr _ _ _ _ => kF); (with_reducible rename News _ _ _ _ => kN); k_dflt (refine' callWith_KS kF kN ?hf ?hd ?ho ?hs ?hx ?hy ?_; (case hx => exact fun s' P E' F h => ld F rfl h); (case hy => exact fun s' P E' F h => ld F rfl h); (case hf => exact fnAt_up kN (by k_mem)); (case hd => k_mem); (case ho => assumption); (case hs => assumption)); clear kF kN; intro h' F' N'; (try dsimp only)))
local macro_rules | `(tactic| walk_at $s:str) => lineAt ["compareOp NotEq str str", "subscriptTail Name Slice str ref", "subscriptTail Name BinOp str int", "call builtin:str.find", "call builtin:str.split", "call type:int", "exec FunctionDef", "call type:str"] [] s
local macro_rules | `(tactic| walk_at "ite") => `(tactic| (k_here; k_dflt (first | refine ite_neg (by first | omega | (simp only [decide_eq_true_eq]; omega)) ?_ | refine ite_pos (by first | omega | (simp only [decide_eq_true_eq]; omega)) ?_)))
theorem kts_refl (fs : List Addr) (g : Heap) : KtsTurn fs g g := .refl
section
variable {w : World}
theorem fill_he : ∀ p, (heap9 p).In {} → PySem.Challenge.rw_zd0006_01 = PySem.Challenge.rw_zd0006_01 := by
  k_fill; exact fun _ _ => rfl
def S_heard_reply (z : Zx) : Prop := (TabOk 91 4 rdr (z.v.a 0) (z.v.e 0)) → (OwnOff (z.v.e 0) [158]) → ((z.v.s 0).length ≤ 100) → (Txt.slice (z.v.s 0) none (some 3) = (z.v.s 1)) → ((z.v.s 1) ≠ PySem.Str.ofString "229") → EnteredT z.w 5 163 (z.v.e 0) [.int (z.v.i 0) (z.v.t 0), .str (z.v.s 0) (z.v.t 1)] (z.v.a 0) (fun tl ps' v => ∃ H t1 t2, v = .ref H ∧ (H, kdv_tup [.int 0 t1, .str (z.v.s 0) t2]) ∈ tl ∧ TabOk 91 4 rdr ps' (tl ++ (z.v.e 0))) z.b
noncomputable def z_heard_reply : Zx := eps S_heard_reply
theorem b_heard_reply : S_heard_reply z_heard_reply := by
  intro hps hoff hl e1 e2
  refine' EnteredT.intro ?k6 ?k7 ?k9 ?kB ?c2 ?c3 ?c4 ?c5 ?kW
  case k6 => k_is
  case k7 => k_is
  case k9 => exact rfl
  case kB => exact locs rfl
  case c2 => exact rfl
  case c3 => exact rfl
  case c4 => exact rfl
  case c5 => decide
  intro F' N' B' X' T' C' l1 D' XB TB hdp hu hQ
  replace l1 := allLt_of l1
  simp only [AllLt, and_true] at l1
  have htb9 : ∀ q ∈ (z_heard_reply.v.e 0), q ∈ (158, tabObj (z_heard_reply.v.a 0)) :: (z_heard_reply.v.e 0) := fun q hq => List.mem_cons_of_mem _ hq
  refine wpC_of ?_
  repeat' (first | (refine Stop.go ?_; first
      | ((with_reducible show wpAny _ _ (compareOp CmpOp.NotEq (Value.str _ _) (Value.str _ _)) _ _ _); first | (with_reducible refine tx_ne_same ?_) | (refine tx_ne_diff (by assumption) ?_))
      | ((with_reducible show wpAny _ _ (subscriptTail _ (Expr.Slice none (some _) none _) (Value.str _ _) (Value.ref _)) _ _ _); (with_reducible rename Fr _ _ _ _ => kF); (with_reducible rename News _ _ _ _ => kN); (refine tx_ns (s := ⟨_, _, _, _, _⟩) kF kN (by assumption) (by assumption) ?_); clear kF kN; intro _ _ _ _ _)
      | ((with_reducible show wpAny _ _ (subscriptTail _ (Expr.Slice (some _) none none _) (Value.str _ _) (Value.ref _)) _ _ _); (with_reducible rename Fr _ _ _ _ => kF); (with_reducible rename News _ _ _ _ => kN); (refine tx_sn (s := ⟨_, _, _, _, _⟩) kF kN (by assumption) (by assumption) ?_); clear kF kN; intro _ _ _ _ _)
      | ((with_reducible show wpAny _ _ (subscriptTail _ (Expr.Slice (some _) (some _) none _) (Value.str _ _) (Value.ref _)) _ _ _); (with_reducible rename Fr _ _ _ _ => kF); (with_reducible rename News _ _ _ _ => kN); (refine tx_ss (s := ⟨_, _, _, _, _⟩) kF kN (by assumption) (by assumption) ?_); clear kF kN; intro _ _ _ _ _)
      | ((with_reducible show wpAny _ _ (subscriptTail _ _ (Value.str _ _) (Value.int _ _)) _ _ _); (refine tx_item (by assumption) (by assumption) (by omega) (by omega) ?_); intro _ _)
      | ((with_reducible show wpAny _ _ (call (Value.builtin "str.find") [Value.str _ _, Value.str _ _]) _ _ _); (refine tx_find (by assumption) ?_); intro _ _)
      | ((with_reducible show wpAny _ _ (call (Value.builtin "str.find") [Value.str _ _, Value.str _ _, Value.int _ _]) _ _ _); (refine tx_find3 (by assumption) ?_); intro _ _)
      | ((with_reducible show wpAny _ _ (call (Value.builtin "str.split") [Value.str _ _, Value.str _ _]) _ _ _); first   | (refine tx_split5 (by k_asm) (by k_asm) (by assumption) (by assumption) (by assumption) ?_; intro D' ta' tb' tc' td' tf' h' k' F' N' l1; (try k_lt l1))   | (refine tx_split4 (by k_asm) (by k_asm) (by assumption) (by assumption) (by assumption) ?_; intro D' ta' tb' tc' td' h' k' F' N' l1; (try k_lt l1)))
      | ((with_reducible show wpAny _ _ (call (Value.type "int") [Value.str _ _]) _ _ _); (refine tx_int (by assumption) (by assumption) ?_); intro _ _)
      | ((with_reducible show wpAny _ _ (exec _ _) _ _ _); k_dflt (refine' nestDef_K ?d0 ?k0 ?a0 ?_; (case d0 => exact rfl); (case k0 => exact rfl); (case a0 => exact rfl)); (k_dflt (refine' nest_any ?F ?N ?T ?C ?cd ?U ?tp ?tb ?cl ?_; (case F => k_asm); (case N => k_asm); (case T => k_asm); (case cd => exact rfl); (case C => kn_code); (case U => k_updF); (case tp => assumption); (case tb => assumption); (case cl => exact rfl); k_whole)); intro f' c' oc' vs' t' ct' dc' h' tk' F' N' d1' d2' q9' l1 l2; (try dsimp only at N'); (try k_lt l1); (try k_lt2 l2))
      | ((with_reducible show wpAny _ _ (call (Value.type "str") [Value.ref _]) _ _ _); k_dflt (refine' es_got ?X ?F ?hf ?hm ?N ?G ?hu ?_; (case G => assumption); (case F => k_asm); (case N => assumption); (case X => k_asm); (case hf => k_is); (case hm => k_is); (case hu => ktr_units); k_whole))) | ((fail_if_success (with_reducible show Stop _)); first | walk1 | (dsimp only; walk1)))
  rename Fr _ _ _ _ => kF
  rename News _ _ _ _ => kNG
  rename KtsTurn _ _ _ => kT
  refine hQ _ _ _ _ _ _ kT kF kNG (FinT.intro [(_, kdv_tup [.int 0 _, .str _ _])] (by kcj_all) ?hc ?hT ?ht ?hlt (by assumption) rfl ⟨_, _, by assumption, by assumption⟩ ?hP)
  case hc => repeat (first | exact List.Mem.head _ | refine List.Mem.tail _ ?_)
  case hT => repeat (first | exact List.Mem.head _ | refine List.Mem.tail _ ?_)
  case ht => exact fun q hq => by repeat (first | exact hq | refine List.Mem.tail _ ?_)
  case hlt =>
    refine List.forall_mem_cons.mpr ⟨⟨by show (_ : Nat) < _; omega, by show (_ : Nat) < _; omega, by (first | assumption | exact And.right (by assumption) | exact And.right (And.right (by assumption)) | exact And.right (And.right (And.right (by assumption))) | exact And.right (And.right (And.right (And.right (by assumption)))) | exact And.right (And.right (And.right (And.right (And.right (by assumption))))) | exact And.right (And.right (And.right (And.right (And.right (And.right (by assumption)))))) | exact And.right (And.right (And.right (And.right (And.right (And.right (And.right (by assumption))))))) | exact And.right (And.right (And.right (And.right (And.right (And.right (And.right (And.right (by assumption)))))))) | exact And.right (And.right (And.right (And.right (And.right (And.right (And.right (And.right (And.right (by assumption))))))))) | exact And.right (And.right (And.right (And.right (And.right (And.right (And.right (And.right (And.right (And.right (by assumption)))))))))) | exact And.right (And.right (And.right (And.right (And.right (And.right (And.right (And.right (And.right (And.right (And.right (by assumption))))))))))) | exact And.right (And.right (And.right (And.right (And.right (And.right (And.right (And.right (And.right (And.right (And.right (And.right (by assumption)))))))))))) | exact And.right (And.right (And.right (And.right (And.right (And.right (And.right (And.right (And.right (And.right (And.right (And.right (And.right (by assumption))))))))))))))⟩, ?_⟩
    exact List.forall_mem_nil _
  case hP => exact fun tl hi ht => ⟨_, _, _, rfl, hi _ (List.Mem.head _), ht⟩
theorem heard_reply {p : Int} {tp : Tok} {tr : Tok} {ps : Array Value} {tb : List (Addr × Obj)} {r : PySem.Str} {y : PySem.Str} (hps : TabOk 91 4 rdr ps tb) (hoff : OwnOff tb [158]) (hl : r.length ≤ 100) (e1 : Txt.slice r none (some 3) = y) (e2 : y ≠ PySem.Str.ofString "229") : DoesTC w 6 163 ps tb [.int p tp, .str r tr] (fun tl ps' v => ∃ H t1 t2, v = .ref H ∧ (H, kdv_tup [.int 0 t1, .str r t2]) ∈ tl ∧ TabOk 91 4 rdr ps' (tl ++ tb)) :=
  does_ofT fun b => eps_all b_heard_reply ⟨w, b, { i := fun | _ => p, t := fun | 0 => tp | _ => tr, a := fun | _ => ps, e := fun | _ => tb, s := fun | 0 => r | _ => y }⟩ hps hoff hl e1 e2

def S_heard_mark (z : Zx) : Prop := (TabOk 91 4 rdr (z.v.a 0) (z.v.e 0)) → (OwnOff (z.v.e 0) [158]) → ((z.v.s 0).length ≤ 100) → (5 ≤ (z.v.i 1)) → ((z.v.i 1) < (z.v.s 0).length) → (((z.v.s 2).length == 0) = false) → (Txt.slice (z.v.s 0) none (some 3) = PySem.Str.ofString "229") → (Txt.find (z.v.s 0) (PySem.Str.ofString "(") = 4) → (Txt.find3 (z.v.s 0) (PySem.Str.ofString ")") (4 + 1) = (z.v.i 1)) → (Txt.item (z.v.s 0) (4 + 1) = (z.v.s 2)) → (Txt.item (z.v.s 0) ((z.v.i 1) - 1) = (z.v.s 1)) → ((z.v.s 2) ≠ (z.v.s 1)) → EnteredT z.w 5 163 (z.v.e 0) [.int (z.v.i 0) (z.v.t 0), .str (z.v.s 0) (z.v.t 1)] (z.v.a 0) (fun tl ps' v => ∃ H t1 t2, v = .ref H ∧ (H, kdv_tup [.int 1 t1, .str (z.v.s 0) t2]) ∈ tl ∧ TabOk 91 4 rdr ps' (tl ++ (z.v.e 0))) z.b
noncomputable def z_heard_mark : Zx := eps S_heard_mark
theorem b_heard_mark : S_heard_mark z_heard_mark := by
  intro hps hoff hl hR hR' hm e1 e2 e3 e4 e5 e6
  refine' EnteredT.intro ?k6 ?k7 ?k9 ?kB ?c2 ?c3 ?c4 ?c5 ?kW
  case k6 => k_is
  case k7 => k_is
  case k9 => exact rfl
  case kB => exact locs rfl
  case c2 => exact rfl
  case c3 => exact rfl
  case c4 => exact rfl
  case c5 => decide
  intro F' N' B' X' T' C' l1 D' XB TB hdp hu hQ
  replace l1 := allLt_of l1
  simp only [AllLt, and_true] at l1
  have htb9 : ∀ q ∈ (z_heard_mark.v.e 0), q ∈ (158, tabObj (z_heard_mark.v.a 0)) :: (z_heard_mark.v.e 0) := fun q hq => List.mem_cons_of_mem _ hq
  refine wpC_of ?_
  repeat' (first | (refine Stop.go ?_; first
      | ((with_reducible show wpAny _ _ (compareOp CmpOp.NotEq (Value.str _ _) (Value.str _ _)) _ _ _); first | (with_reducible refine tx_ne_same ?_) | (refine tx_ne_diff (by assumption) ?_))
      | ((with_reducible show wpAny _ _ (subscriptTail _ (Expr.Slice none (some _) none _) (Value.str _ _) (Value.ref _)) _ _ _); (with_reducible rename Fr _ _ _ _ => kF); (with_reducible rename News _ _ _ _ => kN); (refine tx_ns (s := ⟨_, _, _, _, _⟩) kF kN (by assumption) (by assumption) ?_); clear kF kN; intro _ _ _ _ _)
      | ((with_reducible show wpAny _ _ (subscriptTail _ (Expr.Slice (some _) none none _) (Value.str _ _) (Value.ref _)) _ _ _); (with_reducible rename Fr _ _ _ _ => kF); (with_reducible rename News _ _ _ _ => kN); (refine tx_sn (s := ⟨_, _, _, _, _⟩) kF kN (by assumption) (by assumption) ?_); clear kF kN; intro _ _ _ _ _)
      | ((with_reducible show wpAny _ _ (subscriptTail _ (Expr.Slice (some _) (some _) none _) (Value.str _ _) (Value.ref _)) _ _ _); (with_reducible rename Fr _ _ _ _ => kF); (with_reducible rename News _ _ _ _ => kN); (refine tx_ss (s := ⟨_, _, _, _, _⟩) kF kN (by assumption) (by assumption) ?_); clear kF kN; intro _ _ _ _ _)
      | ((with_reducible show wpAny _ _ (subscriptTail _ _ (Value.str _ _) (Value.int _ _)) _ _ _); (refine tx_item (by assumption) (by assumption) (by omega) (by omega) ?_); intro _ _)
      | ((with_reducible show wpAny _ _ (call (Value.builtin "str.find") [Value.str _ _, Value.str _ _]) _ _ _); (refine tx_find (by assumption) ?_); intro _ _)
      | ((with_reducible show wpAny _ _ (call (Value.builtin "str.find") [Value.str _ _, Value.str _ _, Value.int _ _]) _ _ _); (refine tx_find3 (by assumption) ?_); intro _ _)
      | ((with_reducible show wpAny _ _ (call (Value.builtin "str.split") [Value.str _ _, Value.str _ _]) _ _ _); first   | (refine tx_split5 (by k_asm) (by k_asm) (by assumption) (by assumption) (by assumption) ?_; intro D' ta' tb' tc' td' tf' h' k' F' N' l1; (try k_lt l1))   | (refine tx_split4 (by k_asm) (by k_asm) (by assumption) (by assumption) (by assumption) ?_; intro D' ta' tb' tc' td' h' k' F' N' l1; (try k_lt l1)))
      | ((with_reducible show wpAny _ _ (call (Value.type "int") [Value.str _ _]) _ _ _); (refine tx_int (by assumption) (by assumption) ?_); intro _ _)
      | ((with_reducible show wpAny _ _ (exec _ _) _ _ _); k_dflt (refine' nestDef_K ?d0 ?k0 ?a0 ?_; (case d0 => exact rfl); (case k0 => exact rfl); (case a0 => exact rfl)); (k_dflt (refine' nest_any ?F ?N ?T ?C ?cd ?U ?tp ?tb ?cl ?_; (case F => k_asm); (case N => k_asm); (case T => k_asm); (case cd => exact rfl); (case C => kn_code); (case U => k_updF); (case tp => assumption); (case tb => assumption); (case cl => exact rfl); k_whole)); intro f' c' oc' vs' t' ct' dc' h' tk' F' N' d1' d2' q9' l1 l2; (try dsimp only at N'); (try k_lt l1); (try k_lt2 l2))
      | ((with_reducible show wpAny _ _ (call (Value.type "str") [Value.ref _]) _ _ _); k_dflt (refine' es_got ?X ?F ?hf ?hm ?N ?G ?hu ?_; (case G => assumption); (case F => k_asm); (case N => assumption); (case X => k_asm); (case hf => k_is); (case hm => k_is); (case hu => ktr_units); k_whole))) | ((fail_if_success (with_reducible show Stop _)); first | walk1 | (dsimp only; walk1)))
  rename Fr _ _ _ _ => kF
  rename News _ _ _ _ => kNG
  rename KtsTurn _ _ _ => kT
  refine hQ _ _ _ _ _ _ kT kF kNG (FinT.intro [(_, kdv_tup [.int 1 _, .str _ _])] (by kcj_all) ?hc ?hT ?ht ?hlt (by assumption) rfl ⟨_, _, by assumption, by assumption⟩ ?hP)
  case hc => repeat (first | exact List.Mem.head _ | refine List.Mem.tail _ ?_)
  case hT => repeat (first | exact List.Mem.head _ | refine List.Mem.tail _ ?_)
  case ht => exact fun q hq => by repeat (first | exact hq | refine List.Mem.tail _ ?_)
  case hlt =>
    refine List.forall_mem_cons.mpr ⟨⟨by show (_ : Nat) < _; omega, by show (_ : Nat) < _; omega, by (first | assumption | exact And.right (by assumption) | exact And.right (And.right (by assumption)) | exact And.right (And.right (And.right (by assumption))) | exact And.right (And.right (And.right (And.right (by assumption)))) | exact And.right (And.right (And.right (And.right (And.right (by assumption))))) | exact And.right (And.right (And.right (And.right (And.right (And.right (by assumption)))))) | exact And.right (And.right (And.right (And.right (And.right (And.right (And.right (by assumption))))))) | exact And.right (And.right (And.right (And.right (And.right (And.right (And.right (And.right (by assumption)))))))) | exact And.right (And.right (And.right (And.right (And.right (And.right (And.right (And.right (And.right (by assumption))))))))) | exact And.right (And.right (And.right (And.right (And.right (And.right (And.right (And.right (And.right (And.right (by assumption)))))))))) | exact And.right (And.right (And.right (And.right (And.right (And.right (And.right (And.right (And.right (And.right (And.right (by assumption))))))))))) | exact And.right (And.right (And.right (And.right (And.right (And.right (And.right (And.right (And.right (And.right (And.right (And.right (by assumption)))))))))))) | exact And.right (And.right (And.right (And.right (And.right (And.right (And.right (And.right (And.right (And.right (And.right (And.right (And.right (by assumption))))))))))))))⟩, ?_⟩
    exact List.forall_mem_nil _
  case hP => exact fun tl hi ht => ⟨_, _, _, rfl, hi _ (List.Mem.head _), ht⟩
theorem heard_mark {p : Int} {tp : Tok} {tr : Tok} {ps : Array Value} {tb : List (Addr × Obj)} {r : PySem.Str} {mk2 : PySem.Str} {mk : PySem.Str} {R : Int} (hps : TabOk 91 4 rdr ps tb) (hoff : OwnOff tb [158]) (hl : r.length ≤ 100) (hR : 5 ≤ R) (hR' : R < r.length) (hm : (mk.length == 0) = false) (e1 : Txt.slice r none (some 3) = PySem.Str.ofString "229") (e2 : Txt.find r (PySem.Str.ofString "(") = 4) (e3 : Txt.find3 r (PySem.Str.ofString ")") (4 + 1) = R) (e4 : Txt.item r (4 + 1) = mk) (e5 : Txt.item r (R - 1) = mk2) (e6 : mk ≠ mk2) : DoesTC w 6 163 ps tb [.int p tp, .str r tr] (fun tl ps' v => ∃ H t1 t2, v = .ref H ∧ (H, kdv_tup [.int 1 t1, .str r t2]) ∈ tl ∧ TabOk 91 4 rdr ps' (tl ++ tb)) :=
  does_ofT fun b => eps_all b_heard_mark ⟨w, b, { i := fun | 0 => p | _ => R, t := fun | 0 => tp | _ => tr, a := fun | _ => ps, e := fun | _ => tb, s := fun | 0 => r | 1 => mk2 | _ => mk }⟩ hps hoff hl hR hR' hm e1 e2 e3 e4 e5 e6

def S_heard_count (z : Zx) : Prop := (TabOk 91 4 rdr (z.v.a 0) (z.v.e 0)) → (OwnOff (z.v.e 0) [158]) → ((z.v.s 0).length ≤ 100) → (5 ≤ (z.v.i 1)) → ((z.v.i 1) < (z.v.s 0).length) → (((z.v.s 6).length == 0) = false) → (Txt.slice (z.v.s 0) none (some 3) = PySem.Str.ofString "229") → (Txt.find (z.v.s 0) (PySem.Str.ofString "(") = 4) → (Txt.find3 (z.v.s 0) (PySem.Str.ofString ")") (4 + 1) = (z.v.i 1)) → (Txt.item (z.v.s 0) (4 + 1) = (z.v.s 6)) → (Txt.item (z.v.s 0) ((z.v.i 1) - 1) = (z.v.s 6)) → ((z.v.s 1).length ≤ 100) → (Txt.slice (z.v.s 0) (some (4 + 1)) (some (z.v.i 1)) = (z.v.s 1)) → (Txt.split (z.v.s 1) (z.v.s 6) = [(z.v.s 2), (z.v.s 3), (z.v.s 4), (z.v.s 5)]) → EnteredT z.w 5 163 (z.v.e 0) [.int (z.v.i 0) (z.v.t 0), .str (z.v.s 0) (z.v.t 1)] (z.v.a 0) (fun tl ps' v => ∃ H t1 t2, v = .ref H ∧ (H, kdv_tup [.int 1 t1, .str (z.v.s 0) t2]) ∈ tl ∧ TabOk 91 4 rdr ps' (tl ++ (z.v.e 0))) z.b
noncomputable def z_heard_count : Zx := eps S_heard_count
theorem b_heard_count : S_heard_count z_heard_count := by
  intro hps hoff hl hR hR' hm e1 e2 e3 e4 e5 hb e6 e7
  refine' EnteredT.intro ?k6 ?k7 ?k9 ?kB ?c2 ?c3 ?c4 ?c5 ?kW
  case k6 => k_is
  case k7 => k_is
  case k9 => exact rfl
  case kB => exact locs rfl
  case c2 => exact rfl
  case c3 => exact rfl
  case c4 => exact rfl
  case c5 => decide
  intro F' N' B' X' T' C' l1 D' XB TB hdp hu hQ
  replace l1 := allLt_of l1
  simp only [AllLt, and_true] at l1
  have htb9 : ∀ q ∈ (z_heard_count.v.e 0), q ∈ (158, tabObj (z_heard_count.v.a 0)) :: (z_heard_count.v.e 0) := fun q hq => List.mem_cons_of_mem _ hq
  refine wpC_of ?_
  repeat' (first | (refine Stop.go ?_; first
      | ((with_reducible show wpAny _ _ (compareOp CmpOp.NotEq (Value.str _ _) (Value.str _ _)) _ _ _); first | (with_reducible refine tx_ne_same ?_) | (refine tx_ne_diff (by assumption) ?_))
      | ((with_reducible show wpAny _ _ (subscriptTail _ (Expr.Slice none (some _) none _) (Value.str _ _) (Value.ref _)) _ _ _); (with_reducible rename Fr _ _ _ _ => kF); (with_reducible rename News _ _ _ _ => kN); (refine tx_ns (s := ⟨_, _, _, _, _⟩) kF kN (by assumption) (by assumption) ?_); clear kF kN; intro _ _ _ _ _)
      | ((with_reducible show wpAny _ _ (subscriptTail _ (Expr.Slice (some _) none none _) (Value.str _ _) (Value.ref _)) _ _ _); (with_reducible rename Fr _ _ _ _ => kF); (with_reducible rename News _ _ _ _ => kN); (refine tx_sn (s := ⟨_, _, _, _, _⟩) kF kN (by assumption) (by assumption) ?_); clear kF kN; intro _ _ _ _ _)
      | ((with_reducible show wpAny _ _ (subscriptTail _ (Expr.Slice (some _) (some _) none _) (Value.str _ _) (Value.ref _)) _ _ _); (with_reducible rename Fr _ _ _ _ => kF); (with_reducible rename News _ _ _ _ => kN); (refine tx_ss (s := ⟨_, _, _, _, _⟩) kF kN (by assumption) (by assumption) ?_); clear kF kN; intro _ _ _ _ _)
      | ((with_reducible show wpAny _ _ (subscriptTail _ _ (Value.str _ _) (Value.int _ _)) _ _ _); (refine tx_item (by assumption) (by assumption) (by omega) (by omega) ?_); intro _ _)
      | ((with_reducible show wpAny _ _ (call (Value.builtin "str.find") [Value.str _ _, Value.str _ _]) _ _ _); (refine tx_find (by assumption) ?_); intro _ _)
      | ((with_reducible show wpAny _ _ (call (Value.builtin "str.find") [Value.str _ _, Value.str _ _, Value.int _ _]) _ _ _); (refine tx_find3 (by assumption) ?_); intro _ _)
      | ((with_reducible show wpAny _ _ (call (Value.builtin "str.split") [Value.str _ _, Value.str _ _]) _ _ _); first   | (refine tx_split5 (by k_asm) (by k_asm) (by assumption) (by assumption) (by assumption) ?_; intro D' ta' tb' tc' td' tf' h' k' F' N' l1; (try k_lt l1))   | (refine tx_split4 (by k_asm) (by k_asm) (by assumption) (by assumption) (by assumption) ?_; intro D' ta' tb' tc' td' h' k' F' N' l1; (try k_lt l1)))
      | ((with_reducible show wpAny _ _ (call (Value.type "int") [Value.str _ _]) _ _ _); (refine tx_int (by assumption) (by assumption) ?_); intro _ _)
      | ((with_reducible show wpAny _ _ (exec _ _) _ _ _); k_dflt (refine' nestDef_K ?d0 ?k0 ?a0 ?_; (case d0 => exact rfl); (case k0 => exact rfl); (case a0 => exact rfl)); (k_dflt (refine' nest_any ?F ?N ?T ?C ?cd ?U ?tp ?tb ?cl ?_; (case F => k_asm); (case N => k_asm); (case T => k_asm); (case cd => exact rfl); (case C => kn_code); (case U => k_updF); (case tp => assumption); (case tb => assumption); (case cl => exact rfl); k_whole)); intro f' c' oc' vs' t' ct' dc' h' tk' F' N' d1' d2' q9' l1 l2; (try dsimp only at N'); (try k_lt l1); (try k_lt2 l2))
      | ((with_reducible show wpAny _ _ (call (Value.type "str") [Value.ref _]) _ _ _); k_dflt (refine' es_got ?X ?F ?hf ?hm ?N ?G ?hu ?_; (case G => assumption); (case F => k_asm); (case N => assumption); (case X => k_asm); (case hf => k_is); (case hm => k_is); (case hu => ktr_units); k_whole))) | ((fail_if_success (with_reducible show Stop _)); first | walk1 | (dsimp only; walk1)))
  rename Fr _ _ _ _ => kF
  rename News _ _ _ _ => kNG
  rename KtsTurn _ _ _ => kT
  refine hQ _ _ _ _ _ _ kT kF kNG (FinT.intro [(_, kdv_tup [.int 1 _, .str _ _])] (by kcj_all) ?hc ?hT ?ht ?hlt (by assumption) rfl ⟨_, _, by assumption, by assumption⟩ ?hP)
  case hc => repeat (first | exact List.Mem.head _ | refine List.Mem.tail _ ?_)
  case hT => repeat (first | exact List.Mem.head _ | refine List.Mem.tail _ ?_)
  case ht => exact fun q hq => by repeat (first | exact hq | refine List.Mem.tail _ ?_)
  case hlt =>
    refine List.forall_mem_cons.mpr ⟨⟨by show (_ : Nat) < _; omega, by show (_ : Nat) < _; omega, by (first | assumption | exact And.right (by assumption) | exact And.right (And.right (by assumption)) | exact And.right (And.right (And.right (by assumption))) | exact And.right (And.right (And.right (And.right (by assumption)))) | exact And.right (And.right (And.right (And.right (And.right (by assumption))))) | exact And.right (And.right (And.right (And.right (And.right (And.right (by assumption)))))) | exact And.right (And.right (And.right (And.right (And.right (And.right (And.right (by assumption))))))) | exact And.right (And.right (And.right (And.right (And.right (And.right (And.right (And.right (by assumption)))))))) | exact And.right (And.right (And.right (And.right (And.right (And.right (And.right (And.right (And.right (by assumption))))))))) | exact And.right (And.right (And.right (And.right (And.right (And.right (And.right (And.right (And.right (And.right (by assumption)))))))))) | exact And.right (And.right (And.right (And.right (And.right (And.right (And.right (And.right (And.right (And.right (And.right (by assumption))))))))))) | exact And.right (And.right (And.right (And.right (And.right (And.right (And.right (And.right (And.right (And.right (And.right (And.right (by assumption)))))))))))) | exact And.right (And.right (And.right (And.right (And.right (And.right (And.right (And.right (And.right (And.right (And.right (And.right (And.right (by assumption))))))))))))))⟩, ?_⟩
    exact List.forall_mem_nil _
  case hP => exact fun tl hi ht => ⟨_, _, _, rfl, hi _ (List.Mem.head _), ht⟩
theorem heard_count {p : Int} {tp : Tok} {tr : Tok} {ps : Array Value} {tb : List (Addr × Obj)} {r : PySem.Str} {body : PySem.Str} {s0 : PySem.Str} {s1 : PySem.Str} {s2 : PySem.Str} {s3 : PySem.Str} {mk : PySem.Str} {R : Int} (hps : TabOk 91 4 rdr ps tb) (hoff : OwnOff tb [158]) (hl : r.length ≤ 100) (hR : 5 ≤ R) (hR' : R < r.length) (hm : (mk.length == 0) = false) (e1 : Txt.slice r none (some 3) = PySem.Str.ofString "229") (e2 : Txt.find r (PySem.Str.ofString "(") = 4) (e3 : Txt.find3 r (PySem.Str.ofString ")") (4 + 1) = R) (e4 : Txt.item r (4 + 1) = mk) (e5 : Txt.item r (R - 1) = mk) (hb : body.length ≤ 100) (e6 : Txt.slice r (some (4 + 1)) (some R) = body) (e7 : Txt.split body mk = [s0, s1, s2, s3]) : DoesTC w 6 163 ps tb [.int p tp, .str r tr] (fun tl ps' v => ∃ H t1 t2, v = .ref H ∧ (H, kdv_tup [.int 1 t1, .str r t2]) ∈ tl ∧ TabOk 91 4 rdr ps' (tl ++ tb)) :=
  does_ofT fun b => eps_all b_heard_count ⟨w, b, { i := fun | 0 => p | _ => R, t := fun | 0 => tp | _ => tr, a := fun | _ => ps, e := fun | _ => tb, s := fun | 0 => r | 1 => body | 2 => s0 | 3 => s1 | 4 => s2 | 5 => s3 | _ => mk }⟩ hps hoff hl hR hR' hm e1 e2 e3 e4 e5 hb e6 e7

def S_heard_ok (z : Zx) : Prop := (TabOk 91 4 rdr (z.v.a 0) (z.v.e 0)) → (OwnOff (z.v.e 0) [158]) → ((z.v.s 0).length ≤ 100) → ((z.v.s 2).length ≤ 100) → ((z.v.s 6).length ≤ 100) → (5 ≤ (z.v.i 1)) → ((z.v.i 1) < (z.v.s 0).length) → (((z.v.s 1).length == 0) = false) → (Txt.slice (z.v.s 0) none (some 3) = PySem.Str.ofString "229") → (Txt.find (z.v.s 0) (PySem.Str.ofString "(") = 4) → (Txt.find3 (z.v.s 0) (PySem.Str.ofString ")") (4 + 1) = (z.v.i 1)) → (Txt.item (z.v.s 0) (4 + 1) = (z.v.s 1)) → (Txt.item (z.v.s 0) ((z.v.i 1) - 1) = (z.v.s 1)) → (Txt.slice (z.v.s 0) (some (4 + 1)) (some (z.v.i 1)) = (z.v.s 2)) → (Txt.split (z.v.s 2) (z.v.s 1) = [(z.v.s 3), (z.v.s 4), (z.v.s 5), (z.v.s 6), (z.v.s 7)]) → (PySem.intText? (z.v.s 6) = some (z.v.i 2)) → EnteredT z.w 5 163 (z.v.e 0) [.int (z.v.i 0) (z.v.t 0), .str (z.v.s 0) (z.v.t 1)] (z.v.a 0) (fun tl ps' v => ∃ H A t1 t2, v = .ref H ∧ (H, kdv_tup [.ref A, .ref A]) ∈ tl ∧ (A, kdv_tup [.int (z.v.i 0) t1, .int (z.v.i 2) t2]) ∈ tl ∧ TabOk 91 4 rdr ps' (tl ++ (z.v.e 0))) z.b
noncomputable def z_heard_ok : Zx := eps S_heard_ok
theorem b_heard_ok : S_heard_ok z_heard_ok := by
  intro hps hoff hl hb h3 hR hR' hm e1 e2 e3 e4 e5 e6 e7 e8
  refine' EnteredT.intro ?k6 ?k7 ?k9 ?kB ?c2 ?c3 ?c4 ?c5 ?kW
  case k6 => k_is
  case k7 => k_is
  case k9 => exact rfl
  case kB => exact locs rfl
  case c2 => exact rfl
  case c3 => exact rfl
  case c4 => exact rfl
  case c5 => decide
  intro F' N' B' X' T' C' l1 D' XB TB hdp hu hQ
  replace l1 := allLt_of l1
  simp only [AllLt, and_true] at l1
  have htb9 : ∀ q ∈ (z_heard_ok.v.e 0), q ∈ (158, tabObj (z_heard_ok.v.a 0)) :: (z_heard_ok.v.e 0) := fun q hq => List.mem_cons_of_mem _ hq
  refine wpC_of ?_
  repeat' (first | (refine Stop.go ?_; first
      | ((with_reducible show wpAny _ _ (compareOp CmpOp.NotEq (Value.str _ _) (Value.str _ _)) _ _ _); first | (with_reducible refine tx_ne_same ?_) | (refine tx_ne_diff (by assumption) ?_))
      | ((with_reducible show wpAny _ _ (subscriptTail _ (Expr.Slice none (some _) none _) (Value.str _ _) (Value.ref _)) _ _ _); (with_reducible rename Fr _ _ _ _ => kF); (with_reducible rename News _ _ _ _ => kN); (refine tx_ns (s := ⟨_, _, _, _, _⟩) kF kN (by assumption) (by assumption) ?_); clear kF kN; intro _ _ _ _ _)
      | ((with_reducible show wpAny _ _ (subscriptTail _ (Expr.Slice (some _) none none _) (Value.str _ _) (Value.ref _)) _ _ _); (with_reducible rename Fr _ _ _ _ => kF); (with_reducible rename News _ _ _ _ => kN); (refine tx_sn (s := ⟨_, _, _, _, _⟩) kF kN (by assumption) (by assumption) ?_); clear kF kN; intro _ _ _ _ _)
      | ((with_reducible show wpAny _ _ (subscriptTail _ (Expr.Slice (some _) (some _) none _) (Value.str _ _) (Value.ref _)) _ _ _); (with_reducible rename Fr _ _ _ _ => kF); (with_reducible rename News _ _ _ _ => kN); (refine tx_ss (s := ⟨_, _, _, _, _⟩) kF kN (by assumption) (by assumption) ?_); clear kF kN; intro _ _ _ _ _)
      | ((with_reducible show wpAny _ _ (subscriptTail _ _ (Value.str _ _) (Value.int _ _)) _ _ _); (refine tx_item (by assumption) (by assumption) (by omega) (by omega) ?_); intro _ _)
      | ((with_reducible show wpAny _ _ (call (Value.builtin "str.find") [Value.str _ _, Value.str _ _]) _ _ _); (refine tx_find (by assumption) ?_); intro _ _)
      | ((with_reducible show wpAny _ _ (call (Value.builtin "str.find") [Value.str _ _, Value.str _ _, Value.int _ _]) _ _ _); (refine tx_find3 (by assumption) ?_); intro _ _)
      | ((with_reducible show wpAny _ _ (call (Value.builtin "str.split") [Value.str _ _, Value.str _ _]) _ _ _); first   | (refine tx_split5 (by k_asm) (by k_asm) (by assumption) (by assumption) (by assumption) ?_; intro D' ta' tb' tc' td' tf' h' k' F' N' l1; (try k_lt l1))   | (refine tx_split4 (by k_asm) (by k_asm) (by assumption) (by assumption) (by assumption) ?_; intro D' ta' tb' tc' td' h' k' F' N' l1; (try k_lt l1)))
      | ((with_reducible show wpAny _ _ (call (Value.type "int") [Value.str _ _]) _ _ _); (refine tx_int (by assumption) (by assumption) ?_); intro _ _)
      | ((with_reducible show wpAny _ _ (exec _ _) _ _ _); k_dflt (refine' nestDef_K ?d0 ?k0 ?a0 ?_; (case d0 => exact rfl); (case k0 => exact rfl); (case a0 => exact rfl)); (k_dflt (refine' nest_any ?F ?N ?T ?C ?cd ?U ?tp ?tb ?cl ?_; (case F => k_asm); (case N => k_asm); (case T => k_asm); (case cd => exact rfl); (case C => kn_code); (case U => k_updF); (case tp => assumption); (case tb => assumption); (case cl => exact rfl); k_whole)); intro f' c' oc' vs' t' ct' dc' h' tk' F' N' d1' d2' q9' l1 l2; (try dsimp only at N'); (try k_lt l1); (try k_lt2 l2))
      | ((with_reducible show wpAny _ _ (call (Value.type "str") [Value.ref _]) _ _ _); k_dflt (refine' es_got ?X ?F ?hf ?hm ?N ?G ?hu ?_; (case G => assumption); (case F => k_asm); (case N => assumption); (case X => k_asm); (case hf => k_is); (case hm => k_is); (case hu => ktr_units); k_whole))) | ((fail_if_success (with_reducible show Stop _)); first | walk1 | (dsimp only; walk1)))
  rename Fr _ _ _ _ => kF
  rename News _ _ _ _ => kNG
  refine hQ _ _ _ _ _ _ (kts_refl _ _) kF kNG (FinT.intro [(_, kdv_tup [.ref _, .ref _]), (_, kdv_tup [.int (z_heard_ok.v.i 0) _, .int (z_heard_ok.v.i 2) _])] (by kcj_all) ?hc ?hT ?ht ?hlt (by assumption) rfl ⟨_, _, by assumption, by assumption⟩ ?hP)
  case hc => repeat (first | exact List.Mem.head _ | refine List.Mem.tail _ ?_)
  case hT => repeat (first | exact List.Mem.head _ | refine List.Mem.tail _ ?_)
  case ht => exact fun q hq => by repeat (first | exact hq | refine List.Mem.tail _ ?_)
  case hlt =>
    refine List.forall_mem_cons.mpr ⟨⟨by show (_ : Nat) < _; omega, by show (_ : Nat) < _; omega, by (first | assumption | exact And.right (by assumption) | exact And.right (And.right (by assumption)) | exact And.right (And.right (And.right (by assumption))) | exact And.right (And.right (And.right (And.right (by assumption)))) | exact And.right (And.right (And.right (And.right (And.right (by assumption))))) | exact And.right (And.right (And.right (And.right (And.right (And.right (by assumption)))))) | exact And.right (And.right (And.right (And.right (And.right (And.right (And.right (by assumption))))))) | exact And.right (And.right (And.right (And.right (And.right (And.right (And.right (And.right (by assumption)))))))) | exact And.right (And.right (And.right (And.right (And.right (And.right (And.right (And.right (And.right (by assumption))))))))) | exact And.right (And.right (And.right (And.right (And.right (And.right (And.right (And.right (And.right (And.right (by assumption)))))))))) | exact And.right (And.right (And.right (And.right (And.right (And.right (And.right (And.right (And.right (And.right (And.right (by assumption))))))))))) | exact And.right (And.right (And.right (And.right (And.right (And.right (And.right (And.right (And.right (And.right (And.right (And.right (by assumption)))))))))))) | exact And.right (And.right (And.right (And.right (And.right (And.right (And.right (And.right (And.right (And.right (And.right (And.right (And.right (by assumption))))))))))))))⟩, ?_⟩
    refine List.forall_mem_cons.mpr ⟨⟨by show (_ : Nat) < _; omega, by show (_ : Nat) < _; omega, by (first | assumption | exact And.right (by assumption) | exact And.right (And.right (by assumption)) | exact And.right (And.right (And.right (by assumption))) | exact And.right (And.right (And.right (And.right (by assumption)))) | exact And.right (And.right (And.right (And.right (And.right (by assumption))))) | exact And.right (And.right (And.right (And.right (And.right (And.right (by assumption)))))) | exact And.right (And.right (And.right (And.right (And.right (And.right (And.right (by assumption))))))) | exact And.right (And.right (And.right (And.right (And.right (And.right (And.right (And.right (by assumption)))))))) | exact And.right (And.right (And.right (And.right (And.right (And.right (And.right (And.right (And.right (by assumption))))))))) | exact And.right (And.right (And.right (And.right (And.right (And.right (And.right (And.right (And.right (And.right (by assumption)))))))))) | exact And.right (And.right (And.right (And.right (And.right (And.right (And.right (And.right (And.right (And.right (And.right (by assumption))))))))))) | exact And.right (And.right (And.right (And.right (And.right (And.right (And.right (And.right (And.right (And.right (And.right (And.right (by assumption)))))))))))) | exact And.right (And.right (And.right (And.right (And.right (And.right (And.right (And.right (And.right (And.right (And.right (And.right (And.right (by assumption))))))))))))))⟩, ?_⟩
    exact List.forall_mem_nil _
  case hP => exact fun tl hi ht => ⟨_, _, _, _, rfl, hi _ (List.Mem.head _), hi _ (List.Mem.tail _ (List.Mem.head _)), ht⟩
theorem heard_ok {p : Int} {tp : Tok} {tr : Tok} {ps : Array Value} {tb : List (Addr × Obj)} {r : PySem.Str} {mk : PySem.Str} {body : PySem.Str} {s0 : PySem.Str} {s1 : PySem.Str} {s2 : PySem.Str} {s3 : PySem.Str} {s4 : PySem.Str} {R : Int} {n : Int} (hps : TabOk 91 4 rdr ps tb) (hoff : OwnOff tb [158]) (hl : r.length ≤ 100) (hb : body.length ≤ 100) (h3 : s3.length ≤ 100) (hR : 5 ≤ R) (hR' : R < r.length) (hm : (mk.length == 0) = false) (e1 : Txt.slice r none (some 3) = PySem.Str.ofString "229") (e2 : Txt.find r (PySem.Str.ofString "(") = 4) (e3 : Txt.find3 r (PySem.Str.ofString ")") (4 + 1) = R) (e4 : Txt.item r (4 + 1) = mk) (e5 : Txt.item r (R - 1) = mk) (e6 : Txt.slice r (some (4 + 1)) (some R) = body) (e7 : Txt.split body mk = [s0, s1, s2, s3, s4]) (e8 : PySem.intText? s3 = some n) : DoesTC w 6 163 ps tb [.int p tp, .str r tr] (fun tl ps' v => ∃ H A t1 t2, v = .ref H ∧ (H, kdv_tup [.ref A, .ref A]) ∈ tl ∧ (A, kdv_tup [.int p t1, .int n t2]) ∈ tl ∧ TabOk 91 4 rdr ps' (tl ++ tb)) :=
  does_ofT fun b => eps_all b_heard_ok ⟨w, b, { i := fun | 0 => p | 1 => R | _ => n, t := fun | 0 => tp | _ => tr, a := fun | _ => ps, e := fun | _ => tb, s := fun | 0 => r | 1 => mk | 2 => body | 3 => s0 | 4 => s1 | 5 => s2 | 6 => s3 | _ => s4 }⟩ hps hoff hl hb h3 hR hR' hm e1 e2 e3 e4 e5 e6 e7 e8

def S_heard_bad (z : Zx) : Prop := (TabOk 91 4 rdr (z.v.a 0) (z.v.e 0)) → (OwnOff (z.v.e 0) [158]) → ((z.v.s 0).length ≤ 100) → ((z.v.s 2).length ≤ 100) → ((z.v.s 6).length ≤ 100) → (5 ≤ (z.v.i 1)) → ((z.v.i 1) < (z.v.s 0).length) → (((z.v.s 1).length == 0) = false) → (Txt.slice (z.v.s 0) none (some 3) = PySem.Str.ofString "229") → (Txt.find (z.v.s 0) (PySem.Str.ofString "(") = 4) → (Txt.find3 (z.v.s 0) (PySem.Str.ofString ")") (4 + 1) = (z.v.i 1)) → (Txt.item (z.v.s 0) (4 + 1) = (z.v.s 1)) → (Txt.item (z.v.s 0) ((z.v.i 1) - 1) = (z.v.s 1)) → (Txt.slice (z.v.s 0) (some (4 + 1)) (some (z.v.i 1)) = (z.v.s 2)) → (Txt.split (z.v.s 2) (z.v.s 1) = [(z.v.s 3), (z.v.s 4), (z.v.s 5), (z.v.s 6), (z.v.s 7)]) → (PySem.intText? (z.v.s 6) = none) → (∀ c ∈ (z.v.s 6).cps.toList, c < 16 ^ 8) → EnteredT z.w 5 163 (z.v.e 0) [.int (z.v.i 0) (z.v.t 0), .str (z.v.s 0) (z.v.t 1)] (z.v.a 0) (fun tl ps' v => ∃ H t1 t2, v = .ref H ∧ (H, kdv_tup [.int 2 t1, .str (PySem.Str.ofString "") t2]) ∈ tl ∧ TabOk 91 4 rdr ps' (tl ++ (z.v.e 0))) z.b
noncomputable def z_heard_bad : Zx := eps S_heard_bad
theorem b_heard_bad : S_heard_bad z_heard_bad := by
  intro hps hoff hl hb h3 hR hR' hm e1 e2 e3 e4 e5 e6 e7 hn hc
  refine' EnteredT.intro ?k6 ?k7 ?k9 ?kB ?c2 ?c3 ?c4 ?c5 ?kW
  case k6 => k_is
  case k7 => k_is
  case k9 => exact rfl
  case kB => exact locs rfl
  case c2 => exact rfl
  case c3 => exact rfl
  case c4 => exact rfl
  case c5 => decide
  intro F' N' B' X' T' C' l1 D' XB TB hdp hu hQ
  replace l1 := allLt_of l1
  simp only [AllLt, and_true] at l1
  have htb9 : ∀ q ∈ (z_heard_bad.v.e 0), q ∈ (158, tabObj (z_heard_bad.v.a 0)) :: (z_heard_bad.v.e 0) := fun q hq => List.mem_cons_of_mem _ hq
  refine wpC_execs_cons (wpC_of ?_)
  repeat' (first | (refine Stop.go ?_; first
      | ((with_reducible show wpAny _ _ (compareOp CmpOp.NotEq (Value.str _ _) (Value.str _ _)) _ _ _); first | (with_reducible refine tx_ne_same ?_) | (refine tx_ne_diff (by assumption) ?_))
      | ((with_reducible show wpAny _ _ (subscriptTail _ (Expr.Slice none (some _) none _) (Value.str _ _) (Value.ref _)) _ _ _); (with_reducible rename Fr _ _ _ _ => kF); (with_reducible rename News _ _ _ _ => kN); (refine tx_ns (s := ⟨_, _, _, _, _⟩) kF kN (by assumption) (by assumption) ?_); clear kF kN; intro _ _ _ _ _)
      | ((with_reducible show wpAny _ _ (subscriptTail _ (Expr.Slice (some _) none none _) (Value.str _ _) (Value.ref _)) _ _ _); (with_reducible rename Fr _ _ _ _ => kF); (with_reducible rename News _ _ _ _ => kN); (refine tx_sn (s := ⟨_, _, _, _, _⟩) kF kN (by assumption) (by assumption) ?_); clear kF kN; intro _ _ _ _ _)
      | ((with_reducible show wpAny _ _ (subscriptTail _ (Expr.Slice (some _) (some _) none _) (Value.str _ _) (Value.ref _)) _ _ _); (with_reducible rename Fr _ _ _ _ => kF); (with_reducible rename News _ _ _ _ => kN); (refine tx_ss (s := ⟨_, _, _, _, _⟩) kF kN (by assumption) (by assumption) ?_); clear kF kN; intro _ _ _ _ _)
      | ((with_reducible show wpAny _ _ (subscriptTail _ _ (Value.str _ _) (Value.int _ _)) _ _ _); (refine tx_item (by assumption) (by assumption) (by omega) (by omega) ?_); intro _ _)
      | ((with_reducible show wpAny _ _ (call (Value.builtin "str.find") [Value.str _ _, Value.str _ _]) _ _ _); (refine tx_find (by assumption) ?_); intro _ _)
      | ((with_reducible show wpAny _ _ (call (Value.builtin "str.find") [Value.str _ _, Value.str _ _, Value.int _ _]) _ _ _); (refine tx_find3 (by assumption) ?_); intro _ _)
      | ((with_reducible show wpAny _ _ (call (Value.builtin "str.split") [Value.str _ _, Value.str _ _]) _ _ _); first   | (refine tx_split5 (by k_asm) (by k_asm) (by assumption) (by assumption) (by assumption) ?_; intro D' ta' tb' tc' td' tf' h' k' F' N' l1; (try k_lt l1))   | (refine tx_split4 (by k_asm) (by k_asm) (by assumption) (by assumption) (by assumption) ?_; intro D' ta' tb' tc' td' h' k' F' N' l1; (try k_lt l1)))
      | ((with_reducible show wpAny _ _ (call (Value.type "int") [Value.str _ _]) _ _ _); (refine tx_int (by assumption) (by assumption) ?_); intro _ _)
      | ((with_reducible show wpAny _ _ (exec _ _) _ _ _); k_dflt (refine' nestDef_K ?d0 ?k0 ?a0 ?_; (case d0 => exact rfl); (case k0 => exact rfl); (case a0 => exact rfl)); (k_dflt (refine' nest_any ?F ?N ?T ?C ?cd ?U ?tp ?tb ?cl ?_; (case F => k_asm); (case N => k_asm); (case T => k_asm); (case cd => exact rfl); (case C => kn_code); (case U => k_updF); (case tp => assumption); (case tb => assumption); (case cl => exact rfl); k_whole)); intro f' c' oc' vs' t' ct' dc' h' tk' F' N' d1' d2' q9' l1 l2; (try dsimp only at N'); (try k_lt l1); (try k_lt2 l2))
      | ((with_reducible show wpAny _ _ (call (Value.type "str") [Value.ref _]) _ _ _); k_dflt (refine' es_got ?X ?F ?hf ?hm ?N ?G ?hu ?_; (case G => assumption); (case F => k_asm); (case N => assumption); (case X => k_asm); (case hf => k_is); (case hm => k_is); (case hu => ktr_units); k_whole))) | ((fail_if_success (with_reducible show Stop _)); first | walk1 | (dsimp only; walk1)))
  dsimp only
  refine wpC_execs_cons (wpC_Try ?_)
  refine wpC_execs_cons (wpC_Return (wpC_Call_Name ?_))
  repeat' (first | (refine Stop.go ?_; first
      | ((with_reducible show wpAny _ _ (compareOp CmpOp.NotEq (Value.str _ _) (Value.str _ _)) _ _ _); first | (with_reducible refine tx_ne_same ?_) | (refine tx_ne_diff (by assumption) ?_))
      | ((with_reducible show wpAny _ _ (subscriptTail _ (Expr.Slice none (some _) none _) (Value.str _ _) (Value.ref _)) _ _ _); (with_reducible rename Fr _ _ _ _ => kF); (with_reducible rename News _ _ _ _ => kN); (refine tx_ns (s := ⟨_, _, _, _, _⟩) kF kN (by assumption) (by assumption) ?_); clear kF kN; intro _ _ _ _ _)
      | ((with_reducible show wpAny _ _ (subscriptTail _ (Expr.Slice (some _) none none _) (Value.str _ _) (Value.ref _)) _ _ _); (with_reducible rename Fr _ _ _ _ => kF); (with_reducible rename News _ _ _ _ => kN); (refine tx_sn (s := ⟨_, _, _, _, _⟩) kF kN (by assumption) (by assumption) ?_); clear kF kN; intro _ _ _ _ _)
      | ((with_reducible show wpAny _ _ (subscriptTail _ (Expr.Slice (some _) (some _) none _) (Value.str _ _) (Value.ref _)) _ _ _); (with_reducible rename Fr _ _ _ _ => kF); (with_reducible rename News _ _ _ _ => kN); (refine tx_ss (s := ⟨_, _, _, _, _⟩) kF kN (by assumption) (by assumption) ?_); clear kF kN; intro _ _ _ _ _)
      | ((with_reducible show wpAny _ _ (subscriptTail _ _ (Value.str _ _) (Value.int _ _)) _ _ _); (refine tx_item (by assumption) (by assumption) (by omega) (by omega) ?_); intro _ _)
      | ((with_reducible show wpAny _ _ (call (Value.builtin "str.find") [Value.str _ _, Value.str _ _]) _ _ _); (refine tx_find (by assumption) ?_); intro _ _)
      | ((with_reducible show wpAny _ _ (call (Value.builtin "str.find") [Value.str _ _, Value.str _ _, Value.int _ _]) _ _ _); (refine tx_find3 (by assumption) ?_); intro _ _)
      | ((with_reducible show wpAny _ _ (call (Value.builtin "str.split") [Value.str _ _, Value.str _ _]) _ _ _); first   | (refine tx_split5 (by k_asm) (by k_asm) (by assumption) (by assumption) (by assumption) ?_; intro D' ta' tb' tc' td' tf' h' k' F' N' l1; (try k_lt l1))   | (refine tx_split4 (by k_asm) (by k_asm) (by assumption) (by assumption) (by assumption) ?_; intro D' ta' tb' tc' td' h' k' F' N' l1; (try k_lt l1)))
      | ((with_reducible show wpAny _ _ (call (Value.type "int") [Value.str _ _]) _ _ _); (refine tx_int (by assumption) (by assumption) ?_); intro _ _)
      | ((with_reducible show wpAny _ _ (exec _ _) _ _ _); k_dflt (refine' nestDef_K ?d0 ?k0 ?a0 ?_; (case d0 => exact rfl); (case k0 => exact rfl); (case a0 => exact rfl)); (k_dflt (refine' nest_any ?F ?N ?T ?C ?cd ?U ?tp ?tb ?cl ?_; (case F => k_asm); (case N => k_asm); (case T => k_asm); (case cd => exact rfl); (case C => kn_code); (case U => k_updF); (case tp => assumption); (case tb => assumption); (case cl => exact rfl); k_whole)); intro f' c' oc' vs' t' ct' dc' h' tk' F' N' d1' d2' q9' l1 l2; (try dsimp only at N'); (try k_lt l1); (try k_lt2 l2))
      | ((with_reducible show wpAny _ _ (call (Value.type "str") [Value.ref _]) _ _ _); k_dflt (refine' es_got ?X ?F ?hf ?hm ?N ?G ?hu ?_; (case G => assumption); (case F => k_asm); (case N => assumption); (case X => k_asm); (case hf => k_is); (case hm => k_is); (case hu => ktr_units); k_whole))) | ((fail_if_success (with_reducible show Stop _)); first | walk1 | (dsimp only; walk1)))
  refine wpC_callWith_fn ?_
  repeat' (first | (refine Stop.go ?_; first
      | ((with_reducible show wpAny _ _ (compareOp CmpOp.NotEq (Value.str _ _) (Value.str _ _)) _ _ _); first | (with_reducible refine tx_ne_same ?_) | (refine tx_ne_diff (by assumption) ?_))
      | ((with_reducible show wpAny _ _ (subscriptTail _ (Expr.Slice none (some _) none _) (Value.str _ _) (Value.ref _)) _ _ _); (with_reducible rename Fr _ _ _ _ => kF); (with_reducible rename News _ _ _ _ => kN); (refine tx_ns (s := ⟨_, _, _, _, _⟩) kF kN (by assumption) (by assumption) ?_); clear kF kN; intro _ _ _ _ _)
      | ((with_reducible show wpAny _ _ (subscriptTail _ (Expr.Slice (some _) none none _) (Value.str _ _) (Value.ref _)) _ _ _); (with_reducible rename Fr _ _ _ _ => kF); (with_reducible rename News _ _ _ _ => kN); (refine tx_sn (s := ⟨_, _, _, _, _⟩) kF kN (by assumption) (by assumption) ?_); clear kF kN; intro _ _ _ _ _)
      | ((with_reducible show wpAny _ _ (subscriptTail _ (Expr.Slice (some _) (some _) none _) (Value.str _ _) (Value.ref _)) _ _ _); (with_reducible rename Fr _ _ _ _ => kF); (with_reducible rename News _ _ _ _ => kN); (refine tx_ss (s := ⟨_, _, _, _, _⟩) kF kN (by assumption) (by assumption) ?_); clear kF kN; intro _ _ _ _ _)
      | ((with_reducible show wpAny _ _ (subscriptTail _ _ (Value.str _ _) (Value.int _ _)) _ _ _); (refine tx_item (by assumption) (by assumption) (by omega) (by omega) ?_); intro _ _)
      | ((with_reducible show wpAny _ _ (call (Value.builtin "str.find") [Value.str _ _, Value.str _ _]) _ _ _); (refine tx_find (by assumption) ?_); intro _ _)
      | ((with_reducible show wpAny _ _ (call (Value.builtin "str.find") [Value.str _ _, Value.str _ _, Value.int _ _]) _ _ _); (refine tx_find3 (by assumption) ?_); intro _ _)
      | ((with_reducible show wpAny _ _ (call (Value.builtin "str.split") [Value.str _ _, Value.str _ _]) _ _ _); first   | (refine tx_split5 (by k_asm) (by k_asm) (by assumption) (by assumption) (by assumption) ?_; intro D' ta' tb' tc' td' tf' h' k' F' N' l1; (try k_lt l1))   | (refine tx_split4 (by k_asm) (by k_asm) (by assumption) (by assumption) (by assumption) ?_; intro D' ta' tb' tc' td' h' k' F' N' l1; (try k_lt l1)))
      | ((with_reducible show wpAny _ _ (call (Value.type "int") [Value.str _ _]) _ _ _); (refine tx_int (by assumption) (by assumption) ?_); intro _ _)
      | ((with_reducible show wpAny _ _ (exec _ _) _ _ _); k_dflt (refine' nestDef_K ?d0 ?k0 ?a0 ?_; (case d0 => exact rfl); (case k0 => exact rfl); (case a0 => exact rfl)); (k_dflt (refine' nest_any ?F ?N ?T ?C ?cd ?U ?tp ?tb ?cl ?_; (case F => k_asm); (case N => k_asm); (case T => k_asm); (case cd => exact rfl); (case C => kn_code); (case U => k_updF); (case tp => assumption); (case tb => assumption); (case cl => exact rfl); k_whole)); intro f' c' oc' vs' t' ct' dc' h' tk' F' N' d1' d2' q9' l1 l2; (try dsimp only at N'); (try k_lt l1); (try k_lt2 l2))
      | ((with_reducible show wpAny _ _ (call (Value.type "str") [Value.ref _]) _ _ _); k_dflt (refine' es_got ?X ?F ?hf ?hm ?N ?G ?hu ?_; (case G => assumption); (case F => k_asm); (case N => assumption); (case X => k_asm); (case hf => k_is); (case hm => k_is); (case hu => ktr_units); k_whole))) | ((fail_if_success (with_reducible show Stop _)); first | walk1 | (dsimp only; walk1)))
  · rename Fr _ _ _ _ => kF
    exact ⟨_, _, _, _, (X'.keeps kF.keep) 44 _ (by k_is)⟩
  show wpC _ _ (call (Value.ref 44) [_, _] [(Str.ofString "resp", Value.str (z_heard_bad.v.s 0) (z_heard_bad.v.t 1))]) _ _ _
  refine wpC_call ?_
  k_dflt (refine' enterMore_C (ex := [(Str.ofString "resp", Value.str (z_heard_bad.v.s 0) (z_heard_bad.v.t 1))]) ?k1 ?k2 ?k3 ?k4 ?k5 ?kA ?kF ?kK ?k6 ?k7 ?k8 ?kN ?kP ?kT ?kB ?_ ?c2 ?c3 ?c4 ?c5; (case kA => exact rfl); (case kF => exact rfl); (case kK => exact rfl); (case k1 => k_asm); (case k2 => k_asm); (case k3 => k_asm); (case k4 => k_asm); (case k5 => k_asm); (case k6 => k_is); (case k7 => k_is); (case k8 => k_room); (case kN => exact rfl); (case kP => exact rfl); (case kT => exact fun _ => rfl); (case kB => exact fun _ => locs rfl); (case c5 => decide); (case c2 => exact rfl); (case c3 => exact rfl); (case c4 => exact rfl); k_whole; intro D' o' g' L' h' tk' l1 lo' hs' FG' F' N' B' X' T'; (try k_lt l1); (try dsimp only); (try k_lift B'); (try k_fold))
  refine wpC_execs_cons (wpC_If ?_)
  repeat' (first | (refine Stop.go ?_; first
      | ((with_reducible show wpAny _ _ (compareOp CmpOp.NotEq (Value.str _ _) (Value.str _ _)) _ _ _); first | (with_reducible refine tx_ne_same ?_) | (refine tx_ne_diff (by assumption) ?_))
      | ((with_reducible show wpAny _ _ (subscriptTail _ (Expr.Slice none (some _) none _) (Value.str _ _) (Value.ref _)) _ _ _); (with_reducible rename Fr _ _ _ _ => kF); (with_reducible rename News _ _ _ _ => kN); (refine tx_ns (s := ⟨_, _, _, _, _⟩) kF kN (by assumption) (by assumption) ?_); clear kF kN; intro _ _ _ _ _)
      | ((with_reducible show wpAny _ _ (subscriptTail _ (Expr.Slice (some _) none none _) (Value.str _ _) (Value.ref _)) _ _ _); (with_reducible rename Fr _ _ _ _ => kF); (with_reducible rename News _ _ _ _ => kN); (refine tx_sn (s := ⟨_, _, _, _, _⟩) kF kN (by assumption) (by assumption) ?_); clear kF kN; intro _ _ _ _ _)
      | ((with_reducible show wpAny _ _ (subscriptTail _ (Expr.Slice (some _) (some _) none _) (Value.str _ _) (Value.ref _)) _ _ _); (with_reducible rename Fr _ _ _ _ => kF); (with_reducible rename News _ _ _ _ => kN); (refine tx_ss (s := ⟨_, _, _, _, _⟩) kF kN (by assumption) (by assumption) ?_); clear kF kN; intro _ _ _ _ _)
      | ((with_reducible show wpAny _ _ (subscriptTail _ _ (Value.str _ _) (Value.int _ _)) _ _ _); (refine tx_item (by assumption) (by assumption) (by omega) (by omega) ?_); intro _ _)
      | ((with_reducible show wpAny _ _ (call (Value.builtin "str.find") [Value.str _ _, Value.str _ _]) _ _ _); (refine tx_find (by assumption) ?_); intro _ _)
      | ((with_reducible show wpAny _ _ (call (Value.builtin "str.find") [Value.str _ _, Value.str _ _, Value.int _ _]) _ _ _); (refine tx_find3 (by assumption) ?_); intro _ _)
      | ((with_reducible show wpAny _ _ (call (Value.builtin "str.split") [Value.str _ _, Value.str _ _]) _ _ _); first   | (refine tx_split5 (by k_asm) (by k_asm) (by assumption) (by assumption) (by assumption) ?_; intro D' ta' tb' tc' td' tf' h' k' F' N' l1; (try k_lt l1))   | (refine tx_split4 (by k_asm) (by k_asm) (by assumption) (by assumption) (by assumption) ?_; intro D' ta' tb' tc' td' h' k' F' N' l1; (try k_lt l1)))
      | ((with_reducible show wpAny _ _ (call (Value.type "int") [Value.str _ _]) _ _ _); (refine tx_int (by assumption) (by assumption) ?_); intro _ _)
      | ((with_reducible show wpAny _ _ (exec _ _) _ _ _); k_dflt (refine' nestDef_K ?d0 ?k0 ?a0 ?_; (case d0 => exact rfl); (case k0 => exact rfl); (case a0 => exact rfl)); (k_dflt (refine' nest_any ?F ?N ?T ?C ?cd ?U ?tp ?tb ?cl ?_; (case F => k_asm); (case N => k_asm); (case T => k_asm); (case cd => exact rfl); (case C => kn_code); (case U => k_updF); (case tp => assumption); (case tb => assumption); (case cl => exact rfl); k_whole)); intro f' c' oc' vs' t' ct' dc' h' tk' F' N' d1' d2' q9' l1 l2; (try dsimp only at N'); (try k_lt l1); (try k_lt2 l2))
      | ((with_reducible show wpAny _ _ (call (Value.type "str") [Value.ref _]) _ _ _); k_dflt (refine' es_got ?X ?F ?hf ?hm ?N ?G ?hu ?_; (case G => assumption); (case F => k_asm); (case N => assumption); (case X => k_asm); (case hf => k_is); (case hm => k_is); (case hu => ktr_units); k_whole))) | ((fail_if_success (with_reducible show Stop _)); first | walk1 | (dsimp only; walk1)))
  refine wpC_execs_cons (wpC_Assign_Name (wpC_Call_Name ?_))
  repeat' (first | (refine Stop.go ?_; first
      | ((with_reducible show wpAny _ _ (compareOp CmpOp.NotEq (Value.str _ _) (Value.str _ _)) _ _ _); first | (with_reducible refine tx_ne_same ?_) | (refine tx_ne_diff (by assumption) ?_))
      | ((with_reducible show wpAny _ _ (subscriptTail _ (Expr.Slice none (some _) none _) (Value.str _ _) (Value.ref _)) _ _ _); (with_reducible rename Fr _ _ _ _ => kF); (with_reducible rename News _ _ _ _ => kN); (refine tx_ns (s := ⟨_, _, _, _, _⟩) kF kN (by assumption) (by assumption) ?_); clear kF kN; intro _ _ _ _ _)
      | ((with_reducible show wpAny _ _ (subscriptTail _ (Expr.Slice (some _) none none _) (Value.str _ _) (Value.ref _)) _ _ _); (with_reducible rename Fr _ _ _ _ => kF); (with_reducible rename News _ _ _ _ => kN); (refine tx_sn (s := ⟨_, _, _, _, _⟩) kF kN (by assumption) (by assumption) ?_); clear kF kN; intro _ _ _ _ _)
      | ((with_reducible show wpAny _ _ (subscriptTail _ (Expr.Slice (some _) (some _) none _) (Value.str _ _) (Value.ref _)) _ _ _); (with_reducible rename Fr _ _ _ _ => kF); (with_reducible rename News _ _ _ _ => kN); (refine tx_ss (s := ⟨_, _, _, _, _⟩) kF kN (by assumption) (by assumption) ?_); clear kF kN; intro _ _ _ _ _)
      | ((with_reducible show wpAny _ _ (subscriptTail _ _ (Value.str _ _) (Value.int _ _)) _ _ _); (refine tx_item (by assumption) (by assumption) (by omega) (by omega) ?_); intro _ _)
      | ((with_reducible show wpAny _ _ (call (Value.builtin "str.find") [Value.str _ _, Value.str _ _]) _ _ _); (refine tx_find (by assumption) ?_); intro _ _)
      | ((with_reducible show wpAny _ _ (call (Value.builtin "str.find") [Value.str _ _, Value.str _ _, Value.int _ _]) _ _ _); (refine tx_find3 (by assumption) ?_); intro _ _)
      | ((with_reducible show wpAny _ _ (call (Value.builtin "str.split") [Value.str _ _, Value.str _ _]) _ _ _); first   | (refine tx_split5 (by k_asm) (by k_asm) (by assumption) (by assumption) (by assumption) ?_; intro D' ta' tb' tc' td' tf' h' k' F' N' l1; (try k_lt l1))   | (refine tx_split4 (by k_asm) (by k_asm) (by assumption) (by assumption) (by assumption) ?_; intro D' ta' tb' tc' td' h' k' F' N' l1; (try k_lt l1)))
      | ((with_reducible show wpAny _ _ (call (Value.type "int") [Value.str _ _]) _ _ _); (refine tx_int (by assumption) (by assumption) ?_); intro _ _)
      | ((with_reducible show wpAny _ _ (exec _ _) _ _ _); k_dflt (refine' nestDef_K ?d0 ?k0 ?a0 ?_; (case d0 => exact rfl); (case k0 => exact rfl); (case a0 => exact rfl)); (k_dflt (refine' nest_any ?F ?N ?T ?C ?cd ?U ?tp ?tb ?cl ?_; (case F => k_asm); (case N => k_asm); (case T => k_asm); (case cd => exact rfl); (case C => kn_code); (case U => k_updF); (case tp => assumption); (case tb => assumption); (case cl => exact rfl); k_whole)); intro f' c' oc' vs' t' ct' dc' h' tk' F' N' d1' d2' q9' l1 l2; (try dsimp only at N'); (try k_lt l1); (try k_lt2 l2))
      | ((with_reducible show wpAny _ _ (call (Value.type "str") [Value.ref _]) _ _ _); k_dflt (refine' es_got ?X ?F ?hf ?hm ?N ?G ?hu ?_; (case G => assumption); (case F => k_asm); (case N => assumption); (case X => k_asm); (case hf => k_is); (case hm => k_is); (case hu => ktr_units); k_whole))) | ((fail_if_success (with_reducible show Stop _)); first | walk1 | (dsimp only; walk1)))
  refine wpC_callWith_fn ?_
  rename Fr _ _ _ _ => kF
  rename News _ _ _ _ => kN
  k_dflt (refine' evalArgs_KS kF kN ?hd ?ho ?hs ?hx ?hy ?_; (case hx => exact fun s' P E' F h => ld F rfl h); (case hy => exact fun s' P E' F h => ld F rfl h); (case hd => k_mem); (case ho => assumption); (case hs => assumption))
  clear kF kN
  intro h' F' N'
  refine ⟨FnAt.of N' (by k_mem), ?_⟩
  show wpC _ _ (call (Value.ref _) [_] [(Str.ofString "resp", Value.str (z_heard_bad.v.s 0) (z_heard_bad.v.t 1))]) _ _ _
  refine wpC_call ?_
  k_dflt (refine' enterNew_C ?k1 ?k2 ?k3 ?k4 ?k5 ?kA ?kF ?kK ?k6 ?k7 ?k8 ?k9 ?kB ?_ ?c2 ?c3 ?c4 ?c5; (case kA => exact rfl); (case kF => exact rfl); (case kK => exact rfl); (case k1 => k_asm); (case k2 => k_asm); (case k3 => k_asm); (case k4 => k_asm); (case k5 => k_asm); (case k6 => k_mem); (case k7 => exact codeRec_news (by k_asm) (by k_mem) (by assumption) (by assumption)); (case k8 => k_room); (case k9 => exact BindsTo.of_eq rfl); (case c5 => decide); (case kB => exact locs rfl); (case c2 => exact rfl); (case c3 => exact rfl); (case c4 => exact rfl); k_whole; intro g' L' h' FG' F' N' B' X' T'; (try dsimp only); (try k_lift B'); (try k_fold))
  refine wpC_execs_cons (wpC_Return (wpC_Call_Name ?_))
  repeat' (first | (refine Stop.go ?_; first
      | ((with_reducible show wpAny _ _ (compareOp CmpOp.NotEq (Value.str _ _) (Value.str _ _)) _ _ _); first | (with_reducible refine tx_ne_same ?_) | (refine tx_ne_diff (by assumption) ?_))
      | ((with_reducible show wpAny _ _ (subscriptTail _ (Expr.Slice none (some _) none _) (Value.str _ _) (Value.ref _)) _ _ _); (with_reducible rename Fr _ _ _ _ => kF); (with_reducible rename News _ _ _ _ => kN); (refine tx_ns (s := ⟨_, _, _, _, _⟩) kF kN (by assumption) (by assumption) ?_); clear kF kN; intro _ _ _ _ _)
      | ((with_reducible show wpAny _ _ (subscriptTail _ (Expr.Slice (some _) none none _) (Value.str _ _) (Value.ref _)) _ _ _); (with_reducible rename Fr _ _ _ _ => kF); (with_reducible rename News _ _ _ _ => kN); (refine tx_sn (s := ⟨_, _, _, _, _⟩) kF kN (by assumption) (by assumption) ?_); clear kF kN; intro _ _ _ _ _)
      | ((with_reducible show wpAny _ _ (subscriptTail _ (Expr.Slice (some _) (some _) none _) (Value.str _ _) (Value.ref _)) _ _ _); (with_reducible rename Fr _ _ _ _ => kF); (with_reducible rename News _ _ _ _ => kN); (refine tx_ss (s := ⟨_, _, _, _, _⟩) kF kN (by assumption) (by assumption) ?_); clear kF kN; intro _ _ _ _ _)
      | ((with_reducible show wpAny _ _ (subscriptTail _ _ (Value.str _ _) (Value.int _ _)) _ _ _); (refine tx_item (by assumption) (by assumption) (by omega) (by omega) ?_); intro _ _)
      | ((with_reducible show wpAny _ _ (call (Value.builtin "str.find") [Value.str _ _, Value.str _ _]) _ _ _); (refine tx_find (by assumption) ?_); intro _ _)
      | ((with_reducible show wpAny _ _ (call (Value.builtin "str.find") [Value.str _ _, Value.str _ _, Value.int _ _]) _ _ _); (refine tx_find3 (by assumption) ?_); intro _ _)
      | ((with_reducible show wpAny _ _ (call (Value.builtin "str.split") [Value.str _ _, Value.str _ _]) _ _ _); first   | (refine tx_split5 (by k_asm) (by k_asm) (by assumption) (by assumption) (by assumption) ?_; intro D' ta' tb' tc' td' tf' h' k' F' N' l1; (try k_lt l1))   | (refine tx_split4 (by k_asm) (by k_asm) (by assumption) (by assumption) (by assumption) ?_; intro D' ta' tb' tc' td' h' k' F' N' l1; (try k_lt l1)))
      | ((with_reducible show wpAny _ _ (call (Value.type "int") [Value.str _ _]) _ _ _); (refine tx_int (by assumption) (by assumption) ?_); intro _ _)
      | ((with_reducible show wpAny _ _ (exec _ _) _ _ _); k_dflt (refine' nestDef_K ?d0 ?k0 ?a0 ?_; (case d0 => exact rfl); (case k0 => exact rfl); (case a0 => exact rfl)); (k_dflt (refine' nest_any ?F ?N ?T ?C ?cd ?U ?tp ?tb ?cl ?_; (case F => k_asm); (case N => k_asm); (case T => k_asm); (case cd => exact rfl); (case C => kn_code); (case U => k_updF); (case tp => assumption); (case tb => assumption); (case cl => exact rfl); k_whole)); intro f' c' oc' vs' t' ct' dc' h' tk' F' N' d1' d2' q9' l1 l2; (try dsimp only at N'); (try k_lt l1); (try k_lt2 l2))
      | ((with_reducible show wpAny _ _ (call (Value.type "str") [Value.ref _]) _ _ _); k_dflt (refine' es_got ?X ?F ?hf ?hm ?N ?G ?hu ?_; (case G => assumption); (case F => k_asm); (case N => assumption); (case X => k_asm); (case hf => k_is); (case hm => k_is); (case hu => ktr_units); k_whole))) | ((fail_if_success (with_reducible show Stop _)); first | walk1 | (dsimp only; walk1)))
  refine wpC_callWith_fn ?_
  repeat' (first | (refine Stop.go ?_; first
      | ((with_reducible show wpAny _ _ (compareOp CmpOp.NotEq (Value.str _ _) (Value.str _ _)) _ _ _); first | (with_reducible refine tx_ne_same ?_) | (refine tx_ne_diff (by assumption) ?_))
      | ((with_reducible show wpAny _ _ (subscriptTail _ (Expr.Slice none (some _) none _) (Value.str _ _) (Value.ref _)) _ _ _); (with_reducible rename Fr _ _ _ _ => kF); (with_reducible rename News _ _ _ _ => kN); (refine tx_ns (s := ⟨_, _, _, _, _⟩) kF kN (by assumption) (by assumption) ?_); clear kF kN; intro _ _ _ _ _)
      | ((with_reducible show wpAny _ _ (subscriptTail _ (Expr.Slice (some _) none none _) (Value.str _ _) (Value.ref _)) _ _ _); (with_reducible rename Fr _ _ _ _ => kF); (with_reducible rename News _ _ _ _ => kN); (refine tx_sn (s := ⟨_, _, _, _, _⟩) kF kN (by assumption) (by assumption) ?_); clear kF kN; intro _ _ _ _ _)
      | ((with_reducible show wpAny _ _ (subscriptTail _ (Expr.Slice (some _) (some _) none _) (Value.str _ _) (Value.ref _)) _ _ _); (with_reducible rename Fr _ _ _ _ => kF); (with_reducible rename News _ _ _ _ => kN); (refine tx_ss (s := ⟨_, _, _, _, _⟩) kF kN (by assumption) (by assumption) ?_); clear kF kN; intro _ _ _ _ _)
      | ((with_reducible show wpAny _ _ (subscriptTail _ _ (Value.str _ _) (Value.int _ _)) _ _ _); (refine tx_item (by assumption) (by assumption) (by omega) (by omega) ?_); intro _ _)
      | ((with_reducible show wpAny _ _ (call (Value.builtin "str.find") [Value.str _ _, Value.str _ _]) _ _ _); (refine tx_find (by assumption) ?_); intro _ _)
      | ((with_reducible show wpAny _ _ (call (Value.builtin "str.find") [Value.str _ _, Value.str _ _, Value.int _ _]) _ _ _); (refine tx_find3 (by assumption) ?_); intro _ _)
      | ((with_reducible show wpAny _ _ (call (Value.builtin "str.split") [Value.str _ _, Value.str _ _]) _ _ _); first   | (refine tx_split5 (by k_asm) (by k_asm) (by assumption) (by assumption) (by assumption) ?_; intro D' ta' tb' tc' td' tf' h' k' F' N' l1; (try k_lt l1))   | (refine tx_split4 (by k_asm) (by k_asm) (by assumption) (by assumption) (by assumption) ?_; intro D' ta' tb' tc' td' h' k' F' N' l1; (try k_lt l1)))
      | ((with_reducible show wpAny _ _ (call (Value.type "int") [Value.str _ _]) _ _ _); (refine tx_int (by assumption) (by assumption) ?_); intro _ _)
      | ((with_reducible show wpAny _ _ (exec _ _) _ _ _); k_dflt (refine' nestDef_K ?d0 ?k0 ?a0 ?_; (case d0 => exact rfl); (case k0 => exact rfl); (case a0 => exact rfl)); (k_dflt (refine' nest_any ?F ?N ?T ?C ?cd ?U ?tp ?tb ?cl ?_; (case F => k_asm); (case N => k_asm); (case T => k_asm); (case cd => exact rfl); (case C => kn_code); (case U => k_updF); (case tp => assumption); (case tb => assumption); (case cl => exact rfl); k_whole)); intro f' c' oc' vs' t' ct' dc' h' tk' F' N' d1' d2' q9' l1 l2; (try dsimp only at N'); (try k_lt l1); (try k_lt2 l2))
      | ((with_reducible show wpAny _ _ (call (Value.type "str") [Value.ref _]) _ _ _); k_dflt (refine' es_got ?X ?F ?hf ?hm ?N ?G ?hu ?_; (case G => assumption); (case F => k_asm); (case N => assumption); (case X => k_asm); (case hf => k_is); (case hm => k_is); (case hu => ktr_units); k_whole))) | ((fail_if_success (with_reducible show Stop _)); first | walk1 | (dsimp only; walk1)))
  · rename Fr _ _ _ _ => kF
    exact ⟨_, _, _, _, (X'.keeps kF.keep) 95 _ (by k_is)⟩
  show wpC _ _ (call (Value.ref 95) [_, _] []) _ _ _
  refine wpC_call ?_
  k_dflt (refine' enterK_C ?k1 ?k2 ?k3 ?k4 ?k5 ?kA ?kF ?kK ?k6 ?k7 ?k8 ?k9 ?kB ?_ ?c2 ?c3 ?c4 ?c5; (case kA => exact rfl); (case kF => exact rfl); (case kK => exact rfl); (case k1 => k_asm); (case k2 => k_asm); (case k3 => k_asm); (case k4 => k_asm); (case k5 => k_asm); (case k6 => k_is); (case k7 => k_is); (case k8 => k_room); (case k9 => exact BindsTo.of_eq rfl); (case c5 => decide); (case kB => exact locs rfl); (case c2 => exact rfl); (case c3 => exact rfl); (case c4 => exact rfl); k_whole; intro g' L' h' FG' F' N' B' X' T'; (try dsimp only); (try k_lift B'); (try k_fold))
  refine wpC_execs_cons (wpC_of ?_)
  repeat' (first | (refine Stop.go ?_; first
      | ((with_reducible show wpAny _ _ (compareOp CmpOp.NotEq (Value.str _ _) (Value.str _ _)) _ _ _); first | (with_reducible refine tx_ne_same ?_) | (refine tx_ne_diff (by assumption) ?_))
      | ((with_reducible show wpAny _ _ (subscriptTail _ (Expr.Slice none (some _) none _) (Value.str _ _) (Value.ref _)) _ _ _); (with_reducible rename Fr _ _ _ _ => kF); (with_reducible rename News _ _ _ _ => kN); (refine tx_ns (s := ⟨_, _, _, _, _⟩) kF kN (by assumption) (by assumption) ?_); clear kF kN; intro _ _ _ _ _)
      | ((with_reducible show wpAny _ _ (subscriptTail _ (Expr.Slice (some _) none none _) (Value.str _ _) (Value.ref _)) _ _ _); (with_reducible rename Fr _ _ _ _ => kF); (with_reducible rename News _ _ _ _ => kN); (refine tx_sn (s := ⟨_, _, _, _, _⟩) kF kN (by assumption) (by assumption) ?_); clear kF kN; intro _ _ _ _ _)
      | ((with_reducible show wpAny _ _ (subscriptTail _ (Expr.Slice (some _) (some _) none _) (Value.str _ _) (Value.ref _)) _ _ _); (with_reducible rename Fr _ _ _ _ => kF); (with_reducible rename News _ _ _ _ => kN); (refine tx_ss (s := ⟨_, _, _, _, _⟩) kF kN (by assumption) (by assumption) ?_); clear kF kN; intro _ _ _ _ _)
      | ((with_reducible show wpAny _ _ (subscriptTail _ _ (Value.str _ _) (Value.int _ _)) _ _ _); (refine tx_item (by assumption) (by assumption) (by omega) (by omega) ?_); intro _ _)
      | ((with_reducible show wpAny _ _ (call (Value.builtin "str.find") [Value.str _ _, Value.str _ _]) _ _ _); (refine tx_find (by assumption) ?_); intro _ _)
      | ((with_reducible show wpAny _ _ (call (Value.builtin "str.find") [Value.str _ _, Value.str _ _, Value.int _ _]) _ _ _); (refine tx_find3 (by assumption) ?_); intro _ _)
      | ((with_reducible show wpAny _ _ (call (Value.builtin "str.split") [Value.str _ _, Value.str _ _]) _ _ _); first   | (refine tx_split5 (by k_asm) (by k_asm) (by assumption) (by assumption) (by assumption) ?_; intro D' ta' tb' tc' td' tf' h' k' F' N' l1; (try k_lt l1))   | (refine tx_split4 (by k_asm) (by k_asm) (by assumption) (by assumption) (by assumption) ?_; intro D' ta' tb' tc' td' h' k' F' N' l1; (try k_lt l1)))
      | ((with_reducible show wpAny _ _ (call (Value.type "int") [Value.str _ _]) _ _ _); (refine tx_int (by assumption) (by assumption) ?_); intro _ _)
      | ((with_reducible show wpAny _ _ (exec _ _) _ _ _); k_dflt (refine' nestDef_K ?d0 ?k0 ?a0 ?_; (case d0 => exact rfl); (case k0 => exact rfl); (case a0 => exact rfl)); (k_dflt (refine' nest_any ?F ?N ?T ?C ?cd ?U ?tp ?tb ?cl ?_; (case F => k_asm); (case N => k_asm); (case T => k_asm); (case cd => exact rfl); (case C => kn_code); (case U => k_updF); (case tp => assumption); (case tb => assumption); (case cl => exact rfl); k_whole)); intro f' c' oc' vs' t' ct' dc' h' tk' F' N' d1' d2' q9' l1 l2; (try dsimp only at N'); (try k_lt l1); (try k_lt2 l2))
      | ((with_reducible show wpAny _ _ (call (Value.type "str") [Value.ref _]) _ _ _); k_dflt (refine' es_got ?X ?F ?hf ?hm ?N ?G ?hu ?_; (case G => assumption); (case F => k_asm); (case N => assumption); (case X => k_asm); (case hf => k_is); (case hm => k_is); (case hu => ktr_units); k_whole))) | ((fail_if_success (with_reducible show Stop _)); first | walk1 | (dsimp only; walk1)))
  try dsimp only
  refine wpC_execs_cons (wpC_of ?_)
  repeat' (first | (refine Stop.go ?_; first
      | ((with_reducible show wpAny _ _ (compareOp CmpOp.NotEq (Value.str _ _) (Value.str _ _)) _ _ _); first | (with_reducible refine tx_ne_same ?_) | (refine tx_ne_diff (by assumption) ?_))
      | ((with_reducible show wpAny _ _ (subscriptTail _ (Expr.Slice none (some _) none _) (Value.str _ _) (Value.ref _)) _ _ _); (with_reducible rename Fr _ _ _ _ => kF); (with_reducible rename News _ _ _ _ => kN); (refine tx_ns (s := ⟨_, _, _, _, _⟩) kF kN (by assumption) (by assumption) ?_); clear kF kN; intro _ _ _ _ _)
      | ((with_reducible show wpAny _ _ (subscriptTail _ (Expr.Slice (some _) none none _) (Value.str _ _) (Value.ref _)) _ _ _); (with_reducible rename Fr _ _ _ _ => kF); (with_reducible rename News _ _ _ _ => kN); (refine tx_sn (s := ⟨_, _, _, _, _⟩) kF kN (by assumption) (by assumption) ?_); clear kF kN; intro _ _ _ _ _)
      | ((with_reducible show wpAny _ _ (subscriptTail _ (Expr.Slice (some _) (some _) none _) (Value.str _ _) (Value.ref _)) _ _ _); (with_reducible rename Fr _ _ _ _ => kF); (with_reducible rename News _ _ _ _ => kN); (refine tx_ss (s := ⟨_, _, _, _, _⟩) kF kN (by assumption) (by assumption) ?_); clear kF kN; intro _ _ _ _ _)
      | ((with_reducible show wpAny _ _ (subscriptTail _ _ (Value.str _ _) (Value.int _ _)) _ _ _); (refine tx_item (by assumption) (by assumption) (by omega) (by omega) ?_); intro _ _)
      | ((with_reducible show wpAny _ _ (call (Value.builtin "str.find") [Value.str _ _, Value.str _ _]) _ _ _); (refine tx_find (by assumption) ?_); intro _ _)
      | ((with_reducible show wpAny _ _ (call (Value.builtin "str.find") [Value.str _ _, Value.str _ _, Value.int _ _]) _ _ _); (refine tx_find3 (by assumption) ?_); intro _ _)
      | ((with_reducible show wpAny _ _ (call (Value.builtin "str.split") [Value.str _ _, Value.str _ _]) _ _ _); first   | (refine tx_split5 (by k_asm) (by k_asm) (by assumption) (by assumption) (by assumption) ?_; intro D' ta' tb' tc' td' tf' h' k' F' N' l1; (try k_lt l1))   | (refine tx_split4 (by k_asm) (by k_asm) (by assumption) (by assumption) (by assumption) ?_; intro D' ta' tb' tc' td' h' k' F' N' l1; (try k_lt l1)))
      | ((with_reducible show wpAny _ _ (call (Value.type "int") [Value.str _ _]) _ _ _); (refine tx_int (by assumption) (by assumption) ?_); intro _ _)
      | ((with_reducible show wpAny _ _ (exec _ _) _ _ _); k_dflt (refine' nestDef_K ?d0 ?k0 ?a0 ?_; (case d0 => exact rfl); (case k0 => exact rfl); (case a0 => exact rfl)); (k_dflt (refine' nest_any ?F ?N ?T ?C ?cd ?U ?tp ?tb ?cl ?_; (case F => k_asm); (case N => k_asm); (case T => k_asm); (case cd => exact rfl); (case C => kn_code); (case U => k_updF); (case tp => assumption); (case tb => assumption); (case cl => exact rfl); k_whole)); intro f' c' oc' vs' t' ct' dc' h' tk' F' N' d1' d2' q9' l1 l2; (try dsimp only at N'); (try k_lt l1); (try k_lt2 l2))
      | ((with_reducible show wpAny _ _ (call (Value.type "str") [Value.ref _]) _ _ _); k_dflt (refine' es_got ?X ?F ?hf ?hm ?N ?G ?hu ?_; (case G => assumption); (case F => k_asm); (case N => assumption); (case X => k_asm); (case hf => k_is); (case hm => k_is); (case hu => ktr_units); k_whole))) | ((fail_if_success (with_reducible show Stop _)); first | walk1 | (dsimp only; walk1)))
  try dsimp only
  refine wpC_execs_cons (wpC_of ?_)
  repeat' (first | (refine Stop.go ?_; first
      | ((with_reducible show wpAny _ _ (compareOp CmpOp.NotEq (Value.str _ _) (Value.str _ _)) _ _ _); first | (with_reducible refine tx_ne_same ?_) | (refine tx_ne_diff (by assumption) ?_))
      | ((with_reducible show wpAny _ _ (subscriptTail _ (Expr.Slice none (some _) none _) (Value.str _ _) (Value.ref _)) _ _ _); (with_reducible rename Fr _ _ _ _ => kF); (with_reducible rename News _ _ _ _ => kN); (refine tx_ns (s := ⟨_, _, _, _, _⟩) kF kN (by assumption) (by assumption) ?_); clear kF kN; intro _ _ _ _ _)
      | ((with_reducible show wpAny _ _ (subscriptTail _ (Expr.Slice (some _) none none _) (Value.str _ _) (Value.ref _)) _ _ _); (with_reducible rename Fr _ _ _ _ => kF); (with_reducible rename News _ _ _ _ => kN); (refine tx_sn (s := ⟨_, _, _, _, _⟩) kF kN (by assumption) (by assumption) ?_); clear kF kN; intro _ _ _ _ _)
      | ((with_reducible show wpAny _ _ (subscriptTail _ (Expr.Slice (some _) (some _) none _) (Value.str _ _) (Value.ref _)) _ _ _); (with_reducible rename Fr _ _ _ _ => kF); (with_reducible rename News _ _ _ _ => kN); (refine tx_ss (s := ⟨_, _, _, _, _⟩) kF kN (by assumption) (by assumption) ?_); clear kF kN; intro _ _ _ _ _)
      | ((with_reducible show wpAny _ _ (subscriptTail _ _ (Value.str _ _) (Value.int _ _)) _ _ _); (refine tx_item (by assumption) (by assumption) (by omega) (by omega) ?_); intro _ _)
      | ((with_reducible show wpAny _ _ (call (Value.builtin "str.find") [Value.str _ _, Value.str _ _]) _ _ _); (refine tx_find (by assumption) ?_); intro _ _)
      | ((with_reducible show wpAny _ _ (call (Value.builtin "str.find") [Value.str _ _, Value.str _ _, Value.int _ _]) _ _ _); (refine tx_find3 (by assumption) ?_); intro _ _)
      | ((with_reducible show wpAny _ _ (call (Value.builtin "str.split") [Value.str _ _, Value.str _ _]) _ _ _); first   | (refine tx_split5 (by k_asm) (by k_asm) (by assumption) (by assumption) (by assumption) ?_; intro D' ta' tb' tc' td' tf' h' k' F' N' l1; (try k_lt l1))   | (refine tx_split4 (by k_asm) (by k_asm) (by assumption) (by assumption) (by assumption) ?_; intro D' ta' tb' tc' td' h' k' F' N' l1; (try k_lt l1)))
      | ((with_reducible show wpAny _ _ (call (Value.type "int") [Value.str _ _]) _ _ _); (refine tx_int (by assumption) (by assumption) ?_); intro _ _)
      | ((with_reducible show wpAny _ _ (exec _ _) _ _ _); k_dflt (refine' nestDef_K ?d0 ?k0 ?a0 ?_; (case d0 => exact rfl); (case k0 => exact rfl); (case a0 => exact rfl)); (k_dflt (refine' nest_any ?F ?N ?T ?C ?cd ?U ?tp ?tb ?cl ?_; (case F => k_asm); (case N => k_asm); (case T => k_asm); (case cd => exact rfl); (case C => kn_code); (case U => k_updF); (case tp => assumption); (case tb => assumption); (case cl => exact rfl); k_whole)); intro f' c' oc' vs' t' ct' dc' h' tk' F' N' d1' d2' q9' l1 l2; (try dsimp only at N'); (try k_lt l1); (try k_lt2 l2))
      | ((with_reducible show wpAny _ _ (call (Value.type "str") [Value.ref _]) _ _ _); k_dflt (refine' es_got ?X ?F ?hf ?hm ?N ?G ?hu ?_; (case G => assumption); (case F => k_asm); (case N => assumption); (case X => k_asm); (case hf => k_is); (case hm => k_is); (case hu => ktr_units); k_whole))) | ((fail_if_success (with_reducible show Stop _)); first | walk1 | (dsimp only; walk1)))
  try dsimp only
  refine wpC_execs_cons (wpC_of ?_)
  repeat' (first | (refine Stop.go ?_; first
      | ((with_reducible show wpAny _ _ (compareOp CmpOp.NotEq (Value.str _ _) (Value.str _ _)) _ _ _); first | (with_reducible refine tx_ne_same ?_) | (refine tx_ne_diff (by assumption) ?_))
      | ((with_reducible show wpAny _ _ (subscriptTail _ (Expr.Slice none (some _) none _) (Value.str _ _) (Value.ref _)) _ _ _); (with_reducible rename Fr _ _ _ _ => kF); (with_reducible rename News _ _ _ _ => kN); (refine tx_ns (s := ⟨_, _, _, _, _⟩) kF kN (by assumption) (by assumption) ?_); clear kF kN; intro _ _ _ _ _)
      | ((with_reducible show wpAny _ _ (subscriptTail _ (Expr.Slice (some _) none none _) (Value.str _ _) (Value.ref _)) _ _ _); (with_reducible rename Fr _ _ _ _ => kF); (with_reducible rename News _ _ _ _ => kN); (refine tx_sn (s := ⟨_, _, _, _, _⟩) kF kN (by assumption) (by assumption) ?_); clear kF kN; intro _ _ _ _ _)
      | ((with_reducible show wpAny _ _ (subscriptTail _ (Expr.Slice (some _) (some _) none _) (Value.str _ _) (Value.ref _)) _ _ _); (with_reducible rename Fr _ _ _ _ => kF); (with_reducible rename News _ _ _ _ => kN); (refine tx_ss (s := ⟨_, _, _, _, _⟩) kF kN (by assumption) (by assumption) ?_); clear kF kN; intro _ _ _ _ _)
      | ((with_reducible show wpAny _ _ (subscriptTail _ _ (Value.str _ _) (Value.int _ _)) _ _ _); (refine tx_item (by assumption) (by assumption) (by omega) (by omega) ?_); intro _ _)
      | ((with_reducible show wpAny _ _ (call (Value.builtin "str.find") [Value.str _ _, Value.str _ _]) _ _ _); (refine tx_find (by assumption) ?_); intro _ _)
      | ((with_reducible show wpAny _ _ (call (Value.builtin "str.find") [Value.str _ _, Value.str _ _, Value.int _ _]) _ _ _); (refine tx_find3 (by assumption) ?_); intro _ _)
      | ((with_reducible show wpAny _ _ (call (Value.builtin "str.split") [Value.str _ _, Value.str _ _]) _ _ _); first   | (refine tx_split5 (by k_asm) (by k_asm) (by assumption) (by assumption) (by assumption) ?_; intro D' ta' tb' tc' td' tf' h' k' F' N' l1; (try k_lt l1))   | (refine tx_split4 (by k_asm) (by k_asm) (by assumption) (by assumption) (by assumption) ?_; intro D' ta' tb' tc' td' h' k' F' N' l1; (try k_lt l1)))
      | ((with_reducible show wpAny _ _ (call (Value.type "int") [Value.str _ _]) _ _ _); (refine tx_int (by assumption) (by assumption) ?_); intro _ _)
      | ((with_reducible show wpAny _ _ (exec _ _) _ _ _); k_dflt (refine' nestDef_K ?d0 ?k0 ?a0 ?_; (case d0 => exact rfl); (case k0 => exact rfl); (case a0 => exact rfl)); (k_dflt (refine' nest_any ?F ?N ?T ?C ?cd ?U ?tp ?tb ?cl ?_; (case F => k_asm); (case N => k_asm); (case T => k_asm); (case cd => exact rfl); (case C => kn_code); (case U => k_updF); (case tp => assumption); (case tb => assumption); (case cl => exact rfl); k_whole)); intro f' c' oc' vs' t' ct' dc' h' tk' F' N' d1' d2' q9' l1 l2; (try dsimp only at N'); (try k_lt l1); (try k_lt2 l2))
      | ((with_reducible show wpAny _ _ (call (Value.type "str") [Value.ref _]) _ _ _); k_dflt (refine' es_got ?X ?F ?hf ?hm ?N ?G ?hu ?_; (case G => assumption); (case F => k_asm); (case N => assumption); (case X => k_asm); (case hf => k_is); (case hm => k_is); (case hu => ktr_units); k_whole))) | ((fail_if_success (with_reducible show Stop _)); first | walk1 | (dsimp only; walk1)))
  try dsimp only
  refine wpC_execs_cons (wpC_of ?_)
  repeat' (first | (refine Stop.go ?_; first
      | ((with_reducible show wpAny _ _ (compareOp CmpOp.NotEq (Value.str _ _) (Value.str _ _)) _ _ _); first | (with_reducible refine tx_ne_same ?_) | (refine tx_ne_diff (by assumption) ?_))
      | ((with_reducible show wpAny _ _ (subscriptTail _ (Expr.Slice none (some _) none _) (Value.str _ _) (Value.ref _)) _ _ _); (with_reducible rename Fr _ _ _ _ => kF); (with_reducible rename News _ _ _ _ => kN); (refine tx_ns (s := ⟨_, _, _, _, _⟩) kF kN (by assumption) (by assumption) ?_); clear kF kN; intro _ _ _ _ _)
      | ((with_reducible show wpAny _ _ (subscriptTail _ (Expr.Slice (some _) none none _) (Value.str _ _) (Value.ref _)) _ _ _); (with_reducible rename Fr _ _ _ _ => kF); (with_reducible rename News _ _ _ _ => kN); (refine tx_sn (s := ⟨_, _, _, _, _⟩) kF kN (by assumption) (by assumption) ?_); clear kF kN; intro _ _ _ _ _)
      | ((with_reducible show wpAny _ _ (subscriptTail _ (Expr.Slice (some _) (some _) none _) (Value.str _ _) (Value.ref _)) _ _ _); (with_reducible rename Fr _ _ _ _ => kF); (with_reducible rename News _ _ _ _ => kN); (refine tx_ss (s := ⟨_, _, _, _, _⟩) kF kN (by assumption) (by assumption) ?_); clear kF kN; intro _ _ _ _ _)
      | ((with_reducible show wpAny _ _ (subscriptTail _ _ (Value.str _ _) (Value.int _ _)) _ _ _); (refine tx_item (by assumption) (by assumption) (by omega) (by omega) ?_); intro _ _)
      | ((with_reducible show wpAny _ _ (call (Value.builtin "str.find") [Value.str _ _, Value.str _ _]) _ _ _); (refine tx_find (by assumption) ?_); intro _ _)
      | ((with_reducible show wpAny _ _ (call (Value.builtin "str.find") [Value.str _ _, Value.str _ _, Value.int _ _]) _ _ _); (refine tx_find3 (by assumption) ?_); intro _ _)
      | ((with_reducible show wpAny _ _ (call (Value.builtin "str.split") [Value.str _ _, Value.str _ _]) _ _ _); first   | (refine tx_split5 (by k_asm) (by k_asm) (by assumption) (by assumption) (by assumption) ?_; intro D' ta' tb' tc' td' tf' h' k' F' N' l1; (try k_lt l1))   | (refine tx_split4 (by k_asm) (by k_asm) (by assumption) (by assumption) (by assumption) ?_; intro D' ta' tb' tc' td' h' k' F' N' l1; (try k_lt l1)))
      | ((with_reducible show wpAny _ _ (call (Value.type "int") [Value.str _ _]) _ _ _); (refine tx_int (by assumption) (by assumption) ?_); intro _ _)
      | ((with_reducible show wpAny _ _ (exec _ _) _ _ _); k_dflt (refine' nestDef_K ?d0 ?k0 ?a0 ?_; (case d0 => exact rfl); (case k0 => exact rfl); (case a0 => exact rfl)); (k_dflt (refine' nest_any ?F ?N ?T ?C ?cd ?U ?tp ?tb ?cl ?_; (case F => k_asm); (case N => k_asm); (case T => k_asm); (case cd => exact rfl); (case C => kn_code); (case U => k_updF); (case tp => assumption); (case tb => assumption); (case cl => exact rfl); k_whole)); intro f' c' oc' vs' t' ct' dc' h' tk' F' N' d1' d2' q9' l1 l2; (try dsimp only at N'); (try k_lt l1); (try k_lt2 l2))
      | ((with_reducible show wpAny _ _ (call (Value.type "str") [Value.ref _]) _ _ _); k_dflt (refine' es_got ?X ?F ?hf ?hm ?N ?G ?hu ?_; (case G => assumption); (case F => k_asm); (case N => assumption); (case X => k_asm); (case hf => k_is); (case hm => k_is); (case hu => ktr_units); k_whole))) | ((fail_if_success (with_reducible show Stop _)); first | walk1 | (dsimp only; walk1)))
  try dsimp only
  refine wpC_execs_cons (wpC_of ?_)
  repeat' (first | (refine Stop.go ?_; first
      | ((with_reducible show wpAny _ _ (compareOp CmpOp.NotEq (Value.str _ _) (Value.str _ _)) _ _ _); first | (with_reducible refine tx_ne_same ?_) | (refine tx_ne_diff (by assumption) ?_))
      | ((with_reducible show wpAny _ _ (subscriptTail _ (Expr.Slice none (some _) none _) (Value.str _ _) (Value.ref _)) _ _ _); (with_reducible rename Fr _ _ _ _ => kF); (with_reducible rename News _ _ _ _ => kN); (refine tx_ns (s := ⟨_, _, _, _, _⟩) kF kN (by assumption) (by assumption) ?_); clear kF kN; intro _ _ _ _ _)
      | ((with_reducible show wpAny _ _ (subscriptTail _ (Expr.Slice (some _) none none _) (Value.str _ _) (Value.ref _)) _ _ _); (with_reducible rename Fr _ _ _ _ => kF); (with_reducible rename News _ _ _ _ => kN); (refine tx_sn (s := ⟨_, _, _, _, _⟩) kF kN (by assumption) (by assumption) ?_); clear kF kN; intro _ _ _ _ _)
      | ((with_reducible show wpAny _ _ (subscriptTail _ (Expr.Slice (some _) (some _) none _) (Value.str _ _) (Value.ref _)) _ _ _); (with_reducible rename Fr _ _ _ _ => kF); (with_reducible rename News _ _ _ _ => kN); (refine tx_ss (s := ⟨_, _, _, _, _⟩) kF kN (by assumption) (by assumption) ?_); clear kF kN; intro _ _ _ _ _)
      | ((with_reducible show wpAny _ _ (subscriptTail _ _ (Value.str _ _) (Value.int _ _)) _ _ _); (refine tx_item (by assumption) (by assumption) (by omega) (by omega) ?_); intro _ _)
      | ((with_reducible show wpAny _ _ (call (Value.builtin "str.find") [Value.str _ _, Value.str _ _]) _ _ _); (refine tx_find (by assumption) ?_); intro _ _)
      | ((with_reducible show wpAny _ _ (call (Value.builtin "str.find") [Value.str _ _, Value.str _ _, Value.int _ _]) _ _ _); (refine tx_find3 (by assumption) ?_); intro _ _)
      | ((with_reducible show wpAny _ _ (call (Value.builtin "str.split") [Value.str _ _, Value.str _ _]) _ _ _); first   | (refine tx_split5 (by k_asm) (by k_asm) (by assumption) (by assumption) (by assumption) ?_; intro D' ta' tb' tc' td' tf' h' k' F' N' l1; (try k_lt l1))   | (refine tx_split4 (by k_asm) (by k_asm) (by assumption) (by assumption) (by assumption) ?_; intro D' ta' tb' tc' td' h' k' F' N' l1; (try k_lt l1)))
      | ((with_reducible show wpAny _ _ (call (Value.type "int") [Value.str _ _]) _ _ _); (refine tx_int (by assumption) (by assumption) ?_); intro _ _)
      | ((with_reducible show wpAny _ _ (exec _ _) _ _ _); k_dflt (refine' nestDef_K ?d0 ?k0 ?a0 ?_; (case d0 => exact rfl); (case k0 => exact rfl); (case a0 => exact rfl)); (k_dflt (refine' nest_any ?F ?N ?T ?C ?cd ?U ?tp ?tb ?cl ?_; (case F => k_asm); (case N => k_asm); (case T => k_asm); (case cd => exact rfl); (case C => kn_code); (case U => k_updF); (case tp => assumption); (case tb => assumption); (case cl => exact rfl); k_whole)); intro f' c' oc' vs' t' ct' dc' h' tk' F' N' d1' d2' q9' l1 l2; (try dsimp only at N'); (try k_lt l1); (try k_lt2 l2))
      | ((with_reducible show wpAny _ _ (call (Value.type "str") [Value.ref _]) _ _ _); k_dflt (refine' es_got ?X ?F ?hf ?hm ?N ?G ?hu ?_; (case G => assumption); (case F => k_asm); (case N => assumption); (case X => k_asm); (case hf => k_is); (case hm => k_is); (case hu => ktr_units); k_whole))) | ((fail_if_success (with_reducible show Stop _)); first | walk1 | (dsimp only; walk1)))
  try dsimp only
  refine wpC_execs_cons (wpC_of ?_)
  repeat' (first | (refine Stop.go ?_; first
      | ((with_reducible show wpAny _ _ (compareOp CmpOp.NotEq (Value.str _ _) (Value.str _ _)) _ _ _); first | (with_reducible refine tx_ne_same ?_) | (refine tx_ne_diff (by assumption) ?_))
      | ((with_reducible show wpAny _ _ (subscriptTail _ (Expr.Slice none (some _) none _) (Value.str _ _) (Value.ref _)) _ _ _); (with_reducible rename Fr _ _ _ _ => kF); (with_reducible rename News _ _ _ _ => kN); (refine tx_ns (s := ⟨_, _, _, _, _⟩) kF kN (by assumption) (by assumption) ?_); clear kF kN; intro _ _ _ _ _)
      | ((with_reducible show wpAny _ _ (subscriptTail _ (Expr.Slice (some _) none none _) (Value.str _ _) (Value.ref _)) _ _ _); (with_reducible rename Fr _ _ _ _ => kF); (with_reducible rename News _ _ _ _ => kN); (refine tx_sn (s := ⟨_, _, _, _, _⟩) kF kN (by assumption) (by assumption) ?_); clear kF kN; intro _ _ _ _ _)
      | ((with_reducible show wpAny _ _ (subscriptTail _ (Expr.Slice (some _) (some _) none _) (Value.str _ _) (Value.ref _)) _ _ _); (with_reducible rename Fr _ _ _ _ => kF); (with_reducible rename News _ _ _ _ => kN); (refine tx_ss (s := ⟨_, _, _, _, _⟩) kF kN (by assumption) (by assumption) ?_); clear kF kN; intro _ _ _ _ _)
      | ((with_reducible show wpAny _ _ (subscriptTail _ _ (Value.str _ _) (Value.int _ _)) _ _ _); (refine tx_item (by assumption) (by assumption) (by omega) (by omega) ?_); intro _ _)
      | ((with_reducible show wpAny _ _ (call (Value.builtin "str.find") [Value.str _ _, Value.str _ _]) _ _ _); (refine tx_find (by assumption) ?_); intro _ _)
      | ((with_reducible show wpAny _ _ (call (Value.builtin "str.find") [Value.str _ _, Value.str _ _, Value.int _ _]) _ _ _); (refine tx_find3 (by assumption) ?_); intro _ _)
      | ((with_reducible show wpAny _ _ (call (Value.builtin "str.split") [Value.str _ _, Value.str _ _]) _ _ _); first   | (refine tx_split5 (by k_asm) (by k_asm) (by assumption) (by assumption) (by assumption) ?_; intro D' ta' tb' tc' td' tf' h' k' F' N' l1; (try k_lt l1))   | (refine tx_split4 (by k_asm) (by k_asm) (by assumption) (by assumption) (by assumption) ?_; intro D' ta' tb' tc' td' h' k' F' N' l1; (try k_lt l1)))
      | ((with_reducible show wpAny _ _ (call (Value.type "int") [Value.str _ _]) _ _ _); (refine tx_int (by assumption) (by assumption) ?_); intro _ _)
      | ((with_reducible show wpAny _ _ (exec _ _) _ _ _); k_dflt (refine' nestDef_K ?d0 ?k0 ?a0 ?_; (case d0 => exact rfl); (case k0 => exact rfl); (case a0 => exact rfl)); (k_dflt (refine' nest_any ?F ?N ?T ?C ?cd ?U ?tp ?tb ?cl ?_; (case F => k_asm); (case N => k_asm); (case T => k_asm); (case cd => exact rfl); (case C => kn_code); (case U => k_updF); (case tp => assumption); (case tb => assumption); (case cl => exact rfl); k_whole)); intro f' c' oc' vs' t' ct' dc' h' tk' F' N' d1' d2' q9' l1 l2; (try dsimp only at N'); (try k_lt l1); (try k_lt2 l2))
      | ((with_reducible show wpAny _ _ (call (Value.type "str") [Value.ref _]) _ _ _); k_dflt (refine' es_got ?X ?F ?hf ?hm ?N ?G ?hu ?_; (case G => assumption); (case F => k_asm); (case N => assumption); (case X => k_asm); (case hf => k_is); (case hm => k_is); (case hu => ktr_units); k_whole))) | ((fail_if_success (with_reducible show Stop _)); first | walk1 | (dsimp only; walk1)))
  try dsimp only
  refine wpC_execs_cons (wpC_of ?_)
  repeat' (first | (refine Stop.go ?_; first
      | ((with_reducible show wpAny _ _ (compareOp CmpOp.NotEq (Value.str _ _) (Value.str _ _)) _ _ _); first | (with_reducible refine tx_ne_same ?_) | (refine tx_ne_diff (by assumption) ?_))
      | ((with_reducible show wpAny _ _ (subscriptTail _ (Expr.Slice none (some _) none _) (Value.str _ _) (Value.ref _)) _ _ _); (with_reducible rename Fr _ _ _ _ => kF); (with_reducible rename News _ _ _ _ => kN); (refine tx_ns (s := ⟨_, _, _, _, _⟩) kF kN (by assumption) (by assumption) ?_); clear kF kN; intro _ _ _ _ _)
      | ((with_reducible show wpAny _ _ (subscriptTail _ (Expr.Slice (some _) none none _) (Value.str _ _) (Value.ref _)) _ _ _); (with_reducible rename Fr _ _ _ _ => kF); (with_reducible rename News _ _ _ _ => kN); (refine tx_sn (s := ⟨_, _, _, _, _⟩) kF kN (by assumption) (by assumption) ?_); clear kF kN; intro _ _ _ _ _)
      | ((with_reducible show wpAny _ _ (subscriptTail _ (Expr.Slice (some _) (some _) none _) (Value.str _ _) (Value.ref _)) _ _ _); (with_reducible rename Fr _ _ _ _ => kF); (with_reducible rename News _ _ _ _ => kN); (refine tx_ss (s := ⟨_, _, _, _, _⟩) kF kN (by assumption) (by assumption) ?_); clear kF kN; intro _ _ _ _ _)
      | ((with_reducible show wpAny _ _ (subscriptTail _ _ (Value.str _ _) (Value.int _ _)) _ _ _); (refine tx_item (by assumption) (by assumption) (by omega) (by omega) ?_); intro _ _)
      | ((with_reducible show wpAny _ _ (call (Value.builtin "str.find") [Value.str _ _, Value.str _ _]) _ _ _); (refine tx_find (by assumption) ?_); intro _ _)
      | ((with_reducible show wpAny _ _ (call (Value.builtin "str.find") [Value.str _ _, Value.str _ _, Value.int _ _]) _ _ _); (refine tx_find3 (by assumption) ?_); intro _ _)
      | ((with_reducible show wpAny _ _ (call (Value.builtin "str.split") [Value.str _ _, Value.str _ _]) _ _ _); first   | (refine tx_split5 (by k_asm) (by k_asm) (by assumption) (by assumption) (by assumption) ?_; intro D' ta' tb' tc' td' tf' h' k' F' N' l1; (try k_lt l1))   | (refine tx_split4 (by k_asm) (by k_asm) (by assumption) (by assumption) (by assumption) ?_; intro D' ta' tb' tc' td' h' k' F' N' l1; (try k_lt l1)))
      | ((with_reducible show wpAny _ _ (call (Value.type "int") [Value.str _ _]) _ _ _); (refine tx_int (by assumption) (by assumption) ?_); intro _ _)
      | ((with_reducible show wpAny _ _ (exec _ _) _ _ _); k_dflt (refine' nestDef_K ?d0 ?k0 ?a0 ?_; (case d0 => exact rfl); (case k0 => exact rfl); (case a0 => exact rfl)); (k_dflt (refine' nest_any ?F ?N ?T ?C ?cd ?U ?tp ?tb ?cl ?_; (case F => k_asm); (case N => k_asm); (case T => k_asm); (case cd => exact rfl); (case C => kn_code); (case U => k_updF); (case tp => assumption); (case tb => assumption); (case cl => exact rfl); k_whole)); intro f' c' oc' vs' t' ct' dc' h' tk' F' N' d1' d2' q9' l1 l2; (try dsimp only at N'); (try k_lt l1); (try k_lt2 l2))
      | ((with_reducible show wpAny _ _ (call (Value.type "str") [Value.ref _]) _ _ _); k_dflt (refine' es_got ?X ?F ?hf ?hm ?N ?G ?hu ?_; (case G => assumption); (case F => k_asm); (case N => assumption); (case X => k_asm); (case hf => k_is); (case hm => k_is); (case hu => ktr_units); k_whole))) | ((fail_if_success (with_reducible show Stop _)); first | walk1 | (dsimp only; walk1)))
  try dsimp only
  refine wpC_execs_cons (wpC_of ?_)
  repeat' (first | (refine Stop.go ?_; first
      | ((with_reducible show wpAny _ _ (compareOp CmpOp.NotEq (Value.str _ _) (Value.str _ _)) _ _ _); first | (with_reducible refine tx_ne_same ?_) | (refine tx_ne_diff (by assumption) ?_))
      | ((with_reducible show wpAny _ _ (subscriptTail _ (Expr.Slice none (some _) none _) (Value.str _ _) (Value.ref _)) _ _ _); (with_reducible rename Fr _ _ _ _ => kF); (with_reducible rename News _ _ _ _ => kN); (refine tx_ns (s := ⟨_, _, _, _, _⟩) kF kN (by assumption) (by assumption) ?_); clear kF kN; intro _ _ _ _ _)
      | ((with_reducible show wpAny _ _ (subscriptTail _ (Expr.Slice (some _) none none _) (Value.str _ _) (Value.ref _)) _ _ _); (with_reducible rename Fr _ _ _ _ => kF); (with_reducible rename News _ _ _ _ => kN); (refine tx_sn (s := ⟨_, _, _, _, _⟩) kF kN (by assumption) (by assumption) ?_); clear kF kN; intro _ _ _ _ _)
      | ((with_reducible show wpAny _ _ (subscriptTail _ (Expr.Slice (some _) (some _) none _) (Value.str _ _) (Value.ref _)) _ _ _); (with_reducible rename Fr _ _ _ _ => kF); (with_reducible rename News _ _ _ _ => kN); (refine tx_ss (s := ⟨_, _, _, _, _⟩) kF kN (by assumption) (by assumption) ?_); clear kF kN; intro _ _ _ _ _)
      | ((with_reducible show wpAny _ _ (subscriptTail _ _ (Value.str _ _) (Value.int _ _)) _ _ _); (refine tx_item (by assumption) (by assumption) (by omega) (by omega) ?_); intro _ _)
      | ((with_reducible show wpAny _ _ (call (Value.builtin "str.find") [Value.str _ _, Value.str _ _]) _ _ _); (refine tx_find (by assumption) ?_); intro _ _)
      | ((with_reducible show wpAny _ _ (call (Value.builtin "str.find") [Value.str _ _, Value.str _ _, Value.int _ _]) _ _ _); (refine tx_find3 (by assumption) ?_); intro _ _)
      | ((with_reducible show wpAny _ _ (call (Value.builtin "str.split") [Value.str _ _, Value.str _ _]) _ _ _); first   | (refine tx_split5 (by k_asm) (by k_asm) (by assumption) (by assumption) (by assumption) ?_; intro D' ta' tb' tc' td' tf' h' k' F' N' l1; (try k_lt l1))   | (refine tx_split4 (by k_asm) (by k_asm) (by assumption) (by assumption) (by assumption) ?_; intro D' ta' tb' tc' td' h' k' F' N' l1; (try k_lt l1)))
      | ((with_reducible show wpAny _ _ (call (Value.type "int") [Value.str _ _]) _ _ _); (refine tx_int (by assumption) (by assumption) ?_); intro _ _)
      | ((with_reducible show wpAny _ _ (exec _ _) _ _ _); k_dflt (refine' nestDef_K ?d0 ?k0 ?a0 ?_; (case d0 => exact rfl); (case k0 => exact rfl); (case a0 => exact rfl)); (k_dflt (refine' nest_any ?F ?N ?T ?C ?cd ?U ?tp ?tb ?cl ?_; (case F => k_asm); (case N => k_asm); (case T => k_asm); (case cd => exact rfl); (case C => kn_code); (case U => k_updF); (case tp => assumption); (case tb => assumption); (case cl => exact rfl); k_whole)); intro f' c' oc' vs' t' ct' dc' h' tk' F' N' d1' d2' q9' l1 l2; (try dsimp only at N'); (try k_lt l1); (try k_lt2 l2))
      | ((with_reducible show wpAny _ _ (call (Value.type "str") [Value.ref _]) _ _ _); k_dflt (refine' es_got ?X ?F ?hf ?hm ?N ?G ?hu ?_; (case G => assumption); (case F => k_asm); (case N => assumption); (case X => k_asm); (case hf => k_is); (case hm => k_is); (case hu => ktr_units); k_whole))) | ((fail_if_success (with_reducible show Stop _)); first | walk1 | (dsimp only; walk1)))
  try dsimp only
  refine wpC_execs_cons (wpC_Assign_Name (wpC_Call_Name ?_))
  repeat' (first | (refine Stop.go ?_; first
      | ((with_reducible show wpAny _ _ (compareOp CmpOp.NotEq (Value.str _ _) (Value.str _ _)) _ _ _); first | (with_reducible refine tx_ne_same ?_) | (refine tx_ne_diff (by assumption) ?_))
      | ((with_reducible show wpAny _ _ (subscriptTail _ (Expr.Slice none (some _) none _) (Value.str _ _) (Value.ref _)) _ _ _); (with_reducible rename Fr _ _ _ _ => kF); (with_reducible rename News _ _ _ _ => kN); (refine tx_ns (s := ⟨_, _, _, _, _⟩) kF kN (by assumption) (by assumption) ?_); clear kF kN; intro _ _ _ _ _)
      | ((with_reducible show wpAny _ _ (subscriptTail _ (Expr.Slice (some _) none none _) (Value.str _ _) (Value.ref _)) _ _ _); (with_reducible rename Fr _ _ _ _ => kF); (with_reducible rename News _ _ _ _ => kN); (refine tx_sn (s := ⟨_, _, _, _, _⟩) kF kN (by assumption) (by assumption) ?_); clear kF kN; intro _ _ _ _ _)
      | ((with_reducible show wpAny _ _ (subscriptTail _ (Expr.Slice (some _) (some _) none _) (Value.str _ _) (Value.ref _)) _ _ _); (with_reducible rename Fr _ _ _ _ => kF); (with_reducible rename News _ _ _ _ => kN); (refine tx_ss (s := ⟨_, _, _, _, _⟩) kF kN (by assumption) (by assumption) ?_); clear kF kN; intro _ _ _ _ _)
      | ((with_reducible show wpAny _ _ (subscriptTail _ _ (Value.str _ _) (Value.int _ _)) _ _ _); (refine tx_item (by assumption) (by assumption) (by omega) (by omega) ?_); intro _ _)
      | ((with_reducible show wpAny _ _ (call (Value.builtin "str.find") [Value.str _ _, Value.str _ _]) _ _ _); (refine tx_find (by assumption) ?_); intro _ _)
      | ((with_reducible show wpAny _ _ (call (Value.builtin "str.find") [Value.str _ _, Value.str _ _, Value.int _ _]) _ _ _); (refine tx_find3 (by assumption) ?_); intro _ _)
      | ((with_reducible show wpAny _ _ (call (Value.builtin "str.split") [Value.str _ _, Value.str _ _]) _ _ _); first   | (refine tx_split5 (by k_asm) (by k_asm) (by assumption) (by assumption) (by assumption) ?_; intro D' ta' tb' tc' td' tf' h' k' F' N' l1; (try k_lt l1))   | (refine tx_split4 (by k_asm) (by k_asm) (by assumption) (by assumption) (by assumption) ?_; intro D' ta' tb' tc' td' h' k' F' N' l1; (try k_lt l1)))
      | ((with_reducible show wpAny _ _ (call (Value.type "int") [Value.str _ _]) _ _ _); (refine tx_int (by assumption) (by assumption) ?_); intro _ _)
      | ((with_reducible show wpAny _ _ (exec _ _) _ _ _); k_dflt (refine' nestDef_K ?d0 ?k0 ?a0 ?_; (case d0 => exact rfl); (case k0 => exact rfl); (case a0 => exact rfl)); (k_dflt (refine' nest_any ?F ?N ?T ?C ?cd ?U ?tp ?tb ?cl ?_; (case F => k_asm); (case N => k_asm); (case T => k_asm); (case cd => exact rfl); (case C => kn_code); (case U => k_updF); (case tp => assumption); (case tb => assumption); (case cl => exact rfl); k_whole)); intro f' c' oc' vs' t' ct' dc' h' tk' F' N' d1' d2' q9' l1 l2; (try dsimp only at N'); (try k_lt l1); (try k_lt2 l2))
      | ((with_reducible show wpAny _ _ (call (Value.type "str") [Value.ref _]) _ _ _); k_dflt (refine' es_got ?X ?F ?hf ?hm ?N ?G ?hu ?_; (case G => assumption); (case F => k_asm); (case N => assumption); (case X => k_asm); (case hf => k_is); (case hm => k_is); (case hu => ktr_units); k_whole))) | ((fail_if_success (with_reducible show Stop _)); first | walk1 | (dsimp only; walk1)))
  refine wpC_callWith_type rfl ?_
  refine PySem.Calls.evalArgs_plain (PySem.Calls.spliced_cons ?_)
  show wpAny _ _ (eval (Expr.Subscript _ _ _) _) _ _ _
  repeat' (first | (refine Stop.go ?_; first
      | ((with_reducible show wpAny _ _ (compareOp CmpOp.NotEq (Value.str _ _) (Value.str _ _)) _ _ _); first | (with_reducible refine tx_ne_same ?_) | (refine tx_ne_diff (by assumption) ?_))
      | ((with_reducible show wpAny _ _ (subscriptTail _ (Expr.Slice none (some _) none _) (Value.str _ _) (Value.ref _)) _ _ _); (with_reducible rename Fr _ _ _ _ => kF); (with_reducible rename News _ _ _ _ => kN); (refine tx_ns (s := ⟨_, _, _, _, _⟩) kF kN (by assumption) (by assumption) ?_); clear kF kN; intro _ _ _ _ _)
      | ((with_reducible show wpAny _ _ (subscriptTail _ (Expr.Slice (some _) none none _) (Value.str _ _) (Value.ref _)) _ _ _); (with_reducible rename Fr _ _ _ _ => kF); (with_reducible rename News _ _ _ _ => kN); (refine tx_sn (s := ⟨_, _, _, _, _⟩) kF kN (by assumption) (by assumption) ?_); clear kF kN; intro _ _ _ _ _)
      | ((with_reducible show wpAny _ _ (subscriptTail _ (Expr.Slice (some _) (some _) none _) (Value.str _ _) (Value.ref _)) _ _ _); (with_reducible rename Fr _ _ _ _ => kF); (with_reducible rename News _ _ _ _ => kN); (refine tx_ss (s := ⟨_, _, _, _, _⟩) kF kN (by assumption) (by assumption) ?_); clear kF kN; intro _ _ _ _ _)
      | ((with_reducible show wpAny _ _ (subscriptTail _ _ (Value.str _ _) (Value.int _ _)) _ _ _); (refine tx_item (by assumption) (by assumption) (by omega) (by omega) ?_); intro _ _)
      | ((with_reducible show wpAny _ _ (call (Value.builtin "str.find") [Value.str _ _, Value.str _ _]) _ _ _); (refine tx_find (by assumption) ?_); intro _ _)
      | ((with_reducible show wpAny _ _ (call (Value.builtin "str.find") [Value.str _ _, Value.str _ _, Value.int _ _]) _ _ _); (refine tx_find3 (by assumption) ?_); intro _ _)
      | ((with_reducible show wpAny _ _ (call (Value.builtin "str.split") [Value.str _ _, Value.str _ _]) _ _ _); first   | (refine tx_split5 (by k_asm) (by k_asm) (by assumption) (by assumption) (by assumption) ?_; intro D' ta' tb' tc' td' tf' h' k' F' N' l1; (try k_lt l1))   | (refine tx_split4 (by k_asm) (by k_asm) (by assumption) (by assumption) (by assumption) ?_; intro D' ta' tb' tc' td' h' k' F' N' l1; (try k_lt l1)))
      | ((with_reducible show wpAny _ _ (call (Value.type "int") [Value.str _ _]) _ _ _); (refine tx_int (by assumption) (by assumption) ?_); intro _ _)
      | ((with_reducible show wpAny _ _ (exec _ _) _ _ _); k_dflt (refine' nestDef_K ?d0 ?k0 ?a0 ?_; (case d0 => exact rfl); (case k0 => exact rfl); (case a0 => exact rfl)); (k_dflt (refine' nest_any ?F ?N ?T ?C ?cd ?U ?tp ?tb ?cl ?_; (case F => k_asm); (case N => k_asm); (case T => k_asm); (case cd => exact rfl); (case C => kn_code); (case U => k_updF); (case tp => assumption); (case tb => assumption); (case cl => exact rfl); k_whole)); intro f' c' oc' vs' t' ct' dc' h' tk' F' N' d1' d2' q9' l1 l2; (try dsimp only at N'); (try k_lt l1); (try k_lt2 l2))
      | ((with_reducible show wpAny _ _ (call (Value.type "str") [Value.ref _]) _ _ _); k_dflt (refine' es_got ?X ?F ?hf ?hm ?N ?G ?hu ?_; (case G => assumption); (case F => k_asm); (case N => assumption); (case X => k_asm); (case hf => k_is); (case hm => k_is); (case hu => ktr_units); k_whole))) | ((fail_if_success (with_reducible show Stop _)); first | walk1 | (dsimp only; walk1)))
  refine int_refused_C rfl h3 hc hn fun h9 tk9 e9 hx9 => ?_
  dsimp only at hx9 ⊢
  repeat' (first | (refine Stop.go ?_; first
      | ((with_reducible show wpAny _ _ (compareOp CmpOp.NotEq (Value.str _ _) (Value.str _ _)) _ _ _); first | (with_reducible refine tx_ne_same ?_) | (refine tx_ne_diff (by assumption) ?_))
      | ((with_reducible show wpAny _ _ (subscriptTail _ (Expr.Slice none (some _) none _) (Value.str _ _) (Value.ref _)) _ _ _); (with_reducible rename Fr _ _ _ _ => kF); (with_reducible rename News _ _ _ _ => kN); (refine tx_ns (s := ⟨_, _, _, _, _⟩) kF kN (by assumption) (by assumption) ?_); clear kF kN; intro _ _ _ _ _)
      | ((with_reducible show wpAny _ _ (subscriptTail _ (Expr.Slice (some _) none none _) (Value.str _ _) (Value.ref _)) _ _ _); (with_reducible rename Fr _ _ _ _ => kF); (with_reducible rename News _ _ _ _ => kN); (refine tx_sn (s := ⟨_, _, _, _, _⟩) kF kN (by assumption) (by assumption) ?_); clear kF kN; intro _ _ _ _ _)
      | ((with_reducible show wpAny _ _ (subscriptTail _ (Expr.Slice (some _) (some _) none _) (Value.str _ _) (Value.ref _)) _ _ _); (with_reducible rename Fr _ _ _ _ => kF); (with_reducible rename News _ _ _ _ => kN); (refine tx_ss (s := ⟨_, _, _, _, _⟩) kF kN (by assumption) (by assumption) ?_); clear kF kN; intro _ _ _ _ _)
      | ((with_reducible show wpAny _ _ (subscriptTail _ _ (Value.str _ _) (Value.int _ _)) _ _ _); (refine tx_item (by assumption) (by assumption) (by omega) (by omega) ?_); intro _ _)
      | ((with_reducible show wpAny _ _ (call (Value.builtin "str.find") [Value.str _ _, Value.str _ _]) _ _ _); (refine tx_find (by assumption) ?_); intro _ _)
      | ((with_reducible show wpAny _ _ (call (Value.builtin "str.find") [Value.str _ _, Value.str _ _, Value.int _ _]) _ _ _); (refine tx_find3 (by assumption) ?_); intro _ _)
      | ((with_reducible show wpAny _ _ (call (Value.builtin "str.split") [Value.str _ _, Value.str _ _]) _ _ _); first   | (refine tx_split5 (by k_asm) (by k_asm) (by assumption) (by assumption) (by assumption) ?_; intro D' ta' tb' tc' td' tf' h' k' F' N' l1; (try k_lt l1))   | (refine tx_split4 (by k_asm) (by k_asm) (by assumption) (by assumption) (by assumption) ?_; intro D' ta' tb' tc' td' h' k' F' N' l1; (try k_lt l1)))
      | ((with_reducible show wpAny _ _ (call (Value.type "int") [Value.str _ _]) _ _ _); (refine tx_int (by assumption) (by assumption) ?_); intro _ _)
      | ((with_reducible show wpAny _ _ (exec _ _) _ _ _); k_dflt (refine' nestDef_K ?d0 ?k0 ?a0 ?_; (case d0 => exact rfl); (case k0 => exact rfl); (case a0 => exact rfl)); (k_dflt (refine' nest_any ?F ?N ?T ?C ?cd ?U ?tp ?tb ?cl ?_; (case F => k_asm); (case N => k_asm); (case T => k_asm); (case cd => exact rfl); (case C => kn_code); (case U => k_updF); (case tp => assumption); (case tb => assumption); (case cl => exact rfl); k_whole)); intro f' c' oc' vs' t' ct' dc' h' tk' F' N' d1' d2' q9' l1 l2; (try dsimp only at N'); (try k_lt l1); (try k_lt2 l2))
      | ((with_reducible show wpAny _ _ (call (Value.type "str") [Value.ref _]) _ _ _); k_dflt (refine' es_got ?X ?F ?hf ?hm ?N ?G ?hu ?_; (case G => assumption); (case F => k_asm); (case N => assumption); (case X => k_asm); (case hf => k_is); (case hm => k_is); (case hu => ktr_units); k_whole))) | ((fail_if_success (with_reducible show Stop _)); first | walk1 | (dsimp only; walk1)))
  rename Fr _ _ _ _ => kF
  rename News _ _ _ _ => kNG
  rename KtsTurn _ _ _ => kT
  refine hQ _ _ _ _ _ _ kT kF kNG (FinT.intro [(_, kdv_tup [.int 2 _, .str _ _])] (by kcj_all) ?hc ?hT ?ht ?hlt (by assumption) rfl ⟨_, _, by assumption, by assumption⟩ ?hP)
  case hc => repeat (first | exact List.Mem.head _ | refine List.Mem.tail _ ?_)
  case hT => repeat (first | exact List.Mem.head _ | refine List.Mem.tail _ ?_)
  case ht => exact fun q hq => by repeat (first | exact hq | refine List.Mem.tail _ ?_)
  case hlt =>
    refine List.forall_mem_cons.mpr ⟨⟨by show (_ : Nat) < _; omega, by show (_ : Nat) < _; omega, by (first | assumption | exact And.right (by assumption) | exact And.right (And.right (by assumption)) | exact And.right (And.right (And.right (by assumption))) | exact And.right (And.right (And.right (And.right (by assumption)))) | exact And.right (And.right (And.right (And.right (And.right (by assumption))))) | exact And.right (And.right (And.right (And.right (And.right (And.right (by assumption)))))) | exact And.right (And.right (And.right (And.right (And.right (And.right (And.right (by assumption))))))) | exact And.right (And.right (And.right (And.right (And.right (And.right (And.right (And.right (by assumption)))))))) | exact And.right (And.right (And.right (And.right (And.right (And.right (And.right (And.right (And.right (by assumption))))))))) | exact And.right (And.right (And.right (And.right (And.right (And.right (And.right (And.right (And.right (And.right (by assumption)))))))))) | exact And.right (And.right (And.right (And.right (And.right (And.right (And.right (And.right (And.right (And.right (And.right (by assumption))))))))))) | exact And.right (And.right (And.right (And.right (And.right (And.right (And.right (And.right (And.right (And.right (And.right (And.right (by assumption)))))))))))) | exact And.right (And.right (And.right (And.right (And.right (And.right (And.right (And.right (And.right (And.right (And.right (And.right (And.right (by assumption))))))))))))))⟩, ?_⟩
    exact List.forall_mem_nil _
  case hP => exact fun tl hi ht => ⟨_, _, _, rfl, hi _ (List.Mem.head _), ht⟩
theorem heard_bad {p : Int} {tp : Tok} {tr : Tok} {ps : Array Value} {tb : List (Addr × Obj)} {r : PySem.Str} {mk : PySem.Str} {body : PySem.Str} {s0 : PySem.Str} {s1 : PySem.Str} {s2 : PySem.Str} {s3 : PySem.Str} {s4 : PySem.Str} {R : Int} (hps : TabOk 91 4 rdr ps tb) (hoff : OwnOff tb [158]) (hl : r.length ≤ 100) (hb : body.length ≤ 100) (h3 : s3.length ≤ 100) (hR : 5 ≤ R) (hR' : R < r.length) (hm : (mk.length == 0) = false) (e1 : Txt.slice r none (some 3) = PySem.Str.ofString "229") (e2 : Txt.find r (PySem.Str.ofString "(") = 4) (e3 : Txt.find3 r (PySem.Str.ofString ")") (4 + 1) = R) (e4 : Txt.item r (4 + 1) = mk) (e5 : Txt.item r (R - 1) = mk) (e6 : Txt.slice r (some (4 + 1)) (some R) = body) (e7 : Txt.split body mk = [s0, s1, s2, s3, s4]) (hn : PySem.intText? s3 = none) (hc : ∀ c ∈ s3.cps.toList, c < 16 ^ 8) : DoesTC w 6 163 ps tb [.int p tp, .str r tr] (fun tl ps' v => ∃ H t1 t2, v = .ref H ∧ (H, kdv_tup [.int 2 t1, .str (PySem.Str.ofString "") t2]) ∈ tl ∧ TabOk 91 4 rdr ps' (tl ++ tb)) :=
  does_ofT fun b => eps_all b_heard_bad ⟨w, b, { i := fun | 0 => p | _ => R, t := fun | 0 => tp | _ => tr, a := fun | _ => ps, e := fun | _ => tb, s := fun | 0 => r | 1 => mk | 2 => body | 3 => s0 | 4 => s1 | 5 => s2 | 6 => s3 | _ => s4 }⟩ hps hoff hl hb h3 hR hR' hm e1 e2 e3 e4 e5 e6 e7 hn hc

end
end
section
open PySem PySem.W PyProof.Rows PySem.Calls PySem.NumText
set_option Elab.async false
set_option maxRecDepth 100000
set_option linter.unusedVariables false
theorem dropWhile_none {p : Nat → Bool} : ∀ {l : List Nat}, (∀ c ∈ l, p c = false) → l.dropWhile p = l
  | [], _ => rfl
  | c :: r, h => by rw [List.dropWhile_cons, h c (.head _)]; rfl
theorem takeWhile_whole {p : Nat → Bool} : ∀ {l : List Nat}, (∀ c ∈ l, p c = true) → l.takeWhile p = l
  | [], _ => rfl
  | c :: r, h => by rw [List.takeWhile_cons, if_pos (h c (.head _)), takeWhile_whole fun d hd => h d (.tail _ hd)]
theorem intText_x {L : List Nat} (hL : AllDigits L) : PySem.intText? ⟨(120 :: L).toArray⟩ = none := by
  have hd : ∀ c ∈ 120 :: L, c = 120 ∨ (48 ≤ c ∧ c ≤ 57) := fun c hc => by
    rcases List.mem_cons.mp hc with rfl | hc
    · exact .inl rfl
    · exact .inr (hL c hc)
  have e1 : numTextOf (⟨(120 :: L).toArray⟩ : PySem.Str) = 120 :: L := by
    refine (if_pos ?_).trans rfl
    rw [← Array.all_toList, List.all_eq_true]
    intro c hc
    have := hd c hc
    exact decide_eq_true (by omega)
  have e2 : numSeenOf (⟨(120 :: L).toArray⟩ : PySem.Str) = 120 :: L := by
    show (numTextOf _).takeWhile _ = _
    rw [e1]
    refine takeWhile_whole fun c hc => ?_
    have := hd c hc
    exact bne_iff_ne.mpr (by omega)
  have nb : ∀ c ∈ 120 :: L, blank c = false := fun c hc => by
    have := hd c hc
    unfold blank
    rcases this with rfl | ⟨h1, h2⟩
    · rfl
    · rw [Bool.or_eq_false_iff, Bool.and_eq_false_iff]
      exact ⟨beq_eq_false_iff_ne.mpr (by omega), .inr (decide_eq_false (by omega))⟩
  have ec : core (120 :: L) = 120 :: L := by
    unfold core
    rw [dropWhile_none nb]
    show ((120 :: L).reverse.dropWhile blank).reverse = 120 :: L
    rw [dropWhile_none fun c hc => nb c (List.mem_reverse.mp hc), List.reverse_reverse]
  have ed : digits? 10 (120 :: L) = none := rfl
  unfold PySem.intText?
  rw [e1, e2, ec, ed]
  exact if_pos (beq_self_eq_true _)
theorem x_small {L : List Nat} (hL : AllDigits L) : ∀ c ∈ (⟨(120 :: L).toArray⟩ : PySem.Str).cps.toList, c < 16 ^ 8 := fun c hc => by
  rcases List.mem_cons.mp hc with rfl | hc
  · decide
  · have := hL c hc
    have : (57 : Nat) < 16 ^ 8 := by decide
    omega
end
section
open PySem PySem.W PyProof.Rows PySem.Calls Builtin PySem.StrLaws PySem.NumText
set_option Elab.async false
set_option maxRecDepth 100000
set_option linter.unusedVariables false
set_option linter.unusedSimpArgs false
section
variable {wd n col at' dg p lost way : Int}
/-- what a port tells behind the change of one digit -/
def toldV (wd n col at' dg p : Int) : Int := if p = col then n + (dg - n / 10 ^ (wd - 1 - at').toNat % 10) * 10 ^ (wd - 1 - at').toNat else n

theorem talk_heard (p1 : 1 ≤ p) (p6 : p ≤ 6) (h0 : 1 ≤ n) (h1 : n ≤ 65521) (hw : 4 ≤ wd) (hw2 : wd ≤ 5) (hf : n ≤ 9999 ∨ wd = 5) (a0 : 0 ≤ at') (a1 : at' < wd) (g0 : 0 ≤ dg) (g1 : dg ≤ 9) (hl : p ≠ lost) :
    Heard (talkF wd n col at' dg p lost way) (toldV wd n col at' dg p) := by
  obtain ⟨mk, hmk, hm, hk, hd⟩ := mark_is p1 p6
  obtain ⟨L, hL, hlen, hA, hv⟩ := piece_over (col := col) (p := p) h0 h1 hw hw2 hf a0 a1 g0 g1
  have hc := (talk_cps (way := way) hmk hL).1 hl
  unfold toldV
  rw [← hv]
  have : wd = 4 ∨ wd = 5 := by omega
  rcases this with rfl | rfl
  · obtain ⟨a, b, c, d, rfl⟩ := list4 (show L.length = 4 by omega)
    exact heard4 hm hk hd hA hc
  · obtain ⟨a, b, c, d, e, rfl⟩ := list5 (show L.length = 5 by omega)
    exact heard5 hm hk hd hA hc

theorem piece_any (h0 : 1 ≤ n) (h1 : n ≤ 65521) (hw : 4 ≤ wd) (hw2 : wd ≤ 5) (a0 : 0 ≤ at') (a1 : at' < wd) (g0 : 0 ≤ dg) (g1 : dg ≤ 9) :
    ∃ L : List Nat, pieceO wd n col at' dg p = ⟨L.toArray⟩ ∧ (L.length = 4 ∨ L.length = 5) ∧ AllDigits L := by
  by_cases hf : n ≤ 9999 ∨ wd = 5
  · obtain ⟨L, a, b, c, _⟩ := piece_over (col := col) (p := p) h0 h1 hw hw2 hf a0 a1 g0 g1
    exact ⟨L, a, by omega, c⟩
  · obtain ⟨L, hL, hl, hA, hv⟩ := piece_digits (wd := 5) h0 h1 (by decide) (by decide) (.inr rfl)
    have e4 := num_len (M := n) (by omega) (k := 4) (by decide)
    have e5 := num_len (M := n) (by omega) (k := 5) (by decide)
    have h5 : (PySem.Str.ofString (toString n)).length ≤ 5 := e5.mpr (Int.lt_of_le_of_lt h1 (by decide))
    have h4 : ¬ (PySem.Str.ofString (toString n)).length ≤ 4 := fun q => by
      have := e4.mp q
      have : n < 10000 := this
      omega
    have hw4 : wd = 4 := by omega
    have eF : pieceF wd n = pieceF 5 n := by
      unfold pieceF
      rw [show (PySem.Str.ofString (toString n)).length = 5 by omega, hw4]
      rfl
    obtain ⟨a, b, c, d, e, rfl⟩ := list5 (show L.length = 5 by omega)
    unfold pieceO
    rw [eF]
    by_cases hp : p = col
    · rw [if_pos hp]
      obtain ⟨L', e1, e2, e3, _⟩ := over5 hL hA hv a0 (by omega) g0 g1
      exact ⟨L', e1, .inr e2, e3⟩
    · rw [if_neg hp]
      exact ⟨_, hL, .inr rfl, hA⟩
theorem talk_bad1 (p1 : 1 ≤ p) (p6 : p ≤ 6) (h0 : 1 ≤ n) (h1 : n ≤ 65521) (hw : 4 ≤ wd) (hw2 : wd ≤ 5) (a0 : 0 ≤ at') (a1 : at' < wd) (g0 : 0 ≤ dg) (g1 : dg ≤ 9) (hl : p = lost) (hy : way = 1) :
    BadCount (talkF wd n col at' dg p lost way) := by
  obtain ⟨mk, hmk, hm, hk, hd⟩ := mark_is p1 p6
  obtain ⟨L, hL, hlen, hA⟩ := piece_any (col := col) (p := p) h0 h1 hw hw2 a0 a1 g0 g1
  have hc := (talk_cps (way := way) hmk hL).2.2.1 hl hy
  rcases hlen with hlen | hlen
  · obtain ⟨a, b, c, d, rfl⟩ := list4 hlen
    exact badcount4 hm hk hd hA hc
  · obtain ⟨a, b, c, d, e, rfl⟩ := list5 hlen
    exact badcount5 hm hk hd hA hc
theorem talk_bad2 (p1 : 1 ≤ p) (p6 : p ≤ 6) (h0 : 1 ≤ n) (h1 : n ≤ 65521) (hw : 4 ≤ wd) (hw2 : wd ≤ 5) (a0 : 0 ≤ at') (a1 : at' < wd) (g0 : 0 ≤ dg) (g1 : dg ≤ 9) (hl : p = lost) (hy : way = 2) :
    BadNum (talkF wd n col at' dg p lost way) := by
  obtain ⟨mk, hmk, hm, hk, hd⟩ := mark_is p1 p6
  obtain ⟨L, hL, hlen, hA⟩ := piece_any (col := col) (p := p) h0 h1 hw hw2 a0 a1 g0 g1
  have hc := (talk_cps (way := way) hmk hL).2.2.2.1 hl hy
  rcases hlen with hlen | hlen
  · obtain ⟨a, b, c, d, rfl⟩ := list4 hlen
    exact badnum4 hm hk hd hA hc
  · obtain ⟨a, b, c, d, e, rfl⟩ := list5 hlen
    exact badnum5 hm hk hd hA hc
theorem talk_bad3 (p1 : 1 ≤ p) (p6 : p ≤ 6) (h0 : 1 ≤ n) (h1 : n ≤ 65521) (hw : 4 ≤ wd) (hw2 : wd ≤ 5) (a0 : 0 ≤ at') (a1 : at' < wd) (g0 : 0 ≤ dg) (g1 : dg ≤ 9) (hl : p = lost) (hy : way = 3) :
    BadMark (talkF wd n col at' dg p lost way) := by
  obtain ⟨mk, hmk, hm, hk, hd⟩ := mark_is p1 p6
  obtain ⟨L, hL, hlen, hA⟩ := piece_any (col := col) (p := p) h0 h1 hw hw2 a0 a1 g0 g1
  have hc := (talk_cps (way := way) hmk hL).2.2.2.2 hl hy
  rcases hlen with hlen | hlen
  · obtain ⟨a, b, c, d, rfl⟩ := list4 hlen
    exact badmark4 hm hk hd hA hc
  · obtain ⟨a, b, c, d, e, rfl⟩ := list5 hlen
    exact badmark5 hm hk hd hA hc
theorem talk_bad0 (p1 : 1 ≤ p) (p6 : p ≤ 6) (h0 : 1 ≤ n) (h1 : n ≤ 65521) (hw : 4 ≤ wd) (hw2 : wd ≤ 5) (a0 : 0 ≤ at') (a1 : at' < wd) (g0 : 0 ≤ dg) (g1 : dg ≤ 9) (hl : p = lost) (hy : way = 0) :
    BadCode (talkF wd n col at' dg p lost way) := by
  obtain ⟨mk, hmk, hm, hk, hd⟩ := mark_is p1 p6
  obtain ⟨L, hL, hlen, hA⟩ := piece_any (col := col) (p := p) h0 h1 hw hw2 a0 a1 g0 g1
  have hc := (talk_cps (way := way) hmk hL).2.1 hl hy
  rcases hlen with hlen | hlen
  · obtain ⟨a, b, c, d, rfl⟩ := list4 hlen
    rw [hc]
    exact ⟨by show 14 ≤ 100; decide, rfl⟩
  · obtain ⟨a, b, c, d, e, rfl⟩ := list5 hlen
    rw [hc]
    exact ⟨by show 15 ≤ 100; decide, rfl⟩
end
end
section
open PySem PySem.W PyProof.Rows PySem.Calls
set_option Elab.async false
set_option maxRecDepth 100000
set_option linter.unusedVariables false
section
variable {prog : Program} {w : World} {A : Around} {E : Value → Shared → Prop} {s : Shared} {env : Env} {h₀ : Heap} {L : Addr} {m : Str → Option Value} {news : List (Addr × Obj)} {body : List Stmt}

theorem by_pdict {d : Addr} {o : Obj} {f : Int → Int} {x : Str} {px : Pos} {Q : Flow → Shared → Prop} (hh : A.handled = none) (hs : (d == sysModules) = false) (hd : PDict prog w o f)
    (F : Fr h₀ L s.heap m) (N : News h₀ L s.heap news) (hm : (d, o) ∈ news) (J : Nat → Heap → (Str → Option Value) → List (Addr × Obj) → Prop) (hJk : ∀ i b m news, J i b m news → (d, o) ∈ news) (h0 : J 0 h₀ m news)
    (step : ∀ i t b m₁ news₁ IT oI h₁ tk₁, i < 6 → J i b m₁ news₁ → Fr b L h₁ m₁ → News b L h₁ ((IT, oI) :: news₁) → OffI IT news₁ →
      wpAny (model prog w) A (assign (.Name x px) env (.int ((i : Int) + 1) t)) (fun _ s₃ => wpAny (model prog w) A (execs body env)
        (TurnEnd (fun s' => ∃ b' h' tk' m' news', s' = { s with heap := h', toks := tk' } ∧ Fr b' L h' m' ∧ News b' L h' ((IT, oI) :: news') ∧ OffI IT news' ∧ J (i + 1) b' m' news') Q) E s₃) E { s with heap := h₁, toks := tk₁ })
    (fin : ∀ b h' tk m' news', J 6 b m' news' → Fr b L h' m' → News b L h' news' → Q .next { s with heap := h', toks := tk }) :
    wpAny (model prog w) A (pyIter (.ref d)) (fun it s₂ => ForBy prog w A env (.Name x px) body Q E it s₂) E s := by
  obtain ⟨kvs, hk, he⟩ := hd.keys
  obtain ⟨hl, hidx⟩ := six_idx he
  have ht : s.heap.DictOf (intKind prog w) d kvs := Heap.dictOf_iff.mpr ⟨o, (N _ hm).1, hk⟩
  obtain ⟨ep, hat⟩ := ht.dictAt
  refine wpAny_pyIter_dict hs hat ?_
  have hne : d ≠ s.heap.objs.size := Nat.ne_of_lt (Heap.lt_size (N _ hm).1)
  have hf := F.push ({ cls := .type "dict_keyiterator", data := .fields #[.ref d, .int 0 0, .int kvs.length 0, .int ep 0] } : Obj)
  refine for_walk (s := { s with heap := _ }) (IT := s.heap.objs.size) (fp := [s.heap.objs.size, d]) (n := 6) (P := fun i v => ∃ k x, kvs[i]? = some (k, x) ∧ (intKind prog w).is k v = true) (St := fun i h => h.IsKeyIter s.heap.objs.size d i kvs.length ep ∧ h.DictAt (intKind prog w) d kvs ep)
    (hl ▸ Walks.dictKeys hh _ d hne kvs ep) (fun i h hS => by obtain ⟨o, ho, _⟩ := hS.1; exact ⟨o, ho⟩) [(d, o)] (fun b hb => ?_) J
    (fun i b m news hJ p hp => by rw [List.mem_singleton.mp hp]; exact hJk i b m news hJ) ⟨⟨_, Heap.get?_push_size _ rfl, rfl, rfl⟩, hat.push _⟩ hf (News.push F N _) (fun q hq => Nat.ne_of_lt (Heap.lt_size (N q hq).1)) h0 (fun _ _ _ _ hq => go_name hq)
    (fun i v b m₁ news₁ oI h₁ tk₁ hi hP hJ Fx Nx ox => ?_) fin
  · simp only [List.mem_cons, List.not_mem_nil, or_false] at hb
    rcases hb with rfl | rfl
    · exact .inl rfl
    · exact .inr ⟨_, .head _⟩
  · obtain ⟨k, x, hx, hv⟩ := hP
    obtain ⟨t, rfl⟩ := Value.isInt_shape hv
    rw [(hidx i k x hx).1]
    exact step i t b m₁ news₁ _ oI h₁ tk₁ hi hJ Fx Nx ox
end
end
section
open PySem PySem.W PyProof.Rows PySem.Calls
set_option Elab.async false
set_option maxRecDepth 100000
set_option linter.unusedVariables false
section
variable {prog : Program} {w : World} {M : Model} {A : Around} {E : Value → Shared → Prop} {s : Shared} {R : Result → Shared → Prop}
theorem wpC_runOwn {env : Env} {c : Code} {h : Option Value} {Q : Flow → Shared → Prop} (hc : codeC M (A.mark h) c (fun r s' => match r with | .ok f => Q f s' | .error e => cameBackBy M A env E e s') s) (hnb : h ≠ some byPass := by intro x; cases x) :
    wpC M A (runOwn c env h) Q E s := by
  unfold runOwn
  exact wpC_onRaise (wpC_mono (wpC_run (E := cameBackBy M A env E) hc hnb) (fun _ _ x => x) fun _ _ x => wpC_of x)
theorem wpC_For {env : Env} {target iter body orelse pos} {Q : Flow → Shared → Prop}
    (h : wpAny M A (eval iter env) (fun x s₁ => wpAny M A (pyIter x) (fun it s₂ => codeC M A (.forLoop target it body orelse env) (fun r s' => match r with | .ok f => Q f s' | .error e => cameBackBy M A env E e s') s₂) E s₁) E s)
    (hs : ∀ x, foldedSetIterable iter env x = pure x := by intro _; rfl) : wpC M A (exec (.For target iter body orelse pos) env) Q E s := by
  rw [exec_For]
  refine wpC_then (wpAny_standAt (wpC_then (wpAny_mono h (fun x s₁ h₁ => ?_) fun _ _ h' => h')))
  rw [hs x]
  refine wpC_then (wpAny_pure (wpC_then (wpAny_standAt (wpC_then (wpAny_holding (wpAny_mono h₁ (fun it s₂ h₂ => ?_) fun _ _ h' => h'))))))
  exact wpC_runOwn h₂
theorem codeC_loop {c : Code} (hq : c.quiet = true) (I : Nat → Shared → Prop)
    (turn : ∀ n s, I n s → wpC M (A.under c) (M.den c) (fun fin s' => match fin with | .done f => R (.ok f) s' | .again c' => (c' = c ∧ ∃ m, m < n ∧ I m s') ∨ (c'.quiet = true ∧ codeC M A c' R s')) (fun e s' => R (.error e) s') s)
    (n : Nat) (h : I n s) : codeC M A c R s := by
  induction n using Nat.strongRecOn generalizing s with
  | ind n ih =>
    refine codeC_of_tree (wpC_mono (turn n s h) (fun fin s' hf => ?_) fun _ _ h' => h')
    cases fin with
    | done f => exact hf
    | again c' =>
      rcases hf with ⟨rfl, m, hm, hI⟩ | hf
      · exact ⟨hq, ih m hm hI⟩
      · exact hf
theorem codeC_forLoop_any {env : Env} {target it body orelse} (I : Nat → Shared → Prop)
    (turn : ∀ n s, I n s → wpAny (model prog w) A (pyNext it) (fun r s₁ => match r with
      | none => wpAny (model prog w) A (execs orelse env) (fun f s₃ => R (.ok f) s₃) (notedBy (model prog w) A env fun e s' => R (.error e) s') s₁
      | some v => wpAny (model prog w) A (letOwnedTupleGo target it v) (fun _ s₁' =>
          wpAny (model prog w) A (assign target env v) (fun _ s₂ => wpC (model prog w) A (execs body env) (fun f s₃ => match f with
            | .next | .cont => ∃ m, m < n ∧ I m s₃
            | .brk => R (.ok .next) s₃
            | .ret v => R (.ok (.ret v)) s₃) (notedBy (model prog w) A env fun e s' => R (.error e) s') s₂) (notedBy (model prog w) A env fun e s' => R (.error e) s') s₁') (notedBy (model prog w) A env fun e s' => R (.error e) s') s₁) (notedBy (model prog w) A env fun e s' => R (.error e) s') s)
    (n : Nat) (h : I n s) : codeC (model prog w) A (.forLoop target it body orelse env) R s := by
  refine codeC_loop rfl I (fun n s hI => ?_) n h
  show wpC _ A ((forTurn target it body orelse env).onRaise (fun x => do noteFrame x env; theTreesLotGoes x)) _ _ s
  refine wpC_onRaise (wpC_mono (E := notedBy (model prog w) A env fun e s' => R (.error e) s') ?_ (fun _ _ q => q) fun _ _ hx => wpC_of (wpAny_bind (wpAny_mono hx (fun _ _ e => wpAny_theTreesLotGoes e) fun _ _ e => e)))
  simp only [forTurn]
  refine wpC_then (wpAny_standAt (wpC_then (wpAny_onRaise (wpAny_mono (turn n s hI) (fun r s₁ h₁ => ?_) fun _ _ h' => wpAny_standAt h'))))
  cases r with
  | none => exact wpC_pure (.inr ⟨rfl, codeC_of (codeAny_block h₁)⟩)
  | some v =>
    refine wpC_then (wpAny_mono h₁ (fun _ s₁' h₁' => ?_) fun _ _ h' => h')
    refine wpC_then (wpAny_mono h₁' (fun _ s₂ h₂ => wpC_bind (wpC_mono h₂ (fun f s₃ h₃ => ?_) fun _ _ h' => h')) fun _ _ h' => h')
    cases f with
    | next => exact wpC_pure (.inl ⟨rfl, h₃⟩)
    | cont => exact wpC_pure (.inl ⟨rfl, h₃⟩)
    | brk => exact wpC_pure h₃
    | ret v => exact wpC_pure h₃
end
section
variable {prog : Program} {w : World} {A : Around} {E : Value → Shared → Prop} {s : Shared} {env : Env} {h₀ : Heap} {L : Addr} {m : Str → Option Value} {news : List (Addr × Obj)} {target : Expr} {body : List Stmt}

/-- a For loop by an invariant over the whole state, under the claim's caller -/
def ForByC (prog : Program) (w : World) (A : Around) (env : Env) (target : Expr) (body : List Stmt) (Q : Flow → Shared → Prop) (E : Value → Shared → Prop) (it : Value) (s₂ : Shared) : Prop :=
  ∃ (n : Nat) (Inv : Nat → Shared → Prop) (Mid : Nat → Value → Shared → Prop), Inv 0 s₂ ∧
    (∀ i s (Q' : Option Value → Shared → Prop) (E' : Value → Shared → Prop), i < n → Inv i s → (∀ v s₁, Mid i v s₁ → Q' (some v) s₁) → wpAny (model prog w) A (pyNext it) Q' E' s) ∧
    (∀ s (Q' : Option Value → Shared → Prop) (E' : Value → Shared → Prop), Inv n s → (∀ s₁, Q .next s₁ → Q' none s₁) → wpAny (model prog w) A (pyNext it) Q' E' s) ∧
    (∀ i v s (Q' : Unit → Shared → Prop) (E' : Value → Shared → Prop), Mid i v s → Q' () s → wpAny (model prog w) A (letOwnedTupleGo target it v) Q' E' s) ∧
    (∀ i v s, i < n → Mid i v s → wpAny (model prog w) A (assign target env v) (fun _ s₃ => wpC (model prog w) A (execs body env) (TurnEnd (Inv (i + 1)) Q) E s₃) E s)

theorem For_by_C {iter : Expr} {pos : Pos} {Q : Flow → Shared → Prop}
    (h : wpAny (model prog w) A (eval iter env) (fun xv s₁ => wpAny (model prog w) A (pyIter xv) (fun it s₂ => ForByC prog w A env target body Q E it s₂) E s₁) E s)
    (hs : ∀ x, foldedSetIterable iter env x = pure x := by intro _; rfl)
    (hE : PassesOwn (model prog w) A env E := by passes_own) :
    wpC (model prog w) A (exec (.For target iter body [] pos) env) Q E s := by
  refine wpC_For (wpAny_mono h (fun xv s₁ h₁ => wpAny_mono h₁ (fun it s₂ h₂ => ?_) fun _ _ e => e) fun _ _ e => e) hs
  obtain ⟨n, Inv, Mid, h0, item, done, go, step⟩ := h₂
  refine codeC_forLoop_any (R := fun r s' => match r with | .ok f => Q f s' | .error e => cameBackBy (model prog w) A env E e s') (fun k s' => ∃ i, Inv i s' ∧ i ≤ n ∧ k = n + 1 - i) ?_ (n + 1) ⟨0, h0, Nat.zero_le _, rfl⟩
  rintro k s' ⟨i, hI, hi, rfl⟩
  by_cases hlt : i < n
  · refine item i s' _ _ hlt hI fun v s₁ hM => ?_
    refine go i v s₁ _ _ hM ?_
    refine wpAny_mono (step i v s₁ hlt hM) (fun _ s₂ h₂' => wpC_mono h₂' (fun f s₃ h₃ => ?_) hE) hE
    cases f with
    | ret v => exact h₃
    | brk => exact h₃
    | cont => exact ⟨n + 1 - (i + 1), by omega, i + 1, h₃, hlt, rfl⟩
    | next => exact ⟨n + 1 - (i + 1), by omega, i + 1, h₃, hlt, rfl⟩
  · have hin : i = n := by omega
    subst hin
    exact done s' _ _ hI fun s₁ hq => wpAny_execs_nil hq

theorem for_walk_C {IT : Addr} {fp : List Addr} {n : Nat} {P : Nat → Value → Prop} {St : Nat → Heap → Prop} {Q : Flow → Shared → Prop} {oI₀ : Obj} (W : Walks prog w A IT fp [IT] n P St) (hex : ∀ i h, St i h → ∃ o, h.get? IT = some o)
    (keep : List (Addr × Obj)) (hfp : ∀ b ∈ fp, b = IT ∨ ∃ o, (b, o) ∈ keep) (J : Nat → Heap → (Str → Option Value) → List (Addr × Obj) → Prop) (hJk : ∀ i b m news, J i b m news → ∀ p ∈ keep, p ∈ news)
    (hst : St 0 s.heap) (F : Fr h₀ L s.heap m) (N : News h₀ L s.heap ((IT, oI₀) :: news)) (off : OffI IT news) (h0 : J 0 h₀ m news)
    (hgo : ∀ v s (Q' : Unit → Shared → Prop) (E' : Value → Shared → Prop), Q' () s → wpAny (model prog w) A (letOwnedTupleGo target (.ref IT) v) Q' E' s)
    (step : ∀ i v b m₁ news₁ oI h₁ tk₁, i < n → P i v → J i b m₁ news₁ → Fr b L h₁ m₁ → News b L h₁ ((IT, oI) :: news₁) → OffI IT news₁ →
      wpAny (model prog w) A (assign target env v) (fun _ s₃ => wpC (model prog w) A (execs body env)
        (TurnEnd (fun s' => ∃ b' h' tk' m' news', s' = { s with heap := h', toks := tk' } ∧ Fr b' L h' m' ∧ News b' L h' ((IT, oI) :: news') ∧ OffI IT news' ∧ J (i + 1) b' m' news') Q) E s₃) E { s with heap := h₁, toks := tk₁ })
    (fin : ∀ b h' tk m' news', J n b m' news' → Fr b L h' m' → News b L h' news' → Q .next { s with heap := h', toks := tk }) :
    ForByC prog w A env target body Q E (.ref IT) s := by
  have moved : ∀ {b : Heap} {m' : Str → Option Value} {news' : List (Addr × Obj)} {oI : Obj} {h h' : Heap}, Fr b L h m' → News b L h ((IT, oI) :: news') → OffI IT news' → (∀ x o, x ∉ [IT] → h.get? x = some o → h'.get? x = some o) → Fr b L h' m' ∧ News b L h' news' :=
    fun Fx Nx ox hk => ⟨kmb_fr Fx hk (Nx _ (.head _)).2.1 (Nx _ (.head _)).2.2, kmb_news (fun q hq => Nx q (.tail _ hq)) hk ox⟩
  refine ⟨n, fun i s' => ∃ b h tk m' news' oI, s' = { s with heap := h, toks := tk } ∧ Fr b L h m' ∧ News b L h ((IT, oI) :: news') ∧ OffI IT news' ∧ J i b m' news' ∧ St i h,
    fun i v s' => ∃ b h tk m' news' oI, s' = { s with heap := h, toks := tk } ∧ Fr b L h m' ∧ News b L h ((IT, oI) :: news') ∧ OffI IT news' ∧ J i b m' news' ∧ P i v ∧ St (i + 1) h,
    ⟨h₀, s.heap, s.toks, m, news, oI₀, rfl, F, N, off, h0, hst⟩, ?_, ?_, fun _ v s' Q' E' _ hq => hgo v s' Q' E' hq, ?_⟩
  · rintro i s' Q' E' hi ⟨b, h, tk, m', news', oI, rfl, Fx, Nx, ox, hJ, hS⟩ hQ
    refine W.item i _ _ _ hi hS fun v h' tk' hP hS' hk => hQ v _ ?_
    obtain ⟨o', ho'⟩ := hex _ _ hS'
    obtain ⟨Fy, Ny⟩ := moved Fx Nx ox hk
    refine ⟨b, h', tk', m', news', o', rfl, Fy, fun q hq => ?_, ox, hJ, hP, hS'⟩
    rcases List.mem_cons.mp hq with rfl | hq
    · exact ⟨ho', (Nx _ (.head _)).2⟩
    · exact Ny q hq
  · rintro s' Q' E' ⟨b, h, tk, m', news', oI, rfl, Fx, Nx, ox, hJ, hS⟩ hQ
    refine W.done _ _ _ hS fun h' tk' hk => hQ _ ?_
    obtain ⟨Fy, Ny⟩ := moved Fx Nx ox hk
    exact fin b h' tk' m' news' hJ Fy Ny
  · rintro i v s' hi ⟨b, h, tk, m', news', oI, rfl, Fx, Nx, ox, hJ, hP, hS⟩
    have back : ∀ s'', (∃ b' h' tk' m'' news'', s'' = { s with heap := h', toks := tk' } ∧ Fr b' L h' m'' ∧ News b' L h' ((IT, oI) :: news'') ∧ OffI IT news'' ∧ J (i + 1) b' m'' news'') →
        ∃ b h tk m' news' oI, s'' = { s with heap := h, toks := tk } ∧ Fr b L h m' ∧ News b L h ((IT, oI) :: news') ∧ OffI IT news' ∧ J (i + 1) b m' news' ∧ St (i + 1) h := by
      rintro s'' ⟨b', h', tk', m'', news'', rfl, F', N', o', J'⟩
      refine ⟨b', h', tk', m'', news'', oI, rfl, F', N', o', J', W.frame _ _ _ hS fun x hx o ho => ?_⟩
      rcases hfp x hx with rfl | ⟨ox', hox⟩
      · have := (Nx _ (.head _)).1
        rw [ho] at this
        cases this
        exact (N' _ (.head _)).1
      · have h1 := (Nx _ (.tail _ (hJk _ _ _ _ hJ _ hox))).1
        rw [ho] at h1
        cases h1
        exact (N' _ (.tail _ (hJk _ _ _ _ J' _ hox))).1
    refine wpAny_mono (step i v b m' news' oI h tk hi hP hJ Fx Nx ox) (fun _ s₃ h₃ => wpC_mono h₃ (fun f s₄ h₄ => ?_) fun _ _ e => e) fun _ _ e => e
    cases f with
    | ret v => exact h₄
    | brk => exact h₄
    | cont => exact back _ h₄
    | next => exact back _ h₄

theorem by_pdict_C {d : Addr} {o : Obj} {f : Int → Int} {x : Str} {px : Pos} {Q : Flow → Shared → Prop} (hh : A.handled = none) (hs : (d == sysModules) = false) (hd : PDict prog w o f)
    (F : Fr h₀ L s.heap m) (N : News h₀ L s.heap news) (hm : (d, o) ∈ news) (J : Nat → Heap → (Str → Option Value) → List (Addr × Obj) → Prop) (hJk : ∀ i b m news, J i b m news → (d, o) ∈ news) (h0 : J 0 h₀ m news)
    (step : ∀ i t b m₁ news₁ IT oI h₁ tk₁, i < 6 → J i b m₁ news₁ → Fr b L h₁ m₁ → News b L h₁ ((IT, oI) :: news₁) → OffI IT news₁ →
      wpAny (model prog w) A (assign (.Name x px) env (.int ((i : Int) + 1) t)) (fun _ s₃ => wpC (model prog w) A (execs body env)
        (TurnEnd (fun s' => ∃ b' h' tk' m' news', s' = { s with heap := h', toks := tk' } ∧ Fr b' L h' m' ∧ News b' L h' ((IT, oI) :: news') ∧ OffI IT news' ∧ J (i + 1) b' m' news') Q) E s₃) E { s with heap := h₁, toks := tk₁ })
    (fin : ∀ b h' tk m' news', J 6 b m' news' → Fr b L h' m' → News b L h' news' → Q .next { s with heap := h', toks := tk }) :
    wpAny (model prog w) A (pyIter (.ref d)) (fun it s₂ => ForByC prog w A env (.Name x px) body Q E it s₂) E s := by
  obtain ⟨kvs, hk, he⟩ := hd.keys
  obtain ⟨hl, hidx⟩ := six_idx he
  have ht : s.heap.DictOf (intKind prog w) d kvs := Heap.dictOf_iff.mpr ⟨o, (N _ hm).1, hk⟩
  obtain ⟨ep, hat⟩ := ht.dictAt
  refine wpAny_pyIter_dict hs hat ?_
  have hne : d ≠ s.heap.objs.size := Nat.ne_of_lt (Heap.lt_size (N _ hm).1)
  have hf := F.push ({ cls := .type "dict_keyiterator", data := .fields #[.ref d, .int 0 0, .int kvs.length 0, .int ep 0] } : Obj)
  refine for_walk_C (s := { s with heap := _ }) (IT := s.heap.objs.size) (fp := [s.heap.objs.size, d]) (n := 6) (P := fun i v => ∃ k x, kvs[i]? = some (k, x) ∧ (intKind prog w).is k v = true) (St := fun i h => h.IsKeyIter s.heap.objs.size d i kvs.length ep ∧ h.DictAt (intKind prog w) d kvs ep)
    (hl ▸ Walks.dictKeys hh _ d hne kvs ep) (fun i h hS => by obtain ⟨o, ho, _⟩ := hS.1; exact ⟨o, ho⟩) [(d, o)] (fun b hb => ?_) J
    (fun i b m news hJ p hp => by rw [List.mem_singleton.mp hp]; exact hJk i b m news hJ) ⟨⟨_, Heap.get?_push_size _ rfl, rfl, rfl⟩, hat.push _⟩ hf (News.push F N _) (fun q hq => Nat.ne_of_lt (Heap.lt_size (N q hq).1)) h0 (fun _ _ _ _ hq => go_name hq)
    (fun i v b m₁ news₁ oI h₁ tk₁ hi hP hJ Fx Nx ox => ?_) fin
  · simp only [List.mem_cons, List.not_mem_nil, or_false] at hb
    rcases hb with rfl | rfl
    · exact .inl rfl
    · exact .inr ⟨_, .head _⟩
  · obtain ⟨k, x, hx, hv⟩ := hP
    obtain ⟨t, rfl⟩ := Value.isInt_shape hv
    rw [(hidx i k x hx).1]
    exact step i t b m₁ news₁ _ oI h₁ tk₁ hi hJ Fx Nx ox
end
end
section
open PySem PySem.W PyProof.Rows PySem.Calls
set_option Elab.async false
set_option maxRecDepth 100000
set_option maxHeartbeats 8000000
set_option linter.unusedVariables false
set_option linter.unusedSimpArgs false
/-- the body of the law's first loop -/
noncomputable def forB : List Stmt := match lawD.body.drop 11 with
  | .For _ _ b _ _ :: _ => b
  | _ => []
noncomputable abbrev LawIn (w : World) (L a : Addr) (cd : Value) (k : Nat) (Q : Flow → Shared → Prop) (s : Shared) : Prop :=
  wpC (model PySem.Challenge.rw_zd0006_01.row.prog w) (callerA.deeper (lawE L a cd)) (execs (forB.drop k) (lawE L a cd)) Q (fun _ _ => False) s
section
variable {w : World}
def S_heard_lost (z : Zx) : Prop :=
  (TabOk 91 4 rdr (z.v.a 0) (z.v.e 0)) →
  (OwnOff (z.v.e 0) [158]) →
  (1 ≤ (z.v.i 5)) →
  ((z.v.i 5) ≤ 6) →
  (1 ≤ (z.v.i 1)) →
  ((z.v.i 1) ≤ 65521) →
  (4 ≤ (z.v.i 0)) →
  ((z.v.i 0) ≤ 5) →
  (0 ≤ (z.v.i 3)) →
  ((z.v.i 3) < (z.v.i 0)) →
  (0 ≤ (z.v.i 4)) →
  ((z.v.i 4) ≤ 9) →
  ((z.v.i 5) = (z.v.i 6)) →
  (0 ≤ (z.v.i 7)) →
  ((z.v.i 7) ≤ 3) →
  (((z.v.i 7) = 3 ∧ (z.v.i 8) = 1) ∨ ((z.v.i 7) ≠ 3 ∧ (z.v.i 8) = (z.v.i 7))) →
  DoesTC (z.w) 6 163 (z.v.a 0) (z.v.e 0) [.int (z.v.i 5) (z.v.t 0), .str (talkF (z.v.i 0) (z.v.i 1) (z.v.i 2) (z.v.i 3) (z.v.i 4) (z.v.i 5) (z.v.i 6) (z.v.i 7)) (z.v.t 1)] (fun tl ps' v => ∃ H t1 t2, v = .ref H ∧ (H, kdv_tup [.int (z.v.i 8) t1, .str (if (z.v.i 8) < 2 then talkF (z.v.i 0) (z.v.i 1) (z.v.i 2) (z.v.i 3) (z.v.i 4) (z.v.i 5) (z.v.i 6) (z.v.i 7) else Str.ofString "") t2]) ∈ tl ∧ TabOk 91 4 rdr ps' (tl ++ (z.v.e 0)))
noncomputable def z_heard_lost : Zx := eps S_heard_lost
/-- the lost reply, by its way -/
theorem b_heard_lost : S_heard_lost z_heard_lost := by
  intro hps hoff p1 p6 h0 h1 hw hw2 a0 a1 g0 g1 hl y0 y1 hr
  have hy : (z_heard_lost.v.i 7) = 0 ∨ (z_heard_lost.v.i 7) = 1 ∨ (z_heard_lost.v.i 7) = 2 ∨ (z_heard_lost.v.i 7) = 3 := by omega
  rcases hy with hy | hy | hy | hy
  · obtain ⟨l, e⟩ := talk_bad0 (wd := (z_heard_lost.v.i 0)) (n := (z_heard_lost.v.i 1)) (col := (z_heard_lost.v.i 2)) (at' := (z_heard_lost.v.i 3)) (dg := (z_heard_lost.v.i 4)) p1 p6 h0 h1 hw hw2 a0 a1 g0 g1 hl hy
    have er : (z_heard_lost.v.i 8) = 0 := by omega
    rw [er, if_pos (by decide)]
    exact heard_reply hps hoff l e (by decide)
  · obtain ⟨mk, body, s0, s1, s2, s3, R, l, lb, hR, hR', hm, e1, e2, e3, e4, e5, e6, e7⟩ := (talk_bad1 (wd := (z_heard_lost.v.i 0)) (n := (z_heard_lost.v.i 1)) (col := (z_heard_lost.v.i 2)) (at' := (z_heard_lost.v.i 3)) (dg := (z_heard_lost.v.i 4)) p1 p6 h0 h1 hw hw2 a0 a1 g0 g1 hl hy).out
    have er : (z_heard_lost.v.i 8) = 1 := by omega
    rw [er, if_pos (by decide)]
    exact heard_count hps hoff l hR hR' hm e1 e2 e3 e4 e5 lb e6 e7
  · obtain ⟨mk, body, s0, s1, s2, s3, s4, R, l, lb, l3, hR, hR', hm, e1, e2, e3, e4, e5, e6, e7, T, rfl, hT, _⟩ := (talk_bad2 (wd := (z_heard_lost.v.i 0)) (n := (z_heard_lost.v.i 1)) (col := (z_heard_lost.v.i 2)) (at' := (z_heard_lost.v.i 3)) (dg := (z_heard_lost.v.i 4)) p1 p6 h0 h1 hw hw2 a0 a1 g0 g1 hl hy).out
    have er : (z_heard_lost.v.i 8) = 2 := by omega
    rw [er, if_neg (by decide)]
    exact heard_bad hps hoff l lb l3 hR hR' hm e1 e2 e3 e4 e5 e6 e7 (intText_x hT) (x_small hT)
  · obtain ⟨mk, mk2, R, l, hR, hR', hm, e1, e2, e3, e4, e5, e6⟩ := (talk_bad3 (wd := (z_heard_lost.v.i 0)) (n := (z_heard_lost.v.i 1)) (col := (z_heard_lost.v.i 2)) (at' := (z_heard_lost.v.i 3)) (dg := (z_heard_lost.v.i 4)) p1 p6 h0 h1 hw hw2 a0 a1 g0 g1 hl hy).out
    have er : (z_heard_lost.v.i 8) = 1 := by omega
    rw [er, if_pos (by decide)]
    exact heard_mark hps hoff l hR hR' hm e1 e2 e3 e4 e5 e6
theorem heard_lost {w : World} {wd n col at' dg p lost way rf : Int} {tp tr : Tok} {ps : Array Value} {tb : List (Addr × Obj)} (hps : TabOk 91 4 rdr ps tb) (hoff : OwnOff tb [158]) (p1 : 1 ≤ p) (p6 : p ≤ 6) (h0 : 1 ≤ n) (h1 : n ≤ 65521) (hw : 4 ≤ wd) (hw2 : wd ≤ 5) (a0 : 0 ≤ at') (a1 : at' < wd) (g0 : 0 ≤ dg) (g1 : dg ≤ 9) (hl : p = lost)
    (y0 : 0 ≤ way) (y1 : way ≤ 3) (hr : (way = 3 ∧ rf = 1) ∨ (way ≠ 3 ∧ rf = way)) :
    DoesTC w 6 163 ps tb [.int p tp, .str (talkF wd n col at' dg p lost way) tr] (fun tl ps' v => ∃ H t1 t2, v = .ref H ∧ (H, kdv_tup [.int rf t1, .str (if rf < 2 then talkF wd n col at' dg p lost way else Str.ofString "") t2]) ∈ tl ∧ TabOk 91 4 rdr ps' (tl ++ tb)) :=
  eps_all b_heard_lost ⟨w, {  }, { i := fun | 0 => wd | 1 => n | 2 => col | 3 => at' | 4 => dg | 5 => p | 6 => lost | 7 => way | _ => rf, t := fun | 0 => tp | _ => tr, a := fun | _ => ps, e := fun | _ => tb }⟩ hps hoff p1 p6 h0 h1 hw hw2 a0 a1 g0 g1 hl y0 y1 hr
def S_heard_told (z : Zx) : Prop :=
  (TabOk 91 4 rdr (z.v.a 0) (z.v.e 0)) →
  (OwnOff (z.v.e 0) [158]) →
  (1 ≤ (z.v.i 5)) →
  ((z.v.i 5) ≤ 6) →
  (1 ≤ (z.v.i 1)) →
  ((z.v.i 1) ≤ 65521) →
  (4 ≤ (z.v.i 0)) →
  ((z.v.i 0) ≤ 5) →
  ((z.v.i 1) ≤ 9999 ∨ (z.v.i 0) = 5) →
  (0 ≤ (z.v.i 3)) →
  ((z.v.i 3) < (z.v.i 0)) →
  (0 ≤ (z.v.i 4)) →
  ((z.v.i 4) ≤ 9) →
  ((z.v.i 5) ≠ (z.v.i 6)) →
  DoesTC (z.w) 6 163 (z.v.a 0) (z.v.e 0) [.int (z.v.i 5) (z.v.t 0), .str (talkF (z.v.i 0) (z.v.i 1) (z.v.i 2) (z.v.i 3) (z.v.i 4) (z.v.i 5) (z.v.i 6) (z.v.i 7)) (z.v.t 1)] (fun tl ps' v => ∃ H A t1 t2, v = .ref H ∧ (H, kdv_tup [.ref A, .ref A]) ∈ tl ∧ (A, kdv_tup [.int (z.v.i 5) t1, .int (toldV (z.v.i 0) (z.v.i 1) (z.v.i 2) (z.v.i 3) (z.v.i 4) (z.v.i 5)) t2]) ∈ tl ∧ TabOk 91 4 rdr ps' (tl ++ (z.v.e 0)))
noncomputable def z_heard_told : Zx := eps S_heard_told
/-- a reply that is heard -/
theorem b_heard_told : S_heard_told z_heard_told := by
  intro hps hoff p1 p6 h0 h1 hw hw2 hf a0 a1 g0 g1 hl
  obtain ⟨mk, body, s0, s1, s2, s3, s4, R, l, lb, l3, hR, hR', hm, e1, e2, e3, e4, e5, e6, e7, e8⟩ := (talk_heard (wd := (z_heard_told.v.i 0)) (n := (z_heard_told.v.i 1)) (col := (z_heard_told.v.i 2)) (at' := (z_heard_told.v.i 3)) (dg := (z_heard_told.v.i 4)) (way := (z_heard_told.v.i 7)) p1 p6 h0 h1 hw hw2 hf a0 a1 g0 g1 hl).out
  exact heard_ok hps hoff l lb l3 hR hR' hm e1 e2 e3 e4 e5 e6 e7 e8
theorem heard_told {w : World} {wd n col at' dg p lost way : Int} {tp tr : Tok} {ps : Array Value} {tb : List (Addr × Obj)} (hps : TabOk 91 4 rdr ps tb) (hoff : OwnOff tb [158]) (p1 : 1 ≤ p) (p6 : p ≤ 6) (h0 : 1 ≤ n) (h1 : n ≤ 65521) (hw : 4 ≤ wd) (hw2 : wd ≤ 5) (hf : n ≤ 9999 ∨ wd = 5) (a0 : 0 ≤ at') (a1 : at' < wd) (g0 : 0 ≤ dg) (g1 : dg ≤ 9) (hl : p ≠ lost) :
    DoesTC w 6 163 ps tb [.int p tp, .str (talkF wd n col at' dg p lost way) tr] (fun tl ps' v => ∃ H A t1 t2, v = .ref H ∧ (H, kdv_tup [.ref A, .ref A]) ∈ tl ∧ (A, kdv_tup [.int p t1, .int (toldV wd n col at' dg p) t2]) ∈ tl ∧ TabOk 91 4 rdr ps' (tl ++ tb)) :=
  eps_all b_heard_told ⟨w, {  }, { i := fun | 0 => wd | 1 => n | 2 => col | 3 => at' | 4 => dg | 5 => p | 6 => lost | _ => way, t := fun | 0 => tp | _ => tr, a := fun | _ => ps, e := fun | _ => tb }⟩ hps hoff p1 p6 h0 h1 hw hw2 hf a0 a1 g0 g1 hl
end
end
section
example : True ∧ True := by w_top off; first | (walk1 <;> trivial) | exact ⟨trivial, trivial⟩
open PySem PySem.W PyProof.Rows PySem.Calls
set_option Elab.async false
set_option maxRecDepth 100000
set_option maxHeartbeats 8000000
set_option linter.unusedVariables false
set_option linter.unusedSimpArgs false
local macro_rules | `(tactic| walk_at $s:str) => lineAt ["subscriptTail Name BinOp ref int"] [] s
theorem tab_eq {m : Str → Option Value} (kv : List (Str × Value)) (e : ∀ p ∈ kv, m p.1 = some p.2) : (fun y => match kv.lookup y with | some v => some v | none => m y) = m := by
  funext y
  induction kv with
  | nil => rfl
  | cons p kv ih =>
    obtain ⟨k, v⟩ := p
    show (match (match y == k with | true => some v | false => kv.lookup y) with | some v => some v | none => m y) = m y
    cases hy : y == k with
    | true =>
      rw [beq_iff_eq] at hy
      subst hy
      exact (e _ (.head _)).symm
    | false => exact ih fun p hp => e p (.tail _ hp)
/-- a def's yield lies apart from its caller's ledger -/
def Sep (tl news : List (Addr × Obj)) : Prop := ∀ q ∈ tl, ∀ b ∈ news, (b.1 : Nat) ≠ q.1
def S_turn_heard (z : Zx) : Prop :=
  (LawC (z.w) (z.b.loose) (z.b.mean) (z.b.mg) (z.b.mb) (z.b.g) (z.b.L)) →
  (DoesTC (z.w) 6 163 (z.v.a 1) (z.v.e 1) [.int (z.v.i 6) (z.v.t 6), .str (z.v.s 0) (z.v.t 7)] (z.v.r)) →
  ((z.v.n 3) < 6) →
  ((z.v.i 6) = ((z.v.n 3) : Int) + 1) →
  ((z.v.l 0).length = 6) →
  ((z.v.l 0)[(z.v.n 3)]? = some (.str (z.v.s 0) (z.v.t 7))) →
  ((z.v.m 0) (Str.ofString "place") = some (.int (z.v.i 6) (z.v.t 6))) →
  ((z.v.m 0) (Str.ofString "talk") = some (.ref (z.v.p 4))) →
  (Fr (z.b.g) (z.b.L) z.b.h (z.v.m 0)) →
  (News (z.b.g) (z.b.L) z.b.h (((z.v.p 6), (z.v.o 0)) :: ((z.v.p 5), listOf (z.v.a 0) (z.v.n 2)) :: ((z.v.p 3), (z.v.o 1)) :: ((z.v.p 4), listOf (z.v.l 0).toArray (z.v.n 1)) :: ((z.v.p 2), (z.v.o 2)) :: ((z.v.p 1), listOf #[.int (z.v.i 0) (z.v.t 0), .int (z.v.i 1) (z.v.t 1), .int (z.v.i 2) (z.v.t 2), .int (z.v.i 3) (z.v.t 3), .int (z.v.i 4) (z.v.t 4), .int (z.v.i 5) (z.v.t 5)] (z.v.n 0)) :: ((z.b.L) + 5, (z.v.o 7)) :: ((z.b.L) + 4, (z.v.o 6)) :: ((z.b.L) + 3, (z.v.o 5)) :: ((z.b.L) + 2, (z.v.o 4)) :: ((z.b.L) + 1, (z.v.o 3)) :: (158, tabObj (z.v.a 1)) :: (z.v.e 0))) →
  (∀ q ∈ (z.v.e 1), q ∈ (z.v.e 0)) →
  (OffI 158 (z.v.e 0)) →
  (@Ne Nat ((z.v.p 6)) 158 ∧ @Ne Nat ((z.v.p 5)) 158 ∧ @Ne Nat ((z.v.p 3)) 158 ∧ @Ne Nat ((z.v.p 4)) 158 ∧ @Ne Nat ((z.v.p 2)) 158 ∧ @Ne Nat ((z.v.p 1)) 158 ∧ @Ne Nat ((z.b.L) + 5) 158 ∧ @Ne Nat ((z.b.L) + 4) 158 ∧ @Ne Nat ((z.b.L) + 3) 158 ∧ @Ne Nat ((z.b.L) + 2) 158 ∧ @Ne Nat ((z.b.L) + 1) 158) →
  (∀ {v : Value} {tl : List (Addr × Obj)} {h' : Heap} {tk' : Nat} {ps' : Array Value}, (z.v.r) tl ps' v → Fr (z.b.g) (z.b.L) h' (fun y => if y = Str.ofString "heard" then some v else (z.v.m 0) y) → News (z.b.g) (z.b.L) h' (tl ++ ((z.v.p 6), (z.v.o 0)) :: ((z.v.p 5), listOf (z.v.a 0) (z.v.n 2)) :: ((z.v.p 3), (z.v.o 1)) :: ((z.v.p 4), listOf (z.v.l 0).toArray (z.v.n 1)) :: ((z.v.p 2), (z.v.o 2)) :: ((z.v.p 1), listOf #[.int (z.v.i 0) (z.v.t 0), .int (z.v.i 1) (z.v.t 1), .int (z.v.i 2) (z.v.t 2), .int (z.v.i 3) (z.v.t 3), .int (z.v.i 4) (z.v.t 4), .int (z.v.i 5) (z.v.t 5)] (z.v.n 0)) :: ((z.b.L) + 5, (z.v.o 7)) :: ((z.b.L) + 4, (z.v.o 6)) :: ((z.b.L) + 3, (z.v.o 5)) :: ((z.b.L) + 2, (z.v.o 4)) :: ((z.b.L) + 1, (z.v.o 3)) :: (158, tabObj ps') :: (z.v.e 0)) → Sep tl (((z.v.p 6), (z.v.o 0)) :: ((z.v.p 5), listOf (z.v.a 0) (z.v.n 2)) :: ((z.v.p 3), (z.v.o 1)) :: ((z.v.p 4), listOf (z.v.l 0).toArray (z.v.n 1)) :: ((z.v.p 2), (z.v.o 2)) :: ((z.v.p 1), listOf #[.int (z.v.i 0) (z.v.t 0), .int (z.v.i 1) (z.v.t 1), .int (z.v.i 2) (z.v.t 2), .int (z.v.i 3) (z.v.t 3), .int (z.v.i 4) (z.v.t 4), .int (z.v.i 5) (z.v.t 5)] (z.v.n 0)) :: ((z.b.L) + 5, (z.v.o 7)) :: ((z.b.L) + 4, (z.v.o 6)) :: ((z.b.L) + 3, (z.v.o 5)) :: ((z.b.L) + 2, (z.v.o 4)) :: ((z.b.L) + 1, (z.v.o 3)) :: (158, tabObj (z.v.a 1)) :: (z.v.e 0)) → LawIn (z.w) (z.b.L) (z.v.p 0) (z.v.v 0) 1 (z.b.Q) ⟨h', z.b.gn, z.b.dr, tk', z.b.os⟩) →
  LawIn (z.w) (z.b.L) (z.v.p 0) (z.v.v 0) 0 (z.b.Q) (⟨z.b.h, z.b.gn, z.b.dr, z.b.tk, z.b.os⟩ : Shared)
noncomputable def z_turn_heard : Zx := eps S_turn_heard
/-- the first statement of the first loop's body -/
theorem b_turn_heard : S_turn_heard z_turn_heard := by
  intro H hc hj hp hl6 ht hm1 hm2 F N htb o158 l9 K
  have hkv : ∀ q ∈ [(Str.ofString "place", Value.int (z_turn_heard.v.i 6) (z_turn_heard.v.t 6)), (Str.ofString "talk", Value.ref (z_turn_heard.v.p 4))], (z_turn_heard.v.m 0) q.1 = some q.2 := List.forall_mem_cons.mpr ⟨hm1, List.forall_mem_cons.mpr ⟨hm2, List.forall_mem_nil _⟩⟩
  have F1 := fr_tab F _ hkv
  have em := tab_eq _ hkv
  clear F
  obtain ⟨B, X, T, C, l1⟩ := H
  unfold LawIn forB lawE lawD dOf
  dsimp only [List.drop]
  revert X; k_fill; intro X
  refine wpC_execs_cons (wpC_Assign_Name (wpC_Call_Name ?_))
  k_steps
  refine wpC_callWith_fn ?_
  k_steps
  refine Stop.go ?_
  rename Fr _ _ _ _ => kF
  rename News _ _ _ _ => kN
  have e1 : (z_turn_heard.v.i 6) - 1 = ((z_turn_heard.v.n 3) : Int) := by omega
  have hN := kN ((z_turn_heard.v.p 4), listOf (z_turn_heard.v.l 0).toArray (z_turn_heard.v.n 1)) (by k_mem)
  have hx : ((z_turn_heard.v.l 0).toArray)[((z_turn_heard.v.i 6) - 1).toNat]? = some (Value.str (z_turn_heard.v.s 0) (z_turn_heard.v.t 7)) := by rw [e1]; show (z_turn_heard.v.l 0).toArray[(z_turn_heard.v.n 3)]? = _; rw [List.getElem?_toArray]; exact ht
  have hlt : (z_turn_heard.v.i 6) - 1 < 2 ^ 63 := by omega
  refine item_list ⟨_, hN.1, rfl, _, rfl⟩ (by rw [e1]; exact Int.natCast_nonneg (z_turn_heard.v.n 3)) hlt hx ?_ (by with_unfolding_all rfl) (by intro _; with_unfolding_all rfl)
  k_steps
  · exact ⟨_, _, _, _, (X.keeps kF.keep) 163 _ (by k_is)⟩
  · obtain ⟨n1, n2, n3, n4, n5, n6, n7, n8, n9, n10, n11⟩ := l9
    refine' hc (z_turn_heard.b.loose) (z_turn_heard.b.mean) (z_turn_heard.b.mg) (z_turn_heard.b.mb) _ _ _ _ _ _ _ _ _ (z_turn_heard.b.g) (z_turn_heard.b.g) _ _ _ _ _ _ _ B X T kF X kN T C (.tail n1 (.tail n2 (.tail n3 (.tail n4 (.tail n5 (.tail n6 (.tail n7 (.tail n8 (.tail n9 (.tail n10 (.tail n11 (.head o158)))))))))))) ?kK ?sub ?kd ?ku ?_
    case kK => first | exact rfl | assumption
    case sub => intro q hq; exact List.mem_append_right (as := [((z_turn_heard.v.p 6), (z_turn_heard.v.o 0)), ((z_turn_heard.v.p 5), listOf (z_turn_heard.v.a 0) (z_turn_heard.v.n 2)), ((z_turn_heard.v.p 3), (z_turn_heard.v.o 1)), ((z_turn_heard.v.p 4), listOf (z_turn_heard.v.l 0).toArray (z_turn_heard.v.n 1)), ((z_turn_heard.v.p 2), (z_turn_heard.v.o 2)), ((z_turn_heard.v.p 1), listOf #[.int (z_turn_heard.v.i 0) (z_turn_heard.v.t 0), .int (z_turn_heard.v.i 1) (z_turn_heard.v.t 1), .int (z_turn_heard.v.i 2) (z_turn_heard.v.t 2), .int (z_turn_heard.v.i 3) (z_turn_heard.v.t 3), .int (z_turn_heard.v.i 4) (z_turn_heard.v.t 4), .int (z_turn_heard.v.i 5) (z_turn_heard.v.t 5)] (z_turn_heard.v.n 0)), ((z_turn_heard.b.L) + 5, (z_turn_heard.v.o 7)), ((z_turn_heard.b.L) + 4, (z_turn_heard.v.o 6)), ((z_turn_heard.b.L) + 3, (z_turn_heard.v.o 5)), ((z_turn_heard.b.L) + 2, (z_turn_heard.v.o 4)), ((z_turn_heard.b.L) + 1, (z_turn_heard.v.o 3)), (158, tabObj (z_turn_heard.v.a 1))]) (htb q hq)
    case kd => first | decide | ktr_room
    case ku => first | decide | ktr_units
    intro v tl h' tk' ps' hR F' N' sep
    have sep : Sep tl _ := sep
    k_steps
    rename Fr _ _ _ _ => kF
    rename News _ _ _ _ => kN
    refine K hR ?_ kN sep
    exact (congrArg (fun z => Fr (z_turn_heard.b.g) (z_turn_heard.b.L) _ (fun y => if y = Str.ofString "heard" then some v else z y)) em).mp kF
theorem turn_heard {w : World} {loose : List Str} {mean : ExcName → Option Value} {mg mb : Str → Option Value} {g : Heap} {L a : Addr} {cd : Value} {m : Str → Option Value} {s : Shared} {Q : Flow → Shared → Prop} (H : LawC w loose mean mg mb g L){D P O Tk Pt IT : Addr} {d0 d1 d2 d3 d4 d5 : Int} {u0 u1 u2 u3 u4 u5 : Tok} {n : Nat} {oI oO oP o1 o2 o3 o4 o5 : Obj} {txs : List Value} {nt kp : Nat} {its ps : Array Value} {rest : List (Addr × Obj)} {p : Int} {j : Nat} {tp tr : Tok} {r : Str} {tb : List (Addr × Obj)} {R : List (Addr × Obj) → Array Value → Value → Prop} (hc : DoesTC w 6 163 ps tb [.int p tp, .str r tr] R) (hj : j < 6) (hp : p = (j : Int) + 1) (hl6 : txs.length = 6) (ht : txs[j]? = some (.str r tr))
    (hm1 : m (Str.ofString "place") = some (.int p tp)) (hm2 : m (Str.ofString "talk") = some (.ref Tk)) (F : Fr g L s.heap m) (N : News g L s.heap ((IT, oI) :: (Pt, listOf its kp) :: (O, oO) :: (Tk, listOf txs.toArray nt) :: (P, oP) :: (D, listOf #[.int d0 u0, .int d1 u1, .int d2 u2, .int d3 u3, .int d4 u4, .int d5 u5] n) :: (L + 5, o5) :: (L + 4, o4) :: (L + 3, o3) :: (L + 2, o2) :: (L + 1, o1) :: (158, tabObj ps) :: rest)) (htb : ∀ q ∈ tb, q ∈ rest) (o158 : OffI 158 rest)
    (l9 : @Ne Nat (IT) 158 ∧ @Ne Nat (Pt) 158 ∧ @Ne Nat (O) 158 ∧ @Ne Nat (Tk) 158 ∧ @Ne Nat (P) 158 ∧ @Ne Nat (D) 158 ∧ @Ne Nat (L + 5) 158 ∧ @Ne Nat (L + 4) 158 ∧ @Ne Nat (L + 3) 158 ∧ @Ne Nat (L + 2) 158 ∧ @Ne Nat (L + 1) 158)
    (K : ∀ {v : Value} {tl : List (Addr × Obj)} {h' : Heap} {tk' : Nat} {ps' : Array Value}, R tl ps' v → Fr g L h' (fun y => if y = Str.ofString "heard" then some v else m y) → News g L h' (tl ++ (IT, oI) :: (Pt, listOf its kp) :: (O, oO) :: (Tk, listOf txs.toArray nt) :: (P, oP) :: (D, listOf #[.int d0 u0, .int d1 u1, .int d2 u2, .int d3 u3, .int d4 u4, .int d5 u5] n) :: (L + 5, o5) :: (L + 4, o4) :: (L + 3, o3) :: (L + 2, o2) :: (L + 1, o1) :: (158, tabObj ps') :: rest) → Sep tl ((IT, oI) :: (Pt, listOf its kp) :: (O, oO) :: (Tk, listOf txs.toArray nt) :: (P, oP) :: (D, listOf #[.int d0 u0, .int d1 u1, .int d2 u2, .int d3 u3, .int d4 u4, .int d5 u5] n) :: (L + 5, o5) :: (L + 4, o4) :: (L + 3, o3) :: (L + 2, o2) :: (L + 1, o1) :: (158, tabObj ps) :: rest) → LawIn w L a cd 1 Q { s with heap := h', toks := tk' }) : LawIn w L a cd 0 Q s :=
  eps_all b_turn_heard ⟨w, { loose := loose, mean := mean, mg := mg, mb := mb, g := g, L := L, Q := Q, h := s.heap, gn := s.gens, dr := s.drawn, tk := s.toks, os := s.os }, { r := R, p := fun | 0 => a | 1 => D | 2 => P | 3 => O | 4 => Tk | 5 => Pt | _ => IT, v := fun | _ => cd, m := fun | _ => m, i := fun | 0 => d0 | 1 => d1 | 2 => d2 | 3 => d3 | 4 => d4 | 5 => d5 | _ => p, t := fun | 0 => u0 | 1 => u1 | 2 => u2 | 3 => u3 | 4 => u4 | 5 => u5 | 6 => tp | _ => tr, n := fun | 0 => n | 1 => nt | 2 => kp | _ => j, o := fun | 0 => oI | 1 => oO | 2 => oP | 3 => o1 | 4 => o2 | 5 => o3 | 6 => o4 | _ => o5, l := fun | _ => txs, a := fun | 0 => its | _ => ps, e := fun | 0 => rest | _ => tb, s := fun | _ => r }⟩ H hc hj hp hl6 ht hm1 hm2 F N htb o158 l9 K
end
section
open PySem PySem.W PyProof.Rows PySem.Calls
set_option Elab.async false
set_option maxRecDepth 100000
set_option linter.unusedVariables false
section
variable {prog : Program} {w : World} {A : Around} {E : Value → Shared → Prop} {s : Shared} {env : Env} {R : Result → Shared → Prop}

/-- a comprehension's loop at any depth, by an invariant -/
theorem comp_inv {elt : Expr} {gens : List Comprehension} {scope : Scope} {pos : Pos} {e : Expr} {d : Nat} {it acc : Value} {p : Pos} {x : Str} {px : Pos} {tail : Sem Fin}
    (hE : e = .ListComp elt gens scope pos) (heq : compTurn e d it acc env = (standAt p >>= fun _ => pyNext it >>= fun r => match r with
      | none => pure (.done .next)
      | some v => letOwnedTupleGo (.Name x px) it v >>= fun _ => assign (.Name x px) env v >>= fun _ => tail))
    (n : Nat) (Inv : Nat → Shared → Prop) (Mid : Nat → Value → Shared → Prop) (h0 : Inv 0 s)
    (item : ∀ i s (Q' : Option Value → Shared → Prop) (E' : Value → Shared → Prop), i < n → Inv i s → (∀ v s₁, Mid i v s₁ → Q' (some v) s₁) → wpAny (model prog w) A (pyNext it) Q' E' s)
    (done : ∀ s (Q' : Option Value → Shared → Prop) (E' : Value → Shared → Prop), Inv n s → (∀ s₁, R (.ok .next) s₁ → Q' none s₁) → wpAny (model prog w) A (pyNext it) Q' E' s)
    (step : ∀ i v s (E' : Value → Shared → Prop), i < n → Mid i v s → wpAny (model prog w) A (assign (.Name x px) env v) (fun _ s₃ => wpAny (model prog w) A tail (fun fin s' => fin = .again (.compLoop e d it acc env) ∧ Inv (i + 1) s') E' s₃) E' s) :
    codeAny (model prog w) A (.compLoop e d it acc env) R s := by
  refine codeAny_loop rfl (fun k s' => ∃ i, Inv i s' ∧ i ≤ n ∧ k = n + 1 - i) (fun k s' hI => ?_) (n + 1) ⟨0, h0, Nat.zero_le _, rfl⟩
  obtain ⟨i, hI, hi, rfl⟩ := hI
  subst hE
  show wpAny _ A ((compTurn (.ListComp elt gens scope pos) d it acc env).onRaise (fun x => do noteFrame x env; theTreesLotGoes x)) _ _ s'
  refine wpAny_noted ?_
  rw [heq]
  refine wpAny_bind (wpAny_standAt (wpAny_bind ?_))
  by_cases hlt : i < n
  · refine item i s' _ _ hlt hI fun v s₁ hM => ?_
    refine wpAny_bind (go_name (wpAny_bind (wpAny_mono (step i v s₁ _ hlt hM) (fun _ s₂ h₂ => wpAny_mono h₂ (fun fin s₃ h₃ => ?_) fun _ _ e => e) fun _ _ e => e)))
    obtain ⟨rfl, hI'⟩ := h₃
    exact ⟨rfl, n + 1 - (i + 1), by omega, i + 1, hI', hlt, rfl⟩
  · have hin : i = n := by omega
    subst hin
    exact done s' _ _ hI fun s₁ hq => wpAny_pure hq

/-- the tail of a turn which starts a deeper loop -/
def tailIn (e : Expr) (d : Nat) (it acc : Value) (env : Env) (iter : Expr) : Sem Fin :=
  eval iter env >>= fun x => standAt iter.pos >>= fun _ => foldedSetIterable iter env x >>= fun x => holding [x] (pyIter x) >>= fun it' => runOwn (.compStart e (d + 1) it' acc env) env >>= fun _ => again (.compLoop e d it acc env)
theorem tail_in {e : Expr} {d : Nat} {it acc : Value} {iter : Expr} {Q : Fin → Shared → Prop} (hs : ∀ x, foldedSetIterable iter env x = pure x)
    (h : wpAny (model prog w) A (eval iter env) (fun xv s₁ => wpAny (model prog w) A (pyIter xv) (fun it' s₂ => codeAny (model prog w) A (.compStart e (d + 1) it' acc env) (fun r s₃ => (∃ f, r = .ok f) ∧ Q (.again (.compLoop e d it acc env)) s₃) s₂) E s₁) E s) :
    wpAny (model prog w) A (tailIn e d it acc env iter) Q E s := by
  unfold tailIn
  refine wpAny_bind (wpAny_mono h (fun xv s₁ h₁ => wpAny_bind (wpAny_standAt (wpAny_bind (wpAny_of_eq (hs xv) (wpAny_bind (wpAny_holding (wpAny_mono h₁ (fun it' s₂ h₂ => wpAny_bind (wpAny_runOwn (codeAny_mono h₂ fun r s₃ hr => ?_))) fun _ _ e => e))))))) fun _ _ e => e)
  obtain ⟨⟨f, rfl⟩, hq⟩ := hr
  exact wpAny_pure hq
def tailOut (e : Expr) (d : Nat) (it acc : Value) (env : Env) (elt : Expr) : Sem Fin :=
  (eval elt env >>= fun x => call (.builtin "list.append") [acc, x] >>= fun _ => pure ()) >>= fun _ => again (.compLoop e d it acc env)
theorem tail_out {e : Expr} {d : Nat} {it acc : Value} {elt : Expr} {Q : Fin → Shared → Prop}
    (h : wpAny (model prog w) A (eval elt env) (fun x s₁ => wpAny (model prog w) A (call (.builtin "list.append") [acc, x]) (fun _ s₂ => Q (.again (.compLoop e d it acc env)) s₂) E s₁) E s) :
    wpAny (model prog w) A (tailOut e d it acc env elt) Q E s :=
  wpAny_bind (wpAny_bind (wpAny_mono h (fun x s₁ h₁ => wpAny_bind (wpAny_mono h₁ (fun _ s₂ h₂ => wpAny_pure (wpAny_pure h₂)) fun _ _ e => e)) fun _ _ e => e))

theorem start_any {elt : Expr} {gens : List Comprehension} {scope : Scope} {pos : Pos} {e : Expr} {d : Nat} {it acc : Value} {g : Comprehension} (hE : e = .ListComp elt gens scope pos) (hg : (clausesOf e)[d]? = some g) (ha : (g.is_async != 0) = false) (h0 : codeAny (model prog w) A (.compLoop e d it acc env) R s)
    (h : ∀ E', wpAny (model prog w) A (pyIter it) (fun it' s' => codeAny (model prog w) A (.compLoop e d it' acc env) R s') E' s) :
    codeAny (model prog w) A (.compStart e d it acc env) R s := by
  refine codeAny_of_tree ?_
  subst hE
  show wpAny _ A ((compStart (.ListComp elt gens scope pos) d it acc env).onRaise (fun x => do noteFrame x env; standAt theWindowsPlace)) _ _ s
  refine wpAny_notedAt ?_
  unfold compStart
  rw [hg]
  simp only [Option.elim, ha, Bool.false_eq_true, if_false]
  show wpAny _ A (ask >>= _) _ _ s
  refine wpAny_bind (wpAny_askSetting (wpAny_ite ?_))
  split
  · exact wpAny_pure ⟨rfl, h0⟩
  · refine wpAny_bind (wpAny_rule ?_)
    exact wpAny_bind (wpAny_standAt (wpAny_bind (wpAny_mono (h _) (fun it' s' h' => wpAny_pure ⟨rfl, h'⟩) fun _ _ x => x)))
end
section
theorem turn3_0 (elt i0 i1 i2 : Expr) (x0 x1 x2 : Str) (p0 p1 p2 : Pos) (scope : Scope) (pos : Pos) (it acc : Value) (env : Env) :
    compTurn (.ListComp elt [⟨.Name x0 p0, i0, [], 0⟩, ⟨.Name x1 p1, i1, [], 0⟩, ⟨.Name x2 p2, i2, [], 0⟩] scope pos) 0 it acc env = (standAt i0.pos >>= fun _ => pyNext it >>= fun r => match r with
      | none => pure (.done .next)
      | some v => letOwnedTupleGo (.Name x0 p0) it v >>= fun _ => assign (.Name x0 p0) env v >>= fun _ => tailIn (.ListComp elt [⟨.Name x0 p0, i0, [], 0⟩, ⟨.Name x1 p1, i1, [], 0⟩, ⟨.Name x2 p2, i2, [], 0⟩] scope pos) 0 it acc env i1) := by rfl
theorem turn3_1 (elt i0 i1 i2 : Expr) (x0 x1 x2 : Str) (p0 p1 p2 : Pos) (scope : Scope) (pos : Pos) (it acc : Value) (env : Env) :
    compTurn (.ListComp elt [⟨.Name x0 p0, i0, [], 0⟩, ⟨.Name x1 p1, i1, [], 0⟩, ⟨.Name x2 p2, i2, [], 0⟩] scope pos) 1 it acc env = (standAt i1.pos >>= fun _ => pyNext it >>= fun r => match r with
      | none => pure (.done .next)
      | some v => letOwnedTupleGo (.Name x1 p1) it v >>= fun _ => assign (.Name x1 p1) env v >>= fun _ => tailIn (.ListComp elt [⟨.Name x0 p0, i0, [], 0⟩, ⟨.Name x1 p1, i1, [], 0⟩, ⟨.Name x2 p2, i2, [], 0⟩] scope pos) 1 it acc env i2) := by rfl
theorem turn3_2 (elt i0 i1 i2 : Expr) (x0 x1 x2 : Str) (p0 p1 p2 : Pos) (scope : Scope) (pos : Pos) (it acc : Value) (env : Env) :
    compTurn (.ListComp elt [⟨.Name x0 p0, i0, [], 0⟩, ⟨.Name x1 p1, i1, [], 0⟩, ⟨.Name x2 p2, i2, [], 0⟩] scope pos) 2 it acc env = (standAt i2.pos >>= fun _ => pyNext it >>= fun r => match r with
      | none => pure (.done .next)
      | some v => letOwnedTupleGo (.Name x2 p2) it v >>= fun _ => assign (.Name x2 p2) env v >>= fun _ => tailOut (.ListComp elt [⟨.Name x0 p0, i0, [], 0⟩, ⟨.Name x1 p1, i1, [], 0⟩, ⟨.Name x2 p2, i2, [], 0⟩] scope pos) 2 it acc env elt) := by rfl
end
end
section
open PySem PySem.W PyProof.Rows PySem.Calls
set_option Elab.async false
set_option maxRecDepth 100000
set_option linter.unusedVariables false
section
variable {prog : Program} {w : World} {A : Around} {E : Value → Shared → Prop} {s : Shared} {env : Env} {R : Result → Shared → Prop} {b : Heap} {L : Addr} {m : Str → Option Value} {news : List (Addr × Obj)}

def rangeIt (x left : Int) : Obj := { cls := .type "range_iterator", data := .fields #[rawInt x, rawInt left, rawInt 1] }

/-- a comprehension's loop over a range iterator that stands in the ledger -/
theorem comp_range {elt : Expr} {gens : List Comprehension} {scope : Scope} {pos : Pos} {e : Expr} {d : Nat} {acc : Value} {p : Pos} {x : Str} {px : Pos} {g : Comprehension} {IT : Addr} {a : Int} {n : Nat} (tail : Value → Sem Fin)
    (hE : e = .ListComp elt gens scope pos) (hg : (clausesOf e)[d]? = some g) (ha : (g.is_async != 0) = false)
    (heq : ∀ it, compTurn e d it acc env = (standAt p >>= fun _ => pyNext it >>= fun r => match r with
      | none => pure (.done .next)
      | some v => letOwnedTupleGo (.Name x px) it v >>= fun _ => assign (.Name x px) env v >>= fun _ => tail it))
    (hh : A.handled = none) (F : Fr b L s.heap m) (N : News b L s.heap ((IT, rangeIt a n) :: news)) (off : OffI IT news)
    (J : Nat → List (Addr × Obj) → Prop) (h0 : J 0 news)
    (step : ∀ i t news₁ oI h₁ tk₁ (E' : Value → Shared → Prop), i < n → J i news₁ → Fr b L h₁ m → News b L h₁ ((IT, oI) :: news₁) → OffI IT news₁ →
      wpAny (model prog w) A (assign (.Name x px) env (.int (a + i) t)) (fun _ s₃ => wpAny (model prog w) A (tail (.ref IT))
        (fun fin s' => fin = .again (.compLoop e d (.ref IT) acc env) ∧ ∃ h' tk' news', s' = { s with heap := h', toks := tk' } ∧ Fr b L h' m ∧ News b L h' ((IT, oI) :: news') ∧ OffI IT news' ∧ J (i + 1) news') E' s₃) E' { s with heap := h₁, toks := tk₁ })
    (fin : ∀ h' tk' news', J n news' → Fr b L h' m → News b L h' news' → R (.ok .next) { s with heap := h', toks := tk' }) :
    codeAny (model prog w) A (.compStart e d (.ref IT) acc env) R s := by
  have W := Walks.range (prog := prog) (w := w) (A := A) hh IT a 1 n
  have moved : ∀ {news' : List (Addr × Obj)} {oI : Obj} {h h' : Heap}, Fr b L h m → News b L h ((IT, oI) :: news') → OffI IT news' → (∀ x o, x ∉ [IT] → h.get? x = some o → h'.get? x = some o) → Fr b L h' m ∧ News b L h' news' :=
    fun Fx Nx ox hk => ⟨kmb_fr Fx hk (Nx _ (.head _)).2.1 (Nx _ (.head _)).2.2, kmb_news (fun q hq => Nx q (.tail _ hq)) hk ox⟩
  have st0 : IsRangeIter s.heap IT (a + ((0 : Nat) : Int) * 1) ((n : Int) - ((0 : Nat) : Int)) 1 := by
    rw [show a + ((0 : Nat) : Int) * 1 = a by omega, show (n : Int) - ((0 : Nat) : Int) = (n : Int) by omega]
    exact (N _ (.head _)).1
  have loop : codeAny (model prog w) A (.compLoop e d (.ref IT) acc env) R s := by
    refine comp_inv hE (heq _) n
      (fun i s' => ∃ h tk news' oI, s' = { s with heap := h, toks := tk } ∧ Fr b L h m ∧ News b L h ((IT, oI) :: news') ∧ OffI IT news' ∧ J i news' ∧ IsRangeIter h IT (a + (i : Nat) * 1) ((n : Int) - (i : Nat)) 1)
      (fun i v s' => ∃ h tk news' oI t, v = .int (a + i) t ∧ s' = { s with heap := h, toks := tk } ∧ Fr b L h m ∧ News b L h ((IT, oI) :: news') ∧ OffI IT news' ∧ J i news' ∧ IsRangeIter h IT (a + ((i + 1 : Nat) : Nat) * 1) ((n : Int) - ((i + 1 : Nat) : Nat)) 1)
      ⟨s.heap, s.toks, news, _, rfl, F, N, off, h0, st0⟩ ?_ ?_ ?_
    · rintro i s' Q' E' hi ⟨h, tk, news', oI, rfl, Fx, Nx, ox, hJ, hS⟩ hQ
      refine W.item i _ _ _ hi hS fun v h' tk' hP hS' hk => hQ v _ ?_
      obtain ⟨t, rfl⟩ := hP
      obtain ⟨Fy, Ny⟩ := moved Fx Nx ox hk
      refine ⟨h', tk', news', rangeIt (a + ((i + 1 : Nat) : Nat) * 1) ((n : Int) - ((i + 1 : Nat) : Nat)), t, by rw [Int.mul_one], rfl, Fy, fun q hq => ?_, ox, hJ, hS'⟩
      rcases List.mem_cons.mp hq with rfl | hq
      · exact ⟨hS', (Nx _ (.head _)).2⟩
      · exact Ny q hq
    · rintro s' Q' E' ⟨h, tk, news', oI, rfl, Fx, Nx, ox, hJ, hS⟩ hQ
      refine W.done _ _ _ hS fun h' tk' hk => hQ _ ?_
      obtain ⟨Fy, Ny⟩ := moved Fx Nx ox hk
      exact fin h' tk' news' hJ Fy Ny
    · rintro i v s' E' hi ⟨h, tk, news', oI, t, rfl, rfl, Fx, Nx, ox, hJ, hS⟩
      refine wpAny_mono (step i t news' oI h tk E' hi hJ Fx Nx ox) (fun _ s₃ h₃ => wpAny_mono h₃ (fun fin' s₄ h₄ => ?_) fun _ _ e => e) fun _ _ e => e
      obtain ⟨rfl, h', tk', news'', rfl, F', N', o', J'⟩ := h₄
      refine ⟨rfl, h', tk', news'', oI, rfl, F', N', o', J', ?_⟩
      have h1 := (Nx _ (.head _)).1
      have h2 := (N' _ (.head _)).1
      show h'.get? IT = _
      rw [h2, ← h1]
      exact hS
  exact start_any hE hg ha loop fun E' => W.self 0 _ _ _ st0 loop

/-- a name of the comprehension's own space is set -/
theorem assign_C {C : Addr} {oC : Obj} {mC : Str → Option Value} {x : Str} {px : Pos} {v : Value} {rest : List (Addr × Obj)} {Q : Unit → Shared → Prop} (hC : env.locals = C) (hx : env.kindOf x = some .local)
    (hp : (env.scope.kind == .class || (env.scope.kind == .module && env.locals != env.globals)) = false)
    (F : Fr b L s.heap m) (N : News b L s.heap ((C, oC) :: rest)) (off : OffI C rest) (ho : LCg.NsObj oC mC)
    (h : ∀ h' oC' mC', LCg.NsObj oC' mC' → mC' x = some v → (∀ y, y ≠ x → mC' y = mC y) → Fr b L h' m → News b L h' ((C, oC') :: rest) → Q () { s with heap := h', toks := s.toks + 1 }) :
    wpAny (model prog w) A (assign (.Name x px) env v) Q E s := by
  subst hC
  have nC := N _ (.head _)
  refine wpAny_assign_Name (wpAny_storeName_local hx (ho.ns nC.1) (fun h' hns hsb => ?_) hp)
  obtain ⟨oC', hoC', hN'⟩ := LCg.ns_obj hns
  refine h h' oC' _ hN' (if_pos rfl) (fun y hy => if_neg hy) (F.change hsb nC.2.1 nC.2.2) fun q hq => ?_
  rcases List.mem_cons.mp hq with rfl | hq
  · exact ⟨hoC', nC.2⟩
  · exact ⟨hsb.extBut _ _ (off q hq) (N q (.tail _ hq)).1, (N q (.tail _ hq)).2⟩
end
end
section
open PySem PySem.W PyProof.Rows PySem.Calls
set_option Elab.async false
set_option maxRecDepth 100000
set_option linter.unusedVariables false
set_option genInjectivity false
set_option genSizeOf false
set_option genSizeOfSpec false
/-- the letters of a lemma; each kind by number -/
structure Yx where
  pg : Nat → Program := fun _ => PySem.Challenge.rw_zd0006_01.row.prog
  w : Nat → World := fun _ => aWorld 0
  A : Nat → Around := fun _ => {}
  E : Nat → (Value → Shared → Prop) := fun _ => fun _ _ => True
  s : Nat → Shared := fun _ => ⟨{}, #[], {}, 0, {}⟩
  en : Nat → Env := fun _ => default
  h : Nat → Heap := fun _ => {}
  a : Nat → Addr := fun _ => 0
  m : Nat → (Str → Option Value) := fun _ => fun _ => none
  ns : Nat → (List (Addr × Obj)) := fun _ => []
  x : Nat → Str := fun _ => default
  e : Nat → Expr := fun _ => default
  po : Nat → Pos := fun _ => default
  n : Nat → Nat := fun _ => 0
  o : Nat → Obj := fun _ => default
  sc : Nat → Scope := fun _ => default
  cl : Nat → (List (Str × Addr)) := fun _ => []
  vs : Nat → (Array Value) := fun _ => #[]
  fv : Nat → (Nat → Value) := fun _ => fun _ => .none
  pv : Nat → (Value → Bool) := fun _ => fun _ => true
  q : Nat → (Flow → Shared → Prop) := fun _ => fun _ _ => True
  r : Nat → (Result → Shared → Prop) := fun _ => fun _ _ => True
  u : Nat → (Unit → Shared → Prop) := fun _ => fun _ _ => True
  v : Nat → Value := fun _ => default
  i : Nat → Int := fun _ => 0
  t : Nat → Tok := fun _ => 0
  l : Nat → (List Value) := fun _ => []
  vv : Nat → (Value → Value → Prop) := fun _ => fun _ _ => True
  c : Nat → Code := fun _ => default
  st : Nat → (List Stmt) := fun _ => []
  tr : Nat → (List (Nat × Nat × Nat)) := fun _ => []
  sh : Nat → (Nat → Heap → Prop) := fun _ => fun _ _ => True
  pn : Nat → (Nat → Value → Prop) := fun _ => fun _ _ => True
  J : Nat → (Nat → Heap → (Str → Option Value) → List (Addr × Obj) → Prop) := fun _ => fun _ _ _ _ => True
  la : Nat → (List Addr) := fun _ => []
  vp : Nat → (Value → Prop) := fun _ => fun _ => True
theorem yx_ne : Nonempty Yx := ⟨{}⟩
/-- letters at which S fails, if there are such -/
noncomputable def epsY (S : Yx → Prop) : Yx := @Classical.epsilon Yx yx_ne fun z => ¬ S z
theorem epsY_all {S : Yx → Prop} (e : S (epsY S)) (z : Yx) : S z :=
  Classical.byContradiction fun n => @Classical.epsilon_spec Yx (fun z => ¬ S z) ⟨z, n⟩ e
end
section
open PySem PySem.W PyProof.Rows PySem.Calls
set_option Elab.async false
set_option maxRecDepth 100000
set_option linter.unusedVariables false
/-! the threes of five points -/
def T2 (i j : Nat) : Nat → List (Nat × Nat × Nat)
  | 0 => []
  | q + 1 => T2 i j q ++ [(i, j, j + 1 + q)]
def T1 (i : Nat) : Nat → List (Nat × Nat × Nat)
  | 0 => []
  | q + 1 => T1 i q ++ T2 i (i + 1 + q) (4 - (i + 1 + q))
def T0 : Nat → List (Nat × Nat × Nat)
  | 0 => []
  | q + 1 => T0 q ++ T1 q (4 - q)
theorem T2_len (i j : Nat) : ∀ q, (T2 i j q).length = q
  | 0 => rfl
  | q + 1 => by show (T2 i j q ++ _).length = _; rw [List.length_append, T2_len i j q]; rfl
theorem T1_len (i : Nat) : ∀ q, (T1 i q).length ≤ 4 * q
  | 0 => Nat.le_refl _
  | q + 1 => by
    show (T1 i q ++ _).length ≤ _
    have := T1_len i q
    rw [List.length_append, T2_len]
    omega
theorem T0_len : ∀ q, q ≤ 5 → (T0 q).length ≤ 16 * q
  | 0, _ => Nat.le_refl _
  | q + 1, h => by
    show (T0 q ++ _).length ≤ _
    have := T0_len q (by omega)
    have := T1_len q (4 - q)
    rw [List.length_append]
    omega

def Made (P : Nat → Value) (tr : List (Nat × Nat × Nat)) (ls : List (Addr × Obj)) : Prop := Paired (fun t q => ∃ n, q.2 = listOf #[P t.1, P t.2.1, P t.2.2] n) tr ls
def CSt (P : Nat → Value) (C D : Addr) (rest : List (Addr × Obj)) (K : (Str → Option Value) → Prop) (tr : List (Nat × Nat × Nat)) (news : List (Addr × Obj)) : Prop :=
  ∃ oC mC ls k, news = (C, oC) :: (D, listOf (List.toArray (ls.map fun q => Value.ref q.1)) k) :: (ls ++ rest) ∧ LCg.NsObj oC mC ∧ K mC ∧ Made P tr ls ∧ OffI C ((D, listOf #[] 0) :: (ls ++ rest)) ∧ OffI D (ls ++ rest) ∧ ∀ q ∈ ls, OffI q.1 rest
theorem OffI.same {I D : Addr} {o o' : Obj} {l : List (Addr × Obj)} (h : OffI I ((D, o) :: l)) : OffI I ((D, o') :: l) := off_swap h
theorem OffI.hd {I : Addr} {p : Addr × Obj} {l : List (Addr × Obj)} (h : OffI I (p :: l)) : (p.1 : Nat) ≠ I := h _ (.head _)
theorem OffI.tl {I : Addr} {p : Addr × Obj} {l : List (Addr × Obj)} (h : OffI I (p :: l)) : OffI I l := fun q hq => h q (.tail _ hq)
theorem OffI.cons {I : Addr} {p : Addr × Obj} {l : List (Addr × Obj)} (h1 : (p.1 : Nat) ≠ I) (h : OffI I l) : OffI I (p :: l) := fun q hq => by
  rcases List.mem_cons.mp hq with rfl | hq
  · exact h1
  · exact h q hq
theorem OffI.app {I : Addr} {l l' : List (Addr × Obj)} (h1 : OffI I l) (h : OffI I l') : OffI I (l ++ l') := fun q hq => by
  rcases List.mem_append.mp hq with hq | hq
  · exact h1 q hq
  · exact h q hq
theorem OffI.left {I : Addr} {l l' : List (Addr × Obj)} (h : OffI I (l ++ l')) : OffI I l := fun q hq => h q (List.mem_append_left _ hq)
theorem OffI.right {I : Addr} {l l' : List (Addr × Obj)} (h : OffI I (l ++ l')) : OffI I l' := fun q hq => h q (List.mem_append_right _ hq)

theorem mem_swap {α : Type} {a c z : α} {l : List α} (h : z ∈ c :: a :: l) : z ∈ a :: c :: l := by
  rcases List.mem_cons.mp h with rfl | h
  · exact .tail _ (.head _)
  · rcases List.mem_cons.mp h with rfl | h
    · exact .head _
    · exact .tail _ (.tail _ h)
theorem val_eq2 {x y : Int} {t : Tok} (h : x = y) : Value.int x t = .int y t := by rw [h]
theorem range_all : ∀ j : Fin 5, Builtin.Range.rangeSize (((j.val : Nat) : Int) + 1) 5 1 = ((4 - j.val : Nat) : Int) ∧ Builtin.Range.small (((j.val : Nat) : Int) + 1) 5 1 = true := by decide +kernel
theorem range5 {j : Nat} (h : j < 5) : Builtin.Range.rangeSize ((j : Int) + 1) 5 1 = ((4 - j : Nat) : Int) := (range_all ⟨j, h⟩).1
theorem small5 {j : Nat} (h : j < 5) : Builtin.Range.small ((j : Int) + 1) 5 1 = true := (range_all ⟨j, h⟩).2
def K0 (_ : Str → Option Value) : Prop := True
def K1 (x0 : Str) (i : Nat) (mC : Str → Option Value) : Prop := ∃ t, mC x0 = some (.int (i : Int) t)
def K2 (x0 x1 : Str) (i j : Nat) (mC : Str → Option Value) : Prop := (∃ t, mC x0 = some (.int (i : Int) t)) ∧ ∃ t, mC x1 = some (.int (j : Int) t)

structure ThreeEnv (prog : Program) (w : World) (A : Around) (env : Env) (C : Addr) (b : Heap) (L : Addr) (m : Str → Option Value) (base : List (Addr × Obj)) (P : Nat → Value) (elt i1 i2 : Expr) (x0 x1 x2 : Str) (s : Shared) : Prop where
  hh : A.handled = none
  loc : env.locals = C
  k0 : env.kindOf x0 = some .local
  k1 : env.kindOf x1 = some .local
  k2 : env.kindOf x2 = some .local
  kp : (env.scope.kind == .class || (env.scope.kind == .module && env.locals != env.globals)) = false
  n01 : x0 ≠ x1
  n02 : x0 ≠ x2
  n12 : x1 ≠ x2
  f1 : ∀ x, foldedSetIterable i1 env x = pure x
  f2 : ∀ x, foldedSetIterable i2 env x = pure x
  r1 : ∀ (i : Nat) h tk oC mC news (E : Value → Shared → Prop), i < 5 → LCg.NsObj oC mC → (∃ t, mC x0 = some (.int (i : Int) t)) → (C, oC) ∈ news → (∀ q ∈ base, q ∈ news) → Fr b L h m → News b L h news →
    wpAny (model prog w) A (eval i1 env) (fun xv s' => Stop (∃ r t u v, xv = .ref r ∧ IsRange s'.heap r ((i : Int) + 1) 5 1 t u v ∧ Keeps { s with heap := h, toks := tk } s')) E { s with heap := h, toks := tk }
  r2 : ∀ (j : Nat) h tk oC mC news (E : Value → Shared → Prop), j < 5 → LCg.NsObj oC mC → (∃ t, mC x1 = some (.int (j : Int) t)) → (C, oC) ∈ news → (∀ q ∈ base, q ∈ news) → Fr b L h m → News b L h news →
    wpAny (model prog w) A (eval i2 env) (fun xv s' => Stop (∃ r t u v, xv = .ref r ∧ IsRange s'.heap r ((j : Int) + 1) 5 1 t u v ∧ Keeps { s with heap := h, toks := tk } s')) E { s with heap := h, toks := tk }
  el : ∀ (i j k : Nat) h tk oC mC news (E : Value → Shared → Prop), i < 5 → j < 5 → k < 5 → LCg.NsObj oC mC → (∃ t, mC x0 = some (.int (i : Int) t)) → (∃ t, mC x1 = some (.int (j : Int) t)) → (∃ t, mC x2 = some (.int (k : Int) t)) → (C, oC) ∈ news → (∀ q ∈ base, q ∈ news) →
    Fr b L h m → News b L h news →
    wpAny (model prog w) A (eval elt env) (fun v s' => Stop (∃ a n h' tk', v = .ref a ∧ s' = { s with heap := h', toks := tk' } ∧ Fr b L h' m ∧ News b L h' ((a, listOf #[P i, P j, P k] n) :: news) ∧ OffI a news)) E { s with heap := h, toks := tk }

section
variable {prog : Program} {w : World} {A : Around} {s : Shared} {env : Env} {R : Result → Shared → Prop} {b h : Heap} {L C D : Addr} {m : Str → Option Value} {news base rest : List (Addr × Obj)} {P : Nat → Value} {elt i0 i1 i2 : Expr} {x0 x1 x2 : Str} {p0 p1 p2 : Pos} {scope : Scope} {pos : Pos} {tk : Nat} {tr : List (Nat × Nat × Nat)}
abbrev e3 (elt i0 i1 i2 : Expr) (x0 x1 x2 : Str) (p0 p1 p2 : Pos) (scope : Scope) (pos : Pos) : Expr := .ListComp elt [⟨.Name x0 p0, i0, [], 0⟩, ⟨.Name x1 p1, i1, [], 0⟩, ⟨.Name x2 p2, i2, [], 0⟩] scope pos

def S_lev2 (Z9 : Yx) : Prop :=
  (ThreeEnv (Z9.pg 0) (Z9.w 0) (Z9.A 0) (Z9.en 0) (Z9.a 1) (Z9.h 0) (Z9.a 0) (Z9.m 0) (Z9.ns 1) (Z9.fv 0) (Z9.e 0) (Z9.e 2) (Z9.e 3) (Z9.x 0) (Z9.x 1) (Z9.x 2) (Z9.s 0)) →
  ((Z9.n 1) < 5) →
  ((Z9.n 2) < 5) →
  (∀ q ∈ (Z9.ns 1), q ∈ (Z9.ns 2)) →
  ((Z9.tr 0).length ≤ 500) →
  (Fr (Z9.h 0) (Z9.a 0) (Z9.h 1) (Z9.m 0)) →
  (News (Z9.h 0) (Z9.a 0) (Z9.h 1) (((Z9.a 3), rangeIt (((Z9.n 2) : Int) + 1) ((4 - (Z9.n 2) : Nat) : Int)) :: (Z9.ns 0))) →
  (OffI (Z9.a 3) (Z9.ns 0)) →
  (CSt (Z9.fv 0) (Z9.a 1) (Z9.a 2) (Z9.ns 2) (K2 (Z9.x 0) (Z9.x 1) (Z9.n 1) (Z9.n 2)) (Z9.tr 0) (Z9.ns 0)) →
  (∀ h' tk' news', CSt (Z9.fv 0) (Z9.a 1) (Z9.a 2) (Z9.ns 2) (K2 (Z9.x 0) (Z9.x 1) (Z9.n 1) (Z9.n 2)) ((Z9.tr 0) ++ T2 (Z9.n 1) (Z9.n 2) (4 - (Z9.n 2))) news' → Fr (Z9.h 0) (Z9.a 0) h' (Z9.m 0) → News (Z9.h 0) (Z9.a 0) h' news' → (Z9.r 0) (.ok .next) { (Z9.s 0) with heap := h', toks := tk' }) →
  codeAny (model (Z9.pg 0) (Z9.w 0)) (Z9.A 0) (.compStart (e3 (Z9.e 0) (Z9.e 1) (Z9.e 2) (Z9.e 3) (Z9.x 0) (Z9.x 1) (Z9.x 2) (Z9.po 0) (Z9.po 1) (Z9.po 2) (Z9.sc 0) (Z9.po 3)) 2 (.ref (Z9.a 3)) (.ref (Z9.a 2)) (Z9.en 0)) (Z9.r 0) { (Z9.s 0) with heap := (Z9.h 1), toks := (Z9.n 0) }
noncomputable def z_lev2 : Yx := epsY S_lev2
theorem b_lev2 : S_lev2 z_lev2 := by
  intro T hi hj hb htr F N off hJ fin
  refine comp_range (s := { (z_lev2.s 0) with heap := (z_lev2.h 1), toks := (z_lev2.n 0) }) (fun it => tailOut (e3 (z_lev2.e 0) (z_lev2.e 1) (z_lev2.e 2) (z_lev2.e 3) (z_lev2.x 0) (z_lev2.x 1) (z_lev2.x 2) (z_lev2.po 0) (z_lev2.po 1) (z_lev2.po 2) (z_lev2.sc 0) (z_lev2.po 3)) 2 it (.ref (z_lev2.a 2)) (z_lev2.en 0) (z_lev2.e 0)) rfl (g := ⟨.Name (z_lev2.x 2) (z_lev2.po 2), (z_lev2.e 3), [], 0⟩) rfl rfl (fun it => turn3_2 (z_lev2.e 0) (z_lev2.e 1) (z_lev2.e 2) (z_lev2.e 3) (z_lev2.x 0) (z_lev2.x 1) (z_lev2.x 2) (z_lev2.po 0) (z_lev2.po 1) (z_lev2.po 2) (z_lev2.sc 0) (z_lev2.po 3) it _ (z_lev2.en 0)) T.hh F N off
    (fun q news' => CSt (z_lev2.fv 0) (z_lev2.a 1) (z_lev2.a 2) (z_lev2.ns 2) (K2 (z_lev2.x 0) (z_lev2.x 1) (z_lev2.n 1) (z_lev2.n 2)) ((z_lev2.tr 0) ++ T2 (z_lev2.n 1) (z_lev2.n 2) q) news') (by rw [show T2 (z_lev2.n 1) (z_lev2.n 2) 0 = [] from rfl, List.append_nil]; exact hJ) ?_ (fun h' tk' news' hJ' F' N' => fin h' tk' news' hJ' F' N')
  rintro q t _ oI h₁ tk₁ E' hq ⟨oC, mC, ls, k, rfl, ho, ⟨hK0, hK1⟩, hM, oC1, oD1, oL1⟩ F₁ N₁ o₁
  have hlen : ls.length ≤ 600 := by
    have := hM.length
    rw [List.length_append, T2_len] at this
    omega
  have N₁' : News (z_lev2.h 0) (z_lev2.a 0) h₁ (((z_lev2.a 1), oC) :: ((z_lev2.a 3), oI) :: ((z_lev2.a 2), listOf (List.toArray (ls.map fun q => Value.ref q.1)) k) :: (ls ++ (z_lev2.ns 2))) := fun z hz => N₁ z (mem_swap hz)
  refine assign_C T.loc T.k2 T.kp F₁ N₁' (OffI.cons (fun e => o₁.hd e.symm) oC1.same) ho fun h₂ oC' mC' ho' hx hy F₂ N₂ => ?_
  refine tail_out (wpAny_mono (T.el (z_lev2.n 1) (z_lev2.n 2) ((z_lev2.n 2) + 1 + q) h₂ (tk₁ + 1) oC' mC' _ _ hi hj (by omega) ho' (by rw [hy _ T.n02]; exact hK0) (by rw [hy _ T.n12]; exact hK1) ⟨t, hx.trans (congrArg some (val_eq2 (by omega)))⟩ (.head _) (fun z hz => ?_) F₂ N₂) (fun v s₃ h₃ => ?_) fun _ _ e => e)
  · have := hb z hz
    simp [this]
  obtain ⟨a, n, h', tk', rfl, rfl, F₃, N₃, oA⟩ := h₃
  refine append_U (m := (z_lev2.m 0)) F₃ N₃ (UpdF.tail (fun e => oA.tl.tl.hd e.symm) (UpdF.tail (fun e => oC1.hd e.symm) (UpdF.tail (fun e => o₁.tl.hd e.symm) (UpdF.head oD1)))) (fun h₄ F₄ N₄ => ⟨rfl, h₄, tk', ((z_lev2.a 1), oC') :: ((z_lev2.a 2), listOf (List.toArray ((ls ++ [(a, listOf #[(z_lev2.fv 0) (z_lev2.n 1), (z_lev2.fv 0) (z_lev2.n 2), (z_lev2.fv 0) ((z_lev2.n 2) + 1 + q)] n)]).map fun q => Value.ref q.1)) (k + 1)) :: ((ls ++ [(a, listOf #[(z_lev2.fv 0) (z_lev2.n 1), (z_lev2.fv 0) (z_lev2.n 2), (z_lev2.fv 0) ((z_lev2.n 2) + 1 + q)] n)]) ++ (z_lev2.ns 2)), rfl, F₄, ?_, ?_, ?_⟩) ?_
  · rw [push_snoc] at N₄
    intro z hz
    refine N₄ z ?_
    simp only [List.mem_cons, List.mem_append, List.map_append, List.map_cons, List.map_nil, List.not_mem_nil, or_false] at hz ⊢
    rcases hz with h | h | h | (h | h) | h <;> simp [h]
  · exact OffI.cons o₁.hd (OffI.cons o₁.tl.hd (OffI.app (OffI.app o₁.tl.tl.left (OffI.cons (fun e => oA.tl.hd e.symm) fun _ h => nomatch h)) o₁.tl.tl.right))
  · refine ⟨oC', mC', _, _, rfl, ho', ⟨by rw [hy _ T.n02]; exact hK0, by rw [hy _ T.n12]; exact hK1⟩, ?_, ?_, ?_, ?_⟩
    · rw [show T2 (z_lev2.n 1) (z_lev2.n 2) (q + 1) = T2 (z_lev2.n 1) (z_lev2.n 2) q ++ [((z_lev2.n 1), (z_lev2.n 2), (z_lev2.n 2) + 1 + q)] from rfl, ← List.append_assoc]
      exact hM.snoc ⟨n, rfl⟩
    · exact OffI.cons oC1.hd (OffI.app (OffI.app oC1.tl.left (OffI.cons (fun e => oA.hd e.symm) fun _ h => nomatch h)) oC1.tl.right)
    · exact OffI.app (OffI.app oD1.left (OffI.cons (fun e => oA.tl.tl.hd e.symm) fun _ h => nomatch h)) oD1.right
    · intro z hz
      rcases List.mem_append.mp hz with hz | hz
      · exact oL1 z hz
      · rw [List.mem_singleton.mp hz]
        exact oA.tl.tl.tl.right
  · rw [List.size_toArray, List.length_map, sizeLine_eq]
    omega
theorem lev2 {prog : Program} {w : World} {A : Around} {s : Shared} {env : Env} {R : Result → Shared → Prop} {b : Heap} {h : Heap} {L : Addr} {C : Addr} {D : Addr} {IT : Addr} {m : Str → Option Value} {news : List (Addr × Obj)} {base : List (Addr × Obj)} {rest : List (Addr × Obj)} {P : Nat → Value} {elt : Expr} {i0 : Expr} {i1 : Expr} {i2 : Expr} {x0 : Str} {x1 : Str} {x2 : Str} {p0 : Pos} {p1 : Pos} {p2 : Pos} {pos : Pos} {scope : Scope} {tk : Nat} {tr : List (Nat × Nat × Nat)} {i : Nat} {j : Nat} (T : ThreeEnv prog w A env C b L m base P elt i1 i2 x0 x1 x2 s) (hi : i < 5) (hj : j < 5) (hb : ∀ q ∈ base, q ∈ rest) (htr : tr.length ≤ 500) (F : Fr b L h m) (N : News b L h ((IT, rangeIt ((j : Int) + 1) ((4 - j : Nat) : Int)) :: news)) (off : OffI IT news) (hJ : CSt P C D rest (K2 x0 x1 i j) tr news) (fin : ∀ h' tk' news', CSt P C D rest (K2 x0 x1 i j) (tr ++ T2 i j (4 - j)) news' → Fr b L h' m → News b L h' news' → R (.ok .next) { s with heap := h', toks := tk' }) :
    codeAny (model prog w) A (.compStart (e3 elt i0 i1 i2 x0 x1 x2 p0 p1 p2 scope pos) 2 (.ref IT) (.ref D) env) R { s with heap := h, toks := tk } :=
  epsY_all b_lev2 { pg := fun | _ => prog, w := fun | _ => w, A := fun | _ => A, s := fun | _ => s, en := fun | _ => env, r := fun | _ => R, h := fun | 0 => b | _ => h, a := fun | 0 => L | 1 => C | 2 => D | _ => IT, m := fun | _ => m, ns := fun | 0 => news | 1 => base | _ => rest, fv := fun | _ => P, e := fun | 0 => elt | 1 => i0 | 2 => i1 | _ => i2, x := fun | 0 => x0 | 1 => x1 | _ => x2, po := fun | 0 => p0 | 1 => p1 | 2 => p2 | _ => pos, sc := fun | _ => scope, n := fun | 0 => tk | 1 => i | _ => j, tr := fun | _ => tr } T hi hj hb htr F N off hJ fin
def S_lev1 (Z9 : Yx) : Prop :=
  (ThreeEnv (Z9.pg 0) (Z9.w 0) (Z9.A 0) (Z9.en 0) (Z9.a 1) (Z9.h 0) (Z9.a 0) (Z9.m 0) (Z9.ns 1) (Z9.fv 0) (Z9.e 0) (Z9.e 2) (Z9.e 3) (Z9.x 0) (Z9.x 1) (Z9.x 2) (Z9.s 0)) →
  ((Z9.n 1) < 5) →
  (∀ q ∈ (Z9.ns 1), q ∈ (Z9.ns 2)) →
  ((Z9.tr 0).length ≤ 300) →
  (Fr (Z9.h 0) (Z9.a 0) (Z9.h 1) (Z9.m 0)) →
  (News (Z9.h 0) (Z9.a 0) (Z9.h 1) (((Z9.a 3), rangeIt (((Z9.n 1) : Int) + 1) ((4 - (Z9.n 1) : Nat) : Int)) :: (Z9.ns 0))) →
  (OffI (Z9.a 3) (Z9.ns 0)) →
  (CSt (Z9.fv 0) (Z9.a 1) (Z9.a 2) (Z9.ns 2) (K1 (Z9.x 0) (Z9.n 1)) (Z9.tr 0) (Z9.ns 0)) →
  (∀ h' tk' news', CSt (Z9.fv 0) (Z9.a 1) (Z9.a 2) (Z9.ns 2) (K1 (Z9.x 0) (Z9.n 1)) ((Z9.tr 0) ++ T1 (Z9.n 1) (4 - (Z9.n 1))) news' → Fr (Z9.h 0) (Z9.a 0) h' (Z9.m 0) → News (Z9.h 0) (Z9.a 0) h' news' → (Z9.r 0) (.ok .next) { (Z9.s 0) with heap := h', toks := tk' }) →
  codeAny (model (Z9.pg 0) (Z9.w 0)) (Z9.A 0) (.compStart (e3 (Z9.e 0) (Z9.e 1) (Z9.e 2) (Z9.e 3) (Z9.x 0) (Z9.x 1) (Z9.x 2) (Z9.po 0) (Z9.po 1) (Z9.po 2) (Z9.sc 0) (Z9.po 3)) 1 (.ref (Z9.a 3)) (.ref (Z9.a 2)) (Z9.en 0)) (Z9.r 0) { (Z9.s 0) with heap := (Z9.h 1), toks := (Z9.n 0) }
noncomputable def z_lev1 : Yx := epsY S_lev1
theorem b_lev1 : S_lev1 z_lev1 := by
  intro T hi hb htr F N off hJ fin
  refine comp_range (s := { (z_lev1.s 0) with heap := (z_lev1.h 1), toks := (z_lev1.n 0) }) (fun it => tailIn (e3 (z_lev1.e 0) (z_lev1.e 1) (z_lev1.e 2) (z_lev1.e 3) (z_lev1.x 0) (z_lev1.x 1) (z_lev1.x 2) (z_lev1.po 0) (z_lev1.po 1) (z_lev1.po 2) (z_lev1.sc 0) (z_lev1.po 3)) 1 it (.ref (z_lev1.a 2)) (z_lev1.en 0) (z_lev1.e 3)) rfl (g := ⟨.Name (z_lev1.x 1) (z_lev1.po 1), (z_lev1.e 2), [], 0⟩) rfl rfl (fun it => turn3_1 (z_lev1.e 0) (z_lev1.e 1) (z_lev1.e 2) (z_lev1.e 3) (z_lev1.x 0) (z_lev1.x 1) (z_lev1.x 2) (z_lev1.po 0) (z_lev1.po 1) (z_lev1.po 2) (z_lev1.sc 0) (z_lev1.po 3) it _ (z_lev1.en 0)) T.hh F N off
    (fun q news' => CSt (z_lev1.fv 0) (z_lev1.a 1) (z_lev1.a 2) (z_lev1.ns 2) (K1 (z_lev1.x 0) (z_lev1.n 1)) ((z_lev1.tr 0) ++ T1 (z_lev1.n 1) q) news') (by rw [show T1 (z_lev1.n 1) 0 = [] from rfl, List.append_nil]; exact hJ) ?_ (fun h' tk' news' hJ' F' N' => fin h' tk' news' hJ' F' N')
  rintro q t _ oI h₁ tk₁ E' hq ⟨oC, mC, ls, k, rfl, ho, hK0, hM, oC1, oD1, oL1⟩ F₁ N₁ o₁
  have hTl := T1_len (z_lev1.n 1) q
  have N₁' : News (z_lev1.h 0) (z_lev1.a 0) h₁ (((z_lev1.a 1), oC) :: ((z_lev1.a 3), oI) :: ((z_lev1.a 2), listOf (List.toArray (ls.map fun q => Value.ref q.1)) k) :: (ls ++ (z_lev1.ns 2))) := fun z hz => N₁ z (mem_swap hz)
  refine assign_C T.loc T.k1 T.kp F₁ N₁' (OffI.cons (fun e => o₁.hd e.symm) oC1.same) ho fun h₂ oC' mC' ho' hx hy F₂ N₂ => ?_
  have hxj : ∃ t, mC' (z_lev1.x 1) = some (.int (((z_lev1.n 1) + 1 + q : Nat) : Int) t) := ⟨t, hx.trans (congrArg some (val_eq2 (by omega)))⟩
  have hxi : ∃ t, mC' (z_lev1.x 0) = some (.int ((z_lev1.n 1) : Int) t) := by rw [hy _ T.n01]; exact hK0
  refine tail_in T.f2 (wpAny_mono (T.r2 ((z_lev1.n 1) + 1 + q) h₂ (tk₁ + 1) oC' mC' _ _ (by omega) ho' hxj (.head _) (fun z hz => ?_) F₂ N₂) (fun v s₃ h₃ => ?_) fun _ _ e => e)
  · have := hb z hz
    simp [this]
  obtain ⟨r, ta, tb, tc, rfl, hr, h₃, tk₃, rfl, hk⟩ := h₃
  have F₃ := F₂.keeps hk
  have N₃ := N₂.grown hk
  have hz5 : Builtin.Range.rangeSize ((((z_lev1.n 1) + 1 + q : Nat) : Int) + 1) 5 1 = ((4 - ((z_lev1.n 1) + 1 + q) : Nat) : Int) := range5 (by omega)
  refine wpAny_pyIter_range hr (small5 (by omega)) ?_
  rw [hz5]
  have hLt := F₃.ns.lt
  have N₄ := News.push F₃ N₃ (rangeIt ((((z_lev1.n 1) + 1 + q : Nat) : Int) + 1) ((4 - ((z_lev1.n 1) + 1 + q) : Nat) : Int))
  have oI2 : OffI h₃.objs.size (((z_lev1.a 1), oC') :: ((z_lev1.a 3), oI) :: ((z_lev1.a 2), listOf (List.toArray (ls.map fun q => Value.ref q.1)) k) :: (ls ++ (z_lev1.ns 2))) := fun z hz => Nat.ne_of_lt (Heap.lt_size (N₃ z hz).1)
  refine lev2 (s := (z_lev1.s 0)) (j := (z_lev1.n 1) + 1 + q) (rest := ((z_lev1.a 3), oI) :: (z_lev1.ns 2)) (tr := (z_lev1.tr 0) ++ T1 (z_lev1.n 1) q) (news := ((z_lev1.a 1), oC') :: ((z_lev1.a 2), listOf (List.toArray (ls.map fun q => Value.ref q.1)) k) :: (ls ++ ((z_lev1.a 3), oI) :: (z_lev1.ns 2))) T hi (by omega) (fun z hz => .tail _ (hb z hz)) (by rw [List.length_append]; omega) (F₃.push _) (fun z hz => N₄ z ?_) ?_ ?_ ?_
  · rcases List.mem_cons.mp hz with rfl | hz
    · exact .head _
    · refine List.mem_cons_of_mem _ ?_
      simp only [List.mem_cons, List.mem_append] at hz ⊢
      rcases hz with h | h | h | h | h
      · exact .inl h
      · exact .inr (.inr (.inl h))
      · exact .inr (.inr (.inr (.inl h)))
      · exact .inr (.inl h)
      · exact .inr (.inr (.inr (.inr h)))
  · exact OffI.cons oI2.hd (OffI.cons oI2.tl.tl.hd (OffI.app oI2.tl.tl.tl.left (OffI.cons oI2.tl.hd oI2.tl.tl.tl.right)))
  · refine ⟨oC', mC', ls, k, rfl, ho', ⟨hxi, hxj⟩, hM, OffI.cons oC1.hd (OffI.app oC1.tl.left (OffI.cons (fun e => o₁.hd e.symm) oC1.tl.right)), OffI.app oD1.left (OffI.cons (fun e => o₁.tl.hd e.symm) oD1.right), fun z hz => OffI.cons (fun e => o₁.tl.tl.left z hz e.symm) (oL1 z hz)⟩
  · rintro h₅ tk₅ _ ⟨oC5, mC5, ls5, k5, rfl, ho5, ⟨hK05, _⟩, hM5, oC5', oD5, oL5⟩ F₅ N₅
    refine ⟨⟨_, rfl⟩, rfl, h₅, tk₅, ((z_lev1.a 1), oC5) :: ((z_lev1.a 2), listOf (List.toArray (ls5.map fun q => Value.ref q.1)) k5) :: (ls5 ++ (z_lev1.ns 2)), rfl, F₅, fun z hz => N₅ z ?_, ?_, ?_⟩
    · simp only [List.mem_cons, List.mem_append] at hz ⊢
      rcases hz with h | h | h | h | h <;> simp [h]
    · refine OffI.cons (fun e => oC5'.tl.right.hd e.symm) (OffI.cons (fun e => oD5.right.hd e.symm) (OffI.app (fun z hz e => (oL5 z hz).hd e.symm) ?_))
      exact o₁.tl.tl.right
    · refine ⟨oC5, mC5, ls5, k5, rfl, ho5, hK05, ?_, OffI.cons oC5'.hd (OffI.app oC5'.tl.left oC5'.tl.right.tl), OffI.app oD5.left oD5.right.tl, fun z hz => (oL5 z hz).tl⟩
      rw [show T1 (z_lev1.n 1) (q + 1) = T1 (z_lev1.n 1) q ++ T2 (z_lev1.n 1) ((z_lev1.n 1) + 1 + q) (4 - ((z_lev1.n 1) + 1 + q)) from rfl, ← List.append_assoc]
      exact hM5
theorem lev1 {prog : Program} {w : World} {A : Around} {s : Shared} {env : Env} {R : Result → Shared → Prop} {b : Heap} {h : Heap} {L : Addr} {C : Addr} {D : Addr} {IT : Addr} {m : Str → Option Value} {news : List (Addr × Obj)} {base : List (Addr × Obj)} {rest : List (Addr × Obj)} {P : Nat → Value} {elt : Expr} {i0 : Expr} {i1 : Expr} {i2 : Expr} {x0 : Str} {x1 : Str} {x2 : Str} {p0 : Pos} {p1 : Pos} {p2 : Pos} {pos : Pos} {scope : Scope} {tk : Nat} {tr : List (Nat × Nat × Nat)} {i : Nat} (T : ThreeEnv prog w A env C b L m base P elt i1 i2 x0 x1 x2 s) (hi : i < 5) (hb : ∀ q ∈ base, q ∈ rest) (htr : tr.length ≤ 300) (F : Fr b L h m) (N : News b L h ((IT, rangeIt ((i : Int) + 1) ((4 - i : Nat) : Int)) :: news)) (off : OffI IT news) (hJ : CSt P C D rest (K1 x0 i) tr news) (fin : ∀ h' tk' news', CSt P C D rest (K1 x0 i) (tr ++ T1 i (4 - i)) news' → Fr b L h' m → News b L h' news' → R (.ok .next) { s with heap := h', toks := tk' }) :
    codeAny (model prog w) A (.compStart (e3 elt i0 i1 i2 x0 x1 x2 p0 p1 p2 scope pos) 1 (.ref IT) (.ref D) env) R { s with heap := h, toks := tk } :=
  epsY_all b_lev1 { pg := fun | _ => prog, w := fun | _ => w, A := fun | _ => A, s := fun | _ => s, en := fun | _ => env, r := fun | _ => R, h := fun | 0 => b | _ => h, a := fun | 0 => L | 1 => C | 2 => D | _ => IT, m := fun | _ => m, ns := fun | 0 => news | 1 => base | _ => rest, fv := fun | _ => P, e := fun | 0 => elt | 1 => i0 | 2 => i1 | _ => i2, x := fun | 0 => x0 | 1 => x1 | _ => x2, po := fun | 0 => p0 | 1 => p1 | 2 => p2 | _ => pos, sc := fun | _ => scope, n := fun | 0 => tk | _ => i, tr := fun | _ => tr } T hi hb htr F N off hJ fin
def S_lev0 (Z9 : Yx) : Prop :=
  (ThreeEnv (Z9.pg 0) (Z9.w 0) (Z9.A 0) (Z9.en 0) (Z9.a 1) (Z9.h 0) (Z9.a 0) (Z9.m 0) (Z9.ns 1) (Z9.fv 0) (Z9.e 0) (Z9.e 2) (Z9.e 3) (Z9.x 0) (Z9.x 1) (Z9.x 2) (Z9.s 0)) →
  (∀ q ∈ (Z9.ns 1), q ∈ (Z9.ns 2)) →
  (Fr (Z9.h 0) (Z9.a 0) (Z9.h 1) (Z9.m 0)) →
  (News (Z9.h 0) (Z9.a 0) (Z9.h 1) (((Z9.a 3), rangeIt 0 5) :: (Z9.ns 0))) →
  (OffI (Z9.a 3) (Z9.ns 0)) →
  (CSt (Z9.fv 0) (Z9.a 1) (Z9.a 2) (Z9.ns 2) K0 [] (Z9.ns 0)) →
  (∀ h' tk' news', CSt (Z9.fv 0) (Z9.a 1) (Z9.a 2) (Z9.ns 2) K0 (T0 5) news' → Fr (Z9.h 0) (Z9.a 0) h' (Z9.m 0) → News (Z9.h 0) (Z9.a 0) h' news' → (Z9.r 0) (.ok .next) { (Z9.s 0) with heap := h', toks := tk' }) →
  codeAny (model (Z9.pg 0) (Z9.w 0)) (Z9.A 0) (.compStart (e3 (Z9.e 0) (Z9.e 1) (Z9.e 2) (Z9.e 3) (Z9.x 0) (Z9.x 1) (Z9.x 2) (Z9.po 0) (Z9.po 1) (Z9.po 2) (Z9.sc 0) (Z9.po 3)) 0 (.ref (Z9.a 3)) (.ref (Z9.a 2)) (Z9.en 0)) (Z9.r 0) { (Z9.s 0) with heap := (Z9.h 1), toks := (Z9.n 0) }
noncomputable def z_lev0 : Yx := epsY S_lev0
theorem b_lev0 : S_lev0 z_lev0 := by
  intro T hb F N off hJ fin
  refine comp_range (s := { (z_lev0.s 0) with heap := (z_lev0.h 1), toks := (z_lev0.n 0) }) (n := 5) (a := 0) (fun it => tailIn (e3 (z_lev0.e 0) (z_lev0.e 1) (z_lev0.e 2) (z_lev0.e 3) (z_lev0.x 0) (z_lev0.x 1) (z_lev0.x 2) (z_lev0.po 0) (z_lev0.po 1) (z_lev0.po 2) (z_lev0.sc 0) (z_lev0.po 3)) 0 it (.ref (z_lev0.a 2)) (z_lev0.en 0) (z_lev0.e 2)) rfl (g := ⟨.Name (z_lev0.x 0) (z_lev0.po 0), (z_lev0.e 1), [], 0⟩) rfl rfl (fun it => turn3_0 (z_lev0.e 0) (z_lev0.e 1) (z_lev0.e 2) (z_lev0.e 3) (z_lev0.x 0) (z_lev0.x 1) (z_lev0.x 2) (z_lev0.po 0) (z_lev0.po 1) (z_lev0.po 2) (z_lev0.sc 0) (z_lev0.po 3) it _ (z_lev0.en 0)) T.hh F N off
    (fun q news' => CSt (z_lev0.fv 0) (z_lev0.a 1) (z_lev0.a 2) (z_lev0.ns 2) K0 (T0 q) news') hJ ?_ (fun h' tk' news' hJ' F' N' => fin h' tk' news' hJ' F' N')
  rintro q t _ oI h₁ tk₁ E' hq ⟨oC, mC, ls, k, rfl, ho, _, hM, oC1, oD1, oL1⟩ F₁ N₁ o₁
  have hTl := T0_len q (by omega)
  have N₁' : News (z_lev0.h 0) (z_lev0.a 0) h₁ (((z_lev0.a 1), oC) :: ((z_lev0.a 3), oI) :: ((z_lev0.a 2), listOf (List.toArray (ls.map fun q => Value.ref q.1)) k) :: (ls ++ (z_lev0.ns 2))) := fun z hz => N₁ z (mem_swap hz)
  refine assign_C T.loc T.k0 T.kp F₁ N₁' (OffI.cons (fun e => o₁.hd e.symm) oC1.same) ho fun h₂ oC' mC' ho' hx hy F₂ N₂ => ?_
  have hxi : ∃ t, mC' (z_lev0.x 0) = some (.int (q : Int) t) := ⟨t, hx.trans (congrArg some (val_eq2 (by omega)))⟩
  refine tail_in T.f1 (wpAny_mono (T.r1 q h₂ (tk₁ + 1) oC' mC' _ _ hq ho' hxi (.head _) (fun z hz => ?_) F₂ N₂) (fun v s₃ h₃ => ?_) fun _ _ e => e)
  · have := hb z hz
    simp [this]
  obtain ⟨r, ta, tb, tc, rfl, hr, h₃, tk₃, rfl, hk⟩ := h₃
  have F₃ := F₂.keeps hk
  have N₃ := N₂.grown hk
  refine wpAny_pyIter_range hr (small5 hq) ?_
  rw [range5 hq]
  have N₄ := News.push F₃ N₃ (rangeIt ((q : Int) + 1) ((4 - q : Nat) : Int))
  have oI2 : OffI h₃.objs.size (((z_lev0.a 1), oC') :: ((z_lev0.a 3), oI) :: ((z_lev0.a 2), listOf (List.toArray (ls.map fun q => Value.ref q.1)) k) :: (ls ++ (z_lev0.ns 2))) := fun z hz => Nat.ne_of_lt (Heap.lt_size (N₃ z hz).1)
  refine lev1 (s := (z_lev0.s 0)) (i := q) (rest := ((z_lev0.a 3), oI) :: (z_lev0.ns 2)) (tr := T0 q) (news := ((z_lev0.a 1), oC') :: ((z_lev0.a 2), listOf (List.toArray (ls.map fun q => Value.ref q.1)) k) :: (ls ++ ((z_lev0.a 3), oI) :: (z_lev0.ns 2))) T hq (fun z hz => .tail _ (hb z hz)) (by omega) (F₃.push _) (fun z hz => N₄ z ?_) ?_ ?_ ?_
  · rcases List.mem_cons.mp hz with rfl | hz
    · exact .head _
    · refine List.mem_cons_of_mem _ ?_
      simp only [List.mem_cons, List.mem_append] at hz ⊢
      rcases hz with h | h | h | h | h
      · exact .inl h
      · exact .inr (.inr (.inl h))
      · exact .inr (.inr (.inr (.inl h)))
      · exact .inr (.inl h)
      · exact .inr (.inr (.inr (.inr h)))
  · exact OffI.cons oI2.hd (OffI.cons oI2.tl.tl.hd (OffI.app oI2.tl.tl.tl.left (OffI.cons oI2.tl.hd oI2.tl.tl.tl.right)))
  · refine ⟨oC', mC', ls, k, rfl, ho', hxi, hM, OffI.cons oC1.hd (OffI.app oC1.tl.left (OffI.cons (fun e => o₁.hd e.symm) oC1.tl.right)), OffI.app oD1.left (OffI.cons (fun e => o₁.tl.hd e.symm) oD1.right), fun z hz => OffI.cons (fun e => o₁.tl.tl.left z hz e.symm) (oL1 z hz)⟩
  · rintro h₅ tk₅ _ ⟨oC5, mC5, ls5, k5, rfl, ho5, _, hM5, oC5', oD5, oL5⟩ F₅ N₅
    refine ⟨⟨_, rfl⟩, rfl, h₅, tk₅, ((z_lev0.a 1), oC5) :: ((z_lev0.a 2), listOf (List.toArray (ls5.map fun q => Value.ref q.1)) k5) :: (ls5 ++ (z_lev0.ns 2)), rfl, F₅, fun z hz => N₅ z ?_, ?_, ?_⟩
    · simp only [List.mem_cons, List.mem_append] at hz ⊢
      rcases hz with h | h | h | h | h <;> simp [h]
    · refine OffI.cons (fun e => oC5'.tl.right.hd e.symm) (OffI.cons (fun e => oD5.right.hd e.symm) (OffI.app (fun z hz e => (oL5 z hz).hd e.symm) ?_))
      exact o₁.tl.tl.right
    · exact ⟨oC5, mC5, ls5, k5, rfl, ho5, True.intro, hM5, OffI.cons oC5'.hd (OffI.app oC5'.tl.left oC5'.tl.right.tl), OffI.app oD5.left oD5.right.tl, fun z hz => (oL5 z hz).tl⟩
theorem lev0 {prog : Program} {w : World} {A : Around} {s : Shared} {env : Env} {R : Result → Shared → Prop} {b : Heap} {h : Heap} {L : Addr} {C : Addr} {D : Addr} {IT : Addr} {m : Str → Option Value} {news : List (Addr × Obj)} {base : List (Addr × Obj)} {rest : List (Addr × Obj)} {P : Nat → Value} {elt : Expr} {i0 : Expr} {i1 : Expr} {i2 : Expr} {x0 : Str} {x1 : Str} {x2 : Str} {p0 : Pos} {p1 : Pos} {p2 : Pos} {pos : Pos} {scope : Scope} {tk : Nat} (T : ThreeEnv prog w A env C b L m base P elt i1 i2 x0 x1 x2 s) (hb : ∀ q ∈ base, q ∈ rest) (F : Fr b L h m) (N : News b L h ((IT, rangeIt 0 5) :: news)) (off : OffI IT news) (hJ : CSt P C D rest K0 [] news) (fin : ∀ h' tk' news', CSt P C D rest K0 (T0 5) news' → Fr b L h' m → News b L h' news' → R (.ok .next) { s with heap := h', toks := tk' }) :
    codeAny (model prog w) A (.compStart (e3 elt i0 i1 i2 x0 x1 x2 p0 p1 p2 scope pos) 0 (.ref IT) (.ref D) env) R { s with heap := h, toks := tk } :=
  epsY_all b_lev0 { pg := fun | _ => prog, w := fun | _ => w, A := fun | _ => A, s := fun | _ => s, en := fun | _ => env, r := fun | _ => R, h := fun | 0 => b | _ => h, a := fun | 0 => L | 1 => C | 2 => D | _ => IT, m := fun | _ => m, ns := fun | 0 => news | 1 => base | _ => rest, fv := fun | _ => P, e := fun | 0 => elt | 1 => i0 | 2 => i1 | _ => i2, x := fun | 0 => x0 | 1 => x1 | _ => x2, po := fun | 0 => p0 | 1 => p1 | 2 => p2 | _ => pos, sc := fun | _ => scope, n := fun | _ => tk } T hb F N off hJ fin
end
end
section
example : True ∧ True := by w_top off; first | (walk1 <;> trivial) | exact ⟨trivial, trivial⟩
open PySem PySem.W PyProof.Rows PySem.Calls
set_option Elab.async false
set_option maxRecDepth 100000
set_option maxHeartbeats 8000000
set_option linter.unusedVariables false
set_option linter.unusedSimpArgs false
local macro_rules | `(tactic| walk_at $s:str) => lineAt ["call builtin:list.append"] [] s
local macro_rules | `(tactic| walk_at "subscriptTail Name Name ref int") => `(tactic| (k_here; (with_reducible show wpAny _ _ (subscriptTail _ _ (Value.ref _) (Value.int _ _)) _ _ _); k_dflt (refine pd_item (by k_asm) (by k_mem) (by k_asm) (by k_asm) ?h1 ?h2 ?_; (case h1 => omega); (case h2 => omega)); intro _))
theorem fr_untab {g h : Heap} {L : Addr} {k : Str} {v : Value} {m₁ m : Str → Option Value} (e : m₁ = m) (F : Fr g L h (fun y => if y = k then some v else m₁ y)) : Fr g L h (fun y => if y = k then some v else m y) := by subst e; exact F
def S_turn_told (z : Zx) : Prop :=
  (LawC (z.w) (z.b.loose) (z.b.mean) (z.b.mg) (z.b.mb) (z.b.g) (z.b.L)) →
  (1 ≤ (z.v.i 6)) →
  ((z.v.i 6) ≤ 6) →
  ((z.v.i 6) ≠ (z.v.i 7)) →
  (-1000000 ≤ (z.v.f 0) (z.v.i 6)) →
  ((z.v.f 0) (z.v.i 6) ≤ 1000000) →
  ((z.v.o 5).data = .cell (some (.int (z.v.i 7) (z.v.t 9)))) →
  ((z.v.o 6).data = .cell (some (.ref (z.v.p 3)))) →
  (PDict PySem.Challenge.rw_zd0006_01.row.prog (z.w) (z.v.o 1) (z.v.f 0)) →
  (((z.v.p 3) == sysModules) = false) →
  ((z.v.m 0) (Str.ofString "place") = some (.int (z.v.i 6) (z.v.t 6))) →
  ((z.v.m 0) (Str.ofString "heard") = some (.ref (z.v.p 7))) →
  ((z.v.m 0) (Str.ofString "points") = some (.ref (z.v.p 5))) →
  (Fr (z.b.g) (z.b.L) z.b.h (z.v.m 0)) →
  (News (z.b.g) (z.b.L) z.b.h (((z.v.p 7), kdv_tup [.ref (z.v.p 8), .ref (z.v.p 8)]) :: ((z.v.p 8), kdv_tup [.int (z.v.i 6) (z.v.t 7), .int ((z.v.f 0) (z.v.i 6)) (z.v.t 8)]) :: ((z.v.p 6), (z.v.o 0)) :: ((z.v.p 5), listOf (z.v.a 0) (z.v.n 2)) :: ((z.v.p 3), (z.v.o 1)) :: ((z.v.p 4), listOf (z.v.l 0).toArray (z.v.n 1)) :: ((z.v.p 2), (z.v.o 2)) :: ((z.v.p 1), listOf #[.int (z.v.i 0) (z.v.t 0), .int (z.v.i 1) (z.v.t 1), .int (z.v.i 2) (z.v.t 2), .int (z.v.i 3) (z.v.t 3), .int (z.v.i 4) (z.v.t 4), .int (z.v.i 5) (z.v.t 5)] (z.v.n 0)) :: ((z.b.L) + 5, (z.v.o 7)) :: ((z.b.L) + 4, (z.v.o 6)) :: ((z.b.L) + 3, (z.v.o 5)) :: ((z.b.L) + 2, (z.v.o 4)) :: ((z.b.L) + 1, (z.v.o 3)) :: (158, tabObj (z.v.a 1)) :: (z.v.e 0))) →
  (OffI (z.v.p 5) (z.v.e 0)) →
  (@Ne Nat ((z.v.p 6)) (z.v.p 5) ∧ @Ne Nat ((z.v.p 3)) (z.v.p 5) ∧ @Ne Nat ((z.v.p 4)) (z.v.p 5) ∧ @Ne Nat ((z.v.p 2)) (z.v.p 5) ∧ @Ne Nat ((z.v.p 1)) (z.v.p 5) ∧ @Ne Nat ((z.b.L) + 5) (z.v.p 5) ∧ @Ne Nat ((z.b.L) + 4) (z.v.p 5) ∧ @Ne Nat ((z.b.L) + 3) (z.v.p 5) ∧ @Ne Nat ((z.b.L) + 2) (z.v.p 5) ∧ @Ne Nat ((z.b.L) + 1) (z.v.p 5) ∧ @Ne Nat (158) (z.v.p 5) ∧ @Ne Nat ((z.v.p 7)) (z.v.p 5) ∧ @Ne Nat ((z.v.p 8)) (z.v.p 5)) →
  ((z.v.a 0).size ≤ sizeLine) →
  (∀ {h' : Heap} {tk' : Nat} {vp : Value}, Fr (z.b.g) (z.b.L) h' (fun y => if y = Str.ofString "pair" then some vp else (z.v.m 0) y) → News (z.b.g) (z.b.L) h' (((z.v.p 6), (z.v.o 0)) :: ((z.v.p 5), listOf ((z.v.a 0).push (.ref (z.v.p 8))) ((z.v.n 2) + 1)) :: ((z.v.p 3), (z.v.o 1)) :: ((z.v.p 4), listOf (z.v.l 0).toArray (z.v.n 1)) :: ((z.v.p 2), (z.v.o 2)) :: ((z.v.p 1), listOf #[.int (z.v.i 0) (z.v.t 0), .int (z.v.i 1) (z.v.t 1), .int (z.v.i 2) (z.v.t 2), .int (z.v.i 3) (z.v.t 3), .int (z.v.i 4) (z.v.t 4), .int (z.v.i 5) (z.v.t 5)] (z.v.n 0)) :: ((z.b.L) + 5, (z.v.o 7)) :: ((z.b.L) + 4, (z.v.o 6)) :: ((z.b.L) + 3, (z.v.o 5)) :: ((z.b.L) + 2, (z.v.o 4)) :: ((z.b.L) + 1, (z.v.o 3)) :: (158, tabObj (z.v.a 1)) :: (z.v.e 0)) → (z.b.Q) .next ⟨h', z.b.gn, z.b.dr, tk', z.b.os⟩) →
  LawIn (z.w) (z.b.L) (z.v.p 0) (z.v.v 0) 1 (z.b.Q) (⟨z.b.h, z.b.gn, z.b.dr, z.b.tk, z.b.os⟩ : Shared)
noncomputable def z_turn_told : Zx := eps S_turn_told
/-- the loop's body behind a reply that is heard -/
theorem b_turn_told : S_turn_told z_turn_told := by
  intro H p1 p6 hne v0 v1 c3 c4 hO hOs hm1 hm2 hm3 F N oPt l9 hsz K
  have hkv : ∀ q ∈ [(Str.ofString "place", Value.int (z_turn_told.v.i 6) (z_turn_told.v.t 6)), (Str.ofString "heard", Value.ref (z_turn_told.v.p 7)), (Str.ofString "points", Value.ref (z_turn_told.v.p 5))], (z_turn_told.v.m 0) q.1 = some q.2 := List.forall_mem_cons.mpr ⟨hm1, List.forall_mem_cons.mpr ⟨hm2, List.forall_mem_cons.mpr ⟨hm3, List.forall_mem_nil _⟩⟩⟩
  have F1 := fr_tab F _ hkv
  have em := tab_eq _ hkv
  clear F
  obtain ⟨B, X, T, C, l1⟩ := H
  unfold LawIn forB lawE lawD dOf
  dsimp only [List.drop]
  revert X; k_fill; intro X
  refine wpC_of ?_
  have e0 : (z_turn_told.v.i 6) ≠ (z_turn_told.v.i 7) := hne
  k_steps
  · exfalso; rename_i hx; simp at hx
  · refine Stop.go ?_
    rename Fr _ _ _ _ => kF
    rename News _ _ _ _ => kN
    obtain ⟨n1, n2, n3, n4, n5, n6, n7, n8, n9, n10, n11, n12, n13⟩ := l9
    refine append_U kF (fun q hq => kN q (List.mem_cons_of_mem _ (List.mem_cons_of_mem _ (List.mem_cons_of_mem _ (List.mem_cons_of_mem _ hq))))) (.tail n1 (.head (OffI.cons n2 (.cons n3 (.cons n4 (.cons n5 (.cons n6 (.cons n7 (.cons n8 (.cons n9 (.cons n10 (.cons n11 oPt)))))))))))) ?_ hsz
    intro h8 F8 N8
    k_steps
    exact K (fr_untab em F8) N8
  · contradiction
theorem turn_told {w : World} {loose : List Str} {mean : ExcName → Option Value} {mg mb : Str → Option Value} {g : Heap} {L a : Addr} {cd : Value} {m : Str → Option Value} {s : Shared} {Q : Flow → Shared → Prop} (H : LawC w loose mean mg mb g L){D P O Tk Pt IT : Addr} {d0 d1 d2 d3 d4 d5 : Int} {u0 u1 u2 u3 u4 u5 : Tok} {n : Nat} {oI oO oP o1 o2 o3 o4 o5 : Obj} {txs : List Value} {nt kp : Nat} {its ps : Array Value} {rest : List (Addr × Obj)} {p lost : Int} {f : Int → Int} {tp t1 t2 t3 : Tok} {Hd Ad : Addr} (p1 : 1 ≤ p) (p6 : p ≤ 6) (hne : p ≠ lost) (v0 : -1000000 ≤ f p) (v1 : f p ≤ 1000000) (c3 : o3.data = .cell (some (.int lost t3))) (c4 : o4.data = .cell (some (.ref O))) (hO : PDict PySem.Challenge.rw_zd0006_01.row.prog w oO f) (hOs : (O == sysModules) = false)
    (hm1 : m (Str.ofString "place") = some (.int p tp)) (hm2 : m (Str.ofString "heard") = some (.ref Hd)) (hm3 : m (Str.ofString "points") = some (.ref Pt)) (F : Fr g L s.heap m) (N : News g L s.heap ((Hd, kdv_tup [.ref Ad, .ref Ad]) :: (Ad, kdv_tup [.int p t1, .int (f p) t2]) :: (IT, oI) :: (Pt, listOf its kp) :: (O, oO) :: (Tk, listOf txs.toArray nt) :: (P, oP) :: (D, listOf #[.int d0 u0, .int d1 u1, .int d2 u2, .int d3 u3, .int d4 u4, .int d5 u5] n) :: (L + 5, o5) :: (L + 4, o4) :: (L + 3, o3) :: (L + 2, o2) :: (L + 1, o1) :: (158, tabObj ps) :: rest))
    (oPt : OffI Pt rest) (l9 : @Ne Nat (IT) Pt ∧ @Ne Nat (O) Pt ∧ @Ne Nat (Tk) Pt ∧ @Ne Nat (P) Pt ∧ @Ne Nat (D) Pt ∧ @Ne Nat (L + 5) Pt ∧ @Ne Nat (L + 4) Pt ∧ @Ne Nat (L + 3) Pt ∧ @Ne Nat (L + 2) Pt ∧ @Ne Nat (L + 1) Pt ∧ @Ne Nat (158) Pt ∧ @Ne Nat (Hd) Pt ∧ @Ne Nat (Ad) Pt) (hsz : its.size ≤ sizeLine)
    (K : ∀ {h' : Heap} {tk' : Nat} {vp : Value}, Fr g L h' (fun y => if y = Str.ofString "pair" then some vp else m y) → News g L h' ((IT, oI) :: (Pt, listOf (its.push (.ref Ad)) (kp + 1)) :: (O, oO) :: (Tk, listOf txs.toArray nt) :: (P, oP) :: (D, listOf #[.int d0 u0, .int d1 u1, .int d2 u2, .int d3 u3, .int d4 u4, .int d5 u5] n) :: (L + 5, o5) :: (L + 4, o4) :: (L + 3, o3) :: (L + 2, o2) :: (L + 1, o1) :: (158, tabObj ps) :: rest) → Q .next { s with heap := h', toks := tk' }) : LawIn w L a cd 1 Q s :=
  eps_all b_turn_told ⟨w, { loose := loose, mean := mean, mg := mg, mb := mb, g := g, L := L, Q := Q, h := s.heap, gn := s.gens, dr := s.drawn, tk := s.toks, os := s.os }, { p := fun | 0 => a | 1 => D | 2 => P | 3 => O | 4 => Tk | 5 => Pt | 6 => IT | 7 => Hd | _ => Ad, v := fun | _ => cd, m := fun | _ => m, i := fun | 0 => d0 | 1 => d1 | 2 => d2 | 3 => d3 | 4 => d4 | 5 => d5 | 6 => p | _ => lost, t := fun | 0 => u0 | 1 => u1 | 2 => u2 | 3 => u3 | 4 => u4 | 5 => u5 | 6 => tp | 7 => t1 | 8 => t2 | _ => t3, n := fun | 0 => n | 1 => nt | _ => kp, o := fun | 0 => oI | 1 => oO | 2 => oP | 3 => o1 | 4 => o2 | 5 => o3 | 6 => o4 | _ => o5, l := fun | _ => txs, a := fun | 0 => its | _ => ps, e := fun | _ => rest, f := fun | _ => f }⟩ H p1 p6 hne v0 v1 c3 c4 hO hOs hm1 hm2 hm3 F N oPt l9 hsz K
end
section
example : True ∧ True := by w_top off; first | (walk1 <;> trivial) | exact ⟨trivial, trivial⟩
open PySem PySem.W PyProof.Rows PySem.Calls
set_option Elab.async false
set_option maxRecDepth 100000
set_option maxHeartbeats 8000000
set_option linter.unusedVariables false
set_option linter.unusedSimpArgs false
local macro_rules | `(tactic| walk_at $s:str) => lineAt ["exec Assign", "subscriptTail Name BinOp ref int"] [] s
/-- the loop's body behind the lost reply -/
theorem turn_lost {w : World} {loose : List Str} {mean : ExcName → Option Value} {mg mb : Str → Option Value} {g : Heap} {L a : Addr} {cd : Value} {m : Str → Option Value} {s : Shared} {Q : Flow → Shared → Prop} (H : LawC w loose mean mg mb g L){D P O Tk Pt IT : Addr} {d0 d1 d2 d3 d4 d5 : Int} {u0 u1 u2 u3 u4 u5 : Tok} {n : Nat} {oI oO oP o1 o2 o3 o4 o5 : Obj} {txs : List Value} {nt kp : Nat} {its ps : Array Value} {rest : List (Addr × Obj)} {p lost rf : Int} {j : Nat} {r tx : Str} {tp t1 t2 t3 tr ts : Tok} {Hd : Addr} (hj : j < 6) (hp : p = (j : Int) + 1) (hl6 : txs.length = 6) (ht : txs[j]? = some (.str r tr)) (hne : p = lost) (c3 : o3.data = .cell (some (.int lost t3)))
    (htx : tx = if rf < 2 then r else Str.ofString "") (hm1 : m (Str.ofString "place") = some (.int p tp)) (hm2 : m (Str.ofString "heard") = some (.ref Hd)) (hm3 : m (Str.ofString "refused") = some (.int rf ts)) (hm4 : m (Str.ofString "talk") = some (.ref Tk)) (F : Fr g L s.heap m) (N : News g L s.heap ((Hd, kdv_tup [.int rf t1, .str tx t2]) :: (IT, oI) :: (Pt, listOf its kp) :: (O, oO) :: (Tk, listOf txs.toArray nt) :: (P, oP) :: (D, listOf #[.int d0 u0, .int d1 u1, .int d2 u2, .int d3 u3, .int d4 u4, .int d5 u5] n) :: (L + 5, o5) :: (L + 4, o4) :: (L + 3, o3) :: (L + 2, o2) :: (L + 1, o1) :: (158, tabObj ps) :: rest))
    (K : ∀ {h' : Heap} {tk' : Nat}, Fr g L h' m → News g L h' ((IT, oI) :: (Pt, listOf its kp) :: (O, oO) :: (Tk, listOf txs.toArray nt) :: (P, oP) :: (D, listOf #[.int d0 u0, .int d1 u1, .int d2 u2, .int d3 u3, .int d4 u4, .int d5 u5] n) :: (L + 5, o5) :: (L + 4, o4) :: (L + 3, o3) :: (L + 2, o2) :: (L + 1, o1) :: (158, tabObj ps) :: rest) → Q .next { s with heap := h', toks := tk' }) : LawIn w L a cd 1 Q s := by
  have hkv : ∀ q ∈ [(Str.ofString "place", Value.int p tp), (Str.ofString "heard", Value.ref Hd), (Str.ofString "refused", Value.int rf ts), (Str.ofString "talk", Value.ref Tk)], m q.1 = some q.2 := List.forall_mem_cons.mpr ⟨hm1, List.forall_mem_cons.mpr ⟨hm2, List.forall_mem_cons.mpr ⟨hm3, List.forall_mem_cons.mpr ⟨hm4, List.forall_mem_nil _⟩⟩⟩⟩
  have F1 := fr_tab F _ hkv
  have em := tab_eq _ hkv
  clear F
  obtain ⟨B, X, T, C, l1⟩ := H
  unfold LawIn forB lawE lawD dOf
  dsimp only [List.drop]
  revert X; k_fill; intro X
  refine wpC_of ?_
  have hx : (txs.toArray)[(p - 1).toNat]? = some (Value.str r tr) := by rw [show p - 1 = (j : Int) from by omega]; show txs.toArray[j]? = _; rw [List.getElem?_toArray]; exact ht
  have h0 : 0 ≤ p - 1 := by omega
  have hlt : p - 1 < 2 ^ 63 := by rw [show p - 1 = (j : Int) from by omega]; exact Int.lt_trans (show (j : Int) < 6 by exact_mod_cast hj) (by decide)
  have hc : (rf < 2 ∧ tx = r) ∨ (2 ≤ rf ∧ tx = Str.ofString "") := by
    by_cases h : rf < 2
    · rw [if_pos h] at htx; exact .inl ⟨h, htx⟩
    · rw [if_neg h] at htx; exact .inr ⟨by omega, htx⟩
  clear htx
  rcases hc with ⟨hr, rfl⟩ | ⟨hr, rfl⟩
  · k_steps
    · contradiction
    refine Stop.go ?_
    have hN := N (Tk, listOf txs.toArray nt) (by k_mem)
    refine item_list ⟨_, hN.1, rfl, _, rfl⟩ h0 hlt hx ?_ (by with_unfolding_all rfl) (by intro _; with_unfolding_all rfl)
    k_steps
    rename Fr _ _ _ _ => kF
    rename News _ _ _ _ => kN
    refine cmp_ofNotEq (SeqAt.RcNeAt.tuples (e := fun _ => true) ⟨_, (kN (Hd, _) (by k_mem)).1, rfl, _, rfl⟩ ⟨_, (kN _ (.head _)).1, rfl, _, rfl⟩ (by show (4 + 3 : Nat) < cLine; decide) (fun j h1 h2 => ?_) _ _ _ _ ?_)
    · match j, h1, h2 with
      | 0, _, _ => exact beq_self_eq_true rf ▸ SeqAt.EqAt.int_int rf _ rf _
      | 1, _, _ => exact beq_self_eq_true tx ▸ SeqAt.EqAt.str_str tx _ tx _
    · k_steps
      · exact K (em ▸ kF) (fun q hq => kN q (List.mem_cons_of_mem _ (List.mem_cons_of_mem _ hq)))
      · exfalso
        rename_i hq
        exact Bool.noConfusion (show (true : Bool) = false from hq)
  · k_steps
    · contradiction
    rename Fr _ _ _ _ => kF
    rename News _ _ _ _ => kN
    exact K (em ▸ kF) (fun q hq => kN q (List.mem_cons_of_mem _ (List.mem_cons_of_mem _ hq)))
end
section
open PySem PySem.W PyProof.Rows PySem.Calls
set_option Elab.async false
set_option maxRecDepth 100000
set_option linter.unusedVariables false
/-- the places that are heard, of the first i -/
def ksOf (lost : Int) : Nat → List Int
  | 0 => []
  | i + 1 => ksOf lost i ++ (if ((i : Int) + 1) = lost then [] else [(i : Int) + 1])
/-- the points' list after i places -/
structure PtsOk (F : Int → Int) (lost : Int) (i : Nat) (its : Array Value) (rest : List (Addr × Obj)) : Prop where
  at' : ∃ as : List Addr, its = (as.map Value.ref).toArray ∧ as.length = (ksOf lost i).length ∧ ∀ (j : Nat) (a : Addr) (k : Int), as[j]? = some a → (ksOf lost i)[j]? = some k → ∃ t1 t2, (a, kdv_tup [.int k t1, .int (F k) t2]) ∈ rest
theorem ksOf_len (lost : Int) : ∀ i, (ksOf lost i).length ≤ i
  | 0 => Nat.le_refl _
  | i + 1 => by
    have h := ksOf_len lost i
    unfold ksOf
    rw [List.length_append]
    split <;> simp <;> omega
section
variable {F : Int → Int} {lost : Int} {i : Nat} {its : Array Value} {rest rest' : List (Addr × Obj)} {a : Addr} {t1 t2 : Tok}
theorem PtsOk.nil : PtsOk F lost 0 #[] rest := ⟨[], rfl, rfl, fun j a k h => by simp at h⟩
theorem PtsOk.size (h : PtsOk F lost i its rest) : its.size ≤ i := by
  obtain ⟨as, rfl, hl, _⟩ := h.at'
  simp only [List.size_toArray, List.length_map, hl]
  exact ksOf_len lost i
theorem PtsOk.skip (h : PtsOk F lost i its rest) (e : (i : Int) + 1 = lost) (hs : ∀ q ∈ rest, q ∈ rest') : PtsOk F lost (i + 1) its rest' := by
  obtain ⟨as, h1, h2, h3⟩ := h.at'
  have e1 : ksOf lost (i + 1) = ksOf lost i := by show _ ++ _ = _; rw [if_pos e, List.append_nil]
  refine ⟨as, h1, by rw [e1]; exact h2, fun j b k hb hk => ?_⟩
  rw [e1] at hk
  obtain ⟨t1, t2, hm⟩ := h3 j b k hb hk
  exact ⟨t1, t2, hs _ hm⟩
theorem PtsOk.add (h : PtsOk F lost i its rest) (e : (i : Int) + 1 ≠ lost) (hm : (a, kdv_tup [.int ((i : Int) + 1) t1, .int (F ((i : Int) + 1)) t2]) ∈ rest') (hs : ∀ q ∈ rest, q ∈ rest') : PtsOk F lost (i + 1) (its.push (.ref a)) rest' := by
  obtain ⟨as, h1, h2, h3⟩ := h.at'
  have e1 : ksOf lost (i + 1) = ksOf lost i ++ [(i : Int) + 1] := by show _ ++ _ = _; rw [if_neg e]
  refine ⟨as ++ [a], by rw [h1]; simp, by rw [e1]; simp [h2], fun j b k hb hk => ?_⟩
  rw [e1] at hk
  by_cases hj : j < as.length
  · rw [List.getElem?_append_left hj] at hb
    rw [List.getElem?_append_left (by omega)] at hk
    obtain ⟨t1, t2, hm'⟩ := h3 j b k hb hk
    exact ⟨t1, t2, hs _ hm'⟩
  · rw [List.getElem?_append_right (by omega)] at hb
    rw [List.getElem?_append_right (by omega)] at hk
    have e2 : j - as.length = 0 := by
      cases hq : j - as.length with
      | zero => rfl
      | succ q => rw [hq] at hb; simp at hb
    have e3 : j - (ksOf lost i).length = 0 := by omega
    rw [e2] at hb
    rw [e3] at hk
    simp only [List.getElem?_cons_zero, Option.some.injEq] at hb hk
    subst hb hk
    exact ⟨t1, t2, hm⟩
end
/-- each heard port has its place in the column -/
structure WdOk (f : Int → Int) (lost wd : Int) : Prop where
  at' : ∀ p, 1 ≤ p → p ≤ 6 → p ≠ lost → f p ≤ 9999 ∨ wd = 5
theorem wdOk_of {f : Int → Int} {d3 M : Int} (h : MaxOf (fun j => f ((j : Int) + 1)) (d3 % 6).toNat M) : WdOk f (d3 % 6 + 1) (if M ≤ 9999 then 4 else 5) := ⟨fun p h1 h2 h3 => by
  have hj := h.2 (p - 1).toNat (by omega) (by omega)
  have e : (((p - 1).toNat : Nat) : Int) + 1 = p := by omega
  simp only [e] at hj
  split
  · exact .inl (by omega)
  · exact .inr rfl⟩
theorem toldV_eq {f : Int → Int} {d4 d5 wd p : Int} (_ : 0 < wd) : toldV wd (f p) (d4 % (6 * wd) / wd + 1) (d4 % wd) (d5 % 10) p = toldF f d4 d5 wd p := rfl
theorem toldF_lim {f : Int → Int} {d4 d5 wd p : Int} (hw : 4 ≤ wd) (hw5 : wd ≤ 5) (h0 : 1 ≤ f p) (h1 : f p ≤ 65521) : -1000000 ≤ toldF f d4 d5 wd p ∧ toldF f d4 d5 wd p ≤ 1000000 := by
  unfold toldF
  split
  · obtain ⟨l1, l2, _⟩ := col_lim (ten_lim d5).1 (ten_lim d5).2 (ten_lim (f p / 10 ^ (wd - 1 - d4 % wd).toNat)).1 (ten_lim (f p / 10 ^ (wd - 1 - d4 % wd).toNat)).2 (wt_lim (x := d4) hw hw5)
    generalize (d5 % 10 - f p / 10 ^ (wd - 1 - d4 % wd).toNat % 10) * 10 ^ (wd - 1 - d4 % wd).toNat = y at l1 l2
    exact ⟨by clear hw hw5; omega, by clear hw hw5; omega⟩
  · omega
theorem name_set {m : Str → Option Value} {k k' : Str} {v : Option Value} {v' : Value} (h : m k = v) (hne : k ≠ k') : (fun y => if y = k' then some v' else m y) k = v := by
  show (if k = k' then some v' else m k) = v
  rw [if_neg hne]; exact h
theorem ownOff_of {tb rest : List (Addr × Obj)} (h : ∀ q ∈ tb, q ∈ rest) (o : OffI 158 rest) : OwnOff tb [158] := fun p hp b hb => by
  rw [List.mem_singleton.mp hb]
  exact o p (h p hp)
/-- the way of the loss, and the reply's figure -/
theorem way_lim {d3 : Int} : 0 ≤ d3 / 6 % 4 ∧ d3 / 6 % 4 ≤ 3 := by omega
end
section
open PySem PySem.W PyProof.Rows PySem.Calls
set_option Elab.async false
set_option maxRecDepth 100000
set_option maxHeartbeats 8000000
set_option linter.unusedVariables false
set_option linter.unusedSimpArgs false
/-- what a turn of the law's first loop keeps -/
structure LoopOK (F : Int → Int) (lost rf : Int) (ts : Tok) (L Pt Tk : Addr) (i : Nat) (its ps : Array Value) (rest : List (Addr × Obj)) (m : Str → Option Value) : Prop where
  tab : ∃ tb, TabOk 91 4 rdr ps tb ∧ ∀ q ∈ tb, q ∈ rest
  o158 : OffI 158 rest
  oPt : OffI Pt rest
  oL5 : OffI (L + 5) rest
  pts : PtsOk F lost i its rest
  talk : m (Str.ofString "talk") = some (.ref Tk)
  refused : m (Str.ofString "refused") = some (.int rf ts)
  points : m (Str.ofString "points") = some (.ref Pt)
theorem Sep.off {tl news : List (Addr × Obj)} {x : Addr} {o : Obj} (h : Sep tl news) (hm : (x, o) ∈ news) : OffI x tl := fun q hq e => h q hq _ hm e.symm
theorem news_in {g h : Heap} {L : Addr} {tl core rest : List (Addr × Obj)} {x : Addr × Obj} (N : News g L h (tl ++ (core ++ rest))) (hm : x ∈ tl) : News g L h (x :: (core ++ (tl ++ rest))) := fun q hq => by
  rcases List.mem_cons.mp hq with rfl | hq
  · exact N _ (List.mem_append_left _ hm)
  · rcases List.mem_append.mp hq with hq | hq
    · exact N _ (List.mem_append_right _ (List.mem_append_left _ hq))
    · rcases List.mem_append.mp hq with hq | hq
      · exact N _ (List.mem_append_left _ hq)
      · exact N _ (List.mem_append_right _ (List.mem_append_right _ hq))
theorem news_in2 {g h : Heap} {L : Addr} {tl core rest : List (Addr × Obj)} {x y : Addr × Obj} (N : News g L h (tl ++ (core ++ rest))) (hm : x ∈ tl) (hy : y ∈ tl) : News g L h (x :: y :: (core ++ (tl ++ rest))) := fun q hq => by
  rcases List.mem_cons.mp hq with rfl | hq
  · exact N _ (List.mem_append_left _ hm)
  · exact news_in N hy q hq
theorem off_core {I : Addr} {tl core core' rest : List (Addr × Obj)} (o1 : OffI I tl) (o2 : OffI I (core ++ rest)) (h : core.map (·.1) = core'.map (·.1)) : OffI I (core' ++ (tl ++ rest)) := fun q hq => by
  rcases List.mem_append.mp hq with hq | hq
  · have : q.1 ∈ core.map (·.1) := h ▸ List.mem_map_of_mem hq
    obtain ⟨q', hq', e⟩ := List.mem_map.mp this
    exact e ▸ o2 q' (List.mem_append_left _ hq')
  · rcases List.mem_append.mp hq with hq | hq
    · exact o1 q hq
    · exact o2 q (List.mem_append_right _ hq)
theorem sub_tl {tl tb rest : List (Addr × Obj)} (h : ∀ q ∈ tb, q ∈ rest) : ∀ q ∈ tl ++ tb, q ∈ tl ++ rest := fun q hq => by
  rcases List.mem_append.mp hq with hq | hq
  · exact List.mem_append_left _ hq
  · exact List.mem_append_right _ (h q hq)
def S_turn (z : Zx) : Prop :=
  (LawC (z.w) (z.b.loose) (z.b.mean) (z.b.mg) (z.b.mb) (z.b.g) (z.b.L)) →
  (4 ≤ (z.v.i 6)) →
  ((z.v.i 6) ≤ 5) →
  (WdOk (portF (z.v.i 0) (z.v.i 1) (z.v.i 2)) ((z.v.i 3) % 6 + 1) (z.v.i 6)) →
  ((z.v.o 5).data = .cell (some (.int ((z.v.i 3) % 6 + 1) (z.v.t 7)))) →
  ((z.v.o 6).data = .cell (some (.ref (z.v.p 3)))) →
  (PDict PySem.Challenge.rw_zd0006_01.row.prog (z.w) (z.v.o 1) (toldF (portF (z.v.i 0) (z.v.i 1) (z.v.i 2)) (z.v.i 4) (z.v.i 5) (z.v.i 6))) →
  (((z.v.p 3) == sysModules) = false) →
  ((z.v.l 0).length = 6) →
  (∀ j : Nat, j < 6 → ∃ t, (z.v.l 0)[j]? = some (.str (talkF (z.v.i 6) (portF (z.v.i 0) (z.v.i 1) (z.v.i 2) ((j : Int) + 1)) ((z.v.i 4) % (6 * (z.v.i 6)) / (z.v.i 6) + 1) ((z.v.i 4) % (z.v.i 6)) ((z.v.i 5) % 10) ((j : Int) + 1) ((z.v.i 3) % 6 + 1) ((z.v.i 3) / 6 % 4)) t)) →
  ((((z.v.i 3) / 6 % 4) = 3 ∧ (z.v.i 7) = 1) ∨ (((z.v.i 3) / 6 % 4) ≠ 3 ∧ (z.v.i 7) = ((z.v.i 3) / 6 % 4))) →
  (@Ne Nat ((z.v.p 3)) (z.v.p 5) ∧ @Ne Nat ((z.v.p 4)) (z.v.p 5) ∧ @Ne Nat ((z.v.p 2)) (z.v.p 5) ∧ @Ne Nat ((z.v.p 1)) (z.v.p 5) ∧ @Ne Nat ((z.b.L) + 5) (z.v.p 5) ∧ @Ne Nat ((z.b.L) + 4) (z.v.p 5) ∧ @Ne Nat ((z.b.L) + 3) (z.v.p 5) ∧ @Ne Nat ((z.b.L) + 2) (z.v.p 5) ∧ @Ne Nat ((z.b.L) + 1) (z.v.p 5) ∧ @Ne Nat (158) (z.v.p 5)) →
  (@Ne Nat ((z.v.p 3)) 158 ∧ @Ne Nat ((z.v.p 4)) 158 ∧ @Ne Nat ((z.v.p 2)) 158 ∧ @Ne Nat ((z.v.p 1)) 158) →
  (@Ne Nat ((z.b.L) + 5) 158 ∧ @Ne Nat ((z.b.L) + 4) 158 ∧ @Ne Nat ((z.b.L) + 3) 158 ∧ @Ne Nat ((z.b.L) + 2) 158 ∧ @Ne Nat ((z.b.L) + 1) 158) →
  ((z.v.n 3) < 6) →
  (OffI (z.v.p 6) (((z.v.p 5), listOf (z.v.a 0) (z.v.n 2)) :: ((z.v.p 3), (z.v.o 1)) :: ((z.v.p 4), listOf (z.v.l 0).toArray (z.v.n 1)) :: ((z.v.p 2), (z.v.o 2)) :: ((z.v.p 1), listOf #[.int (z.v.i 0) (z.v.t 0), .int (z.v.i 1) (z.v.t 1), .int (z.v.i 2) (z.v.t 2), .int (z.v.i 3) (z.v.t 3), .int (z.v.i 4) (z.v.t 4), .int (z.v.i 5) (z.v.t 5)] (z.v.n 0)) :: ((z.b.L) + 5, (z.v.o 7)) :: ((z.b.L) + 4, (z.v.o 6)) :: ((z.b.L) + 3, (z.v.o 5)) :: ((z.b.L) + 2, (z.v.o 4)) :: ((z.b.L) + 1, (z.v.o 3)) :: (158, tabObj (z.v.a 1)) :: (z.v.e 0))) →
  ((z.v.m 0) (Str.ofString "place") = some (.int (((z.v.n 3) : Int) + 1) (z.v.t 6))) →
  (LoopOK (toldF (portF (z.v.i 0) (z.v.i 1) (z.v.i 2)) (z.v.i 4) (z.v.i 5) (z.v.i 6)) ((z.v.i 3) % 6 + 1) (z.v.i 7) (z.v.t 8) (z.b.L) (z.v.p 5) (z.v.p 4) (z.v.n 3) (z.v.a 0) (z.v.a 1) (z.v.e 0) (z.v.m 0)) →
  (Fr (z.b.g) (z.b.L) z.b.h (z.v.m 0)) →
  (News (z.b.g) (z.b.L) z.b.h (((z.v.p 6), (z.v.o 0)) :: ((z.v.p 5), listOf (z.v.a 0) (z.v.n 2)) :: ((z.v.p 3), (z.v.o 1)) :: ((z.v.p 4), listOf (z.v.l 0).toArray (z.v.n 1)) :: ((z.v.p 2), (z.v.o 2)) :: ((z.v.p 1), listOf #[.int (z.v.i 0) (z.v.t 0), .int (z.v.i 1) (z.v.t 1), .int (z.v.i 2) (z.v.t 2), .int (z.v.i 3) (z.v.t 3), .int (z.v.i 4) (z.v.t 4), .int (z.v.i 5) (z.v.t 5)] (z.v.n 0)) :: ((z.b.L) + 5, (z.v.o 7)) :: ((z.b.L) + 4, (z.v.o 6)) :: ((z.b.L) + 3, (z.v.o 5)) :: ((z.b.L) + 2, (z.v.o 4)) :: ((z.b.L) + 1, (z.v.o 3)) :: (158, tabObj (z.v.a 1)) :: (z.v.e 0))) →
  (∀ {h' : Heap} {tk' kp' : Nat} {its' ps' : Array Value} {rest' : List (Addr × Obj)} {m' : Str → Option Value}, LoopOK (toldF (portF (z.v.i 0) (z.v.i 1) (z.v.i 2)) (z.v.i 4) (z.v.i 5) (z.v.i 6)) ((z.v.i 3) % 6 + 1) (z.v.i 7) (z.v.t 8) (z.b.L) (z.v.p 5) (z.v.p 4) ((z.v.n 3) + 1) its' ps' rest' m' → OffI (z.v.p 6) (((z.v.p 5), listOf its' kp') :: ((z.v.p 3), (z.v.o 1)) :: ((z.v.p 4), listOf (z.v.l 0).toArray (z.v.n 1)) :: ((z.v.p 2), (z.v.o 2)) :: ((z.v.p 1), listOf #[.int (z.v.i 0) (z.v.t 0), .int (z.v.i 1) (z.v.t 1), .int (z.v.i 2) (z.v.t 2), .int (z.v.i 3) (z.v.t 3), .int (z.v.i 4) (z.v.t 4), .int (z.v.i 5) (z.v.t 5)] (z.v.n 0)) :: ((z.b.L) + 5, (z.v.o 7)) :: ((z.b.L) + 4, (z.v.o 6)) :: ((z.b.L) + 3, (z.v.o 5)) :: ((z.b.L) + 2, (z.v.o 4)) :: ((z.b.L) + 1, (z.v.o 3)) :: (158, tabObj ps') :: rest') → Fr (z.b.g) (z.b.L) h' m' → News (z.b.g) (z.b.L) h' (((z.v.p 6), (z.v.o 0)) :: ((z.v.p 5), listOf its' kp') :: ((z.v.p 3), (z.v.o 1)) :: ((z.v.p 4), listOf (z.v.l 0).toArray (z.v.n 1)) :: ((z.v.p 2), (z.v.o 2)) :: ((z.v.p 1), listOf #[.int (z.v.i 0) (z.v.t 0), .int (z.v.i 1) (z.v.t 1), .int (z.v.i 2) (z.v.t 2), .int (z.v.i 3) (z.v.t 3), .int (z.v.i 4) (z.v.t 4), .int (z.v.i 5) (z.v.t 5)] (z.v.n 0)) :: ((z.b.L) + 5, (z.v.o 7)) :: ((z.b.L) + 4, (z.v.o 6)) :: ((z.b.L) + 3, (z.v.o 5)) :: ((z.b.L) + 2, (z.v.o 4)) :: ((z.b.L) + 1, (z.v.o 3)) :: (158, tabObj ps') :: rest') → (z.b.Q) .next ⟨h', z.b.gn, z.b.dr, tk', z.b.os⟩) →
  LawIn (z.w) (z.b.L) (z.v.p 0) (z.v.v 0) 0 (z.b.Q) (⟨z.b.h, z.b.gn, z.b.dr, z.b.tk, z.b.os⟩ : Shared)
noncomputable def z_turn : Zx := eps S_turn
/-- the body of the law's first loop -/
theorem b_turn : S_turn z_turn := by
  intro H hw4 hw5 hwd c3 c4 hO hOs hl6 ht hr e1 e2 e3 hi oI1 hm1 LO F N K
  obtain ⟨⟨tb, hT, htb⟩, o158, oPt, oL5, pts, g1, g2, g3⟩ := LO
  obtain ⟨tr, htr⟩ := ht (z_turn.v.n 3) hi
  have hw0 : 0 < (z_turn.v.i 6) := by omega
  have p1 : (1 : Int) ≤ ((z_turn.v.n 3) : Int) + 1 := by omega
  have p6 : ((z_turn.v.n 3) : Int) + 1 ≤ 6 := by omega
  have oI2 : OffI (z_turn.v.p 6) (z_turn.v.e 0) := fun q hq => oI1 q (List.mem_append_right (as := [((z_turn.v.p 5), listOf (z_turn.v.a 0) (z_turn.v.n 2)), ((z_turn.v.p 3), (z_turn.v.o 1)), ((z_turn.v.p 4), listOf (z_turn.v.l 0).toArray (z_turn.v.n 1)), ((z_turn.v.p 2), (z_turn.v.o 2)), ((z_turn.v.p 1), listOf #[.int (z_turn.v.i 0) (z_turn.v.t 0), .int (z_turn.v.i 1) (z_turn.v.t 1), .int (z_turn.v.i 2) (z_turn.v.t 2), .int (z_turn.v.i 3) (z_turn.v.t 3), .int (z_turn.v.i 4) (z_turn.v.t 4), .int (z_turn.v.i 5) (z_turn.v.t 5)] (z_turn.v.n 0)), ((z_turn.b.L) + 5, (z_turn.v.o 7)), ((z_turn.b.L) + 4, (z_turn.v.o 6)), ((z_turn.b.L) + 3, (z_turn.v.o 5)), ((z_turn.b.L) + 2, (z_turn.v.o 4)), ((z_turn.b.L) + 1, (z_turn.v.o 3)), (158, tabObj (z_turn.v.a 1))]) hq)
  obtain ⟨k1, k2, k3, k4, k5, k6, k7, k8, k9, k10⟩ := e1
  obtain ⟨m1, m2, m3, m4⟩ := e2
  obtain ⟨q1, q2, q3, q4, q5⟩ := e3
  have iP : @Ne Nat (z_turn.v.p 6) (z_turn.v.p 5) := fun e => oI1 _ (.head _) e.symm
  have i158 : @Ne Nat (z_turn.v.p 6) 158 := fun e => oI1 (158, tabObj (z_turn.v.a 1)) (by simp) e.symm
  have l9 : @Ne Nat ((z_turn.v.p 6)) 158 ∧ @Ne Nat ((z_turn.v.p 5)) 158 ∧ @Ne Nat ((z_turn.v.p 3)) 158 ∧ @Ne Nat ((z_turn.v.p 4)) 158 ∧ @Ne Nat ((z_turn.v.p 2)) 158 ∧ @Ne Nat ((z_turn.v.p 1)) 158 ∧ @Ne Nat ((z_turn.b.L) + 5) 158 ∧ @Ne Nat ((z_turn.b.L) + 4) 158 ∧ @Ne Nat ((z_turn.b.L) + 3) 158 ∧ @Ne Nat ((z_turn.b.L) + 2) 158 ∧ @Ne Nat ((z_turn.b.L) + 1) 158 := ⟨i158, k10.symm, m1, m2, m3, m4, q1, q2, q3, q4, q5⟩
  have a0 : 0 ≤ ((z_turn.v.i 4) % (z_turn.v.i 6)) := by exact Int.emod_nonneg _ (by omega)
  have a1 : ((z_turn.v.i 4) % (z_turn.v.i 6)) < (z_turn.v.i 6) := by exact Int.emod_lt_of_pos _ hw0
  have b0 : 0 ≤ ((z_turn.v.i 5) % 10) := by omega
  have b1 : ((z_turn.v.i 5) % 10) ≤ 9 := by omega
  by_cases hl : ((z_turn.v.n 3) : Int) + 1 = (z_turn.v.i 3) % 6 + 1
  · refine turn_heard H (heard_lost hT (ownOff_of htb o158) p1 p6 (portF_lo ..) (portF_hi ..) hw4 hw5 a0 a1 b0 b1 hl way_lim.1 way_lim.2 hr) hi rfl hl6 htr hm1 g1 F N htb o158 l9 ?_
    rintro v tl h' tk' ps' ⟨Hd, t1, t2, rfl, hm, hT'⟩ F' N' sep
    refine turn_lost H (rest := tl ++ (z_turn.v.e 0)) hi rfl hl6 htr hl c3 rfl (name_set hm1 (by decide)) (by exact if_pos rfl) (name_set g2 (by decide)) (name_set g1 (by decide)) F' (news_in (core := [((z_turn.v.p 6), (z_turn.v.o 0)), ((z_turn.v.p 5), listOf (z_turn.v.a 0) (z_turn.v.n 2)), ((z_turn.v.p 3), (z_turn.v.o 1)), ((z_turn.v.p 4), listOf (z_turn.v.l 0).toArray (z_turn.v.n 1)), ((z_turn.v.p 2), (z_turn.v.o 2)), ((z_turn.v.p 1), listOf #[.int (z_turn.v.i 0) (z_turn.v.t 0), .int (z_turn.v.i 1) (z_turn.v.t 1), .int (z_turn.v.i 2) (z_turn.v.t 2), .int (z_turn.v.i 3) (z_turn.v.t 3), .int (z_turn.v.i 4) (z_turn.v.t 4), .int (z_turn.v.i 5) (z_turn.v.t 5)] (z_turn.v.n 0)), ((z_turn.b.L) + 5, (z_turn.v.o 7)), ((z_turn.b.L) + 4, (z_turn.v.o 6)), ((z_turn.b.L) + 3, (z_turn.v.o 5)), ((z_turn.b.L) + 2, (z_turn.v.o 4)), ((z_turn.b.L) + 1, (z_turn.v.o 3)), (158, tabObj ps')]) N' hm) ?_
    intro h'' tk'' F'' N''
    exact K ⟨⟨tl ++ tb, hT', sub_tl htb⟩, .app (sep.off (o := tabObj (z_turn.v.a 1)) (by simp)) o158, .app (sep.off (.tail _ (.head _))) oPt, .app (sep.off (o := (z_turn.v.o 7)) (by simp)) oL5, pts.skip hl (fun q hq => List.mem_append_right _ hq), name_set g1 (by decide), name_set g2 (by decide), name_set g3 (by decide)⟩ (off_core (core := [((z_turn.v.p 5), listOf (z_turn.v.a 0) (z_turn.v.n 2)), ((z_turn.v.p 3), (z_turn.v.o 1)), ((z_turn.v.p 4), listOf (z_turn.v.l 0).toArray (z_turn.v.n 1)), ((z_turn.v.p 2), (z_turn.v.o 2)), ((z_turn.v.p 1), listOf #[.int (z_turn.v.i 0) (z_turn.v.t 0), .int (z_turn.v.i 1) (z_turn.v.t 1), .int (z_turn.v.i 2) (z_turn.v.t 2), .int (z_turn.v.i 3) (z_turn.v.t 3), .int (z_turn.v.i 4) (z_turn.v.t 4), .int (z_turn.v.i 5) (z_turn.v.t 5)] (z_turn.v.n 0)), ((z_turn.b.L) + 5, (z_turn.v.o 7)), ((z_turn.b.L) + 4, (z_turn.v.o 6)), ((z_turn.b.L) + 3, (z_turn.v.o 5)), ((z_turn.b.L) + 2, (z_turn.v.o 4)), ((z_turn.b.L) + 1, (z_turn.v.o 3)), (158, tabObj (z_turn.v.a 1))]) (core' := [((z_turn.v.p 5), listOf (z_turn.v.a 0) (z_turn.v.n 2)), ((z_turn.v.p 3), (z_turn.v.o 1)), ((z_turn.v.p 4), listOf (z_turn.v.l 0).toArray (z_turn.v.n 1)), ((z_turn.v.p 2), (z_turn.v.o 2)), ((z_turn.v.p 1), listOf #[.int (z_turn.v.i 0) (z_turn.v.t 0), .int (z_turn.v.i 1) (z_turn.v.t 1), .int (z_turn.v.i 2) (z_turn.v.t 2), .int (z_turn.v.i 3) (z_turn.v.t 3), .int (z_turn.v.i 4) (z_turn.v.t 4), .int (z_turn.v.i 5) (z_turn.v.t 5)] (z_turn.v.n 0)), ((z_turn.b.L) + 5, (z_turn.v.o 7)), ((z_turn.b.L) + 4, (z_turn.v.o 6)), ((z_turn.b.L) + 3, (z_turn.v.o 5)), ((z_turn.b.L) + 2, (z_turn.v.o 4)), ((z_turn.b.L) + 1, (z_turn.v.o 3)), (158, tabObj ps')]) (sep.off (.head _)) oI1 rfl) F'' N''
  · have hv := toldF_lim (f := portF (z_turn.v.i 0) (z_turn.v.i 1) (z_turn.v.i 2)) (d4 := (z_turn.v.i 4)) (d5 := (z_turn.v.i 5)) (p := ((z_turn.v.n 3) : Int) + 1) hw4 hw5 (portF_lo ..) (portF_hi ..)
    have ev := toldV_eq (f := portF (z_turn.v.i 0) (z_turn.v.i 1) (z_turn.v.i 2)) (d4 := (z_turn.v.i 4)) (d5 := (z_turn.v.i 5)) (p := ((z_turn.v.n 3) : Int) + 1) hw0
    refine turn_heard H ((heard_told hT (ownOff_of htb o158) p1 p6 (portF_lo ..) (portF_hi ..) hw4 hw5 (hwd.at' _ p1 p6 hl) a0 a1 b0 b1 hl)) hi rfl hl6 htr hm1 g1 F N htb o158 l9 ?_
    rintro v tl h' tk' ps' ⟨Hd, Ad, t1, t2, rfl, hm, hA, hT'⟩ F' N' sep
    rw [ev] at hA
    have hsz : (z_turn.v.a 0).size ≤ sizeLine := by rw [sizeLine_eq]; have := pts.size; omega
    refine turn_told H (rest := tl ++ (z_turn.v.e 0)) p1 p6 hl hv.1 hv.2 c3 c4 hO hOs (name_set hm1 (by decide)) (by exact if_pos rfl) (name_set g3 (by decide)) F' (news_in2 (core := [((z_turn.v.p 6), (z_turn.v.o 0)), ((z_turn.v.p 5), listOf (z_turn.v.a 0) (z_turn.v.n 2)), ((z_turn.v.p 3), (z_turn.v.o 1)), ((z_turn.v.p 4), listOf (z_turn.v.l 0).toArray (z_turn.v.n 1)), ((z_turn.v.p 2), (z_turn.v.o 2)), ((z_turn.v.p 1), listOf #[.int (z_turn.v.i 0) (z_turn.v.t 0), .int (z_turn.v.i 1) (z_turn.v.t 1), .int (z_turn.v.i 2) (z_turn.v.t 2), .int (z_turn.v.i 3) (z_turn.v.t 3), .int (z_turn.v.i 4) (z_turn.v.t 4), .int (z_turn.v.i 5) (z_turn.v.t 5)] (z_turn.v.n 0)), ((z_turn.b.L) + 5, (z_turn.v.o 7)), ((z_turn.b.L) + 4, (z_turn.v.o 6)), ((z_turn.b.L) + 3, (z_turn.v.o 5)), ((z_turn.b.L) + 2, (z_turn.v.o 4)), ((z_turn.b.L) + 1, (z_turn.v.o 3)), (158, tabObj ps')]) N' hm hA) (.app (sep.off (.tail _ (.head _))) oPt) ⟨iP, k1, k2, k3, k4, k5, k6, k7, k8, k9, k10, fun e => sep _ hm _ (.tail _ (.head _)) e.symm, fun e => sep _ hA _ (.tail _ (.head _)) e.symm⟩ hsz ?_
    intro h'' tk'' vp F'' N''
    exact K (m' := fun y => if y = Str.ofString "pair" then some vp else if y = Str.ofString "heard" then some (Value.ref Hd) else (z_turn.v.m 0) y) ⟨⟨tl ++ tb, hT', sub_tl htb⟩, .app (sep.off (o := tabObj (z_turn.v.a 1)) (by simp)) o158, .app (sep.off (.tail _ (.head _))) oPt, .app (sep.off (o := (z_turn.v.o 7)) (by simp)) oL5, pts.add hl (List.mem_append_left _ hA) (fun q hq => List.mem_append_right _ hq), name_set (k' := Str.ofString "pair") (v' := vp) (name_set (k' := Str.ofString "heard") (v' := Value.ref Hd) g1 (by decide)) (by decide), name_set (k' := Str.ofString "pair") (v' := vp) (name_set (k' := Str.ofString "heard") (v' := Value.ref Hd) g2 (by decide)) (by decide), name_set (k' := Str.ofString "pair") (v' := vp) (name_set (k' := Str.ofString "heard") (v' := Value.ref Hd) g3 (by decide)) (by decide)⟩ (off_core (core := [((z_turn.v.p 5), listOf (z_turn.v.a 0) (z_turn.v.n 2)), ((z_turn.v.p 3), (z_turn.v.o 1)), ((z_turn.v.p 4), listOf (z_turn.v.l 0).toArray (z_turn.v.n 1)), ((z_turn.v.p 2), (z_turn.v.o 2)), ((z_turn.v.p 1), listOf #[.int (z_turn.v.i 0) (z_turn.v.t 0), .int (z_turn.v.i 1) (z_turn.v.t 1), .int (z_turn.v.i 2) (z_turn.v.t 2), .int (z_turn.v.i 3) (z_turn.v.t 3), .int (z_turn.v.i 4) (z_turn.v.t 4), .int (z_turn.v.i 5) (z_turn.v.t 5)] (z_turn.v.n 0)), ((z_turn.b.L) + 5, (z_turn.v.o 7)), ((z_turn.b.L) + 4, (z_turn.v.o 6)), ((z_turn.b.L) + 3, (z_turn.v.o 5)), ((z_turn.b.L) + 2, (z_turn.v.o 4)), ((z_turn.b.L) + 1, (z_turn.v.o 3)), (158, tabObj (z_turn.v.a 1))]) (core' := [((z_turn.v.p 5), listOf ((z_turn.v.a 0).push (.ref Ad)) ((z_turn.v.n 2) + 1)), ((z_turn.v.p 3), (z_turn.v.o 1)), ((z_turn.v.p 4), listOf (z_turn.v.l 0).toArray (z_turn.v.n 1)), ((z_turn.v.p 2), (z_turn.v.o 2)), ((z_turn.v.p 1), listOf #[.int (z_turn.v.i 0) (z_turn.v.t 0), .int (z_turn.v.i 1) (z_turn.v.t 1), .int (z_turn.v.i 2) (z_turn.v.t 2), .int (z_turn.v.i 3) (z_turn.v.t 3), .int (z_turn.v.i 4) (z_turn.v.t 4), .int (z_turn.v.i 5) (z_turn.v.t 5)] (z_turn.v.n 0)), ((z_turn.b.L) + 5, (z_turn.v.o 7)), ((z_turn.b.L) + 4, (z_turn.v.o 6)), ((z_turn.b.L) + 3, (z_turn.v.o 5)), ((z_turn.b.L) + 2, (z_turn.v.o 4)), ((z_turn.b.L) + 1, (z_turn.v.o 3)), (158, tabObj ps')]) (sep.off (.head _)) oI1 rfl) F'' N''
theorem turn {w : World} {loose : List Str} {mean : ExcName → Option Value} {mg mb : Str → Option Value} {g : Heap} {L a : Addr} {cd : Value} {m : Str → Option Value} {s : Shared} {Q : Flow → Shared → Prop} (H : LawC w loose mean mg mb g L){D P O Tk Pt IT : Addr} {d0 d1 d2 d3 d4 d5 : Int} {u0 u1 u2 u3 u4 u5 : Tok} {n : Nat} {oI oO oP o1 o2 o3 o4 o5 : Obj} {txs : List Value} {nt kp : Nat} {its ps : Array Value} {rest : List (Addr × Obj)} {i : Nat} {tp : Tok} {wd rf : Int} {t3 ts : Tok} (hw4 : 4 ≤ wd) (hw5 : wd ≤ 5) (hwd : WdOk (portF d0 d1 d2) (d3 % 6 + 1) wd) (c3 : o3.data = .cell (some (.int (d3 % 6 + 1) t3))) (c4 : o4.data = .cell (some (.ref O))) (hO : PDict PySem.Challenge.rw_zd0006_01.row.prog w oO (toldF (portF d0 d1 d2) d4 d5 wd)) (hOs : (O == sysModules) = false)
    (hl6 : txs.length = 6) (ht : ∀ j : Nat, j < 6 → ∃ t, txs[j]? = some (.str (talkF wd (portF d0 d1 d2 ((j : Int) + 1)) (d4 % (6 * wd) / wd + 1) (d4 % wd) (d5 % 10) ((j : Int) + 1) (d3 % 6 + 1) (d3 / 6 % 4)) t)) (hr : ((d3 / 6 % 4) = 3 ∧ rf = 1) ∨ ((d3 / 6 % 4) ≠ 3 ∧ rf = (d3 / 6 % 4)))
    (e1 : @Ne Nat (O) Pt ∧ @Ne Nat (Tk) Pt ∧ @Ne Nat (P) Pt ∧ @Ne Nat (D) Pt ∧ @Ne Nat (L + 5) Pt ∧ @Ne Nat (L + 4) Pt ∧ @Ne Nat (L + 3) Pt ∧ @Ne Nat (L + 2) Pt ∧ @Ne Nat (L + 1) Pt ∧ @Ne Nat (158) Pt) (e2 : @Ne Nat (O) 158 ∧ @Ne Nat (Tk) 158 ∧ @Ne Nat (P) 158 ∧ @Ne Nat (D) 158) (e3 : @Ne Nat (L + 5) 158 ∧ @Ne Nat (L + 4) 158 ∧ @Ne Nat (L + 3) 158 ∧ @Ne Nat (L + 2) 158 ∧ @Ne Nat (L + 1) 158) (hi : i < 6) (oI1 : OffI IT ((Pt, listOf its kp) :: (O, oO) :: (Tk, listOf txs.toArray nt) :: (P, oP) :: (D, listOf #[.int d0 u0, .int d1 u1, .int d2 u2, .int d3 u3, .int d4 u4, .int d5 u5] n) :: (L + 5, o5) :: (L + 4, o4) :: (L + 3, o3) :: (L + 2, o2) :: (L + 1, o1) :: (158, tabObj ps) :: rest)) (hm1 : m (Str.ofString "place") = some (.int ((i : Int) + 1) tp)) (LO : LoopOK (toldF (portF d0 d1 d2) d4 d5 wd) (d3 % 6 + 1) rf ts L Pt Tk i its ps rest m)
    (F : Fr g L s.heap m) (N : News g L s.heap ((IT, oI) :: (Pt, listOf its kp) :: (O, oO) :: (Tk, listOf txs.toArray nt) :: (P, oP) :: (D, listOf #[.int d0 u0, .int d1 u1, .int d2 u2, .int d3 u3, .int d4 u4, .int d5 u5] n) :: (L + 5, o5) :: (L + 4, o4) :: (L + 3, o3) :: (L + 2, o2) :: (L + 1, o1) :: (158, tabObj ps) :: rest))
    (K : ∀ {h' : Heap} {tk' kp' : Nat} {its' ps' : Array Value} {rest' : List (Addr × Obj)} {m' : Str → Option Value}, LoopOK (toldF (portF d0 d1 d2) d4 d5 wd) (d3 % 6 + 1) rf ts L Pt Tk (i + 1) its' ps' rest' m' → OffI IT ((Pt, listOf its' kp') :: (O, oO) :: (Tk, listOf txs.toArray nt) :: (P, oP) :: (D, listOf #[.int d0 u0, .int d1 u1, .int d2 u2, .int d3 u3, .int d4 u4, .int d5 u5] n) :: (L + 5, o5) :: (L + 4, o4) :: (L + 3, o3) :: (L + 2, o2) :: (L + 1, o1) :: (158, tabObj ps') :: rest') → Fr g L h' m' → News g L h' ((IT, oI) :: (Pt, listOf its' kp') :: (O, oO) :: (Tk, listOf txs.toArray nt) :: (P, oP) :: (D, listOf #[.int d0 u0, .int d1 u1, .int d2 u2, .int d3 u3, .int d4 u4, .int d5 u5] n) :: (L + 5, o5) :: (L + 4, o4) :: (L + 3, o3) :: (L + 2, o2) :: (L + 1, o1) :: (158, tabObj ps') :: rest') → Q .next { s with heap := h', toks := tk' }) : LawIn w L a cd 0 Q s :=
  eps_all b_turn ⟨w, { loose := loose, mean := mean, mg := mg, mb := mb, g := g, L := L, Q := Q, h := s.heap, gn := s.gens, dr := s.drawn, tk := s.toks, os := s.os }, { p := fun | 0 => a | 1 => D | 2 => P | 3 => O | 4 => Tk | 5 => Pt | _ => IT, v := fun | _ => cd, m := fun | _ => m, i := fun | 0 => d0 | 1 => d1 | 2 => d2 | 3 => d3 | 4 => d4 | 5 => d5 | 6 => wd | _ => rf, t := fun | 0 => u0 | 1 => u1 | 2 => u2 | 3 => u3 | 4 => u4 | 5 => u5 | 6 => tp | 7 => t3 | _ => ts, n := fun | 0 => n | 1 => nt | 2 => kp | _ => i, o := fun | 0 => oI | 1 => oO | 2 => oP | 3 => o1 | 4 => o2 | 5 => o3 | 6 => o4 | _ => o5, l := fun | _ => txs, a := fun | 0 => its | _ => ps, e := fun | _ => rest }⟩ H hw4 hw5 hwd c3 c4 hO hOs hl6 ht hr e1 e2 e3 hi oI1 hm1 LO F N K
end
section
example : True ∧ True := by w_top off; first | (walk1 <;> trivial) | exact ⟨trivial, trivial⟩
open PySem PySem.W PyProof.Rows PySem.Calls
set_option Elab.async false
set_option maxRecDepth 100000
set_option maxHeartbeats 8000000
set_option linter.unusedVariables false
set_option linter.unusedSimpArgs false
local macro_rules | `(tactic| walk_at $s:str) => lineAt ["pyIter ref"] [] s
/-- the law's first loop -/
theorem law_7 {w : World} {loose : List Str} {mean : ExcName → Option Value} {mg mb : Str → Option Value} {g : Heap} {L a : Addr} {cd : Value} {m : Str → Option Value} {s : Shared} {Q : Flow → Shared → Prop} (H : LawC w loose mean mg mb g L){D P O Tk Pt : Addr} {d0 d1 d2 d3 d4 d5 : Int} {u0 u1 u2 u3 u4 u5 : Tok} {n : Nat} {oO oP o1 o2 o3 o4 o5 : Obj} {txs : List Value} {nt kp : Nat} {wd rf : Int} {t3 ts : Tok} (hw4 : 4 ≤ wd) (hw5 : wd ≤ 5) (hwd : WdOk (portF d0 d1 d2) (d3 % 6 + 1) wd) (c3 : o3.data = .cell (some (.int (d3 % 6 + 1) t3))) (c4 : o4.data = .cell (some (.ref O))) (hO : PDict PySem.Challenge.rw_zd0006_01.row.prog w oO (toldF (portF d0 d1 d2) d4 d5 wd)) (hOs : (O == sysModules) = false)
    (hl6 : txs.length = 6) (ht : ∀ j : Nat, j < 6 → ∃ t, txs[j]? = some (.str (talkF wd (portF d0 d1 d2 ((j : Int) + 1)) (d4 % (6 * wd) / wd + 1) (d4 % wd) (d5 % 10) ((j : Int) + 1) (d3 % 6 + 1) (d3 / 6 % 4)) t)) (hr : ((d3 / 6 % 4) = 3 ∧ rf = 1) ∨ ((d3 / 6 % 4) ≠ 3 ∧ rf = (d3 / 6 % 4)))
    (e1 : @Ne Nat (O) Pt ∧ @Ne Nat (Tk) Pt ∧ @Ne Nat (P) Pt ∧ @Ne Nat (D) Pt ∧ @Ne Nat (L + 5) Pt ∧ @Ne Nat (L + 4) Pt ∧ @Ne Nat (L + 3) Pt ∧ @Ne Nat (L + 2) Pt ∧ @Ne Nat (L + 1) Pt ∧ @Ne Nat (158) Pt) (e2 : @Ne Nat (O) 158 ∧ @Ne Nat (Tk) 158 ∧ @Ne Nat (P) 158 ∧ @Ne Nat (D) 158) (e3 : @Ne Nat (L + 5) 158 ∧ @Ne Nat (L + 4) 158 ∧ @Ne Nat (L + 3) 158 ∧ @Ne Nat (L + 2) 158 ∧ @Ne Nat (L + 1) 158) (hP : PDict PySem.Challenge.rw_zd0006_01.row.prog w oP (portF d0 d1 d2)) (hPs : (P == sysModules) = false) (c2 : o2.data = .cell (some (.ref P)))
    (e4 : @Ne Nat (O) (L + 5) ∧ @Ne Nat (Tk) (L + 5) ∧ @Ne Nat (P) (L + 5) ∧ @Ne Nat (D) (L + 5)) (g1 : m (Str.ofString "talk") = some (.ref Tk)) (g2 : m (Str.ofString "refused") = some (.int rf ts)) (g3 : m (Str.ofString "points") = some (.ref Pt)) (F : Fr g L s.heap m) (N : News g L s.heap [(Pt, listOf #[] kp), (O, oO), (Tk, listOf txs.toArray nt), (P, oP), (D, listOf #[.int d0 u0, .int d1 u1, .int d2 u2, .int d3 u3, .int d4 u4, .int d5 u5] n), (L + 5, o5), (L + 4, o4), (L + 3, o3), (L + 2, o2), (L + 1, o1), (158, tabObj #[])])
    (K : ∀ {h' : Heap} {tk' kp' : Nat} {its' ps' : Array Value} {rest' : List (Addr × Obj)} {m' : Str → Option Value}, LoopOK (toldF (portF d0 d1 d2) d4 d5 wd) (d3 % 6 + 1) rf ts L Pt Tk 6 its' ps' rest' m' → Fr g L h' m' → News g L h' ((Pt, listOf its' kp') :: (O, oO) :: (Tk, listOf txs.toArray nt) :: (P, oP) :: (D, listOf #[.int d0 u0, .int d1 u1, .int d2 u2, .int d3 u3, .int d4 u4, .int d5 u5] n) :: (L + 5, o5) :: (L + 4, o4) :: (L + 3, o3) :: (L + 2, o2) :: (L + 1, o1) :: (158, tabObj ps') :: rest') → LawAt w L a cd 12 Q { s with heap := h', toks := tk' }) : LawAt w L a cd 11 Q s := by
  have H0 := H
  obtain ⟨B, X, T, C, l1⟩ := H
  unfold LawAt lawE lawD dOf
  dsimp only [List.drop]
  revert X; k_fill; intro X
  refine wpC_execs_cons (For_by_C ?_)
  k_steps
  refine Stop.go ?_
  refine by_pdict_C rfl hPs hP F N (by k_mem) (fun i b m₁ news₁ => g = b ∧ ∃ kp its ps rest, news₁ = (Pt, listOf its kp) :: (O, oO) :: (Tk, listOf txs.toArray nt) :: (P, oP) :: (D, listOf #[.int d0 u0, .int d1 u1, .int d2 u2, .int d3 u3, .int d4 u4, .int d5 u5] n) :: (L + 5, o5) :: (L + 4, o4) :: (L + 3, o3) :: (L + 2, o2) :: (L + 1, o1) :: (158, tabObj ps) :: rest ∧ LoopOK (toldF (portF d0 d1 d2) d4 d5 wd) (d3 % 6 + 1) rf ts L Pt Tk i its ps rest m₁) ?hJk ?h0 ?step ?fin
  case hJk =>
    rintro i b m₁ news₁ ⟨_, kp, its, ps, rest, rfl, _⟩
    exact .tail _ (.tail _ (.tail _ (.head _)))
  case h0 => exact ⟨rfl, kp, #[], #[], [], rfl, ⟨⟨[], .inl rfl, fun q hq => hq⟩, fun q hq => (nomatch hq), fun q hq => (nomatch hq), fun q hq => (nomatch hq), .nil, g1, g2, g3⟩⟩
  case step =>
    clear F N
    rintro i t b m₁ news₁ IT oI h₁ tk₁ hi ⟨rfl, kp, its, ps, rest, rfl, LO⟩ F1 N1 o1
    k_steps
    rename Fr _ _ _ _ => kF
    rename News _ _ _ _ => kN
    refine turn H0 (i := i) (its := its) (ps := ps) (rest := rest) hw4 hw5 hwd c3 c4 hO hOs hl6 ht hr e1 e2 e3 hi o1 (by exact if_pos rfl) ⟨LO.tab, LO.o158, LO.oPt, LO.oL5, LO.pts, name_set LO.talk (by decide), name_set LO.refused (by decide), name_set LO.points (by decide)⟩ kF kN ?_
    intro h' tk' kp' its' ps' rest' m' LO' oI' F' N'
    exact ⟨g, h', tk', m', _, rfl, F', N', oI', rfl, kp', its', ps', rest', rfl, LO'⟩
  case fin =>
    rintro b h' tk' m' news' ⟨rfl, kp, its, ps, rest, rfl, LO⟩ F' N'
    exact K LO F' N'
end
section
example : True ∧ True := by w_top off; first | (walk1 <;> trivial) | exact ⟨trivial, trivial⟩
open PySem PySem.W PyProof.Rows PySem.Calls
set_option Elab.async false
set_option maxRecDepth 100000
set_option maxHeartbeats 8000000
set_option linter.unusedVariables false
set_option linter.unusedSimpArgs false
local macro_rules | `(tactic| walk_at "subscriptTail Name Name ref int") => `(tactic| (k_here; (with_reducible show wpAny _ _ (subscriptTail _ _ (Value.ref _) (Value.int _ _)) _ _ _); k_dflt (refine pd_item (by k_asm) (by k_mem) (by k_asm) (by k_asm) ?h1 ?h2 ?_; (case h1 => omega); (case h2 => omega)); intro _))
/-- a place that is heard, with another figure than its port -/
def chP (f F : Int → Int) (lost : Int) (v : Value) : Bool := match v with
  | .int k _ => decide (k ≠ lost) && decide (F k ≠ f k)
  | _ => false
/-- the list of the changed places -/
structure ChOk (f F : Int → Int) (lost : Int) (ys : List Value) : Prop where
  only : ∀ y ∈ ys, ∃ k t, y = .int k t ∧ 1 ≤ k ∧ k ≤ 6 ∧ k ≠ lost ∧ F k ≠ f k
  all : ∀ k, 1 ≤ k → k ≤ 6 → k ≠ lost → F k ≠ f k → ∃ t, Value.int k t ∈ ys
theorem chOk_of {f F : Int → Int} {lost : Int} {vs : List Value} (hl : vs.length = 6) (hv : ∀ (j : Nat) (v : Value), vs[j]? = some v → j < 6 ∧ ∃ t, v = .int ((j : Int) + 1) t) {ys : List Value} (h : Paired (fun v y => y = v) (vs.filter (chP f F lost)) ys) : ChOk f F lost ys := by
  have e : ys = vs.filter (chP f F lost) := by
    clear hv hl
    generalize vs.filter (chP f F lost) = zs at h
    induction h with
    | nil => rfl
    | cons h1 _ ih => rw [h1, ih]
  subst e
  refine ⟨fun y hy => ?_, fun k h1 h2 h3 h4 => ?_⟩
  · obtain ⟨hy, hp⟩ := List.mem_filter.mp hy
    obtain ⟨j, hj, e⟩ := List.getElem_of_mem hy
    obtain ⟨hj6, t, e2⟩ := hv j y (by rw [List.getElem?_eq_getElem hj, e])
    subst e2
    simp only [chP, Bool.and_eq_true, decide_eq_true_eq] at hp
    exact ⟨_, t, rfl, by omega, by omega, hp.1, hp.2⟩
  · have hj : (k - 1).toNat < vs.length := by omega
    obtain ⟨_, t, e2⟩ := hv (k - 1).toNat _ (List.getElem?_eq_getElem hj)
    have ek : (((k - 1).toNat : Nat) : Int) + 1 = k := by omega
    rw [ek] at e2
    refine ⟨t, List.mem_filter.mpr ⟨e2 ▸ List.getElem_mem hj, ?_⟩⟩
    simp only [chP, Bool.and_eq_true, decide_eq_true_eq]
    exact ⟨h3, h4⟩
def S_law_8 (z : Zx) : Prop :=
  (LawC (z.w) (z.b.loose) (z.b.mean) (z.b.mg) (z.b.mb) (z.b.g) (z.b.L)) →
  ((z.v.o 3).data = .cell (some (.ref (z.v.p 2)))) →
  ((z.v.o 4).data = .cell (some (.int (z.v.i 6) (z.v.t 6)))) →
  ((z.v.o 5).data = .cell (some (.ref (z.v.p 3)))) →
  (PDict PySem.Challenge.rw_zd0006_01.row.prog (z.w) (z.v.o 1) (z.v.f 0)) →
  (((z.v.p 2) == sysModules) = false) →
  (PDict PySem.Challenge.rw_zd0006_01.row.prog (z.w) (z.v.o 0) (z.v.f 1)) →
  (((z.v.p 3) == sysModules) = false) →
  (@Ne Nat ((z.v.p 3)) ((z.b.L) + 5) ∧ @Ne Nat ((z.v.p 4)) ((z.b.L) + 5) ∧ @Ne Nat ((z.v.p 2)) ((z.b.L) + 5) ∧ @Ne Nat ((z.v.p 1)) ((z.b.L) + 5)) →
  (@Ne Nat ((z.b.L) + 5) (z.v.p 5)) →
  ((z.v.o 6).data = .cell none) →
  (OffI ((z.b.L) + 5) (z.v.e 0)) →
  (Fr (z.b.g) (z.b.L) z.b.h (z.v.m 0)) →
  (News (z.b.g) (z.b.L) z.b.h (((z.v.p 5), listOf (z.v.a 0) (z.v.n 2)) :: ((z.v.p 3), (z.v.o 0)) :: ((z.v.p 4), listOf (z.v.l 0).toArray (z.v.n 1)) :: ((z.v.p 2), (z.v.o 1)) :: ((z.v.p 1), listOf #[.int (z.v.i 0) (z.v.t 0), .int (z.v.i 1) (z.v.t 1), .int (z.v.i 2) (z.v.t 2), .int (z.v.i 3) (z.v.t 3), .int (z.v.i 4) (z.v.t 4), .int (z.v.i 5) (z.v.t 5)] (z.v.n 0)) :: ((z.b.L) + 5, (z.v.o 6)) :: ((z.b.L) + 4, (z.v.o 5)) :: ((z.b.L) + 3, (z.v.o 4)) :: ((z.b.L) + 2, (z.v.o 3)) :: ((z.b.L) + 1, (z.v.o 2)) :: (158, tabObj (z.v.a 1)) :: (z.v.e 0))) →
  (∀ {G : Addr} {ys : List Value} {k : Nat} {o5' : Obj} {h' : Heap} {tk' : Nat}, ChOk (z.v.f 0) (z.v.f 1) (z.v.i 6) ys → o5'.data = .cell (some (.ref G)) → Fr (z.b.g) (z.b.L) h' (z.v.m 0) → News (z.b.g) (z.b.L) h' ((G, listOf ys.toArray k) :: ((z.v.p 5), listOf (z.v.a 0) (z.v.n 2)) :: ((z.v.p 3), (z.v.o 0)) :: ((z.v.p 4), listOf (z.v.l 0).toArray (z.v.n 1)) :: ((z.v.p 2), (z.v.o 1)) :: ((z.v.p 1), listOf #[.int (z.v.i 0) (z.v.t 0), .int (z.v.i 1) (z.v.t 1), .int (z.v.i 2) (z.v.t 2), .int (z.v.i 3) (z.v.t 3), .int (z.v.i 4) (z.v.t 4), .int (z.v.i 5) (z.v.t 5)] (z.v.n 0)) :: ((z.b.L) + 5, o5') :: ((z.b.L) + 4, (z.v.o 5)) :: ((z.b.L) + 3, (z.v.o 4)) :: ((z.b.L) + 2, (z.v.o 3)) :: ((z.b.L) + 1, (z.v.o 2)) :: (158, tabObj (z.v.a 1)) :: (z.v.e 0)) → LawAt (z.w) (z.b.L) (z.v.p 0) (z.v.v 0) 13 (z.b.Q) ⟨h', z.b.gn, z.b.dr, tk', z.b.os⟩) →
  LawAt (z.w) (z.b.L) (z.v.p 0) (z.v.v 0) 12 (z.b.Q) (⟨z.b.h, z.b.gn, z.b.dr, z.b.tk, z.b.os⟩ : Shared)
noncomputable def z_law_8 : Zx := eps S_law_8
/-- the law's statement 13 -/
theorem b_law_8 : S_law_8 z_law_8 := by
  intro H c2 c3 c4 hP hPs hO hOs e4 e5 c5 oL5 F N K
  obtain ⟨B, X, T, C, l1⟩ := H
  unfold LawAt lawE lawD dOf
  dsimp only [List.drop]
  revert X; k_fill; intro X
  refine wpC_execs_cons (wpC_of ?_)
  refine wpAny_Assign_Name ?_ (by rfl)
  refine ListComp_N (chP (z_law_8.v.f 0) (z_law_8.v.f 1) (z_law_8.v.i 6)) (fun v y => y = v) F (by with_unfolding_all rfl) (by decide) (by rfl) (by decide) (by rfl) ?_
  k_steps
  refine Stop.go ?_
  rename Fr _ _ _ _ => kF
  rename News _ _ _ _ => kN
  refine ⟨_, _, _, ?hn, kF, kN, pd_src rfl kN (by k_mem) hP hPs, ?ht, ?hv, ?hf⟩
  case hn => show 6 ≤ sizeLine; decide
  case ht =>
    intro C oC i vv s₃ m₃ E' hQ ho hm F₃ N₃ hlt
    obtain ⟨hi, t, rfl⟩ := hQ
    clear kF kN
    refine tests_one ?_
    k_steps
    · refine Stop.go ⟨?_, keepsOf fun _ _ e => e⟩
      show true = (decide _ && decide _)
      rw [decide_eq_true (by assumption), decide_eq_true (by assumption)]
      rfl
    · refine Stop.go ⟨?_, keepsOf fun _ _ e => e⟩
      show false = (decide _ && decide _)
      rw [decide_eq_true (by assumption), decide_eq_false (fun h => h (by assumption))]
      rfl
    · refine Stop.go ⟨?_, keepsOf fun _ _ e => e⟩
      show false = (decide _ && decide _)
      rw [decide_eq_false (fun h => h (by assumption))]
      rfl
  case hv =>
    intro C oC i vv s₃ m₃ E' hQ _ ho hm F₃ N₃ hlt
    obtain ⟨hi, t, rfl⟩ := hQ
    clear kF kN
    k_steps
    exact Stop.go ⟨rfl, keepsOf fun _ _ e => e⟩
  case hf =>
    intro D' k h₄ tk₄ ys vs hl hv hp F₄ N₄ hne
    have hg := chOk_of hl hv hp
    clear kF kN hv
    have h5 : @Ne Nat D' ((z_law_8.b.L) + 5) := fun e => hne ((z_law_8.b.L) + 5, (z_law_8.v.o 6)) (by simp) e.symm
    obtain ⟨q1, q2, q3, q4⟩ := e4
    refine storeX_C (c := (z_law_8.b.L) + 5) F₄ N₄ rfl (.tail h5 (.tail e5.symm (.tail q1 (.tail q2 (.tail q3 (.tail q4 (.head (OffI.cons (by show @Ne Nat ((z_law_8.b.L) + 4) ((z_law_8.b.L) + 5); omega) (.cons (by show @Ne Nat ((z_law_8.b.L) + 3) ((z_law_8.b.L) + 5); omega) (.cons (by show @Ne Nat ((z_law_8.b.L) + 2) ((z_law_8.b.L) + 5); omega) (.cons (by show @Ne Nat ((z_law_8.b.L) + 1) ((z_law_8.b.L) + 5); omega) (.cons (by show @Ne Nat 158 ((z_law_8.b.L) + 5); omega) oL5))))))))))))  c5 ?_
    intro h' o' F' N' d'
    exact K hg d' F' N'
theorem law_8 {w : World} {loose : List Str} {mean : ExcName → Option Value} {mg mb : Str → Option Value} {g : Heap} {L a : Addr} {cd : Value} {m : Str → Option Value} {s : Shared} {Q : Flow → Shared → Prop} (H : LawC w loose mean mg mb g L){D P O Tk Pt : Addr} {d0 d1 d2 d3 d4 d5 : Int} {u0 u1 u2 u3 u4 u5 : Tok} {n : Nat} {oO oP o1 o2 o3 o4 o5 : Obj} {txs : List Value} {nt kp : Nat} {its ps : Array Value} {rest : List (Addr × Obj)} {lost : Int} {f Ft : Int → Int} {t3 : Tok} (c2 : o2.data = .cell (some (.ref P))) (c3 : o3.data = .cell (some (.int lost t3))) (c4 : o4.data = .cell (some (.ref O))) (hP : PDict PySem.Challenge.rw_zd0006_01.row.prog w oP f) (hPs : (P == sysModules) = false) (hO : PDict PySem.Challenge.rw_zd0006_01.row.prog w oO Ft) (hOs : (O == sysModules) = false)
    (e4 : @Ne Nat (O) (L + 5) ∧ @Ne Nat (Tk) (L + 5) ∧ @Ne Nat (P) (L + 5) ∧ @Ne Nat (D) (L + 5)) (e5 : @Ne Nat (L + 5) Pt) (c5 : o5.data = .cell none) (oL5 : OffI (L + 5) rest) (F : Fr g L s.heap m) (N : News g L s.heap ((Pt, listOf its kp) :: (O, oO) :: (Tk, listOf txs.toArray nt) :: (P, oP) :: (D, listOf #[.int d0 u0, .int d1 u1, .int d2 u2, .int d3 u3, .int d4 u4, .int d5 u5] n) :: (L + 5, o5) :: (L + 4, o4) :: (L + 3, o3) :: (L + 2, o2) :: (L + 1, o1) :: (158, tabObj ps) :: rest))
    (K : ∀ {G : Addr} {ys : List Value} {k : Nat} {o5' : Obj} {h' : Heap} {tk' : Nat}, ChOk f Ft lost ys → o5'.data = .cell (some (.ref G)) → Fr g L h' m → News g L h' ((G, listOf ys.toArray k) :: (Pt, listOf its kp) :: (O, oO) :: (Tk, listOf txs.toArray nt) :: (P, oP) :: (D, listOf #[.int d0 u0, .int d1 u1, .int d2 u2, .int d3 u3, .int d4 u4, .int d5 u5] n) :: (L + 5, o5') :: (L + 4, o4) :: (L + 3, o3) :: (L + 2, o2) :: (L + 1, o1) :: (158, tabObj ps) :: rest) → LawAt w L a cd 13 Q { s with heap := h', toks := tk' }) : LawAt w L a cd 12 Q s :=
  eps_all b_law_8 ⟨w, { loose := loose, mean := mean, mg := mg, mb := mb, g := g, L := L, Q := Q, h := s.heap, gn := s.gens, dr := s.drawn, tk := s.toks, os := s.os }, { p := fun | 0 => a | 1 => D | 2 => P | 3 => O | 4 => Tk | _ => Pt, v := fun | _ => cd, m := fun | _ => m, i := fun | 0 => d0 | 1 => d1 | 2 => d2 | 3 => d3 | 4 => d4 | 5 => d5 | _ => lost, t := fun | 0 => u0 | 1 => u1 | 2 => u2 | 3 => u3 | 4 => u4 | 5 => u5 | _ => t3, n := fun | 0 => n | 1 => nt | _ => kp, o := fun | 0 => oO | 1 => oP | 2 => o1 | 3 => o2 | 4 => o3 | 5 => o4 | _ => o5, l := fun | _ => txs, a := fun | 0 => its | _ => ps, e := fun | _ => rest, f := fun | 0 => f | _ => Ft }⟩ H c2 c3 c4 hP hPs hO hOs e4 e5 c5 oL5 F N K
end
section
example : True ∧ True := by w_top off; first | (walk1 <;> trivial) | exact ⟨trivial, trivial⟩
open PySem PySem.W PyProof.Rows PySem.Calls
set_option Elab.async false
set_option maxRecDepth 100000
set_option maxHeartbeats 8000000
set_option linter.unusedVariables false
set_option linter.unusedSimpArgs false
local macro_rules | `(tactic| walk_at $s:str) => lineAt ["call ref", "eval ListComp", "exec Assign cons ListComp"] [] s
theorem off_allLt {d : Addr} : ∀ {l : List (Addr × Obj)}, AllLt d l → OffI d l
  | [], _ => fun q hq => (nomatch hq)
  | p :: r, h => OffI.cons (Nat.ne_of_lt h.1) (off_allLt h.2)
theorem off_drop2 {d : Addr} {p q : Addr × Obj} {r : List (Addr × Obj)} (h : OffI d (p :: q :: r)) : OffI d (p :: r) := .cons h.hd h.tl.tl
def S_law_9 (z : Zx) : Prop :=
  (LawC (z.w) (z.b.loose) (z.b.mean) (z.b.mg) (z.b.mb) (z.b.g) (z.b.L)) →
  (Drawn (z.v.i 0) (z.v.i 1) (z.v.i 2) (z.v.i 3) (z.v.i 4) (z.v.i 5)) →
  ((z.v.o 2).data = .cell (some (.ref (z.v.p 1)))) →
  ((z.v.m 0) (Str.ofString "points") = some (.ref (z.v.p 5))) →
  (Fr (z.b.g) (z.b.L) z.b.h (z.v.m 0)) →
  (News (z.b.g) (z.b.L) z.b.h (((z.v.p 6), listOf (z.v.l 1).toArray (z.v.n 3)) :: ((z.v.p 5), listOf (z.v.a 0) (z.v.n 2)) :: ((z.v.p 3), (z.v.o 0)) :: ((z.v.p 4), listOf (z.v.l 0).toArray (z.v.n 1)) :: ((z.v.p 2), (z.v.o 1)) :: ((z.v.p 1), listOf #[.int (z.v.i 0) (z.v.t 0), .int (z.v.i 1) (z.v.t 1), .int (z.v.i 2) (z.v.t 2), .int (z.v.i 3) (z.v.t 3), .int (z.v.i 4) (z.v.t 4), .int (z.v.i 5) (z.v.t 5)] (z.v.n 0)) :: ((z.b.L) + 5, (z.v.o 6)) :: ((z.b.L) + 4, (z.v.o 5)) :: ((z.b.L) + 3, (z.v.o 4)) :: ((z.b.L) + 2, (z.v.o 3)) :: ((z.b.L) + 1, (z.v.o 2)) :: (158, tabObj (z.v.a 1)) :: (z.v.e 0))) →
  (∀ {Al Du : Addr} {s0 s7 s8 : Tok} {ka kd : Nat} {h' : Heap} {tk' : Nat} {m' : Str → Option Value}, m' (Str.ofString "points") = some (.ref (z.v.p 5)) → m' (Str.ofString "due") = some (.ref Du) → m' (Str.ofString "alone") = some (.ref Al) → OffI Al ((Du, listOf #[.int (crv (z.v.i 0) (z.v.i 1) (z.v.i 2) 0 % 65521) s0, .int (crv (z.v.i 0) (z.v.i 1) (z.v.i 2) 7 % 65521) s7, .int (crv (z.v.i 0) (z.v.i 1) (z.v.i 2) 8 % 65521) s8] kd) :: ((z.v.p 6), listOf (z.v.l 1).toArray (z.v.n 3)) :: ((z.v.p 5), listOf (z.v.a 0) (z.v.n 2)) :: ((z.v.p 3), (z.v.o 0)) :: ((z.v.p 4), listOf (z.v.l 0).toArray (z.v.n 1)) :: ((z.v.p 2), (z.v.o 1)) :: ((z.v.p 1), listOf #[.int (z.v.i 0) (z.v.t 0), .int (z.v.i 1) (z.v.t 1), .int (z.v.i 2) (z.v.t 2), .int (z.v.i 3) (z.v.t 3), .int (z.v.i 4) (z.v.t 4), .int (z.v.i 5) (z.v.t 5)] (z.v.n 0)) :: ((z.b.L) + 5, (z.v.o 6)) :: ((z.b.L) + 4, (z.v.o 5)) :: ((z.b.L) + 3, (z.v.o 4)) :: ((z.b.L) + 2, (z.v.o 3)) :: ((z.b.L) + 1, (z.v.o 2)) :: (158, tabObj (z.v.a 1)) :: (z.v.e 0)) → Fr (z.b.g) (z.b.L) h' m' →
      News (z.b.g) (z.b.L) h' ((Al, listOf #[] ka) :: (Du, listOf #[.int (crv (z.v.i 0) (z.v.i 1) (z.v.i 2) 0 % 65521) s0, .int (crv (z.v.i 0) (z.v.i 1) (z.v.i 2) 7 % 65521) s7, .int (crv (z.v.i 0) (z.v.i 1) (z.v.i 2) 8 % 65521) s8] kd) :: ((z.v.p 6), listOf (z.v.l 1).toArray (z.v.n 3)) :: ((z.v.p 5), listOf (z.v.a 0) (z.v.n 2)) :: ((z.v.p 3), (z.v.o 0)) :: ((z.v.p 4), listOf (z.v.l 0).toArray (z.v.n 1)) :: ((z.v.p 2), (z.v.o 1)) :: ((z.v.p 1), listOf #[.int (z.v.i 0) (z.v.t 0), .int (z.v.i 1) (z.v.t 1), .int (z.v.i 2) (z.v.t 2), .int (z.v.i 3) (z.v.t 3), .int (z.v.i 4) (z.v.t 4), .int (z.v.i 5) (z.v.t 5)] (z.v.n 0)) :: ((z.b.L) + 5, (z.v.o 6)) :: ((z.b.L) + 4, (z.v.o 5)) :: ((z.b.L) + 3, (z.v.o 4)) :: ((z.b.L) + 2, (z.v.o 3)) :: ((z.b.L) + 1, (z.v.o 2)) :: (158, tabObj (z.v.a 1)) :: (z.v.e 0)) → LawAt (z.w) (z.b.L) (z.v.p 0) (z.v.v 0) 15 (z.b.Q) ⟨h', z.b.gn, z.b.dr, tk', z.b.os⟩) →
  LawAt (z.w) (z.b.L) (z.v.p 0) (z.v.v 0) 13 (z.b.Q) (⟨z.b.h, z.b.gn, z.b.dr, z.b.tk, z.b.os⟩ : Shared)
noncomputable def z_law_9 : Zx := eps S_law_9
/-- the law's statements 14 and 15 -/
theorem b_law_9 : S_law_9 z_law_9 := by
  intro H dr c1 g3 F N K
  have F1 := fr_tab F [(Str.ofString "points", .ref (z_law_9.v.p 5))] (List.forall_mem_cons.mpr ⟨g3, List.forall_mem_nil _⟩)
  clear F
  obtain ⟨B, X, T, C, l1⟩ := H
  unfold LawAt lawE lawD dOf
  dsimp only [List.drop]
  revert X; k_fill; intro X
  refine wpC_execs_cons (wpC_of ?_)
  k_steps
  refine Stop.go ?_
  refine Assign_ListComp_N (fun _ => true) (fun v y => ∃ x t t', v = .int x t ∧ y = .int (crv (z_law_9.v.i 0) (z_law_9.v.i 1) (z_law_9.v.i 2) x % 65521) t') rfl (by rfl) F1 (by with_unfolding_all rfl) (by decide) (by rfl) (by decide) (by rfl) (by rfl) (by rfl) ?_
  k_steps
  refine Stop.go ?_
  rename Fr _ _ _ _ => kF
  rename News _ _ _ _ => kN
  refine ⟨_, _, _, ?hn, kF, kN, src_tuple rfl ⟨_, (kN _ (List.Mem.head _)).1, rfl, _, rfl⟩, ?ht, ?he, ?hf⟩
  case hn => show 3 ≤ sizeLine; decide
  case ht =>
    intro C oC i vv s₃ m₃ E' hP ho hm F₃ N₃ hlt
    exact tests_nil (Stop.go ⟨rfl, ⟨s₃.heap, s₃.toks, rfl, fun _ _ e => e⟩⟩)
  case he =>
    intro C oC i vv s₃ m₃ E' hP _ ho hm F₃ N₃ hlt
    have hx : ∃ x t, vv = .int x t ∧ 0 ≤ x ∧ x ≤ 8 := by
      rcases items3 hP with rfl | rfl | rfl <;> exact ⟨_, _, rfl, by decide, by decide⟩
    obtain ⟨x, t, rfl, hx0, hx8⟩ := hx
    clear kF kN
    k_steps
    refine Stop.go ?_
    ((with_reducible show wpAny _ _ (call (Value.ref 144) _) _ _ _); k_dflt (refine' does_curve ?b0 ?b1 _ _ _ _ _ _ _ _ _ _ _ _ _ _ _ _ _ _ _ _ _ _ (by k_asm) (by k_asm) (by k_asm) (by k_asm) (by k_asm) ?kK (List.forall_mem_cons.mpr ⟨by k_mem, List.forall_mem_nil _⟩) ?kd ?ku ?_; (case kK => first | exact rfl | assumption); (case kd => first | decide | ktr_room); (case ku => first | decide | ktr_units); (case b0 => first | decide | omega); (case b1 => first | decide | omega); k_whole); intro v9 tl9 h9 tk9 p9 F9 N9 l9 k9; k_dflt (obtain ⟨e9, t9, f9⟩ := p9); subst e9; subst f9; clear l9; (try simp only [List.nil_append, List.cons_append] at N9); (try k_sweep); (try dsimp only); (try k_fold))
    k_steps
    refine Stop.go ⟨⟨_, _, _, rfl, congrArg (Value.int · _) ?_⟩, keepsOf (by assumption)⟩
    show Int.fmod _ 65521 = crv (z_law_9.v.i 0) (z_law_9.v.i 1) (z_law_9.v.i 2) _ % 65521
    rw [Int.fmod_eq_emod_of_nonneg _ (by decide)]
    rfl
  case hf =>
    intro D' k h₄ tk₄ ys9 vs hl hv hp F₄ N₄ hne
    obtain ⟨y0, y1, y2, rfl, ⟨w0, w1, w2, e0, rfl⟩, ⟨w3, w4, w5, e3, rfl⟩, ⟨w6, w7, w8, e6, rfl⟩⟩ := paired3 hl hv hp
    cases e0; cases e3; cases e6
    clear kF kN hv hp
    refine wpC_execs_cons (wpC_of ?_)
    k_steps
    rename Fr _ _ _ _ => kF
    rename News _ _ _ _ => kN
    rename @LT.lt Nat _ _ _ ∧ _ => hlt
    have hA := off_allLt (l := (D', listOf #[.int (crv (z_law_9.v.i 0) (z_law_9.v.i 1) (z_law_9.v.i 2) 0 % 65521) w2, .int (crv (z_law_9.v.i 0) (z_law_9.v.i 1) (z_law_9.v.i 2) 7 % 65521) w5, .int (crv (z_law_9.v.i 0) (z_law_9.v.i 1) (z_law_9.v.i 2) 8 % 65521) w8] k) :: (_, listOf #[] 0) :: ((z_law_9.v.p 6), listOf (z_law_9.v.l 1).toArray (z_law_9.v.n 3)) :: ((z_law_9.v.p 5), listOf (z_law_9.v.a 0) (z_law_9.v.n 2)) :: ((z_law_9.v.p 3), (z_law_9.v.o 0)) :: ((z_law_9.v.p 4), listOf (z_law_9.v.l 0).toArray (z_law_9.v.n 1)) :: ((z_law_9.v.p 2), (z_law_9.v.o 1)) :: ((z_law_9.v.p 1), listOf #[.int (z_law_9.v.i 0) (z_law_9.v.t 0), .int (z_law_9.v.i 1) (z_law_9.v.t 1), .int (z_law_9.v.i 2) (z_law_9.v.t 2), .int (z_law_9.v.i 3) (z_law_9.v.t 3), .int (z_law_9.v.i 4) (z_law_9.v.t 4), .int (z_law_9.v.i 5) (z_law_9.v.t 5)] (z_law_9.v.n 0)) :: ((z_law_9.b.L) + 5, (z_law_9.v.o 6)) :: ((z_law_9.b.L) + 4, (z_law_9.v.o 5)) :: ((z_law_9.b.L) + 3, (z_law_9.v.o 4)) :: ((z_law_9.b.L) + 2, (z_law_9.v.o 3)) :: ((z_law_9.b.L) + 1, (z_law_9.v.o 2)) :: (158, tabObj (z_law_9.v.a 1)) :: (z_law_9.v.e 0)) hlt
    refine K (ka := 0) ?_ ?_ ?_ (off_drop2 hA) kF (fun q hq => ?_)
    · rfl
    · rfl
    · rfl
    · rcases List.mem_cons.mp hq with rfl | hq
      · exact kN _ (.head _)
      · rcases List.mem_cons.mp hq with rfl | hq
        · exact kN _ (.tail _ (.head _))
        · exact kN _ (.tail _ (.tail _ (.tail _ hq)))
theorem law_9 {w : World} {loose : List Str} {mean : ExcName → Option Value} {mg mb : Str → Option Value} {g : Heap} {L a : Addr} {cd : Value} {m : Str → Option Value} {s : Shared} {Q : Flow → Shared → Prop} (H : LawC w loose mean mg mb g L){D P O Tk Pt G : Addr} {d0 d1 d2 d3 d4 d5 : Int} {u0 u1 u2 u3 u4 u5 : Tok} {n : Nat} {oO oP o1 o2 o3 o4 o5 : Obj} {txs : List Value} {nt kp : Nat} {ys : List Value} {kg : Nat} {its ps : Array Value} {rest : List (Addr × Obj)} (dr : Drawn d0 d1 d2 d3 d4 d5) (c1 : o1.data = .cell (some (.ref D))) (g3 : m (Str.ofString "points") = some (.ref Pt)) (F : Fr g L s.heap m) (N : News g L s.heap ((G, listOf ys.toArray kg) :: (Pt, listOf its kp) :: (O, oO) :: (Tk, listOf txs.toArray nt) :: (P, oP) :: (D, listOf #[.int d0 u0, .int d1 u1, .int d2 u2, .int d3 u3, .int d4 u4, .int d5 u5] n) :: (L + 5, o5) :: (L + 4, o4) :: (L + 3, o3) :: (L + 2, o2) :: (L + 1, o1) :: (158, tabObj ps) :: rest))
    (K : ∀ {Al Du : Addr} {s0 s7 s8 : Tok} {ka kd : Nat} {h' : Heap} {tk' : Nat} {m' : Str → Option Value}, m' (Str.ofString "points") = some (.ref Pt) → m' (Str.ofString "due") = some (.ref Du) → m' (Str.ofString "alone") = some (.ref Al) → OffI Al ((Du, listOf #[.int (crv d0 d1 d2 0 % 65521) s0, .int (crv d0 d1 d2 7 % 65521) s7, .int (crv d0 d1 d2 8 % 65521) s8] kd) :: (G, listOf ys.toArray kg) :: (Pt, listOf its kp) :: (O, oO) :: (Tk, listOf txs.toArray nt) :: (P, oP) :: (D, listOf #[.int d0 u0, .int d1 u1, .int d2 u2, .int d3 u3, .int d4 u4, .int d5 u5] n) :: (L + 5, o5) :: (L + 4, o4) :: (L + 3, o3) :: (L + 2, o2) :: (L + 1, o1) :: (158, tabObj ps) :: rest) → Fr g L h' m' →
      News g L h' ((Al, listOf #[] ka) :: (Du, listOf #[.int (crv d0 d1 d2 0 % 65521) s0, .int (crv d0 d1 d2 7 % 65521) s7, .int (crv d0 d1 d2 8 % 65521) s8] kd) :: (G, listOf ys.toArray kg) :: (Pt, listOf its kp) :: (O, oO) :: (Tk, listOf txs.toArray nt) :: (P, oP) :: (D, listOf #[.int d0 u0, .int d1 u1, .int d2 u2, .int d3 u3, .int d4 u4, .int d5 u5] n) :: (L + 5, o5) :: (L + 4, o4) :: (L + 3, o3) :: (L + 2, o2) :: (L + 1, o1) :: (158, tabObj ps) :: rest) → LawAt w L a cd 15 Q { s with heap := h', toks := tk' }) : LawAt w L a cd 13 Q s :=
  eps_all b_law_9 ⟨w, { loose := loose, mean := mean, mg := mg, mb := mb, g := g, L := L, Q := Q, h := s.heap, gn := s.gens, dr := s.drawn, tk := s.toks, os := s.os }, { p := fun | 0 => a | 1 => D | 2 => P | 3 => O | 4 => Tk | 5 => Pt | _ => G, v := fun | _ => cd, m := fun | _ => m, i := fun | 0 => d0 | 1 => d1 | 2 => d2 | 3 => d3 | 4 => d4 | _ => d5, t := fun | 0 => u0 | 1 => u1 | 2 => u2 | 3 => u3 | 4 => u4 | _ => u5, n := fun | 0 => n | 1 => nt | 2 => kp | _ => kg, o := fun | 0 => oO | 1 => oP | 2 => o1 | 3 => o2 | 4 => o3 | 5 => o4 | _ => o5, l := fun | 0 => txs | _ => ys, a := fun | 0 => its | _ => ps, e := fun | _ => rest }⟩ H dr c1 g3 F N K
end
section
open PySem PySem.W PyProof.Rows PySem.Calls
set_option Elab.async false
set_option maxRecDepth 100000
set_option linter.unusedVariables false
section
variable {prog : Program} {w : World} {A : Around} {E : Value → Shared → Prop} {s : Shared} {env : Env} {h₀ : Heap} {L : Addr} {m : Str → Option Value} {news : List (Addr × Obj)} {P : Nat → Value} {elt i0 i1 i2 : Expr} {x0 x1 x2 : Str} {p0 p1 p2 : Pos} {scope : Scope} {pos : Pos} {cl : List (Str × Addr)}

theorem ListComp3_N {Q : Value → Shared → Prop} (F : Fr h₀ L s.heap m) (N : News h₀ L s.heap news)
    (hclos : closureFor scope env = pure cl) (hcell : ∀ y ∈ scope.names, y.2 ≠ .cell) (hkind : scope.kind = .function) (hnames : ∀ y ∈ scope.names, y.2 = .local → scope.names.lookup y.1 = some .local)
    (T : ∀ C, ThreeEnv prog w A (compEnvC scope cl C env) C h₀ L m news P elt i1 i2 x0 x1 x2 s)
    (h : wpAny (model prog w) A (eval i0 env) (fun xv s' => Stop (∃ r t u v, xv = .ref r ∧ IsRange s'.heap r 0 5 1 t u v ∧ Keeps s s')) E s)
    (hs : ∀ x, foldedSetIterable i0 env x = pure x)
    (fin : ∀ D k ls h' tk', Made P (T0 5) ls → OffI D (ls ++ news) → (∀ q ∈ ls, OffI q.1 news) → Fr h₀ L h' m → News h₀ L h' ((D, listOf (List.toArray (ls.map fun q => Value.ref q.1)) k) :: (ls ++ news)) → Q (.ref D) { s with heap := h', toks := tk' }) :
    wpAny (model prog w) A (eval (e3 elt i0 i1 i2 x0 x1 x2 p0 p1 p2 scope pos) env) Q E s := by
  rw [eval_ListComp]
  refine wpAny_comprehension_free (use := none) rfl hs hclos hkind hnames (wpAny_mono h (fun xv s₁ h₁ => ?_) fun _ _ e => e)
  obtain ⟨r, ta, tb, tc, rfl, hr, h₁, tk₁, rfl, hk⟩ := h₁
  have F₁ := F.keeps hk
  have N₁ := N.grown hk
  refine wpAny_pyIter_range hr rfl ?_
  refine wpAny_newObj_type (wpAny_newFunctionEnv hcell (by intro y hy; simp at hy) (fun h₃ hns hsb => ?_) hkind)
  dsimp only at hns hsb ⊢
  have hX : h₁.push { cls := .type "range_iterator", data := .fields #[rawInt 0, rawInt (Builtin.Range.rangeSize 0 5 1), rawInt 1] } = h₁.push (rangeIt 0 5) := rfl
  rw [hX] at hns hsb ⊢
  have F₂ := F₁.push (rangeIt 0 5)
  have N₂ := News.push F₁ N₁ (rangeIt 0 5)
  have F₃ := F₂.push (listOf #[] 0)
  have N₃ := News.push F₂ N₂ (listOf #[] 0)
  have hY : (h₁.push (rangeIt 0 5)).push { cls := .type "list", dict := none, data := .seq ([] : List Value).toArray } = (h₁.push (rangeIt 0 5)).push (listOf #[] 0) := rfl
  rw [hY] at hns hsb ⊢
  have oD : OffI (h₁.push (rangeIt 0 5)).objs.size ((h₁.objs.size, rangeIt 0 5) :: news) := fun z hz => Nat.ne_of_lt (Heap.lt_size (N₂ z hz).1)
  have oI : OffI h₁.objs.size news := fun z hz => Nat.ne_of_lt (Heap.lt_size (N₁ z hz).1)
  generalize h₁.objs.size = IT at N₂ N₃ oD oI ⊢
  have oC := fun z hz => Nat.ne_of_lt (Heap.lt_size (N₃ z hz).1)
  have hLt := F₃.ns.lt
  have hge := F₃.above
  generalize (h₁.push (rangeIt 0 5)).objs.size = D at N₃ oD oC ⊢
  have oC : OffI ((h₁.push (rangeIt 0 5)).push (listOf #[] 0)).objs.size ((D, listOf #[] 0) :: (IT, rangeIt 0 5) :: news) := oC
  generalize hH : (h₁.push (rangeIt 0 5)).push (listOf #[] 0) = H at *
  obtain ⟨oC3, hoC3, hN3⟩ := LCg.ns_obj hns
  have hCL : H.objs.size ≠ L := Nat.ne_of_gt hLt
  have hC0 : h₀.get? H.objs.size = none := Heap.get?_none_of_le (Nat.le_trans hge (Nat.le_of_lt hLt))
  have F₄ : Fr h₀ L h₃ m := (F₃.push _).change hsb hCL hC0
  have N₄ : News h₀ L h₃ ((IT, rangeIt 0 5) :: (H.objs.size, oC3) :: (D, listOf #[] 0) :: news) := fun z hz => by
    have old : ∀ z ∈ (D, listOf #[] 0) :: (IT, rangeIt 0 5) :: news, h₃.get? z.1 = some z.2 ∧ z.1 ≠ L ∧ h₀.get? z.1 = none := fun z hz => ⟨hsb.extBut _ _ (oC z hz) (Heap.get?_push_of_some _ (N₃ z hz).1), (N₃ z hz).2⟩
    rcases List.mem_cons.mp hz with rfl | hz
    · exact old _ (.tail _ (.head _))
    · rcases List.mem_cons.mp hz with rfl | hz
      · exact ⟨hoC3, hCL, hC0⟩
      · rcases List.mem_cons.mp hz with rfl | hz
        · exact old _ (.head _)
        · exact old _ (.tail _ (.tail _ hz))
  refine lev0 (s := s) (h := h₃) (rest := news) (base := news) (news := (H.objs.size, oC3) :: (D, listOf #[] 0) :: ([] ++ news)) (T H.objs.size) (fun z hz => hz) F₄ N₄ (OffI.cons oC.tl.hd.symm (OffI.cons oD.hd.symm oI)) ⟨oC3, _, [], 0, rfl, hN3, True.intro, .nil, OffI.cons oC.hd oC.tl.tl, oD.tl, fun _ h => nomatch h⟩ ?_
  rintro h' tk' _ ⟨oC', mC', ls, k, rfl, ho', _, hM, oC1, oD1, oL1⟩ F' N'
  refine ⟨mC', ho'.ns (N' _ (.head _)).1, fun h'' hs'' => ?_⟩
  refine fin D k ls h'' tk' hM oD1 oL1 (F'.change hs'' hCL hC0) fun z hz => ?_
  exact ⟨hs''.extBut _ _ (oC1.same z hz) (N' z (.tail _ hz)).1, (N' z (.tail _ hz)).2⟩
end
end
section
open PySem PySem.W PyProof.Rows PySem.Calls
set_option Elab.async false
set_option maxRecDepth 100000
set_option linter.unusedVariables false
section
variable {prog : Program} {w : World} {A : Around} {E : Value → Shared → Prop} {s : Shared} {env : Env} {h₀ : Heap} {L : Addr} {m : Str → Option Value}
def lstIt (ax : Addr) : Obj := { cls := .type "list_iterator", data := .fields #[.ref ax, .int 0 0] }
abbrev firsts (fst : Nat → Value) (p : Value → Bool) (i : Nat) : List Value := ((List.range i).map fst).filter p
theorem firsts_succ {fst : Nat → Value} {p : Value → Bool} {i : Nat} : firsts fst p (i + 1) = firsts fst p i ++ (if p (fst i) = true then [fst i] else []) := by
  unfold firsts
  rw [List.range_succ, List.map_append, List.filter_append, List.map_singleton]
  congr 1
  rw [List.filter_cons, List.filter_nil]
theorem firsts_len {fst : Nat → Value} {p : Value → Bool} {i : Nat} : (firsts fst p i).length ≤ i := by
  refine Nat.le_trans (List.length_filter_le _ _) ?_
  rw [List.length_map, List.length_range]
  exact Nat.le_refl _
def S_pair_loop (Z9 : Yx) : Prop :=
  ((Z9.A 0).handled = none) →
  ((Z9.sc 0).kind = .function) →
  ((Z9.sc 0).names.lookup (Z9.x 0) = some .local) →
  ((Z9.sc 0).names.lookup (Z9.x 1) = some .local) →
  ((Z9.x 0) ≠ (Z9.x 1)) →
  ((Z9.vs 0).size ≤ sizeLine) →
  (((Z9.a 1), listOf (Z9.vs 0) (Z9.n 1)) ∈ (Z9.ns 0)) →
  ((Z9.a 1) ≠ (Z9.a 2)) →
  (∀ i, i < (Z9.vs 0).size → ∃ t v₂, (Z9.vs 0)[i]? = some (.ref t) ∧ (t, kdv_tup [(Z9.fv 0) i, v₂]) ∈ (Z9.ns 0)) →
  (∀ i v₂ C oC s₃ m₃ (E' : Value → Shared → Prop), i < (Z9.vs 0).size → LCg.NsObj oC m₃ → m₃ (Z9.x 0) = some ((Z9.fv 0) i) → m₃ (Z9.x 1) = some v₂ → Fr (Z9.h 0) (Z9.a 0) s₃.heap (Z9.m 0) → News (Z9.h 0) (Z9.a 0) s₃.heap ((C, oC) :: (Z9.ns 0)) → wpAny (model (Z9.pg 0) (Z9.w 0)) (Z9.A 0) (isTrue (Z9.e 1) (compEnvC (Z9.sc 0) (Z9.cl 0) C (Z9.en 0)) (eval (Z9.e 1) (compEnvC (Z9.sc 0) (Z9.cl 0) C (Z9.en 0)))) (fun ok s₄ => Stop (ok = (Z9.pv 0) ((Z9.fv 0) i) ∧ Keeps s₃ s₄)) E' s₃) →
  (∀ i v₂ C oC s₃ m₃ (E' : Value → Shared → Prop), i < (Z9.vs 0).size → LCg.NsObj oC m₃ → m₃ (Z9.x 0) = some ((Z9.fv 0) i) → m₃ (Z9.x 1) = some v₂ → Fr (Z9.h 0) (Z9.a 0) s₃.heap (Z9.m 0) → News (Z9.h 0) (Z9.a 0) s₃.heap ((C, oC) :: (Z9.ns 0)) → wpAny (model (Z9.pg 0) (Z9.w 0)) (Z9.A 0) (eval (Z9.e 0) (compEnvC (Z9.sc 0) (Z9.cl 0) C (Z9.en 0))) (fun z s₄ => Stop (z = (Z9.fv 0) i ∧ Keeps s₃ s₄)) E' s₃) →
  (OffI (Z9.a 2) (((Z9.a 3), (Z9.o 0)) :: ((Z9.a 4), listOf #[] 0) :: (Z9.ns 0))) →
  (OffI (Z9.a 3) (((Z9.a 4), listOf #[] 0) :: (Z9.ns 0))) →
  (OffI (Z9.a 4) (Z9.ns 0)) →
  ((Z9.a 2) ≠ (Z9.a 0) ∧ (Z9.h 0).get? (Z9.a 2) = none) →
  (Fr (Z9.h 0) (Z9.a 0) (Z9.h 1) (Z9.m 0)) →
  (News (Z9.h 0) (Z9.a 0) (Z9.h 1) (((Z9.a 2), lstIt (Z9.a 1)) :: ((Z9.a 3), (Z9.o 0)) :: ((Z9.a 4), listOf #[] 0) :: (Z9.ns 0))) →
  (LCg.NsObj (Z9.o 0) (Z9.m 1)) →
  codeAny (model (Z9.pg 0) (Z9.w 0)) (Z9.A 0) (.compLoop (.ListComp (Z9.e 0) [⟨.Tuple [.Name (Z9.x 0) (Z9.po 0), .Name (Z9.x 1) (Z9.po 1)] (Z9.n 0) (Z9.po 2), (Z9.e 2), [(Z9.e 1)], 0⟩] (Z9.sc 0) (Z9.po 3)) 0 (.ref (Z9.a 2)) (.ref (Z9.a 4)) (compEnvC (Z9.sc 0) (Z9.cl 0) (Z9.a 3) (Z9.en 0))) (fun r s' => r = .ok .next ∧ ∃ h' tk' k oC mC, s' = { (Z9.s 0) with heap := h', toks := tk' } ∧ Fr (Z9.h 0) (Z9.a 0) h' (Z9.m 0) ∧ News (Z9.h 0) (Z9.a 0) h' (((Z9.a 3), oC) :: ((Z9.a 4), listOf (firsts (Z9.fv 0) (Z9.pv 0) (Z9.vs 0).size).toArray k) :: (Z9.ns 0)) ∧ LCg.NsObj oC mC) { (Z9.s 0) with heap := (Z9.h 1), toks := (Z9.n 2) }
noncomputable def z_pair_loop : Yx := epsY S_pair_loop
theorem b_pair_loop : S_pair_loop z_pair_loop := by
  intro hh hkind hx hx₂ hxx hsz hax haI hits htest helt oIN oCN oDN hIL F₄ N₄ hN3
  have W := Walks.list (prog := (z_pair_loop.pg 0)) (w := (z_pair_loop.w 0)) (A := (z_pair_loop.A 0)) hh (z_pair_loop.a 2) (z_pair_loop.a 1) haI (z_pair_loop.vs 0)
  have st : ∀ {i : Nat} {h h' : Heap} {oI oC oD : Obj}, h.get? (z_pair_loop.a 2) = some oI → (h.IsListIter (z_pair_loop.a 2) (z_pair_loop.a 1) i ∧ h.IsList (z_pair_loop.a 1) (z_pair_loop.vs 0)) → News (z_pair_loop.h 0) (z_pair_loop.a 0) h' (((z_pair_loop.a 2), oI) :: ((z_pair_loop.a 3), oC) :: ((z_pair_loop.a 4), oD) :: (z_pair_loop.ns 0)) → h'.IsListIter (z_pair_loop.a 2) (z_pair_loop.a 1) i ∧ h'.IsList (z_pair_loop.a 1) (z_pair_loop.vs 0) := fun {i h h' oI oC oD} e hS N' => by
    obtain ⟨⟨o, ho, h1, h2⟩, _⟩ := hS
    rw [e] at ho
    cases ho
    exact ⟨⟨oI, (N' _ (.head _)).1, h1, h2⟩, ⟨_, (N' ((z_pair_loop.a 1), listOf (z_pair_loop.vs 0) (z_pair_loop.n 1)) (.tail _ (.tail _ (.tail _ hax)))).1, rfl, (z_pair_loop.n 1), rfl⟩⟩
  refine kct_loop (fun k s' => ∃ i h tk oI oC mC kd, s' = { (z_pair_loop.s 0) with heap := h, toks := tk } ∧ i ≤ (z_pair_loop.vs 0).size ∧ k = (z_pair_loop.vs 0).size + 1 - i ∧ Fr (z_pair_loop.h 0) (z_pair_loop.a 0) h (z_pair_loop.m 0) ∧ News (z_pair_loop.h 0) (z_pair_loop.a 0) h (((z_pair_loop.a 2), oI) :: ((z_pair_loop.a 3), oC) :: ((z_pair_loop.a 4), listOf (firsts (z_pair_loop.fv 0) (z_pair_loop.pv 0) i).toArray kd) :: (z_pair_loop.ns 0)) ∧ LCg.NsObj oC mC ∧ h.IsListIter (z_pair_loop.a 2) (z_pair_loop.a 1) i ∧ h.IsList (z_pair_loop.a 1) (z_pair_loop.vs 0)) ?_ ((z_pair_loop.vs 0).size + 1)
    ⟨0, (z_pair_loop.h 1), _, lstIt (z_pair_loop.a 1), (z_pair_loop.o 0), _, 0, rfl, Nat.zero_le _, rfl, F₄, N₄, hN3, ⟨_, (N₄ _ (.head _)).1, rfl, rfl⟩, ⟨_, (N₄ ((z_pair_loop.a 1), listOf (z_pair_loop.vs 0) (z_pair_loop.n 1)) (.tail _ (.tail _ (.tail _ hax)))).1, rfl, (z_pair_loop.n 1), rfl⟩⟩
  rintro k s' ⟨i, h, tk, oI, oC, mC, kd, rfl, hi, rfl, Fx, Nx, hNC, hS⟩
  have oIx : OffI (z_pair_loop.a 2) (((z_pair_loop.a 3), oC) :: ((z_pair_loop.a 4), listOf (firsts (z_pair_loop.fv 0) (z_pair_loop.pv 0) i).toArray kd) :: (z_pair_loop.ns 0)) := fun z hz => by
    rcases List.mem_cons.mp hz with rfl | hz
    · exact oIN.hd
    · rcases List.mem_cons.mp hz with rfl | hz
      · exact oIN.tl.hd
      · exact oIN.tl.tl z hz
  by_cases hlt : i < (z_pair_loop.vs 0).size
  · refine W.item i _ _ _ hlt hS fun v h₂ tk₂ hP hS₂ hk₂ => ?_
    obtain ⟨t, v₂, hit, hmt⟩ := hits i hlt
    rw [hit] at hP
    cases hP
    have Fy := kmb_fr Fx hk₂ hIL.1 hIL.2
    have Ny := kmb_news (fun q hq => Nx q (.tail _ hq)) hk₂ oIx
    obtain ⟨oI2, hoI2, c1, c2⟩ := hS₂.1
    have ht : IsTup h₂ t #[(z_pair_loop.fv 0) i, v₂] := ⟨_, (Ny _ (.tail _ (.tail _ hmt))).1, rfl, _, rfl⟩
    refine wpAny_letOwnedTupleGo_listiter hS₂.1 ?_
    refine assign_Tuple_tuple hh ht rfl rfl fun h₅ he => ?_
    have hk5 : ∀ b o, h₂.get? b = some o → h₅.get? b = some o := fun b o e => he b o (Nat.ne_of_lt (Heap.lt_size e)) e
    have F5 := Fy.keeps hk5
    have N5 : News (z_pair_loop.h 0) (z_pair_loop.a 0) h₅ (((z_pair_loop.a 3), oC) :: ((z_pair_loop.a 2), oI2) :: ((z_pair_loop.a 4), listOf (firsts (z_pair_loop.fv 0) (z_pair_loop.pv 0) i).toArray kd) :: (z_pair_loop.ns 0)) := fun z hz => by
      rcases List.mem_cons.mp hz with rfl | hz
      · exact ⟨hk5 _ _ (Ny _ (.head _)).1, (Ny _ (.head _)).2⟩
      · rcases List.mem_cons.mp hz with rfl | hz
        · exact ⟨hk5 _ _ hoI2, hIL⟩
        · exact ⟨hk5 _ _ (Ny _ (.tail _ hz)).1, (Ny _ (.tail _ hz)).2⟩
    have oC5 : OffI (z_pair_loop.a 3) (((z_pair_loop.a 2), oI2) :: ((z_pair_loop.a 4), listOf (firsts (z_pair_loop.fv 0) (z_pair_loop.pv 0) i).toArray kd) :: (z_pair_loop.ns 0)) := OffI.cons oIN.hd.symm (OffI.cons oCN.hd oCN.tl)
    refine assignInOrder_cons (assign_C rfl (lookup_relabel_local hx) (by simp [compEnvC, relabel, hkind]) F5 N5 oC5 hNC fun h₆ oC6 mC6 ho6 hx6 hy6 F6 N6 => ?_)
    refine assignInOrder_cons (assign_C rfl (lookup_relabel_local hx₂) (by simp [compEnvC, relabel, hkind]) F6 N6 oC5 ho6 fun h₇ oC7 mC7 ho7 hx7 hy7 F7 N7 => ?_)
    refine assignInOrder_nil ?_
    have e7 : mC7 (z_pair_loop.x 0) = some ((z_pair_loop.fv 0) i) := (hy7 _ hxx).trans hx6
    have sub : ∀ {h : Heap}, News (z_pair_loop.h 0) (z_pair_loop.a 0) h (((z_pair_loop.a 3), oC7) :: ((z_pair_loop.a 2), oI2) :: ((z_pair_loop.a 4), listOf (firsts (z_pair_loop.fv 0) (z_pair_loop.pv 0) i).toArray kd) :: (z_pair_loop.ns 0)) → News (z_pair_loop.h 0) (z_pair_loop.a 0) h (((z_pair_loop.a 3), oC7) :: (z_pair_loop.ns 0)) := fun N' z hz => by
      rcases List.mem_cons.mp hz with rfl | hz
      · exact N' _ (.head _)
      · exact N' _ (.tail _ (.tail _ (.tail _ hz)))
    refine wpAny_mono (htest i v₂ (z_pair_loop.a 3) oC7 _ mC7 _ hlt ho7 e7 hx7 F7 (sub N7)) (fun ok s₃ h₃' => ?_) fun _ _ e => e
    obtain ⟨rfl, h8, tk8, rfl, hk8⟩ := h₃'
    have F8 := F7.keeps hk8
    have N8 := News.grown N7 hk8
    by_cases hpv : (z_pair_loop.pv 0) ((z_pair_loop.fv 0) i) = true
    · rw [if_pos hpv]
      refine wpAny_mono (helt i v₂ (z_pair_loop.a 3) oC7 _ mC7 _ hlt ho7 e7 hx7 F8 (sub N8)) (fun z s₄ h₄ => ?_) fun _ _ e => e
      obtain ⟨rfl, h9, tk9, rfl, hk9⟩ := h₄
      have F9 := F8.keeps hk9
      have N9 := News.grown N8 hk9
      refine append_U F9 N9 (UpdF.tail oCN.hd.symm (UpdF.tail oIN.tl.hd.symm (UpdF.head oDN))) (fun h10 F10 N10 => ?_) ?_
      · have N11 : News (z_pair_loop.h 0) (z_pair_loop.a 0) h10 (((z_pair_loop.a 2), oI2) :: ((z_pair_loop.a 3), oC7) :: ((z_pair_loop.a 4), listOf (firsts (z_pair_loop.fv 0) (z_pair_loop.pv 0) (i + 1)).toArray (kd + 1)) :: (z_pair_loop.ns 0)) := fun z hz => by
          rw [firsts_succ, if_pos hpv, ← push_snoc] at hz
          exact N10 z (mem_swap hz)
        exact ⟨(z_pair_loop.vs 0).size + 1 - (i + 1), by omega, i + 1, h10, _, oI2, oC7, mC7, kd + 1, rfl, hlt, rfl, F10, N11, ho7, st hoI2 hS₂ N11⟩
      · have := firsts_len (fst := (z_pair_loop.fv 0)) (p := (z_pair_loop.pv 0)) (i := i)
        rw [List.size_toArray]
        omega
    · rw [if_neg hpv]
      have N11 : News (z_pair_loop.h 0) (z_pair_loop.a 0) h8 (((z_pair_loop.a 2), oI2) :: ((z_pair_loop.a 3), oC7) :: ((z_pair_loop.a 4), listOf (firsts (z_pair_loop.fv 0) (z_pair_loop.pv 0) (i + 1)).toArray kd) :: (z_pair_loop.ns 0)) := fun z hz => by
        rw [firsts_succ, if_neg hpv, List.append_nil] at hz
        exact N8 z (mem_swap hz)
      exact ⟨(z_pair_loop.vs 0).size + 1 - (i + 1), by omega, i + 1, h8, _, oI2, oC7, mC7, kd, rfl, hlt, rfl, F8, N11, ho7, st hoI2 hS₂ N11⟩
  · obtain rfl : i = (z_pair_loop.vs 0).size := Nat.le_antisymm hi (Nat.not_lt.mp hlt)
    refine W.done _ _ _ hS fun h₂ tk₂ hk₂ => ?_
    exact ⟨rfl, h₂, tk₂, kd, oC, mC, rfl, kmb_fr Fx hk₂ hIL.1 hIL.2, kmb_news (fun q hq => Nx q (.tail _ hq)) hk₂ oIx, hNC⟩
theorem pair_loop {prog : Program} {w : World} {A : Around} {s : Shared} {env : Env} {hB : Heap} {h3 : Heap} {L : Addr} {ax : Addr} {IT : Addr} {C : Addr} {D : Addr} {m : Str → Option Value} {mC3 : Str → Option Value} {scope : Scope} {cl : List (Str × Addr)} {elt : Expr} {c : Expr} {iter : Expr} {x : Str} {x2 : Str} {px : Pos} {px2 : Pos} {tp : Pos} {pos : Pos} {kk : Nat} {kx : Nat} {tk : Nat} {p : Value → Bool} {fst : Nat → Value} {its : Array Value} {news : List (Addr × Obj)} {oC3 : Obj} (hh : A.handled = none) (hkind : scope.kind = .function) (hx : scope.names.lookup x = some .local) (hx₂ : scope.names.lookup x2 = some .local) (hxx : x ≠ x2) (hsz : its.size ≤ sizeLine) (hax : (ax, listOf its kx) ∈ news) (haI : ax ≠ IT) (hits : ∀ i, i < its.size → ∃ t v₂, its[i]? = some (.ref t) ∧ (t, kdv_tup [fst i, v₂]) ∈ news) (htest : ∀ i v₂ C oC s₃ m₃ (E' : Value → Shared → Prop), i < its.size → LCg.NsObj oC m₃ → m₃ x = some (fst i) → m₃ x2 = some v₂ → Fr hB L s₃.heap m → News hB L s₃.heap ((C, oC) :: news) → wpAny (model prog w) A (isTrue c (compEnvC scope cl C env) (eval c (compEnvC scope cl C env))) (fun ok s₄ => Stop (ok = p (fst i) ∧ Keeps s₃ s₄)) E' s₃) (helt : ∀ i v₂ C oC s₃ m₃ (E' : Value → Shared → Prop), i < its.size → LCg.NsObj oC m₃ → m₃ x = some (fst i) → m₃ x2 = some v₂ → Fr hB L s₃.heap m → News hB L s₃.heap ((C, oC) :: news) → wpAny (model prog w) A (eval elt (compEnvC scope cl C env)) (fun z s₄ => Stop (z = fst i ∧ Keeps s₃ s₄)) E' s₃) (oIN : OffI IT ((C, oC3) :: (D, listOf #[] 0) :: news)) (oCN : OffI C ((D, listOf #[] 0) :: news)) (oDN : OffI D news) (hIL : IT ≠ L ∧ hB.get? IT = none) (F₄ : Fr hB L h3 m) (N₄ : News hB L h3 ((IT, lstIt ax) :: (C, oC3) :: (D, listOf #[] 0) :: news)) (hN3 : LCg.NsObj oC3 mC3) :
    codeAny (model prog w) A (.compLoop (.ListComp elt [⟨.Tuple [.Name x px, .Name x2 px2] kk tp, iter, [c], 0⟩] scope pos) 0 (.ref IT) (.ref D) (compEnvC scope cl C env)) (fun r s' => r = .ok .next ∧ ∃ h' tk' k oC mC, s' = { s with heap := h', toks := tk' } ∧ Fr hB L h' m ∧ News hB L h' ((C, oC) :: (D, listOf (firsts fst p its.size).toArray k) :: news) ∧ LCg.NsObj oC mC) { s with heap := h3, toks := tk } :=
  epsY_all b_pair_loop { pg := fun | _ => prog, w := fun | _ => w, A := fun | _ => A, s := fun | _ => s, en := fun | _ => env, h := fun | 0 => hB | _ => h3, a := fun | 0 => L | 1 => ax | 2 => IT | 3 => C | _ => D, m := fun | 0 => m | _ => mC3, sc := fun | _ => scope, cl := fun | _ => cl, e := fun | 0 => elt | 1 => c | _ => iter, x := fun | 0 => x | _ => x2, po := fun | 0 => px | 1 => px2 | 2 => tp | _ => pos, n := fun | 0 => kk | 1 => kx | _ => tk, pv := fun | _ => p, fv := fun | _ => fst, vs := fun | _ => its, ns := fun | _ => news, o := fun | _ => oC3 } hh hkind hx hx₂ hxx hsz hax haI hits htest helt oIN oCN oDN hIL F₄ N₄ hN3
/-- y = [elt for x, x2 in pairs if c] -/
theorem Assign_PairTest {iter c elt : Expr} {x x₂ y : Str} {px px₂ tp py : Pos} {kk : Nat} {scope : Scope} {cl : List (Str × Addr)} {pos spos : Pos} {Q : Flow → Shared → Prop} (p : Value → Bool) (fst : Nat → Value) (F₀ : Fr h₀ L s.heap m) (hLe : env.locals = L)
    (hsw : swapsWith (.ListComp elt [⟨.Tuple [.Name x px, .Name x₂ px₂] kk tp, iter, [c], 0⟩] scope pos) (some (.Name y py)) spos.line env = pure true)
    (hclos : closureFor scope env = pure cl) (hcell : ∀ z ∈ scope.names, z.2 ≠ .cell) (hkind : scope.kind = .function)
    (hnames : ∀ z ∈ scope.names, z.2 = .local → scope.names.lookup z.1 = some .local) (hx : scope.names.lookup x = some .local) (hx₂ : scope.names.lookup x₂ = some .local) (hxx : x ≠ x₂)
    (hy : env.kindOf y = some .local) (hp : (env.scope.kind == .class || (env.scope.kind == .module && env.locals != env.globals)) = false) (hh : A.handled = none)
    (h : wpAny (model prog w) A (eval iter env) (fun xv s₁ => Stop (∃ ax its kx news, xv = .ref ax ∧ Fr h₀ L s₁.heap m ∧ News h₀ L s₁.heap news ∧ (ax, listOf its kx) ∈ news ∧ its.size ≤ sizeLine ∧
      (∀ i, i < its.size → ∃ t v₂, its[i]? = some (.ref t) ∧ (t, kdv_tup [fst i, v₂]) ∈ news) ∧
      (∀ i v₂ C oC s₃ m₃ (E' : Value → Shared → Prop), i < its.size → LCg.NsObj oC m₃ → m₃ x = some (fst i) → m₃ x₂ = some v₂ → Fr h₀ L s₃.heap m → News h₀ L s₃.heap ((C, oC) :: news) →
        wpAny (model prog w) A (isTrue c (compEnvC scope cl C env) (eval c (compEnvC scope cl C env))) (fun ok s₄ => Stop (ok = p (fst i) ∧ Keeps s₃ s₄)) E' s₃) ∧
      (∀ i v₂ C oC s₃ m₃ (E' : Value → Shared → Prop), i < its.size → LCg.NsObj oC m₃ → m₃ x = some (fst i) → m₃ x₂ = some v₂ → Fr h₀ L s₃.heap m → News h₀ L s₃.heap ((C, oC) :: news) →
        wpAny (model prog w) A (eval elt (compEnvC scope cl C env)) (fun z s₄ => Stop (z = fst i ∧ Keeps s₃ s₄)) E' s₃) ∧
      (∀ D k h' tk, Fr h₀ L h' (fun z => if z = y then some (.ref D) else m z) → News h₀ L h' ((D, listOf (firsts fst p its.size).toArray k) :: news) → (∀ q ∈ news, (q.1 : Nat) ≠ D) →
        Q .next { s₁ with heap := h', toks := tk }))) E s)
    (hs : ∀ x, foldedSetIterable iter env x = pure x := by intro _; rfl) :
    wpAny (model prog w) A (exec (.Assign [.Name y py] (.ListComp elt [⟨.Tuple [.Name x px, .Name x₂ px₂] kk tp, iter, [c], 0⟩] scope pos) spos) env) Q E s := by
  subst hLe
  rw [exec_Assign_Name_used _ _ _ _ hsw]
  refine wpAny_bind (wpAny_standAt (wpAny_bind ?_))
  show wpAny _ A (do let _ ← comprehension (.ListComp elt [⟨.Tuple [.Name x px, .Name x₂ px₂] kk tp, iter, [c], 0⟩] scope pos) scope env _ (newList []) false (eval iter env) (some (assign (.Name y py) env))) _ _ s
  refine wpAny_bind (wpAny_mono (wpAny_comprehension_free (use := some (assign (.Name y py) env)) (Q := fun _ s' => Q .next s') rfl hs hclos hkind hnames
    (wpAny_mono h (fun xv s₁ h₁ => ?_) fun _ _ e => e)) (fun _ s' hq => wpAny_pure (wpAny_pure hq)) fun _ _ e => e)
  obtain ⟨ax, its, kx, news, rfl, F, N, hax, hsz, hits, htest, helt, hfin⟩ := h₁
  clear F₀
  generalize hLL : env.locals = L at *
  have hl : s₁.heap.IsList ax its := ⟨_, (N _ hax).1, rfl, kx, rfl⟩
  have haI : ax ≠ s₁.heap.objs.size := Nat.ne_of_lt (Heap.lt_size (N _ hax).1)
  refine wpAny_pyIter_list hl ?_
  refine wpAny_newObj_type (wpAny_newFunctionEnv hcell (by intro y hy; simp at hy) (fun h₃ hns hsb => ?_) hkind)
  dsimp only at hns hsb ⊢
  have hX : s₁.heap.push { cls := .type "list_iterator", data := .fields #[.ref ax, .int 0 0] } = s₁.heap.push (lstIt ax) := rfl
  rw [hX] at hns hsb ⊢
  have F₂ := F.push (lstIt ax)
  have N₂ := News.push F N (lstIt ax)
  have F₃ := F₂.push (listOf #[] 0)
  have N₃ := News.push F₂ N₂ (listOf #[] 0)
  have hY : (s₁.heap.push (lstIt ax)).push { cls := .type "list", dict := none, data := .seq ([] : List Value).toArray } = (s₁.heap.push (lstIt ax)).push (listOf #[] 0) := rfl
  rw [hY] at hns hsb ⊢
  have oD : OffI (s₁.heap.push (lstIt ax)).objs.size ((s₁.heap.objs.size, lstIt ax) :: news) := fun z hz => Nat.ne_of_lt (Heap.lt_size (N₂ z hz).1)
  have oI : OffI s₁.heap.objs.size news := fun z hz => Nat.ne_of_lt (Heap.lt_size (N z hz).1)
  generalize s₁.heap.objs.size = IT at N₂ N₃ oD oI haI ⊢
  have oC := fun z hz => Nat.ne_of_lt (Heap.lt_size (N₃ z hz).1)
  have hLt := F₃.ns.lt
  have hge := F₃.above
  generalize (s₁.heap.push (lstIt ax)).objs.size = D at N₃ oD oC ⊢
  have oC : OffI ((s₁.heap.push (lstIt ax)).push (listOf #[] 0)).objs.size ((D, listOf #[] 0) :: (IT, lstIt ax) :: news) := oC
  generalize hH : (s₁.heap.push (lstIt ax)).push (listOf #[] 0) = H at *
  obtain ⟨oC3, hoC3, hN3⟩ := LCg.ns_obj hns
  have hCL : H.objs.size ≠ L := Nat.ne_of_gt hLt
  have hC0 : h₀.get? H.objs.size = none := Heap.get?_none_of_le (Nat.le_trans hge (Nat.le_of_lt hLt))
  have F₄ : Fr h₀ L h₃ m := (F₃.push _).change hsb hCL hC0
  have N₄ : News h₀ L h₃ ((IT, lstIt ax) :: (H.objs.size, oC3) :: (D, listOf #[] 0) :: news) := fun z hz => by
    have old : ∀ z ∈ (D, listOf #[] 0) :: (IT, lstIt ax) :: news, h₃.get? z.1 = some z.2 ∧ z.1 ≠ L ∧ h₀.get? z.1 = none := fun z hz => ⟨hsb.extBut _ _ (oC z hz) (Heap.get?_push_of_some _ (N₃ z hz).1), (N₃ z hz).2⟩
    rcases List.mem_cons.mp hz with rfl | hz
    · exact old _ (.tail _ (.head _))
    · rcases List.mem_cons.mp hz with rfl | hz
      · exact ⟨hoC3, hCL, hC0⟩
      · rcases List.mem_cons.mp hz with rfl | hz
        · exact old _ (.head _)
        · exact old _ (.tail _ (.tail _ hz))
  have oIN : OffI IT ((H.objs.size, oC3) :: (D, listOf #[] 0) :: news) := OffI.cons oC.tl.hd.symm (OffI.cons oD.hd.symm oI)
  have oCN : OffI H.objs.size ((D, listOf #[] 0) :: news) := OffI.cons oC.hd oC.tl.tl
  have oDN : OffI D news := oD.tl
  have hIL := (N₄ (IT, lstIt ax) (.head _)).2
  have hDL := (N₄ (D, listOf #[] 0) (.tail _ (.tail _ (.head _)))).2
  clear oC oD oI N₂ N₃ F₂ F₃ hX hY hns hsb hLt hge hH
  generalize H.objs.size = C at *
  have loop := pair_loop (w := w) (prog := prog) (kk := kk) (tp := tp) (pos := pos) (px := px) (px2 := px₂) (iter := iter) (cl := cl) (s := s₁) (env := env) (tk := s₁.toks + ([] : List (Str × Value)).length) hh hkind hx hx₂ hxx hsz hax haI hits htest helt oIN oCN oDN hIL F₄ N₄ hN3
  have W := Walks.list (prog := prog) (w := w) (A := A) hh IT ax haI its
  have hst3 : h₃.IsListIter IT ax 0 ∧ h₃.IsList ax its := ⟨⟨_, (N₄ _ (.head _)).1, rfl, rfl⟩, ⟨_, (N₄ (ax, listOf its kx) (.tail _ (.tail _ (.tail _ hax)))).1, rfl, kx, rfl⟩⟩
  refine codeAny_compStart_list (codeAny_mono loop ?_) (W.self 0 _ _ _ hst3 (codeAny_mono loop ?_))
  all_goals
    rintro r s' ⟨rfl, h', tk', k, oC, mC, rfl, Fx, Nx, hNC⟩
    show wpAny _ A (assign (.Name y py) env (.ref D)) _ _ _
    refine wpAny_assign_Name (wpAny_storeName_local hy (hLL ▸ Fx.ns) (fun h₂ hn₂ hs₂ => ?_) (hLL ▸ hp))
    rw [hLL] at hn₂ hs₂
    have hL₀ : h₀.get? L = none := Heap.get?_none_of_le Fx.above
    have F2 : Fr h₀ L h₂ (fun z => if z = y then some (.ref D) else m z) := ⟨hn₂, fun b o e => hs₂.extBut b o (fun q => by rw [q, hL₀] at e; cases e) (Fx.keep b o e), Fx.above⟩
    have N2 : News h₀ L h₂ ((C, oC) :: (D, listOf (firsts fst p its.size).toArray k) :: news) := fun q hq => ⟨hs₂.extBut _ _ (Nx q hq).2.1 (Nx q hq).1, (Nx q hq).2⟩
    exact ⟨mC, hNC.ns (N2 _ (.head _)).1, fun h'' hs'' => hfin D k h'' _ (F2.change hs'' hCL hC0) (fun q hq => ⟨hs''.extBut _ _ (oCN.same q hq) (N2 q (.tail _ hq)).1, (N2 q (.tail _ hq)).2⟩) oDN⟩
end
end
section
example : True ∧ True := by w_top off; first | (walk1 <;> trivial) | exact ⟨trivial, trivial⟩
open PySem PySem.W PyProof.Rows PySem.Calls
set_option Elab.async false
set_option maxRecDepth 100000
set_option maxHeartbeats 8000000
set_option linter.unusedVariables false
set_option linter.unusedSimpArgs false
/-- the body of the law's second loop -/
noncomputable def forC : List Stmt := match lawD.body.drop 15 with
  | .For _ _ b _ _ :: _ => b
  | _ => []
abbrev InC (w : World) (L a : Addr) (cd : Value) (k : Nat) (Q : Flow → Shared → Prop) (s : Shared) : Prop :=
  wpAny (model PySem.Challenge.rw_zd0006_01.row.prog w) (callerA.deeper (lawE L a cd)) (execs (forC.drop k) (lawE L a cd)) Q (fun _ _ => False) s
/-- is a place among the changed ones -/
def inCh (ys : List Value) (x : Int) : Bool := ys.any fun y => match y with
  | .int k _ => k == x
  | _ => false
theorem in_ch {w : World} {prog : Program} {A : Around} {E : Value → Shared → Prop} {s : Shared} {G : Addr} {ys : List Value} {x : Int} {t : Tok} {Q : Value → Shared → Prop} (hl : s.heap.IsList G ys.toArray) (hy : ∀ y ∈ ys, ∃ k t, y = .int k t) (h : Q (.bool (inCh ys x)) s) : wpAny (model prog w) A (compareOp .In (.int x t) (.ref G)) Q E s := by
  refine PySem.SeqAt.in_listAt (fun y => match y with | .int k _ => k == x | _ => false) hl (fun y hy' => ?_) ?_
  · obtain ⟨k, t', rfl⟩ := hy y (by simpa using hy')
    exact PySem.SeqAt.EqAt.int_int k t' x t
  · rw [List.any_toArray]
    exact h
structure IntsOnly (ys : List Value) : Prop where
  at' : ∀ y ∈ ys, ∃ k t, y = .int k t
def chV (ys : List Value) (v : Value) : Bool := match v with
  | .int k _ => inCh ys k
  | _ => false
local macro_rules | `(tactic| walk_at "compareOp In int ref") => `(tactic| (k_here; (with_reducible show wpAny _ _ (compareOp _ (Value.int _ _) (Value.ref _)) _ _ _); k_dflt (refine in_ch (News.isList (by k_asm) (by k_mem)) (IntsOnly.at' (by assumption)) ?_)))
theorem wrong_none {ys : List Value} {x1 x2 x3 : Int} {t0 t2 t4 : Tok} : (firsts (fun i => [Value.int x1 t0, .int x2 t2, .int x3 t4].getD i .none) (chV ys) 3).toArray.size = 0 ↔ (inCh ys x1 = false ∧ inCh ys x2 = false ∧ inCh ys x3 = false) := by
  have e : firsts (fun i => [Value.int x1 t0, .int x2 t2, .int x3 t4].getD i .none) (chV ys) 3 = [Value.int x1 t0, .int x2 t2, .int x3 t4].filter (chV ys) := rfl
  rw [e, List.size_toArray, List.length_eq_zero_iff, List.filter_eq_nil_iff]
  simp [chV]
/-- the places of a three that are changed -/
theorem turn_wrong {w : World} {loose : List Str} {mean : ExcName → Option Value} {mg mb : Str → Option Value} {g : Heap} {L a : Addr} {cd : Value} {m : Str → Option Value} {s : Shared} {Q : Flow → Shared → Prop} (H : LawC w loose mean mg mb g L){tt q1 q2 q3 G : Addr} {x1 y1 x2 y2 x3 y3 : Int} {t0 t1 t2 t3 t4 t5 : Tok} {n3 kg : Nat} {ys : List Value} {o5 : Obj} {rest : List (Addr × Obj)} (hy : IntsOnly ys) (c5 : o5.data = .cell (some (.ref G))) (hm : m (Str.ofString "three") = some (.ref tt)) (F : Fr g L s.heap m) (N : News g L s.heap ((tt, listOf #[.ref q1, .ref q2, .ref q3] n3) :: (q1, kdv_tup [.int x1 t0, .int y1 t1]) :: (q2, kdv_tup [.int x2 t2, .int y2 t3]) :: (q3, kdv_tup [.int x3 t4, .int y3 t5]) :: (G, listOf ys.toArray kg) :: (L + 5, o5) :: rest))
    (K : ∀ {W : Addr} {ws : List Value} {k : Nat} {h' : Heap} {tk' : Nat}, (ws.toArray.size = 0 ↔ (inCh ys x1 = false ∧ inCh ys x2 = false ∧ inCh ys x3 = false)) → OffI W ((tt, listOf #[.ref q1, .ref q2, .ref q3] n3) :: (q1, kdv_tup [.int x1 t0, .int y1 t1]) :: (q2, kdv_tup [.int x2 t2, .int y2 t3]) :: (q3, kdv_tup [.int x3 t4, .int y3 t5]) :: (G, listOf ys.toArray kg) :: (L + 5, o5) :: rest) → Fr g L h' (fun z => if z = Str.ofString "wrong" then some (.ref W) else m z) → News g L h' ((W, listOf ws.toArray k) :: (tt, listOf #[.ref q1, .ref q2, .ref q3] n3) :: (q1, kdv_tup [.int x1 t0, .int y1 t1]) :: (q2, kdv_tup [.int x2 t2, .int y2 t3]) :: (q3, kdv_tup [.int x3 t4, .int y3 t5]) :: (G, listOf ys.toArray kg) :: (L + 5, o5) :: rest) → InC w L a cd 2 Q { s with heap := h', toks := tk' }) : InC w L a cd 1 Q s := by
  have hkv : ∀ q ∈ [(Str.ofString "three", Value.ref tt)], m q.1 = some q.2 := List.forall_mem_cons.mpr ⟨hm, List.forall_mem_nil _⟩
  have F1 := fr_tab F _ hkv
  have em := tab_eq _ hkv
  clear F
  obtain ⟨B, X, T, C, l1⟩ := H
  unfold InC forC lawE lawD dOf
  dsimp only [List.drop]
  revert X; k_fill; intro X
  refine wpAny_execs_cons ?_
  refine Assign_PairTest (chV ys) (fun i => [Value.int x1 t0, .int x2 t2, .int x3 t4].getD i .none) F1 rfl (by rfl) (by with_unfolding_all rfl) (by decide) (by rfl) (by decide) (by rfl) (by rfl) (by decide) (by rfl) (by rfl) rfl ?_
  k_steps
  refine Stop.go ⟨tt, _, _, _, rfl, F1, N, .head _, (by show 3 ≤ sizeLine; decide), ?it, ?te, ?el, ?fi⟩
  case it =>
    intro i hi
    have hi : i < 3 := hi
    have : i = 0 ∨ i = 1 ∨ i = 2 := by omega
    rcases this with rfl | rfl | rfl
    · exact ⟨q1, _, rfl, .tail _ (.head _)⟩
    · exact ⟨q2, _, rfl, .tail _ (.tail _ (.head _))⟩
    · exact ⟨q3, _, rfl, .tail _ (.tail _ (.tail _ (.head _)))⟩
  case te =>
    intro i v₂ C oC s₃ m₃ E' hi ho ha hb F₃ N₃
    have hv : ∃ x t, ([Value.int x1 t0, .int x2 t2, .int x3 t4].getD i .none) = .int x t := by
      have hi : i < 3 := hi
      have : i = 0 ∨ i = 1 ∨ i = 2 := by omega
      rcases this with rfl | rfl | rfl <;> exact ⟨_, _, rfl⟩
    obtain ⟨x, t, ev⟩ := hv
    rw [ev] at ha ⊢
    clear F1 N hi ev
    k_steps
    exact Stop.go ⟨rfl, keepsOf fun _ _ e => e⟩
  case el =>
    intro i v₂ C oC s₃ m₃ E' hi ho ha hb F₃ N₃
    clear F1 N hi
    k_steps
    exact Stop.go ⟨rfl, keepsOf fun _ _ e => e⟩
  case fi =>
    intro D k h' tk F' N' hne
    exact K (wrong_none (t0 := t0) (t2 := t2) (t4 := t4)) hne (fr_untab em F') N'
end
section
example : True ∧ True := by w_top off; first | (walk1 <;> trivial) | exact ⟨trivial, trivial⟩
open PySem PySem.W PyProof.Rows PySem.Calls
set_option Elab.async false
set_option maxRecDepth 100000
set_option maxHeartbeats 8000000
set_option linter.unusedVariables false
set_option linter.unusedSimpArgs false
section
variable {w : World} {prog : Program} {A : Around} {E : Value → Shared → Prop} {s : Shared} {a b : Addr} {r0 r7 r8 u0 u7 u8 : Int} {s0 s7 s8 z0 z7 z8 : Tok} {Q : Value → Shared → Prop} {B : Bool}
theorem dec3 (hB : decide (r0 = u0 ∧ r7 = u7 ∧ r8 = u8) = B) : decide ([r0, r7, r8] = [u0, u7, u8]) = B := by
  rw [← hB]
  exact decide_eq_decide.mpr (by simp)
theorem ints3 : IntsAre [Value.int r0 s0, .int r7 s7, .int r8 s8] [r0, r7, r8] := .cons _ _ (.cons _ _ (.cons _ _ .nil))
theorem eq_known (ha : s.heap.IsList a #[.int r0 s0, .int r7 s7, .int r8 s8]) (hb : s.heap.IsList b #[.int u0 z0, .int u7 z7, .int u8 z8]) (hu : A.units + 64 < cLine) (hB : decide (r0 = u0 ∧ r7 = u7 ∧ r8 = u8) = B) (h : Q (.bool B) s) : wpAny (model prog w) A (compareOp .Eq (.ref a) (.ref b)) Q E s :=
  ke_eq_ints ha hb ints3 ints3 hu (by rw [dec3 hB]; exact h)
theorem ne_known (ha : s.heap.IsList a #[.int r0 s0, .int r7 s7, .int r8 s8]) (hb : s.heap.IsList b #[.int u0 z0, .int u7 z7, .int u8 z8]) (hu : A.units + 64 < cLine) (hB : decide (r0 = u0 ∧ r7 = u7 ∧ r8 = u8) = B) (h : Q (.bool (!B)) s) : wpAny (model prog w) A (compareOp .NotEq (.ref a) (.ref b)) Q E s :=
  ke_ne_ints ha hb ints3 ints3 hu (by rw [dec3 hB]; exact h)
theorem nil_known {items : Array Value} (ha : s.heap.IsList a items) (hb : s.heap.IsList b #[]) (hu : A.units < cLine) (hB : decide (items.size = 0) = B) (h : Q (.bool B) s) : wpAny (model prog w) A (compareOp .Eq (.ref a) (.ref b)) Q E s :=
  eq_nil ha hb hu (by rw [hB]; exact h)
/-- the rows that stand alone differ from this one -/
def AloneNe (al : Array Value) (rest : List (Addr × Obj)) (r : Addr) (r0 r7 r8 : Int) : Prop :=
  ∀ y ∈ al, ∃ b a0 a7 a8 t0 t7 t8 k, y = .ref b ∧ b ≠ r ∧ (b, listOf #[.int a0 t0, .int a7 t7, .int a8 t8] k) ∈ rest ∧ ¬ (a0 = r0 ∧ a7 = r7 ∧ a8 = r8)
theorem row_in {Al r : Addr} {al : Array Value} {h₀ : Heap} {L : Addr} {news rest : List (Addr × Obj)} (N : News h₀ L s.heap news) (hl : s.heap.IsList Al al) (hr : s.heap.IsList r #[.int r0 s0, .int r7 s7, .int r8 s8]) (hal : AloneNe al rest r r0 r7 r8) (hs : ∀ q ∈ rest, q ∈ news) (hu : A.units + 64 < cLine) (h : Q (.bool false) s) : wpAny (model prog w) A (compareOp .In (.ref r) (.ref Al)) Q E s := by
  refine PySem.SeqAt.in_listAt (fun _ => false) hl (fun y hy => ?_) (by rw [Array.any_eq_false.mpr (fun _ _ => by simp)]; exact h)
  obtain ⟨b, a0, a7, a8, t0, t7, t8, k, rfl, hne, hm, hd⟩ := hal y hy
  have hb : s.heap.IsList b #[.int a0 t0, .int a7 t7, .int a8 t8] := ⟨_, (N _ (hs _ hm)).1, rfl, k, rfl⟩
  have e : (List.range (#[Value.int a0 t0, .int a7 t7, .int a8 t8] : Array Value).size).all (fun j => [a0 == r0, a7 == r7, a8 == r8].getD j true) = false := by
    show ((a0 == r0) && ((a7 == r7) && ((a8 == r8) && true))) = false
    simp only [Bool.and_true, Bool.and_eq_false_iff, beq_eq_false_iff_ne]
    omega
  refine PySem.SeqAt.EqAt.of_refs hne (e ▸ PySem.SeqAt.RcAt.lists (e := fun j => [a0 == r0, a7 == r7, a8 == r8].getD j true) hb hr rfl (by show A.units + 1 < cLine; omega) (fun j h1 h2 => ?_))
  match j, h1, h2 with
  | 0, _, _ => exact PySem.SeqAt.EqAt.int_int _ _ _ _
  | 1, _, _ => exact PySem.SeqAt.EqAt.int_int _ _ _ _
  | 2, _, _ => exact PySem.SeqAt.EqAt.int_int _ _ _ _
end
local macro_rules | `(tactic| walk_at $s:str) => lineAt ["call builtin:list.append", "compareOp In ref ref"] [] s
local macro_rules | `(tactic| walk_at "compareOp Eq ref ref") => `(tactic| (k_here; k_dflt (first
  | refine eq_known (News.isList (by assumption) (by k_mem)) (News.isList (by assumption) (by k_mem)) (by (show (4 + 3 + 64 : Nat) < cLine; decide)) (by assumption) ?_
  | refine nil_known (News.isList (by assumption) (by k_mem)) (News.isList (by assumption) (by k_mem)) (by (show (4 + 3 : Nat) < cLine; decide)) (by assumption) ?_)))
local macro_rules | `(tactic| walk_at "compareOp NotEq ref ref") => `(tactic| (k_here; k_dflt (refine ne_known (News.isList (by assumption) (by k_mem)) (News.isList (by assumption) (by k_mem)) (by (show (4 + 3 + 64 : Nat) < cLine; decide)) (by assumption) ?_)))
/-- the row's test -/
theorem turn_test {w : World} {loose : List Str} {mean : ExcName → Option Value} {mg mb : Str → Option Value} {g : Heap} {L a : Addr} {cd : Value} {m : Str → Option Value} {s : Shared} {Q : Flow → Shared → Prop} (H : LawC w loose mean mg mb g L){W r Du Al : Addr} {r0 r7 r8 u0 u7 u8 : Int} {s0 s7 s8 z0 z7 z8 : Tok} {kw kr kd ka : Nat} {ws : List Value} {al : Array Value} {rest : List (Addr × Obj)} {B : Bool} (hE : decide (r0 = u0 ∧ r7 = u7 ∧ r8 = u8) = B) (hW : decide (ws.toArray.size = 0) = B) (hal : AloneNe al rest r r0 r7 r8) (hsz : al.size ≤ sizeLine) (oAl : OffI Al rest) (nW : @Ne Nat W Al) (nr : @Ne Nat r Al) (nD : @Ne Nat Du Al)
    (hm1 : m (Str.ofString "row") = some (.ref r)) (hm2 : m (Str.ofString "due") = some (.ref Du)) (hm3 : m (Str.ofString "wrong") = some (.ref W)) (hm4 : m (Str.ofString "alone") = some (.ref Al)) (F : Fr g L s.heap m) (N : News g L s.heap ((W, listOf ws.toArray kw) :: (r, listOf #[.int r0 s0, .int r7 s7, .int r8 s8] kr) :: (Du, listOf #[.int u0 z0, .int u7 z7, .int u8 z8] kd) :: (Al, listOf al ka) :: rest))
    (K : ∀ {h' : Heap} {tk' : Nat} {al' : Array Value} {ka' : Nat}, al' = (if B = true then al else al.push (.ref r)) → Fr g L h' m → News g L h' ((W, listOf ws.toArray kw) :: (r, listOf #[.int r0 s0, .int r7 s7, .int r8 s8] kr) :: (Du, listOf #[.int u0 z0, .int u7 z7, .int u8 z8] kd) :: (Al, listOf al' ka') :: rest) → Q .next { s with heap := h', toks := tk' }) : InC w L a cd 2 Q s := by
  have hkv : ∀ q ∈ [(Str.ofString "row", Value.ref r), (Str.ofString "due", Value.ref Du), (Str.ofString "wrong", Value.ref W), (Str.ofString "alone", Value.ref Al)], m q.1 = some q.2 := List.forall_mem_cons.mpr ⟨hm1, List.forall_mem_cons.mpr ⟨hm2, List.forall_mem_cons.mpr ⟨hm3, List.forall_mem_cons.mpr ⟨hm4, List.forall_mem_nil _⟩⟩⟩⟩
  have F1 := fr_tab F _ hkv
  have em := tab_eq _ hkv
  clear F
  obtain ⟨B, X, T, C, l1⟩ := H
  unfold InC forC lawE lawD dOf
  dsimp only [List.drop]
  revert X; k_fill; intro X
  rename Bool => BB
  cases BB
  all_goals
    k_steps
    refine Stop.go ?_
    rename Fr _ _ _ _ => kF
    rename News _ _ _ _ => kN
    refine row_in kN (News.isList kN (by k_mem)) (News.isList kN (by k_mem)) hal (fun q hq => .tail _ (.tail _ (.tail _ (.tail _ (.tail _ hq))))) (by (show (4 + 3 + 64 : Nat) < cLine; decide)) ?_
    k_steps
  · refine Stop.go ?_
    refine append_U kF (fun q hq => kN q (.tail _ hq)) (.tail nW (.tail nr (.tail nD (.head oAl)))) ?_ hsz
    intro h8 F8 N8
    k_steps
    exact K rfl (em ▸ F8) N8
  · exact K rfl (em ▸ kF) (fun q hq => kN q (.tail _ hq))
end
section
example : True ∧ True := by w_top off; first | (walk1 <;> trivial) | exact ⟨trivial, trivial⟩
open PySem PySem.W PyProof.Rows PySem.Calls
set_option Elab.async false
set_option maxRecDepth 100000
set_option maxHeartbeats 8000000
set_option linter.unusedVariables false
set_option linter.unusedSimpArgs false
local macro_rules | `(tactic| walk_at $s:str) => lineAt ["call ref", "execs cons"] [] s
/-- the row of a three -/
theorem turn_row {w : World} {loose : List Str} {mean : ExcName → Option Value} {mg mb : Str → Option Value} {g : Heap} {L a : Addr} {cd : Value} {m : Str → Option Value} {s : Shared} {Q : Flow → Shared → Prop} (H : LawC w loose mean mg mb g L){tt q1 q2 q3 : Addr} {x1 y1 x2 y2 x3 y3 : Int} {t0 t1 t2 t3 t4 t5 : Tok} {n3 : Nat} {rest : List (Addr × Obj)} (hu1 : 1 ≤ x1) (hv1 : x1 < x2) (hw1 : x2 < x3) (h61 : x3 ≤ 6) (hm : m (Str.ofString "three") = some (.ref tt)) (F : Fr g L s.heap m) (N : News g L s.heap ((tt, listOf #[.ref q1, .ref q2, .ref q3] n3) :: (q1, kdv_tup [.int x1 t0, .int y1 t1]) :: (q2, kdv_tup [.int x2 t2, .int y2 t3]) :: (q3, kdv_tup [.int x3 t4, .int y3 t5]) :: rest))
    (K : ∀ {r : Addr} {kr : Nat} {r0 r7 r8 : Int} {s0 s7 s8 : Tok} {h' : Heap} {tk' : Nat}, Thr x1 y1 x2 y2 x3 y3 r0 r7 r8 → Fr g L h' (fun y => if y = Str.ofString "row" then some (.ref r) else m y) → News g L h' ((r, listOf #[.int r0 s0, .int r7 s7, .int r8 s8] kr) :: (tt, listOf #[.ref q1, .ref q2, .ref q3] n3) :: (q1, kdv_tup [.int x1 t0, .int y1 t1]) :: (q2, kdv_tup [.int x2 t2, .int y2 t3]) :: (q3, kdv_tup [.int x3 t4, .int y3 t5]) :: rest) → OffI r ((tt, listOf #[.ref q1, .ref q2, .ref q3] n3) :: (q1, kdv_tup [.int x1 t0, .int y1 t1]) :: (q2, kdv_tup [.int x2 t2, .int y2 t3]) :: (q3, kdv_tup [.int x3 t4, .int y3 t5]) :: rest) → InC w L a cd 1 Q { s with heap := h', toks := tk' }) : InC w L a cd 0 Q s := by
  have hkv : ∀ q ∈ [(Str.ofString "three", Value.ref tt)], m q.1 = some q.2 := List.forall_mem_cons.mpr ⟨hm, List.forall_mem_nil _⟩
  have F1 := fr_tab F _ hkv
  have em := tab_eq _ hkv
  clear F
  obtain ⟨B, X, T, C, l1⟩ := H
  unfold InC forC lawE lawD dOf
  dsimp only [List.drop]
  revert X; k_fill; intro X
  refine wpAny_execs_cons ?_
  k_steps
  refine Stop.go ?_
  rename Fr _ _ _ _ => kF
  rename News _ _ _ _ => kN
  refine' does_through (q1 := q1) (q2 := q2) (q3 := q3) (tt := tt) (x1 := x1) (x2 := x2) (x3 := x3) (y1 := y1) (y2 := y2) (y3 := y3) hu1 hv1 hw1 h61 _ _ _ _ _ _ _ _ _ _ _ _ _ _ _ _ _ _ _ _ _ _ B kF X kN T ?kK ?sub ?kd ?ku ?_
  case kK => first | exact rfl | assumption
  case sub =>
    exact List.forall_mem_cons.mpr ⟨.tail _ (.head _), List.forall_mem_cons.mpr ⟨.tail _ (.tail _ (.head _)), List.forall_mem_cons.mpr ⟨.tail _ (.tail _ (.tail _ (.head _))), List.forall_mem_cons.mpr ⟨.head _, List.forall_mem_nil _⟩⟩⟩⟩
  case kd => first | decide | ktr_room
  case ku => first | decide | ktr_units
  rintro v tl h' tk' ⟨r, kr, r0, r7, r8, s0, s7, s8, rfl, rfl, hT⟩ F' N' sep hk
  have o : OffI r _ := fun q hq => sep _ (.head _) q hq
  clear sep
  k_steps
  rename Fr _ _ _ _ => kF
  rename News _ _ _ _ => kN
  refine Stop.go ?_
  exact K hT (fr_untab em kF) kN o
end
section
open PySem PySem.W PyProof.Rows PySem.Calls
set_option Elab.async false
set_option maxRecDepth 100000
set_option maxHeartbeats 8000000
set_option linter.unusedVariables false
set_option linter.unusedSimpArgs false
/-- the body of the law's second loop -/
theorem turn2 {w : World} {loose : List Str} {mean : ExcName → Option Value} {mg mb : Str → Option Value} {g : Heap} {L a : Addr} {cd : Value} {m : Str → Option Value} {s : Shared} {Q : Flow → Shared → Prop} (H : LawC w loose mean mg mb g L){IT tt q1 q2 q3 G Du Al : Addr} {x1 y1 x2 y2 x3 y3 u0 u7 u8 : Int} {t0 t1 t2 t3 t4 t5 z0 z7 z8 : Tok} {n3 kg kd ka : Nat} {ys : List Value} {al : Array Value} {oI o5 : Obj} {rest : List (Addr × Obj)} (hu1 : 1 ≤ x1) (hv1 : x1 < x2) (hw1 : x2 < x3) (h61 : x3 ≤ 6) (hy : IntsOnly ys) (c5 : o5.data = .cell (some (.ref G)))
    (hrow : ∀ r0 r7 r8, Thr x1 y1 x2 y2 x3 y3 r0 r7 r8 → (decide (r0 = u0 ∧ r7 = u7 ∧ r8 = u8) = true ↔ (inCh ys x1 = false ∧ inCh ys x2 = false ∧ inCh ys x3 = false)) ∧ ∀ y ∈ al, ∃ b a0 a7 a8 t0 t7 t8 k, y = .ref b ∧ (b, listOf #[.int a0 t0, .int a7 t7, .int a8 t8] k) ∈ rest ∧ ¬ (a0 = r0 ∧ a7 = r7 ∧ a8 = r8))
    (htt : (tt, listOf #[.ref q1, .ref q2, .ref q3] n3) ∈ rest) (hq1 : (q1, kdv_tup [.int x1 t0, .int y1 t1]) ∈ rest) (hq2 : (q2, kdv_tup [.int x2 t2, .int y2 t3]) ∈ rest) (hq3 : (q3, kdv_tup [.int x3 t4, .int y3 t5]) ∈ rest) (hG : (G, listOf ys.toArray kg) ∈ rest) (h5 : (L + 5, o5) ∈ rest) (hD : (Du, listOf #[.int u0 z0, .int u7 z7, .int u8 z8] kd) ∈ rest)
    (oAl : OffI Al rest) (oIT : OffI IT ((Al, listOf al ka) :: rest)) (hsz : al.size ≤ sizeLine) (hm1 : m (Str.ofString "three") = some (.ref tt)) (hm2 : m (Str.ofString "due") = some (.ref Du)) (hm3 : m (Str.ofString "alone") = some (.ref Al)) (F : Fr g L s.heap m) (N : News g L s.heap ((IT, oI) :: (Al, listOf al ka) :: rest))
    (K : ∀ {r : Addr} {kr ka' : Nat} {r0 r7 r8 : Int} {s0 s7 s8 : Tok} {al' : Array Value} {h' : Heap} {tk' : Nat} {m' : Str → Option Value}, Thr x1 y1 x2 y2 x3 y3 r0 r7 r8 → al' = (if decide (r0 = u0 ∧ r7 = u7 ∧ r8 = u8) = true then al else al.push (.ref r)) → OffI Al ((r, listOf #[.int r0 s0, .int r7 s7, .int r8 s8] kr) :: rest) → OffI IT ((Al, listOf al' ka') :: (r, listOf #[.int r0 s0, .int r7 s7, .int r8 s8] kr) :: rest) →
      m' (Str.ofString "due") = some (.ref Du) → m' (Str.ofString "alone") = some (.ref Al) → Fr g L h' m' → News g L h' ((IT, oI) :: (Al, listOf al' ka') :: (r, listOf #[.int r0 s0, .int r7 s7, .int r8 s8] kr) :: rest) → Q .next { s with heap := h', toks := tk' }) : InC w L a cd 0 Q s := by
  have hrest : ∀ q ∈ rest, q ∈ (IT, oI) :: (Al, listOf al ka) :: rest := fun q hq => .tail _ (.tail _ hq)
  have N0 : News g L s.heap ((tt, listOf #[.ref q1, .ref q2, .ref q3] n3) :: (q1, kdv_tup [.int x1 t0, .int y1 t1]) :: (q2, kdv_tup [.int x2 t2, .int y2 t3]) :: (q3, kdv_tup [.int x3 t4, .int y3 t5]) :: (IT, oI) :: (Al, listOf al ka) :: rest) := nput N (hrest _ htt) (nput N (hrest _ hq1) (nput N (hrest _ hq2) (nput N (hrest _ hq3) N)))
  refine turn_row H hu1 hv1 hw1 h61 hm1 F N0 ?_
  intro r kr r0 r7 r8 s0 s7 s8 h' tk' hT F' N' oR
  obtain ⟨hiff, hal⟩ := hrow _ _ _ hT
  have oR : OffI r ((IT, oI) :: (Al, listOf al ka) :: rest) := oR.tl.tl.tl.tl
  have N1 : News g L h' ((tt, listOf #[.ref q1, .ref q2, .ref q3] n3) :: (q1, kdv_tup [.int x1 t0, .int y1 t1]) :: (q2, kdv_tup [.int x2 t2, .int y2 t3]) :: (q3, kdv_tup [.int x3 t4, .int y3 t5]) :: (G, listOf ys.toArray kg) :: (L + 5, o5) :: (r, listOf #[.int r0 s0, .int r7 s7, .int r8 s8] kr) :: (IT, oI) :: (Al, listOf al ka) :: rest) := nput N' (mt1 (.head _)) (nput N' (mt2 (.head _)) (nput N' (mt3 (.head _)) (nput N' (mt4 (.head _)) (nput N' (mt5 (hrest _ hG)) (nput N' (mt5 (hrest _ h5)) (nput N' (.head _) (nleft (nleft (nleft (nleft (nleft N')))))))))))
  refine turn_wrong H hy c5 (name_set hm1 (by decide)) F' N1 ?_
  intro W ws kw h'' tk'' hws oW F'' N''
  have oW : OffI W ((r, listOf #[.int r0 s0, .int r7 s7, .int r8 s8] kr) :: (IT, oI) :: (Al, listOf al ka) :: rest) := oW.tl.tl.tl.tl.tl.tl
  have N2 : News g L h'' ((W, listOf ws.toArray kw) :: (r, listOf #[.int r0 s0, .int r7 s7, .int r8 s8] kr) :: (Du, listOf #[.int u0 z0, .int u7 z7, .int u8 z8] kd) :: (Al, listOf al ka) :: (IT, oI) :: rest) := nput N'' (.head _) (nput N'' (mt5 (mt2 (.head _))) (nput N'' (mt8 (hrest _ hD)) (nput N'' (mt8 (mt1 (.head _))) (nput N'' (mt8 (.head _)) (noff (r := rest) N'' fun q hq => mt8 (hrest _ hq))))))
  refine turn_test H (m := fun z => if z = Str.ofString "wrong" then some (Value.ref W) else if z = Str.ofString "row" then some (Value.ref r) else m z) (B := decide (r0 = u0 ∧ r7 = u7 ∧ r8 = u8)) (rest := (IT, oI) :: rest) rfl ?hW ?hal hsz (OffI.cons oIT.hd.symm oAl) oW.tl.tl.hd.symm oR.tl.hd.symm (oAl _ hD) (name_set (m := fun y => if y = Str.ofString "row" then some (Value.ref r) else m y) (k' := Str.ofString "wrong") (v' := Value.ref W) (by exact if_pos rfl) (by decide)) (name_set (k' := Str.ofString "wrong") (v' := Value.ref W) (name_set (k' := Str.ofString "row") (v' := Value.ref r) hm2 (by decide)) (by decide)) (by exact if_pos rfl) (name_set (k' := Str.ofString "wrong") (v' := Value.ref W) (name_set (k' := Str.ofString "row") (v' := Value.ref r) hm3 (by decide)) (by decide)) F'' N2 ?_
  case hW =>
    rw [Bool.eq_iff_iff, decide_eq_true_iff]
    exact hws.trans hiff.symm
  case hal =>
    intro y hy'
    obtain ⟨b, a0, a7, a8, c0, c7, c8, k, rfl, hb, hd⟩ := hal y hy'
    exact ⟨b, a0, a7, a8, c0, c7, c8, k, rfl, oR _ (.tail _ (.tail _ hb)), .tail _ hb, hd⟩
  intro h3 tk3 al' ka' e F3 N3
  refine K (kr := kr) (ka' := ka') (s0 := s0) (s7 := s7) (s8 := s8) (m' := fun z => if z = Str.ofString "wrong" then some (Value.ref W) else if z = Str.ofString "row" then some (Value.ref r) else m z) hT e (OffI.cons oR.tl.hd.symm oAl) (OffI.cons oIT.hd (OffI.cons oR.hd.symm oIT.tl)) (name_set (k' := Str.ofString "wrong") (v' := Value.ref W) (name_set (k' := Str.ofString "row") (v' := Value.ref r) hm2 (by decide)) (by decide)) (name_set (k' := Str.ofString "wrong") (v' := Value.ref W) (name_set (k' := Str.ofString "row") (v' := Value.ref r) hm3 (by decide)) (by decide)) F3 (nput N3 ?m1 (nput N3 ?m2 (nput N3 ?m3 (noff (r := rest) N3 fun q hq => mt5 hq))))
  case m1 => exact mt4 (.head _)
  case m2 => exact mt3 (.head _)
  case m3 => exact mt1 (.head _)
end
section
open PySem PySem.W PyProof.Rows PySem.Calls
set_option Elab.async false
set_option maxRecDepth 100000
set_option linter.unusedVariables false
def nthK (lost : Int) (i : Nat) : Int := (ksOf lost 6).getD i 0
/-- the threes of the heard places -/
def KT (lost : Int) : List (Int × Int × Int) := (T0 5).map fun t => (nthK lost t.1, nthK lost t.2.1, nthK lost t.2.2)
theorem chk_KT : ∀ lost ∈ [(1:Int),2,3,4,5,6], (ksOf lost 6).length = 5 ∧ (KT lost).Nodup ∧ ∀ t ∈ KT lost, t ∈ Combs ∧ 1 ≤ t.1 ∧ t.1 < t.2.1 ∧ t.2.1 < t.2.2 ∧ t.2.2 ≤ 6 ∧ t.1 ≠ lost ∧ t.2.1 ≠ lost ∧ t.2.2 ≠ lost := by decide +kernel
theorem chk_T0 : (T0 5).length = 10 ∧ ∀ t ∈ T0 5, t.1 < 5 ∧ t.2.1 < 5 ∧ t.2.2 < 5 := by decide +kernel
theorem Paired.at' {α β : Type} {R : α → β → Prop} {as : List α} {bs : List β} (h : Paired R as bs) : ∀ (j : Nat) (b : β), bs[j]? = some b → ∃ a, as[j]? = some a ∧ R a b := by
  induction h with
  | nil => intro j b h; rw [List.getElem?_nil] at h; cases h
  | cons hr hp ih =>
    intro j b h
    cases j with
    | zero => cases h; exact ⟨_, rfl, hr⟩
    | succ j => exact ih j b h
section
variable {F : Int → Int} {lost : Int} {its : Array Value} {rest : List (Addr × Obj)}
theorem pts5 (h : PtsOk F lost 6 its rest) (h1 : 1 ≤ lost) (h6 : lost ≤ 6) : ∃ a0 a1 a2 a3 a4 : Addr, its = #[.ref a0, .ref a1, .ref a2, .ref a3, .ref a4] ∧
    ∀ i : Nat, i < 5 → ∃ q t1 t2, [Value.ref a0, .ref a1, .ref a2, .ref a3, .ref a4].getD i .none = .ref q ∧ (q, kdv_tup [.int (nthK lost i) t1, .int (F (nthK lost i)) t2]) ∈ rest := by
  obtain ⟨as, e, hl, hat⟩ := h.at'
  have hk := (chk_KT lost (mem6 h1 h6)).1
  rw [hk] at hl
  have hk' : (ksOf lost 6).length = 5 := hk
  obtain ⟨a0, a1, a2, a3, a4, rfl⟩ := len5 hl
  refine ⟨a0, a1, a2, a3, a4, e, fun i hi => ?_⟩
  have hik : (ksOf lost 6)[i]? = some (nthK lost i) := by
    unfold nthK
    rw [List.getD_eq_getElem?_getD, List.getElem?_eq_getElem (hk'.symm ▸ hi)]
    rfl
  obtain ⟨t1, t2, hm⟩ := hat i _ _ (List.getElem?_eq_getElem hi) hik
  refine ⟨_, t1, t2, ?_, hm⟩
  show (List.map Value.ref [a0, a1, a2, a3, a4]).getD i .none = _
  rw [List.getD_eq_getElem?_getD, List.getElem?_map, List.getElem?_eq_getElem hi]
  rfl
/-- the j-th three, as it lies in the heap -/
theorem three_at {a0 a1 a2 a3 a4 : Addr} {ls : List (Addr × Obj)} (hM : Made (fun i => [Value.ref a0, .ref a1, .ref a2, .ref a3, .ref a4].getD i .none) (T0 5) ls)
    (hp : ∀ i : Nat, i < 5 → ∃ q t1 t2, [Value.ref a0, .ref a1, .ref a2, .ref a3, .ref a4].getD i .none = .ref q ∧ (q, kdv_tup [.int (nthK lost i) t1, .int (F (nthK lost i)) t2]) ∈ rest) {j : Nat} {tt : Addr × Obj} (hj : ls[j]? = some tt) :
    ∃ t n q1 q2 q3 t0 t1 t2 t3 t4 t5, (KT lost)[j]? = some t ∧ tt.2 = listOf #[.ref q1, .ref q2, .ref q3] n ∧ (q1, kdv_tup [.int t.1 t0, .int (F t.1) t1]) ∈ rest ∧ (q2, kdv_tup [.int t.2.1 t2, .int (F t.2.1) t3]) ∈ rest ∧ (q3, kdv_tup [.int t.2.2 t4, .int (F t.2.2) t5]) ∈ rest := by
  obtain ⟨t, ht, n, e⟩ := Paired.at' hM j tt hj
  obtain ⟨l1, l2, l3⟩ := chk_T0.2 t (List.mem_of_getElem? ht)
  obtain ⟨q1, t0, t1, e1, m1⟩ := hp _ l1
  obtain ⟨q2, t2, t3, e2, m2⟩ := hp _ l2
  obtain ⟨q3, t4, t5, e3, m3⟩ := hp _ l3
  refine ⟨(nthK lost t.1, nthK lost t.2.1, nthK lost t.2.2), n, q1, q2, q3, t0, t1, t2, t3, t4, t5, ?_, ?_, m1, m2, m3⟩
  · unfold KT
    rw [List.getElem?_map, ht]
    rfl
  · rw [e]
    dsimp only
    rw [e1, e2, e3]
theorem Made.length {P : Nat → Value} {ls : List (Addr × Obj)} (h : Made P (T0 5) ls) : ls.length = 10 := by
  have := Paired.length h
  rw [← this]
  exact chk_T0.1
end
section
variable {d0 d1 d2 d4 d5 wd : Int}
/-- the overwritten column -/
def colC (d4 wd : Int) : Int := d4 % (6 * wd) / wd + 1
/-- by how much its port is changed -/
def colD (d0 d1 d2 d4 d5 wd : Int) : Int := (d5 % 10 - portF d0 d1 d2 (colC d4 wd) / 10 ^ (wd - 1 - d4 % wd).toNat % 10) * 10 ^ (wd - 1 - d4 % wd).toNat
theorem toldF_as (k : Int) : toldF (portF d0 d1 d2) d4 d5 wd k = portF d0 d1 d2 k + (if k = colC d4 wd then colD d0 d1 d2 d4 d5 wd else 0) := by
  unfold toldF colC
  split
  · rename_i h
    subst h
    rfl
  · omega
theorem colC_lim (h : 4 ≤ wd) : 1 ≤ colC d4 wd ∧ colC d4 wd ≤ 6 := by
  unfold colC
  have h1 : 0 ≤ d4 % (6 * wd) := Int.emod_nonneg _ (by omega)
  have h2 : d4 % (6 * wd) < 6 * wd := Int.emod_lt_of_pos _ (by omega)
  have h3 : 0 ≤ d4 % (6 * wd) / wd := Int.ediv_nonneg h1 (by omega)
  have h4 : d4 % (6 * wd) / wd < 6 := Int.ediv_lt_of_lt_mul (by omega) h2
  omega
theorem told_is : Told d0 d1 d2 (colC d4 wd) (colD d0 d1 d2 d4 d5 wd) (toldF (portF d0 d1 d2) d4 d5 wd) := fun i _ _ => by
  rw [toldF_as]
  unfold portF
  omega
theorem colD_big (h : 4 ≤ wd) (h5 : wd ≤ 5) (hz : colD d0 d1 d2 d4 d5 wd ≠ 0) : colD d0 d1 d2 d4 d5 wd % 65521 ≠ 0 := by
  revert hz
  unfold colD
  exact (col_lim (ten_lim _).1 (ten_lim _).2 (ten_lim _).1 (ten_lim _).2 (wt_lim h h5)).2.2
end
/-- the rows that stand alone, after j threes -/
structure AlOk (F : Int → Int) (lost c dl : Int) (j : Nat) (al : Array Value) (rest : List (Addr × Obj)) : Prop where
  sz : al.size ≤ j
  at' : ∀ y ∈ al, ∃ b a0 a7 a8 t0 t7 t8 k i t, i < j ∧ y = .ref b ∧ (b, listOf #[.int a0 t0, .int a7 t7, .int a8 t8] k) ∈ rest ∧ (KT lost)[i]? = some t ∧ R3 F t a0 a7 a8 ∧ Has c t ∧ dl ≠ 0
section
variable {F f : Int → Int} {lost c dl d0 d1 d2 : Int} {j : Nat} {al : Array Value} {rest rest' : List (Addr × Obj)} {ys : List Value}
theorem AlOk.nil : AlOk F lost c dl 0 #[] rest := ⟨Nat.le_refl _, fun y hy => by simp at hy⟩
theorem AlOk.skip (h : AlOk F lost c dl j al rest) (hs : ∀ q ∈ rest, q ∈ rest') : AlOk F lost c dl (j + 1) al rest' := ⟨Nat.le_succ_of_le h.sz, fun y hy => by
  obtain ⟨b, a0, a7, a8, t0, t7, t8, k, i, t, hi, e, hm, r⟩ := h.at' y hy
  exact ⟨b, a0, a7, a8, t0, t7, t8, k, i, t, by omega, e, hs _ hm, r⟩⟩
theorem AlOk.add (h : AlOk F lost c dl j al rest) (hs : ∀ q ∈ rest, q ∈ rest') {r : Addr} {r0 r7 r8 : Int} {s0 s7 s8 : Tok} {kr : Nat} {t : Int × Int × Int} (hm : (r, listOf #[.int r0 s0, .int r7 s7, .int r8 s8] kr) ∈ rest') (ht : (KT lost)[j]? = some t) (hR : R3 F t r0 r7 r8) (hh : Has c t) (hd : dl ≠ 0) :
    AlOk F lost c dl (j + 1) (al.push (.ref r)) rest' := ⟨by rw [Array.size_push]; exact Nat.succ_le_succ h.sz, fun y hy => by
  rcases Array.mem_push.mp hy with hy | rfl
  · exact (h.skip hs).at' y hy
  · exact ⟨r, r0, r7, r8, s0, s7, s8, kr, j, t, by omega, rfl, hm, ht, hR, hh, hd⟩⟩
theorem inCh_iff (hch : ChOk f F lost ys) {k : Int} (h1 : 1 ≤ k) (h6 : k ≤ 6) (hl : k ≠ lost) : inCh ys k = false ↔ F k = f k := by
  constructor
  · intro h
    by_cases e : F k = f k
    · exact e
    · exfalso
      obtain ⟨t, hm⟩ := hch.all k h1 h6 hl e
      unfold inCh at h
      rw [List.any_eq_false] at h
      exact h _ hm (beq_self_eq_true k)
  · intro e
    unfold inCh
    rw [List.any_eq_false]
    intro y hy hb
    obtain ⟨k', t, rfl, _, _, _, hne⟩ := hch.only y hy
    have : k' = k := eq_of_beq hb
    subst this
    exact hne e
/-- what a row is, by its three -/
theorem row_facts (hl1 : 1 ≤ lost) (hl6 : lost ≤ 6) (hc1 : 1 ≤ c) (hc6 : c ≤ 6) (hF : ∀ k, F k = f k + (if k = c then dl else 0)) (hg : Told d0 d1 d2 c dl F) (hd : dl ≠ 0 → dl % 65521 ≠ 0) (hch : ChOk f F lost ys) (hal : AlOk F lost c dl j al rest) {t : Int × Int × Int} (ht : (KT lost)[j]? = some t) {r0 r7 r8 : Int} (hR : R3 F t r0 r7 r8) :
    (decide (r0 = crv d0 d1 d2 0 % 65521 ∧ r7 = crv d0 d1 d2 7 % 65521 ∧ r8 = crv d0 d1 d2 8 % 65521) = true ↔ (inCh ys t.1 = false ∧ inCh ys t.2.1 = false ∧ inCh ys t.2.2 = false)) ∧
    (decide (r0 = crv d0 d1 d2 0 % 65521 ∧ r7 = crv d0 d1 d2 7 % 65521 ∧ r8 = crv d0 d1 d2 8 % 65521) ≠ true → Has c t ∧ dl ≠ 0) ∧
    ∀ y ∈ al, ∃ b a0 a7 a8 t0 t7 t8 k, y = .ref b ∧ (b, listOf #[.int a0 t0, .int a7 t7, .int a8 t8] k) ∈ rest ∧ ¬ (a0 = r0 ∧ a7 = r7 ∧ a8 = r8) := by
  have htm := List.mem_of_getElem? ht
  obtain ⟨_, hnd, hall⟩ := chk_KT lost (mem6 hl1 hl6)
  obtain ⟨htC, b1, b2, b3, b4, b5, b6, b7⟩ := hall t htm
  have i1 := inCh_iff hch (k := t.1) (by omega) (by omega) b5
  have i2 := inCh_iff hch (k := t.2.1) (by omega) (by omega) b6
  have i3 := inCh_iff hch (k := t.2.2) (by omega) (by omega) b7
  have same : (¬ Has c t ∨ dl = 0) ↔ (inCh ys t.1 = false ∧ inCh ys t.2.1 = false ∧ inCh ys t.2.2 = false) := by
    rw [i1, i2, i3, hF, hF, hF]
    unfold Has
    constructor
    · rintro (h | h)
      · rw [if_neg (fun e => h (.inl e)), if_neg (fun e => h (.inr (.inl e))), if_neg (fun e => h (.inr (.inr e)))]
        omega
      · rw [h]
        simp
    · rintro ⟨h1, h2, h3⟩
      by_cases e : dl = 0
      · exact .inr e
      · refine .inl fun hh => ?_
        rcases hh with q | q | q
        · rw [if_pos q] at h1; omega
        · rw [if_pos q] at h2; omega
        · rw [if_pos q] at h3; omega
  have off : Has c t → dl ≠ 0 → r0 ≠ crv d0 d1 d2 0 % 65521 := fun hh hz => three_off hg hc1 hc6 (hd hz) htC hR hh
  have key : decide (r0 = crv d0 d1 d2 0 % 65521 ∧ r7 = crv d0 d1 d2 7 % 65521 ∧ r8 = crv d0 d1 d2 8 % 65521) = true ↔ (¬ Has c t ∨ dl = 0) := by
    rw [decide_eq_true_iff]
    constructor
    · intro h
      by_cases e : dl = 0
      · exact .inr e
      · exact .inl fun hh => off hh e h.1
    · exact fun h => three_same hg htC hR h
  refine ⟨key.trans same, fun h => ?_, fun y hy => ?_⟩
  · have := fun q => h (key.mpr q)
    by_cases hh : Has c t
    · exact ⟨hh, fun e => this (.inr e)⟩
    · exact absurd (.inl hh) this
  · obtain ⟨b, a0, a7, a8, t0, t7, t8, k, i, t', hi, e, hm, ht', hR', hh', hz⟩ := hal.at' y hy
    refine ⟨b, a0, a7, a8, t0, t7, t8, k, e, hm, ?_⟩
    rintro ⟨rfl, rfl, rfl⟩
    have htC' := (hall t' (List.mem_of_getElem? ht')).1
    by_cases hh : Has c t
    · refine three_two hg hc1 hc6 (hd hz) htC htC' ?_ hR hR' hh hh'
      intro et
      subst et
      have hi' : i < (KT lost).length := (List.getElem?_eq_some_iff.mp ht').1
      have := (List.getElem?_inj hi' hnd).mp (ht'.trans ht.symm)
      omega
    · exact three_off hg hc1 hc6 (hd hz) htC' hR' hh' (three_same hg htC hR (.inl hh)).1
end
end
section
example : True ∧ True := by w_top off; first | (walk1 <;> trivial) | exact ⟨trivial, trivial⟩
open PySem PySem.W PyProof.Rows
set_option Elab.async false
set_option maxRecDepth 100000
set_option maxHeartbeats 8000000
set_option linter.unusedVariables false
set_option linter.unusedSimpArgs false
local macro_rules | `(tactic| walk_at $s:str) => lineAt ["newList", "subscriptTail Name Name ref int", "eval ListComp"] [] s
local macro_rules | `(tactic| walk_at "call type:range") => `(tactic| (k_here; (with_reducible show wpAny _ _ (call (Value.type "range") [_, _]) _ _ _); refine PySem.call_range_2 ?_))
local macro_rules | `(tactic| walk_at "call type:range") => `(tactic| (k_here; (with_reducible show wpAny _ _ (call (Value.type "range") [_]) _ _ _); refine PySem.call_range_1 ?_))

theorem get5 {a b c d e : Value} {i : Nat} (hi : i < 5) : (#[a, b, c, d, e] : Array Value)[((i : Int)).toNat]? = some ([a, b, c, d, e].getD i .none) := by
  have : i = 0 ∨ i = 1 ∨ i = 2 ∨ i = 3 ∨ i = 4 := by omega
  rcases this with rfl | rfl | rfl | rfl | rfl <;> rfl
theorem item5 {prog : Program} {w : World} {A : Around} {E : Value → Shared → Prop} {s : Shared} {h₀ : Heap} {L p : Addr} {news : List (Addr × Obj)} {value slice : Expr} {a b c d e : Value} {n i : Nat} {u : Tok} {Q : Value → Shared → Prop} (N : News h₀ L s.heap news) (hm : (p, listOf #[a, b, c, d, e] n) ∈ news) (hi : i < 5)
    (h : Q ([a, b, c, d, e].getD i .none) s)
    (hs : subscripted slice false (.ref p) (.int (i : Int) u) = operate [.ref p, .int (i : Int) u] (getItem (.ref p) (.int (i : Int) u)) := by with_unfolding_all rfl) (hg : ∀ r, letTemporaryGo value (.ref p) r = pure () := by intro _; with_unfolding_all rfl) :
    wpAny (model prog w) A (subscriptTail value slice (.ref p) (.int (i : Int) u)) Q E s :=
  item_list ⟨_, (N _ hm).1, rfl, _, rfl⟩ (by omega) (by omega) (get5 hi) h hs hg
section
variable {w : World}
theorem does_threes {p : Addr} {n : Nat} {a0 a1 a2 a3 a4 : Addr} : Does w 1 180 [(p, listOf #[.ref a0, .ref a1, .ref a2, .ref a3, .ref a4] n)] [.ref p] (fun tl v => ∃ D k ls, v = .ref D ∧ tl = (D, listOf (List.toArray (ls.map fun q => Value.ref q.1)) k) :: ls ∧ Made (fun i => [Value.ref a0, .ref a1, .ref a2, .ref a3, .ref a4].getD i .none) (T0 5) ls ∧ OffI D ls) := by
  intro loose mean mg mb dp un gd cn cs a ccd cl outer A₀ base h₀ L m news s Q E B F X N T hk hsub hdp hu hret
  revert X; k_fill; intro X
  refine call_retC (args := ⟨_, []⟩) ?_ rfl hret
  k_dflt (refine' enterSC [(p, listOf #[.ref a0, .ref a1, .ref a2, .ref a3, .ref a4] n)] ?k1 ?k2 ?k3 ?k4 ?k5 ?ks ?kA ?kF ?kK ?k6 ?k7 ?k8 ?k9 ?kB ?kD ?_ ?c2 ?c3 ?c4; (case kA => exact rfl); (case kF => exact rfl); (case kK => assumption); (case k1 => k_asm); (case k2 => k_asm); (case k3 => k_asm); (case k4 => k_asm); (case k5 => k_asm); (case ks => exact hsub); (case k6 => k_is); (case k7 => k_is); (case k8 => ktr_room); (case k9 => exact BindsTo.of_eq rfl); (case kB => exact rfl); (case kD => decide +kernel); (case c2 => exact rfl); (case c3 => exact rfl); (case c4 => exact rfl); k_whole; intro g' L' h' tk' cells' FG' F' N' Y' B' X' T' l1; clear hret; clear hsub; clear N; clear F; (try (replace l1 := allLt_of l1; simp only [AllLt, and_true] at l1)); (first | k_cells Y' | (have hY := cells_five Y'; obtain ⟨o', o2', o3', o4', o5', hE', d1', d2', d3', d4', d5'⟩ := hY; subst hE'; clear Y')); (try simp only [List.cons_append, List.nil_append] at N'); (try dsimp only); (try k_fold))
  k_steps
  refine Stop.go ?_
  rename Fr g' _ _ _ => kF
  rename News g' _ _ _ => kN
  refine ListComp3_N (P := fun i => [Value.ref a0, .ref a1, .ref a2, .ref a3, .ref a4].getD i .none) (h₀ := g') kF kN (by with_unfolding_all rfl) (by decide) rfl (by decide) ?T ?h (by intro _; rfl) ?fin
  case h =>
    k_steps
    refine Stop.go ⟨_, _, _, _, rfl, IsRange.new _ _ _ _ _ _ _, keepsOf fun b o e => Heap.get?_push_of_some _ e⟩
  case T =>
    intro C
    refine ⟨rfl, rfl, rfl, rfl, rfl, rfl, by decide, by decide, by decide, by intro _; rfl, by intro _; rfl, ?r1, ?r2, ?el⟩
    case r1 =>
      intro i h tk oC mC news' E' hi ho hx hC hb F₃ N₃
      obtain ⟨t, hx⟩ := hx
      have N₄ : News g' L' h [(C, oC), _, _, _] := fun q hq => N₃ q (by
        rcases List.mem_cons.mp hq with rfl | hq
        · exact hC
        · exact hb q hq)
      clear kF kN N₃ hb hC
      k_steps
      refine Stop.go ⟨_, _, _, _, rfl, IsRange.new _ _ _ _ _ _ _, keepsOf fun b o e => Heap.get?_push_of_some _ e⟩
    case r2 =>
      intro i h tk oC mC news' E' hi ho hx hC hb F₃ N₃
      obtain ⟨t, hx⟩ := hx
      have N₄ : News g' L' h [(C, oC), _, _, _] := fun q hq => N₃ q (by
        rcases List.mem_cons.mp hq with rfl | hq
        · exact hC
        · exact hb q hq)
      clear kF kN N₃ hb hC
      k_steps
      refine Stop.go ⟨_, _, _, _, rfl, IsRange.new _ _ _ _ _ _ _, keepsOf fun b o e => Heap.get?_push_of_some _ e⟩
    case el =>
      intro i j k h tk oC mC news' E' hi hj hk ho hx hy hz hC hb F₃ N₃
      obtain ⟨t, hx⟩ := hx
      obtain ⟨t', hy⟩ := hy
      obtain ⟨t'', hz⟩ := hz
      have N₄ : News g' L' h [(C, oC), _, _, _] := fun q hq => N₃ q (by
        rcases List.mem_cons.mp hq with rfl | hq
        · exact hC
        · exact hb q hq)
      have N0 : Stop (News g' L' h news') := N₃
      have F0 : Stop (Fr g' L' h _) := F₃
      clear kF kN N₃ hb hC
      k_steps
      refine Stop.go ?_
      (refine' item5 ?N ?m ?i ?_; (case N => k_asm); (case m => k_mem); (case i => assumption))
      k_steps
      refine Stop.go ?_
      (refine' item5 ?N ?m ?i ?_; (case N => k_asm); (case m => k_mem); (case i => assumption))
      k_steps
      refine Stop.go ?_
      (refine' item5 ?N ?m ?i ?_; (case N => k_asm); (case m => k_mem); (case i => assumption))
      k_steps
      refine Stop.go (wpAny_newList ?_ (by show 3 ≤ sizeLine; decide))
      k_steps
      exact Stop.go ⟨_, 0, _, _, rfl, rfl, Fr.push F0 _, News.push F0 N0 _, fun q hq => Nat.ne_of_lt (Heap.lt_size (N0 q hq).1)⟩
  case fin =>
    intro D k ls h' tk' hM oD oL F' N'
    refine leaveK_ F' N' fun kF2 kN2 => ?_
    refine RetS.intro ((D, listOf (List.toArray (ls.map fun q => Value.ref q.1)) k) :: ls) (fun q hq => kN2 q ?_) (fun q hq => (N' q ?_).2.2) (fun q hq z hz => ?_) ⟨D, k, ls, rfl, rfl, hM, oD.left⟩
    · rcases List.mem_append.mp hq with hq | hq
      · rcases List.mem_cons.mp hq with rfl | hq
        · exact .head _
        · exact List.mem_cons_of_mem _ (List.mem_append_left _ hq)
      · exact List.mem_cons_of_mem _ (List.mem_append_right _ (.tail _ (.tail _ hq)))
    · rcases List.mem_cons.mp hq with rfl | hq
      · exact .head _
      · exact List.mem_cons_of_mem _ (List.mem_append_left _ hq)
    · rcases List.mem_cons.mp hq with rfl | hq
      · exact oD.right _ (.tail _ (.tail _ hz))
      · exact oL q hq _ (.tail _ (.tail _ hz))

end
end
section
example : True ∧ True := by w_top off; first | (walk1 <;> trivial) | exact ⟨trivial, trivial⟩
open PySem PySem.W PyProof.Rows PySem.Calls
set_option Elab.async false
set_option maxRecDepth 100000
set_option maxHeartbeats 8000000
set_option linter.unusedVariables false
set_option linter.unusedSimpArgs false
local macro_rules | `(tactic| walk_at $s:str) => lineAt ["call ref", "pyIter ref", "execs cons"] [] s
def S_law_10a (z : Zx) : Prop :=
  (LawC (z.w) (z.b.loose) (z.b.mean) (z.b.mg) (z.b.mb) (z.b.g) (z.b.L)) →
  (Drawn (z.v.i 0) (z.v.i 1) (z.v.i 2) (z.v.i 3) (z.v.i 4) (z.v.i 5)) →
  (4 ≤ (z.v.i 6)) →
  ((z.v.i 6) ≤ 5) →
  ((z.v.o 0).data = .cell (some (.ref (z.v.p 3)))) →
  (ChOk (portF (z.v.i 0) (z.v.i 1) (z.v.i 2)) (toldF (portF (z.v.i 0) (z.v.i 1) (z.v.i 2)) (z.v.i 4) (z.v.i 5) (z.v.i 6)) ((z.v.i 3) % 6 + 1) (z.v.l 0)) →
  (∀ i : Nat, i < 5 → ∃ q t1 t2, [Value.ref (z.v.p 5), .ref (z.v.p 6), .ref (z.v.p 7), .ref (z.v.p 8), .ref (z.v.p 9)].getD i .none = .ref q ∧ (q, kdv_tup [.int (nthK ((z.v.i 3) % 6 + 1) i) t1, .int (toldF (portF (z.v.i 0) (z.v.i 1) (z.v.i 2)) (z.v.i 4) (z.v.i 5) (z.v.i 6) (nthK ((z.v.i 3) % 6 + 1) i)) t2]) ∈ (z.v.e 0)) →
  (((z.v.p 4), listOf #[.ref (z.v.p 5), .ref (z.v.p 6), .ref (z.v.p 7), .ref (z.v.p 8), .ref (z.v.p 9)] (z.v.n 3)) ∈ (z.v.e 0)) →
  (((z.v.p 2), listOf #[.int (crv (z.v.i 0) (z.v.i 1) (z.v.i 2) 0 % 65521) (z.v.t 0), .int (crv (z.v.i 0) (z.v.i 1) (z.v.i 2) 7 % 65521) (z.v.t 1), .int (crv (z.v.i 0) (z.v.i 1) (z.v.i 2) 8 % 65521) (z.v.t 2)] (z.v.n 1)) ∈ (z.v.e 0)) →
  (((z.v.p 3), listOf (z.v.l 0).toArray (z.v.n 2)) ∈ (z.v.e 0)) →
  (((z.b.L) + 5, (z.v.o 0)) ∈ (z.v.e 0)) →
  ((158, tabObj (z.v.a 0)) ∈ (z.v.e 0)) →
  (OffI (z.v.p 1) (z.v.e 0)) →
  ((z.v.m 0) (Str.ofString "points") = some (.ref (z.v.p 4))) →
  ((z.v.m 0) (Str.ofString "due") = some (.ref (z.v.p 2))) →
  ((z.v.m 0) (Str.ofString "alone") = some (.ref (z.v.p 1))) →
  (Fr (z.b.g) (z.b.L) z.b.h (z.v.m 0)) →
  (News (z.b.g) (z.b.L) z.b.h (((z.v.p 1), listOf #[] (z.v.n 0)) :: (z.v.e 0))) →
  (LawEnd (z.b.g) (z.b.L) (⟨z.b.h, z.b.gn, z.b.dr, z.b.tk, z.b.os⟩ : Shared) (z.b.Q)) →
  LawAt (z.w) (z.b.L) (z.v.p 0) (z.v.v 0) 15 (z.b.Q) (⟨z.b.h, z.b.gn, z.b.dr, z.b.tk, z.b.os⟩ : Shared)
noncomputable def z_law_10a : Zx := eps S_law_10a
theorem b_law_10a : S_law_10a z_law_10a := by
  intro H dr hw4 hw5 c5 hch hp5 hPt hD hG h5 h158 oAl hm1 hm2 hm3 F N hend
  have H0 := H
  have hkv : ∀ q ∈ [(Str.ofString "points", Value.ref (z_law_10a.v.p 4))], (z_law_10a.v.m 0) q.1 = some q.2 := List.forall_mem_cons.mpr ⟨hm1, List.forall_mem_nil _⟩
  have F1 := fr_tab F _ hkv
  have em := tab_eq _ hkv
  clear F
  have N0 : News (z_law_10a.b.g) (z_law_10a.b.L) z_law_10a.b.h (((z_law_10a.v.p 4), listOf #[.ref (z_law_10a.v.p 5), .ref (z_law_10a.v.p 6), .ref (z_law_10a.v.p 7), .ref (z_law_10a.v.p 8), .ref (z_law_10a.v.p 9)] (z_law_10a.v.n 3)) :: ((z_law_10a.v.p 1), listOf #[] (z_law_10a.v.n 0)) :: (z_law_10a.v.e 0)) := fun q hq => by
    rcases List.mem_cons.mp hq with rfl | hq
    · exact N _ (.tail _ hPt)
    · exact N _ hq
  clear N
  obtain ⟨B, X, T, C, l1⟩ := H
  unfold LawAt lawE lawD dOf
  dsimp only [List.drop]
  revert X; k_fill; intro X
  refine wpC_of (wpAny_execs_cons (For_by ?_))
  k_steps
  refine Stop.go ?_
  rename Fr _ _ _ _ => kF
  rename News _ _ _ _ => kN
  refine' does_threes (p := (z_law_10a.v.p 4)) _ _ _ _ _ _ _ _ _ _ _ _ _ _ _ _ _ _ _ _ _ _ B kF X kN T ?kK ?sub ?kd9 ?ku ?_
  case kK => first | exact rfl | assumption
  case sub => exact List.forall_mem_cons.mpr ⟨.head _, List.forall_mem_nil _⟩
  case kd9 => first | decide | ktr_room
  case ku => first | decide | ktr_units
  rintro v tl h' tk' ⟨Th, kT, ls, rfl, rfl, hM, oTh⟩ F' N' sep hk
  have kF' : Fr (z_law_10a.b.g) (z_law_10a.b.L) h' (z_law_10a.v.m 0) := em ▸ F'
  have sepA : ∀ q ∈ (Th, listOf (List.toArray (ls.map fun q => Value.ref q.1)) kT) :: ls, (q.1 : Nat) ≠ (z_law_10a.v.p 1) := fun q hq e => sep q hq ((z_law_10a.v.p 1), listOf #[] (z_law_10a.v.n 0)) (.tail _ (.head _)) e.symm
  obtain ⟨fx', hfx'⟩ : ∃ fx', fx' = (Th, listOf (List.toArray (ls.map fun q => Value.ref q.1)) kT) :: (ls ++ (z_law_10a.v.e 0)) := ⟨_, rfl⟩
  have hsub : ∀ q ∈ (z_law_10a.v.e 0), q ∈ fx' := fun q hq => hfx' ▸ .tail _ (List.mem_append_right _ hq)
  have hls : ∀ q ∈ ls, q ∈ fx' := fun q hq => hfx' ▸ .tail _ (List.mem_append_left _ hq)
  have hTh : (Th, listOf (List.toArray (ls.map fun q => Value.ref q.1)) kT) ∈ fx' := hfx' ▸ .head _
  have oA' : OffI (z_law_10a.v.p 1) fx' := fun q hq => by
    rw [hfx'] at hq
    rcases List.mem_cons.mp hq with rfl | hq
    · exact sepA _ (.head _)
    · rcases List.mem_append.mp hq with hq | hq
      · exact sepA q (.tail _ hq)
      · exact oAl q hq
  have N1 : News (z_law_10a.b.g) (z_law_10a.b.L) h' (((z_law_10a.v.p 1), listOf #[] (z_law_10a.v.n 0)) :: ([] ++ fx')) := fun q hq => by
    rcases List.mem_cons.mp hq with rfl | hq
    · exact N' _ (List.mem_append_right _ (.tail _ (.head _)))
    · rw [List.nil_append, hfx'] at hq
      rcases List.mem_cons.mp hq with rfl | hq
      · exact N' _ (List.mem_append_left _ (.head _))
      · rcases List.mem_append.mp hq with hq | hq
        · exact N' _ (List.mem_append_left _ (.tail _ hq))
        · exact N' _ (List.mem_append_right _ (.tail _ (.tail _ hq)))
  have hp5' : ∀ i : Nat, i < 5 → ∃ q t1 t2, [Value.ref (z_law_10a.v.p 5), .ref (z_law_10a.v.p 6), .ref (z_law_10a.v.p 7), .ref (z_law_10a.v.p 8), .ref (z_law_10a.v.p 9)].getD i .none = .ref q ∧ (q, kdv_tup [.int (nthK ((z_law_10a.v.i 3) % 6 + 1) i) t1, .int (toldF (portF (z_law_10a.v.i 0) (z_law_10a.v.i 1) (z_law_10a.v.i 2)) (z_law_10a.v.i 4) (z_law_10a.v.i 5) (z_law_10a.v.i 6) (nthK ((z_law_10a.v.i 3) % 6 + 1) i)) t2]) ∈ fx' := fun i hi => by
    obtain ⟨q, t1, t2, e, hq⟩ := hp5 i hi
    exact ⟨q, t1, t2, e, hsub _ hq⟩
  have hlen := Made.length hM
  have hy : IntsOnly (z_law_10a.v.l 0) := ⟨fun y hy => by obtain ⟨k, t, e, _⟩ := hch.only y hy; exact ⟨k, t, e⟩⟩
  have hsz10 : (List.toArray (ls.map fun q => Value.ref q.1)).size = 10 := by rw [List.size_toArray, List.length_map, hlen]
  clear kF kN F' N' sep hk sepA
  refine by_list (h₀ := (z_law_10a.b.g)) (L := (z_law_10a.b.L)) (m := (z_law_10a.v.m 0)) rfl (fun _ _ _ _ _ h => go_name h) kF' N1 (.tail _ (by rw [List.nil_append]; exact hTh))
    (fun i b m₁ news₁ => (z_law_10a.b.g) = b ∧ ∃ al kq rows, news₁ = ((z_law_10a.v.p 1), listOf al kq) :: (rows ++ fx') ∧ OffI (z_law_10a.v.p 1) (rows ++ fx') ∧ AlOk (toldF (portF (z_law_10a.v.i 0) (z_law_10a.v.i 1) (z_law_10a.v.i 2)) (z_law_10a.v.i 4) (z_law_10a.v.i 5) (z_law_10a.v.i 6)) ((z_law_10a.v.i 3) % 6 + 1) (colC (z_law_10a.v.i 4) (z_law_10a.v.i 6)) (colD (z_law_10a.v.i 0) (z_law_10a.v.i 1) (z_law_10a.v.i 2) (z_law_10a.v.i 4) (z_law_10a.v.i 5) (z_law_10a.v.i 6)) i al (rows ++ fx') ∧ m₁ (Str.ofString "due") = some (.ref (z_law_10a.v.p 2)) ∧ m₁ (Str.ofString "alone") = some (.ref (z_law_10a.v.p 1))) ?hJk ?h0 ?step ?fin
  case hJk =>
    rintro i b m₁ news₁ ⟨_, al, ka', rows, rfl, _⟩
    exact .tail _ (List.mem_append_right _ hTh)
  case h0 => exact ⟨rfl, #[], (z_law_10a.v.n 0), [], rfl, oA', .nil, hm2, hm3⟩
  case step =>
    clear kF' N1
    rintro i v b m₁ news₁ IT oI h₁ tk₁ hi hv ⟨rfl, al, ka', rows, rfl, oA1, hal, g2, g3⟩ F1 N1 o1
    rw [hsz10] at hi
    have hv' : ∃ tt, ls[i]? = some tt ∧ v = .ref tt.1 := by
      rw [List.getElem?_toArray, List.getElem?_map] at hv
      cases hq : ls[i]? with
      | none => rw [hq] at hv; cases hv
      | some tt => rw [hq] at hv; cases hv; exact ⟨tt, rfl, rfl⟩
    obtain ⟨tt, htt, rfl⟩ := hv'
    obtain ⟨t, n3, q1, q2, q3, t0, t1, t2, t3, t4, t5, ht, e3, w1, w2, w3⟩ := three_at hM hp5' htt
    obtain ⟨tA, tO⟩ := tt
    have htt' := htt
    dsimp only at e3
    subst e3
    obtain ⟨_, _, hall⟩ := chk_KT ((z_law_10a.v.i 3) % 6 + 1) (mem6 (by omega) (by omega))
    obtain ⟨htC, b1, b2, b3, b4, _⟩ := hall t (List.mem_of_getElem? ht)
    have up : ∀ q ∈ fx', q ∈ rows ++ fx' := fun q hq => List.mem_append_right _ hq
    have hc := colC_lim (d4 := (z_law_10a.v.i 4)) hw4
    have facts := fun {r0 r7 r8 : Int} (hR : R3 (toldF (portF (z_law_10a.v.i 0) (z_law_10a.v.i 1) (z_law_10a.v.i 2)) (z_law_10a.v.i 4) (z_law_10a.v.i 5) (z_law_10a.v.i 6)) t r0 r7 r8) => row_facts (j := i) (al := al) (rest := rows ++ fx') (lost := (z_law_10a.v.i 3) % 6 + 1) (by omega) (by omega) hc.1 hc.2 (fun k => toldF_as k) told_is (colD_big hw4 hw5) hch hal ht hR
    have hal10 : al.size ≤ sizeLine := by rw [sizeLine_eq]; have := hal.sz; omega
    clear hM hp5' hv htt hsz10 hlen hall
    k_steps
    rename Fr _ _ _ _ => kF
    rename News _ _ _ _ => kN
    refine Stop.go ?_
    show InC (z_law_10a.w) (z_law_10a.b.L) (z_law_10a.v.p 0) (z_law_10a.v.v 0) 0 _ _
    refine turn2 H0 (oI := oI) (m := fun y => if y = Str.ofString "three" then some (Value.ref tA) else m₁ y) b1 b2 b3 b4 hy c5 (fun r0 r7 r8 hT => ?_) (up _ (hls _ (List.mem_of_getElem? htt'))) (up _ w1) (up _ w2) (up _ w3) (up _ (hsub _ hG)) (up _ (hsub _ h5)) (up _ (hsub _ hD)) oA1 o1 hal10 (by exact if_pos rfl) (name_set g2 (by decide)) (name_set g3 (by decide)) kF kN ?_
    · have := facts hT
      exact ⟨this.1, this.2.2⟩
    · intro r kr ka'' r0 r7 r8 s0 s7 s8 al' h2 tk2 m2 hT ea oA2 oI2 n2 n3' F2 N2
      have f := facts hT
      refine ⟨(z_law_10a.b.g), h2, tk2, m2, _, rfl, F2, N2, oI2, rfl, al', ka'', (r, listOf #[.int r0 s0, .int r7 s7, .int r8 s8] kr) :: rows, rfl, oA2, ?_, n2, n3'⟩
      rw [ea]
      by_cases hd : decide (r0 = crv (z_law_10a.v.i 0) (z_law_10a.v.i 1) (z_law_10a.v.i 2) 0 % 65521 ∧ r7 = crv (z_law_10a.v.i 0) (z_law_10a.v.i 1) (z_law_10a.v.i 2) 7 % 65521 ∧ r8 = crv (z_law_10a.v.i 0) (z_law_10a.v.i 1) (z_law_10a.v.i 2) 8 % 65521) = true
      · rw [if_pos hd]
        exact hal.skip fun q hq => .tail _ hq
      · rw [if_neg hd]
        obtain ⟨x1, x2⟩ := f.2.1 hd
        exact hal.add (fun q hq => .tail _ hq) (.head _) ht hT x1 x2
  case fin =>
    rintro b h3 tk3 m3 news3 ⟨rfl, al, ka', rows, rfl, oA1, hal, g2, g3⟩ F3 N3
    have hE := hend h3 tk3 m3 _ (z_law_10a.v.a 0) F3 N3 (.tail _ (List.mem_append_right _ (hsub _ h158)))
    k_steps
    refine Stop.go (wpAny_execs_cons ?_)
    k_steps
    exact hE
theorem law_10a {w : World} {loose : List Str} {mean : ExcName → Option Value} {mg mb : Str → Option Value} {g : Heap} {L a : Addr} {cd : Value} {m : Str → Option Value} {s : Shared} {Q : Flow → Shared → Prop} (H : LawC w loose mean mg mb g L){Al Du G Pt : Addr} {d0 d1 d2 d3 d4 d5 : Int} {wd : Int} {z0 z7 z8 : Tok} {ka kd kg kp : Nat} {ys : List Value} {ps : Array Value} {a0 a1 a2 a3 a4 : Addr} {o5 : Obj} {fx : List (Addr × Obj)} (dr : Drawn d0 d1 d2 d3 d4 d5) (hw4 : 4 ≤ wd) (hw5 : wd ≤ 5) (c5 : o5.data = .cell (some (.ref G)))
    (hch : ChOk (portF d0 d1 d2) (toldF (portF d0 d1 d2) d4 d5 wd) (d3 % 6 + 1) ys) (hp5 : ∀ i : Nat, i < 5 → ∃ q t1 t2, [Value.ref a0, .ref a1, .ref a2, .ref a3, .ref a4].getD i .none = .ref q ∧ (q, kdv_tup [.int (nthK (d3 % 6 + 1) i) t1, .int (toldF (portF d0 d1 d2) d4 d5 wd (nthK (d3 % 6 + 1) i)) t2]) ∈ fx) (hPt : (Pt, listOf #[.ref a0, .ref a1, .ref a2, .ref a3, .ref a4] kp) ∈ fx) (hD : (Du, listOf #[.int (crv d0 d1 d2 0 % 65521) z0, .int (crv d0 d1 d2 7 % 65521) z7, .int (crv d0 d1 d2 8 % 65521) z8] kd) ∈ fx) (hG : (G, listOf ys.toArray kg) ∈ fx) (h5 : (L + 5, o5) ∈ fx) (h158 : (158, tabObj ps) ∈ fx) (oAl : OffI Al fx)
    (hm1 : m (Str.ofString "points") = some (.ref Pt)) (hm2 : m (Str.ofString "due") = some (.ref Du)) (hm3 : m (Str.ofString "alone") = some (.ref Al)) (F : Fr g L s.heap m) (N : News g L s.heap ((Al, listOf #[] ka) :: fx)) (hend : LawEnd g L s Q) : LawAt w L a cd 15 Q s :=
  eps_all b_law_10a ⟨w, { loose := loose, mean := mean, mg := mg, mb := mb, g := g, L := L, Q := Q, h := s.heap, gn := s.gens, dr := s.drawn, tk := s.toks, os := s.os }, { p := fun | 0 => a | 1 => Al | 2 => Du | 3 => G | 4 => Pt | 5 => a0 | 6 => a1 | 7 => a2 | 8 => a3 | _ => a4, v := fun | _ => cd, m := fun | _ => m, i := fun | 0 => d0 | 1 => d1 | 2 => d2 | 3 => d3 | 4 => d4 | 5 => d5 | _ => wd, t := fun | 0 => z0 | 1 => z7 | _ => z8, n := fun | 0 => ka | 1 => kd | 2 => kg | _ => kp, l := fun | _ => ys, a := fun | _ => ps, o := fun | _ => o5, e := fun | _ => fx }⟩ H dr hw4 hw5 c5 hch hp5 hPt hD hG h5 h158 oAl hm1 hm2 hm3 F N hend
/-- the law's second loop, and its end -/
theorem law_10 {w : World} {loose : List Str} {mean : ExcName → Option Value} {mg mb : Str → Option Value} {g : Heap} {L a : Addr} {cd : Value} {m : Str → Option Value} {s : Shared} {Q : Flow → Shared → Prop} (H : LawC w loose mean mg mb g L){Al Du G Pt : Addr} {d0 d1 d2 d3 d4 d5 : Int} {u0 u1 u2 u3 u4 u5 : Tok} {n : Nat} {wd : Int} {z0 z7 z8 : Tok} {ka kd kg kp : Nat} {ys : List Value} {its ps : Array Value} {o5 : Obj} {fx : List (Addr × Obj)} (dr : Drawn d0 d1 d2 d3 d4 d5) (hw4 : 4 ≤ wd) (hw5 : wd ≤ 5) (c5 : o5.data = .cell (some (.ref G)))
    (hch : ChOk (portF d0 d1 d2) (toldF (portF d0 d1 d2) d4 d5 wd) (d3 % 6 + 1) ys) (hpt : PtsOk (toldF (portF d0 d1 d2) d4 d5 wd) (d3 % 6 + 1) 6 its fx) (hPt : (Pt, listOf its kp) ∈ fx) (hD : (Du, listOf #[.int (crv d0 d1 d2 0 % 65521) z0, .int (crv d0 d1 d2 7 % 65521) z7, .int (crv d0 d1 d2 8 % 65521) z8] kd) ∈ fx) (hG : (G, listOf ys.toArray kg) ∈ fx) (h5 : (L + 5, o5) ∈ fx) (h158 : (158, tabObj ps) ∈ fx) (oAl : OffI Al fx)
    (hm1 : m (Str.ofString "points") = some (.ref Pt)) (hm2 : m (Str.ofString "due") = some (.ref Du)) (hm3 : m (Str.ofString "alone") = some (.ref Al)) (F : Fr g L s.heap m) (N : News g L s.heap ((Al, listOf #[] ka) :: fx)) (hend : LawEnd g L s Q) : LawAt w L a cd 15 Q s := by
  obtain ⟨a0, a1, a2, a3, a4, rfl, hp5⟩ := pts5 hpt (by omega) (by omega)
  exact law_10a H dr hw4 hw5 c5 hch hp5 hPt hD hG h5 h158 oAl hm1 hm2 hm3 F N hend
end
section
open PySem PySem.W PyProof.Rows PySem.Calls
set_option Elab.async false
set_option maxRecDepth 100000
set_option maxHeartbeats 8000000
set_option linter.unusedVariables false
theorem ap_ne {L a b : Nat} (h : Nat.beq a b = false) : L + a ≠ L + b := fun e => Nat.ne_of_beq_eq_false h (Nat.add_left_cancel e)
theorem ap_gt {L a : Nat} (h : 158 < L) : L + a ≠ 158 := Nat.ne_of_gt (Nat.lt_of_lt_of_le h (Nat.le_add_right L a))
theorem ap_start {L : Addr} (h : (158 : Nat) < L) : Apart [L + 5, L + 4, L + 3, L + 2, L + 1, 158] := by
  unfold Apart
  repeat' (first | exact List.Pairwise.nil | refine List.Pairwise.cons ?_ ?_ | exact List.forall_mem_nil _ | refine List.forall_mem_cons.mpr ⟨?_, ?_⟩ | exact ap_gt h | exact ap_ne (L := L) rfl)
theorem PtsOk.mono {F : Int → Int} {lost : Int} {i : Nat} {its : Array Value} {rest rest' : List (Addr × Obj)} (h : PtsOk F lost i its rest) (hs : ∀ q ∈ rest, q ∈ rest') : PtsOk F lost i its rest' := by
  obtain ⟨as, h1, h2, h3⟩ := h.at'
  exact ⟨as, h1, h2, fun j a k ha hk => by
    obtain ⟨t1, t2, hm⟩ := h3 j a k ha hk
    exact ⟨t1, t2, hs _ hm⟩⟩
theorem law_holds : PySem.Challenge.rw_zd0006_01.Holds := law_start (by
  intro w loose mean mg mb g L a sc cd vs ns o1 o2 o3 o4 o5 m s Q B X T C hsc hI hlen l1 hm F N c1 c2 c3 c4 c5 hend
  have H : LawC w loose mean mg mb g L := ⟨B, X, T, C, l1⟩
  refine law_0 H hsc hI hlen hm F N (ap_start l1) c1 ?_
  intro D d0 d1 d2 d3 d4 d5 u0 u1 u2 u3 u4 u5 n o1' h1 tk1 m1 dr c1' F1 N1 ap1
  refine law_1 H c1' c2 F1 N1 ap1 ?_
  intro P oP o2' h2 tk2 m2 hP hPs c2' F2 N2 ap2
  refine law_2 H dr hP hPs c1' c2' c3 F2 N2 ap2 ?_
  intro o3' t3 h3 tk3 m3 c3' F3 N3 ap3
  refine law_3 H dr hP hPs c1' c2' c3' F3 N3 ap3 ?_
  intro M t9 h4 tk4 m4 hM hw F4 N4 ap4
  refine law_4 H dr hP hPs c1' c2' c3' hM hw F4 N4 ap4 ?_
  intro G0 ys0 k0 h5 tk5 m5 hy hw5 hG0 F5 N5
  refine law_5 H dr hP hPs c1' c2' hy hw5 hG0 F5 N5 ap4 ?_
  intro h6 tk6 m6 hw6 F6 N6 ap6
  have wd4 : 4 ≤ (if M ≤ 9999 then 4 else 5 : Int) := by split <;> omega
  have wd5 : (if M ≤ 9999 then 4 else 5 : Int) ≤ 5 := by split <;> omega
  have hwd := wdOk_of (f := portF d0 d1 d2) (d3 := d3) hM
  generalize (if M ≤ 9999 then 4 else 5 : Int) = wd at wd4 wd5 hwd hw6
  refine law_6 H dr hP hPs c1' c2' c3' c4 wd4 wd5 hw6 F6 N6 ap6 ?_
  intro Tk O Pt txs nt kp oO o4' h7 tk7 m7 rf tr hl6 ht hO hOs c4' g1 g2 g3 hr F7 N7 ap7
  have e1 : @Ne Nat O Pt ∧ @Ne Nat Tk Pt ∧ @Ne Nat P Pt ∧ @Ne Nat D Pt ∧ @Ne Nat (L + 5) Pt ∧ @Ne Nat (L + 4) Pt ∧ @Ne Nat (L + 3) Pt ∧ @Ne Nat (L + 2) Pt ∧ @Ne Nat (L + 1) Pt ∧ @Ne Nat 158 Pt := ⟨(ap7.ne 0 1 (by decide) rfl rfl).symm, (ap7.ne 0 2 (by decide) rfl rfl).symm, (ap7.ne 0 3 (by decide) rfl rfl).symm, (ap7.ne 0 4 (by decide) rfl rfl).symm, (ap7.ne 0 5 (by decide) rfl rfl).symm, (ap7.ne 0 6 (by decide) rfl rfl).symm, (ap7.ne 0 7 (by decide) rfl rfl).symm, (ap7.ne 0 8 (by decide) rfl rfl).symm, (ap7.ne 0 9 (by decide) rfl rfl).symm, (ap7.ne 0 10 (by decide) rfl rfl).symm⟩
  have e4 : @Ne Nat O (L + 5) ∧ @Ne Nat Tk (L + 5) ∧ @Ne Nat P (L + 5) ∧ @Ne Nat D (L + 5) := ⟨ap7.ne 1 5 (by decide) rfl rfl, ap7.ne 2 5 (by decide) rfl rfl, ap7.ne 3 5 (by decide) rfl rfl, ap7.ne 4 5 (by decide) rfl rfl⟩
  have e2 : @Ne Nat O 158 ∧ @Ne Nat Tk 158 ∧ @Ne Nat P 158 ∧ @Ne Nat D 158 := ⟨ap7.ne 1 10 (by decide) rfl rfl, ap7.ne 2 10 (by decide) rfl rfl, ap7.ne 3 10 (by decide) rfl rfl, ap7.ne 4 10 (by decide) rfl rfl⟩
  have e3 : @Ne Nat (L + 5) 158 ∧ @Ne Nat (L + 4) 158 ∧ @Ne Nat (L + 3) 158 ∧ @Ne Nat (L + 2) 158 ∧ @Ne Nat (L + 1) 158 := ⟨ap7.ne 5 10 (by decide) rfl rfl, ap7.ne 6 10 (by decide) rfl rfl, ap7.ne 7 10 (by decide) rfl rfl, ap7.ne 8 10 (by decide) rfl rfl, ap7.ne 9 10 (by decide) rfl rfl⟩
  refine law_7 H wd4 wd5 hwd c3' c4' hO hOs hl6 ht hr e1 e2 e3 hP hPs c2' e4 g1 g2 g3 F7 N7 ?_
  intro h8 tk8 kp' its ps rest m8 LO F8 N8
  refine law_8 H (rest := rest) c2' c3' c4' hP hPs hO hOs e4 e1.2.2.2.2.1 c5 LO.oL5 F8 N8 ?_
  intro G ys k o5' h9 tk9 hch c5' F9 N9
  refine law_9 H (rest := rest) dr c1' LO.points F9 N9 ?_
  intro Al Du s0 s7 s8 ka kd h10 tk10 m10 p1 p2 p3 oAl F10 N10
  exact law_10 (ps := ps) (n := n) (u0 := u0) (u1 := u1) (u2 := u2) (u3 := u3) (u4 := u4) (u5 := u5) H dr wd4 wd5 c5' hch (LO.pts.mono (fun q hq => (.tail _ (.tail _ (.tail _ (.tail _ (.tail _ (.tail _ (.tail _ (.tail _ (.tail _ (.tail _ (.tail _ (.tail _ (.tail _ hq))))))))))))))) (.tail _ (.tail _ (.head _))) (.head _) (.tail _ (.head _)) (.tail _ (.tail _ (.tail _ (.tail _ (.tail _ (.tail _ (.tail _ (.head _)))))))) (.tail _ (.tail _ (.tail _ (.tail _ (.tail _ (.tail _ (.tail _ (.tail _ (.tail _ (.tail _ (.tail _ (.tail _ (.head _))))))))))))) oAl p1 p2 p3 F10 N10 hend)
end
end Mine
set_option Elab.async false
theorem PySem.Challenge.cw_zd0006_01_holds : PySem.Challenge.rw_zd0006_01.Holds :=
  Mine.law_holds
