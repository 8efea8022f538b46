import PyProof.Rows.All
import Wide.All
import OpenK.AllK
import Wide.FinOn
import PySem.Challenge.RW_ij0094_01
set_option Elab.async false
set_option maxRecDepth 100000
set_option linter.all false

section
open PySem PySem.W PyProof.Rows PySem.Calls
open PySem.Sem (wp)
namespace Mine
/-- the claim's caller stands in the stack -/
def Cal (Γ : PySem.Ctx) : Prop := Γ.code.isCaller = true ∨ ∃ q ∈ Γ.below, q.1.isCaller = true
def CalB (Γ : PySem.Ctx) : Prop := ∃ q ∈ Γ.below, q.1.isCaller = true
def wpC {α : Type} (M : Model) (A : Around) (t : Sem α) (Q : α → Shared → Prop) (E : Value → Shared → Prop) (s : Shared) : Prop :=
  ∀ Γ p, Γ.In A → Cal Γ → wp M Γ t (fun a _ s' => Q a s') (fun e _ s' => E e s') p s
def codeC (M : Model) (A : Around) (c : Code) (R : Result → Shared → Prop) (s : Shared) : Prop :=
  ∀ Γ p, Γ.code = c → Γ.Below A → CalB Γ → wpCode M Γ R p s
theorem Cal.of_B {Γ : PySem.Ctx} (h : CalB Γ) : Cal Γ := .inr h
section
variable {α β : Type} {M : Model} {A : Around} {E : Value → Shared → Prop} {s : Shared}
theorem wpC_of {t : Sem α} {Q : α → Shared → Prop} (h : wpAny M A t Q E s) : wpC M A t Q E s := fun Γ p hΓ _ => h Γ p hΓ
theorem codeC_of {c : Code} {R : Result → Shared → Prop} (h : codeAny M A c R s) : codeC M A c R s := fun Γ p hc hΓ _ => h Γ p hc hΓ
theorem wpC_bind {m : Sem α} {f : α → Sem β} {Q : β → Shared → Prop} (h : wpC M A m (fun a s' => wpC M A (f a) Q E s') E s) : wpC M A (m >>= f) Q E s := fun Γ p hΓ hC => by
  rw [Sem.wp_bind']
  exact Sem.wp_mono M Γ m (fun a p' s' h' => h' Γ p' hΓ hC) (fun _ _ _ h' => h') p s (h Γ p hΓ hC)
theorem wpC_bindA {m : Sem α} {f : α → Sem β} {Q : β → Shared → Prop} (h : wpAny M A m (fun a s' => wpC M A (f a) Q E s') E s) : wpC M A (m >>= f) Q E s := wpC_bind (wpC_of h)
theorem wpC_mono {t : Sem α} {Q Q' : α → Shared → Prop} {E' : Value → Shared → Prop} (h : wpC M A t Q E s) (hQ : ∀ a s, Q a s → Q' a s) (hE : ∀ e s, E e s → E' e s) : wpC M A t Q' E' s :=
  fun Γ p hΓ hC => Sem.wp_mono M Γ t (fun a _ s => hQ a s) (fun e _ s => hE e s) p s (h Γ p hΓ hC)
theorem wpC_holding {vs : List Value} {m : Sem α} {Q : α → Shared → Prop} (h : wpC M A m Q E s) : wpC M A (holding vs m) Q E s :=
  fun Γ p hΓ hC => by rw [Sem.wp_holding]; exact h Γ p hΓ hC
theorem wpC_onRaise {m : Sem α} {k : Value → Sem Unit} {Q : α → Shared → Prop} (h : wpC M A m Q (fun e s' => wpAny M A (k e) (fun _ s'' => E e s'') E s') s) : wpC M A (m.onRaise k) Q E s := fun Γ p hΓ hC => by
  rw [Sem.wp_onRaise]
  exact Sem.wp_mono M Γ m (fun _ _ _ h' => h') (fun e p' s' h' => h' Γ p' hΓ) p s (h Γ p hΓ hC)
theorem wpC_attempt {m : Sem α} {Q : Except Value α → Shared → Prop} (h : wpC M A m (fun a => Q (.ok a)) (fun e => Q (.error e)) s) : wpC M A m.attempt Q E s :=
  fun Γ p hΓ hC => by rw [Sem.wp_attempt]; exact h Γ p hΓ hC
theorem Cal.enter {Γ : PySem.Ctx} (h : Cal Γ) (c : Code) (hd : Option Value) (p : Pos) : CalB (Γ.enter c hd p) := by
  rcases h with h | ⟨q, hq, h⟩
  · exact ⟨(Γ.code, p), .head _, h⟩
  · exact ⟨q, .tail _ hq, h⟩
theorem wpC_runValue {c : Code} {Q : Value → Shared → Prop} (hc : codeC M A c (fun r s' => match r with | .ok (.ret v) => Q v s' | .ok _ => False | .error e => E e s') s) : wpC M A (runValue c) Q E s :=
  fun Γ p hΓ hC => by rw [Sem.wp_runValue]; exact hc _ p rfl (hΓ.enter c none p (by intro x; cases x)) (hC.enter c none p)
theorem wpC_call {f : Value} {pos : List Value} {kw : List (Str × Value)} {Q : Value → Shared → Prop} (hc : codeC M A (.call f ⟨pos, kw⟩) (fun r s' => match r with | .ok (.ret v) => Q v s' | .ok _ => False | .error e => E e s') s) :
    wpC M A (call f pos kw) Q E s := wpC_runValue hc
theorem codeC_of_tree {c : Code} {R : Result → Shared → Prop}
    (h : wpC M (A.under c) (M.den c) (fun fin s' => match fin with | .done f => R (.ok f) s' | .again c' => c'.quiet = true ∧ codeC M A c' R s') (fun e s' => R (.error e) s') s) : codeC M A c R s := fun Γ p hc hΓ hC => by
  rw [wpCode_iff_wp, hc]
  refine Sem.wp_mono M Γ _ (fun fin p' s' h' => ?_) (fun _ _ _ h' => h') p s (h Γ p (hc ▸ hΓ.in) (.of_B hC))
  cases fin with
  | done f => exact h'
  | again c' => exact ⟨h'.1, h'.2 (Γ.goto c') p' rfl (hΓ.goto c') hC⟩
theorem wpC_stack {Q : List (Code × Pos) → Shared → Prop} (h : ∀ st : List (Code × Pos), (∃ q ∈ st, q.1.isCaller = true) → Q st s) : wpC M A stack Q E s := fun Γ p hΓ hC => by
  show Q ((Γ.code, p) :: Γ.below) s
  refine h _ ?_
  rcases hC with h | ⟨q, hq, h⟩
  · exact ⟨_, .head _, h⟩
  · exact ⟨q, .tail _ hq, h⟩
theorem wpC_execs_cons {env : Env} {st rest} {Q : Flow → Shared → Prop} (h : wpC M A (exec st env) (fun f s' => match f with | .next => wpC M A (execs rest env) Q E s' | f => Q f s') E s) :
    wpC M A (execs (st :: rest) env) Q E s := fun Γ p hΓ hC => by
  rw [execs_cons, Sem.wp_bind']
  refine Sem.wp_mono M Γ _ (fun f p' s' h' => ?_) (fun _ _ _ h' => h') _ _ (h Γ p hΓ hC)
  cases f <;> first | exact h' Γ p' hΓ hC | exact h'
end
/-- the head's last step: the claim's own context has the caller -/
theorem wp_of_wpC {M : Model} {t : Sem PySem.Fin} {R : Result → Shared → Prop} {s : Shared}
    (h : wpC M callerA t (fun fin s' => ∃ f, fin = .done f ∧ R (.ok f) s') (fun e s' => R (.error e) s') s) (p : Pos) :
    wp M ⟨.builtin "claim.caller" {}, none, none, [], none⟩ t (Sem.finPost M ⟨.builtin "claim.caller" {}, none, none, [], none⟩ R) (fun e _ s' => R (.error e) s') p s := by
  refine Sem.wp_mono M _ t (fun fin p' s' h' => ?_) (fun _ _ _ h' => h') p s (h _ p caller_in (.inl rfl))
  obtain ⟨f, rfl, hf⟩ := h'
  exact hf
end Mine
end

section
open PySem PySem.W PyProof.Rows PySem.Calls
open PySem.Sem (wp)
namespace Mine
section
variable {prog : Program} {w : World} {M : Model} {A : Around} {E : Value → Shared → Prop} {s : Shared} {env : Env} {R : Result → Shared → Prop}
theorem wpC_tryStmt {body orelse : Sem Flow} {h₀ : ExceptHandler} {hs : List ExceptHandler} {Q : Flow → Shared → Prop}
    (h : wpC M A body (fun f s₁ => match f with | .next => wpAny M A orelse Q E s₁ | f => Q f s₁)
      (fun e s₁ => wpAny M A (noteFrame e env) (fun _ s₂ => wpAny M A (setFlight e none) (fun _ s₃ => wpAny M A (handleBy e env (h₀ :: hs)) Q E s₃) E s₂) E s₁) s) :
    wpC M A (tryStmt false body (h₀ :: hs) orelse [] env) Q E s := by
  unfold tryStmt
  rw [if_pos (by rfl)]
  dsimp only
  refine wpC_bind (wpC_attempt (wpC_mono h (fun f s₁ h₁ => wpC_of ?_) fun e s₁ h₁ => wpC_of ?_))
  · cases f <;> first | exact h₁ | exact wpAny_pure h₁
  · exact wpAny_bind (wpAny_mono h₁ (fun _ _ h₂ => wpAny_bind h₂) fun _ _ x => x)
theorem wpC_Try {body orelse : List Stmt} {h₀ : ExceptHandler} {hs : List ExceptHandler} {pos : Pos} {Q : Flow → Shared → Prop}
    (h : wpC (model prog w) A (execs body env) (fun f s₁ => match f with | .next => wpAny (model prog w) A (execs orelse env) Q E s₁ | f => Q f s₁)
      (fun e s₁ => wpAny (model prog w) A (noteFrame e env) (fun _ s₂ => wpAny (model prog w) A (setFlight e none) (fun _ s₃ => wpAny (model prog w) A (handleBy e env (h₀ :: hs)) Q E s₃) E s₂) E s₁) s) :
    wpC (model prog w) A (exec (.Try body (h₀ :: hs) orelse [] pos) env) Q E s := by
  rw [arm_exec_Try]
  exact wpC_bindA (wpAny_standAt (wpC_tryStmt h))
theorem wpC_Expr {e pos} {Q : Flow → Shared → Prop} (h : wpC (model prog w) A (eval e env) (fun _ => Q .next) E s)
    (hi : interactive env = false := by rfl) (hs : swapsWith e none pos.line env = pure false := by rfl) :
    wpC (model prog w) A (exec (.Expr e pos) env) Q E s := by
  rw [exec_Expr env e pos hi hs]
  exact wpC_bindA (wpAny_standAt (wpC_bind (wpC_mono h (fun v s' h' => wpC_of (wpAny_dropValue h')) fun _ _ x => x)))
theorem wpC_Return {e pos} {Q : Flow → Shared → Prop} (h : wpC M A (eval e env) (fun v => Q (.ret v)) E s) :
    wpC M A (exec (.Return (some e) pos) env) Q E s := fun Γ p hΓ hC => by
  simp only [exec_Return_some, Sem.wp_bind', Sem.wp_cmd_standAt, Sem.wp_pure']; exact h Γ _ hΓ hC
theorem wpC_MethodCall {o : Expr} {name : Str} {apos pos : Pos} {args : List Expr} {pl : Sem Bool} {Q : Value → Shared → Prop}
    (h : wpAny M A (eval o env) (fun ov s₁ => wpAny M A (getMethod ov name pl) (fun fx s₂ => wpC M A (callWith pos fx.1 fx.2 (backTo pos (starEach args env)) []) Q E s₂) E s₁) E s)
    (he : eval (.Call (.Attribute o name apos) args [] pos) env = (do
      let ov ← eval o env
      standAt apos.atName
      let (f, first) ← holding [ov] (getMethod ov name pl)
      callWith pos f first (backTo pos (starEach args env)) []) := by rfl) :
    wpC M A (eval (.Call (.Attribute o name apos) args [] pos) env) Q E s := by
  rw [he]
  refine wpC_bindA (wpAny_mono h (fun ov s₁ h₁ => wpC_bindA (wpAny_standAt (wpC_bindA (wpAny_holding (wpAny_mono h₁ (fun fx s₂ h₂ => ?_) fun _ _ x => x))))) fun _ _ x => x)
  exact h₂
theorem wpC_Call {func : Expr} {args : List Expr} {pos : Pos} {Q : Value → Shared → Prop}
    (h : wpAny M A (eval func env) (fun f s₁ => wpC M A (callWith pos f [] (backTo pos (starEach args env)) []) Q E s₁) E s)
    (he : eval (.Call func args [] pos) env = (do callWith pos (← eval func env) [] (backTo pos (starEach args env)) (backToKw pos (keywordEach [] env))) := by rfl) :
    wpC M A (eval (.Call func args [] pos) env) Q E s := by
  rw [he]; exact wpC_bindA h
theorem wpC_keep {α : Type} {vs : List Value} {m : Sem α} {Q : α → Shared → Prop} (h : wpC M A m Q E s) : wpC M A (m.keep vs) Q E s := fun Γ p hΓ hC => by rw [Sem.wp_keep]; exact h Γ p hΓ hC
theorem wpC_operating {vs : List Value} {m : Sem Value} {Q : Value → Shared → Prop} (h : wpC M A m Q E s) : wpC M A (operate vs m) Q E s := fun Γ p hΓ hC => by rw [Sem.wp_operate]; exact h Γ p hΓ hC
theorem wpC_callWith {f : Value} {first : List Value} {pos : Pos} {Q : Value → Shared → Prop} {P : Heap → Prop} {args : List (Bool × Sem Value)}
    (hk : ∀ h, P h → ∃ k, (k = Keeper.frame ∨ k = Keeper.machine ∨ k = Keeper.boundFrame) ∧ Looks M h (keeperOf f) k)
    (h : wpAny M A (evalArgs f true args []) (fun a s₁ => P s₁.heap ∧ wpC M A (call f (first ++ a.pos) a.kw) Q E s₁) E s) : wpC M A (callWith pos f first args []) Q E s := by
  unfold callWith
  refine wpC_bindA (wpAny_holding (wpAny_mono h (fun a s₁ h₁ => wpC_bindA (wpAny_standAt ?_)) fun _ _ x => x))
  obtain ⟨k, hk', L⟩ := hk _ h₁.1
  refine wpC_bindA (L.here ?_)
  have tail : ∀ {t : Sem Value}, wpC M A t Q E s₁ → wpC M A (t >>= fun r => holding [r] point >>= fun _ => pure r) Q E s₁ :=
    fun ht => wpC_bind (wpC_mono ht (fun r s₂ hr => wpC_of (wpAny_bind (wpAny_holding (wpAny_point (wpAny_pure hr))))) fun _ _ x => x)
  have marked (mk : Value) : wpC M A (callMarked mk f (first ++ a.pos) a.kw) Q E s₁ := by unfold callMarked; exact wpC_keep h₁.2
  have plain (mk : Value) : wpC M A (if args.length + 2 * 0 > 30 then (call f (first ++ a.pos) a.kw >>= fun r => holding [r] point >>= fun _ => pure r) else (callMarked mk f (first ++ a.pos) a.kw >>= fun r => holding [r] point >>= fun _ => pure r)) Q E s₁ := by
    by_cases h9 : args.length + 2 * 0 > 30
    · rw [if_pos h9]; exact tail h₁.2
    · rw [if_neg h9]; exact tail (marked _)
  cases hst : args.any (·.1)
  · rcases hk' with rfl | rfl | rfl
    · exact plain _
    · exact tail h₁.2
    · exact plain _
  · rcases hk' with rfl | rfl | rfl
    · exact tail (marked _)
    · exact tail (wpC_operating h₁.2)
    · exact tail (wpC_operating h₁.2)
theorem codeC_meth {q : Addr} {f self : Value} {pos : List Value} {kw : List (Str × Value)} (ho : s.heap.get? q = some (methodObj f self))
    (h : codeC (model prog w) A (.call f ⟨self :: pos, kw⟩) R s) : codeC (model prog w) A (.call (.ref q) ⟨pos, kw⟩) R s := by
  obtain ⟨hh, g, dr, t, os⟩ := s
  refine codeC_of_tree ?_
  show wpC _ _ (callAny (.ref q) _) _ _ _
  dsimp only at ho
  refine wpC_of ?_
  refine nd_load ho ?_
  cases f <;> exact wpAny_pure ⟨rfl, h⟩
theorem codeC_func {body : List Stmt}
    (h : wpC (model prog w) (A.deeper env) (execs body env) (fun f s' => R (.ok (.ret (match f with | .ret v => v | _ => .none))) s')
      (fun e s' => wpAny (model prog w) (A.deeper env) (leaving env e) (fun _ s'' => R (.error e) s'') (fun e' s'' => R (.error e') s'') s') s) :
    codeC (model prog w) A (.func body env) R s := by
  refine codeC_of_tree ?_
  show wpC _ (A.deeper env) (do point; match ← (execs body env).onRaise (leaving env) with | .ret v => ret v | _ => ret .none) _ _ s
  refine wpC_bindA (wpAny_point (wpC_bind (wpC_onRaise (wpC_mono h (fun f s' h' => ?_) fun _ _ h' => h'))))
  cases f <;> exact wpC_of (wpAny_pure h')
theorem codeC_function {a : Addr} {args : Args} {o : Obj} {fd : FuncData} {body : List Stmt} (hroom : A.depth < recursionLimit)
    (ho : s.heap.get? a = some o)
    (hd' : o.data = .func fd) (hco : fd.scope.isCoroutine = false) (hgen : fd.scope.isGenerator = false) (hbody : fd.body = .stmts body) (hcd : s.heap.CodeRec fd.code fd.qualname)
    (h : wpC (model prog w) A.in1 (bindArgs fd args) (fun binds s₁ =>
      wpAny (model prog w) A.in1 (newFunctionEnv fd.scope fd.globals fd.closure binds (fd.qualname ++ ".<locals>.") (some a) fd.code none fd.builtins)
        (fun env s₂ => s₂.heap.NoLimit ∧ codeC (model prog w) A (.func body env) R s₂) (fun e s' => R (.error e) s') s₁) (fun e s' => R (.error e) s') s) :
    codeC (model prog w) A (.call (.ref a) args) R s := by
  refine codeC_of_tree ?_
  obtain ⟨oc9, od9, odt, osl9⟩ := o
  obtain rfl : odt = .func fd := hd'
  refine wpC_bindA (m := load a) (wpAny_load ho ?_)
  show wpC _ A.in1 (callFunction a fd args) _ _ s
  obtain ⟨c, oc, vs, tq, hc, hoc, hdc, hq⟩ := hcd
  unfold callFunction
  rw [hco, hgen, hbody, hc]
  rw [hc] at h
  dsimp only
  refine wpC_bindA (m := field (.ref c) 1) (wpAny_field hoc hdc hq (wpC_bindA (wpAny_pure ?_)))
  exact wpC_bind (wpC_mono h (fun binds s₁ h₁ => wpC_bindA (wpAny_mono h₁ (fun env s₂ h₂ => wpC_bindA (wpAny_enterFrame h₂.1 hroom
    (wpC_of (wpAny_pure (And.intro rfl h₂.2))))) fun _ _ h' => h')) fun _ _ h' => h')
end
end Mine
end

section
open PySem PySem.W PyProof.Rows PySem.Calls
open PySem.Sem (wp)
namespace Mine
section
variable {prog : Program} {w : World} {A A₀ : Around} {E : Value → Shared → Prop} {s : Shared} {K : Frag} {L f : Addr} {h₀ base : Heap} {m mg mb : Str → Option Value} {news : List (Addr × Obj)} {p : Program} {loose : List Str} {mean : ExcName → Option Value} {R : Result → Shared → Prop} {env : Env} {outer : List Env}
theorem codeC_mono {M : Model} {c : Code} {R R' : Result → Shared → Prop} (h : codeC M A c R s) (hR : ∀ r s, R r s → R' r s) : codeC M A c R' s := fun Γ p hc hΓ hC => wpCode_mono hR (h Γ p hc hΓ hC)
theorem codeC_call {a : Addr} {o : Obj} {fd : FuncData} {body : List Stmt} {args : Args} {binds : List (Str × Value)}
    (hroom : A.depth < recursionLimit) (ho : s.heap.get? a = some o) (hdata : o.data = .func fd) (hlim : s.heap.NoLimit) (hcd : s.heap.CodeRec fd.code fd.qualname)
    (hbody : fd.body = .stmts body) (hbind : BindsTo s fd args binds)
    (hcell : ∀ x ∈ fd.scope.names, x.2 ≠ .cell) (hloc : ∀ x ∈ binds, fd.scope.names.lookup x.1 = some .local)
    (h : ∀ h₀, h₀.Ns s.heap.objs.size (fun x => binds.reverse.lookup x) → (∀ b o, s.heap.get? b = some o → h₀.get? b = some o) →
      wpC (model prog w) (A.deeper (callEnv fd s.heap.objs.size a)) (execs body (callEnv fd s.heap.objs.size a)) (fun f s' => R (.ok (.ret (match f with | .ret v => v | _ => .none))) s')
        (fun e s' => wpAny (model prog w) (A.deeper (callEnv fd s.heap.objs.size a)) (leaving (callEnv fd s.heap.objs.size a) e) (fun _ s'' => R (.error e) s'') (fun e' s'' => R (.error e') s'') s')
        { s with heap := h₀, toks := s.toks + binds.length })
    (hco : fd.scope.isCoroutine = false := by rfl) (hgen : fd.scope.isGenerator = false := by rfl) (hk : fd.scope.kind = .function := by rfl) :
    codeC (model prog w) A (.call (.ref a) args) R s := by
  refine codeC_function hroom ho hdata hco hgen hbody hcd (wpC_of (hbind _ _ _ _ ?_))
  refine wpAny_newFunctionEnv hcell hloc (fun h₀ hns₀ hsb₀ => ⟨hlim.fresh _ hsb₀, codeC_func (h h₀ hns₀ fun b o e => ?_)⟩) hk
  exact hsb₀.extBut b o (Nat.ne_of_lt (Heap.lt_size e)) (Heap.get?_push_of_some _ e)
theorem codeC_def {name qual : Str} {params : Arguments} {body : List Stmt} {scope : Scope} {dV kV doc pm cdv ct oc : Value} {an od : Option Addr} {osl : Array (Option Value)} {args : Args} {binds : List (Str × Value)}
    (B : Below A₀ base outer h₀) (F : Fr h₀ L s.heap m) (X₀ : K.In h₀) (N : News h₀ L s.heap news) (T : Top p loose mean mg mb h₀) (hA : A.frames = some (env :: outer)) (hf : env.frame = some L) (hke : env.scope.kind = .function)
    (ho : K.lookup f = some ⟨oc, od, .func (fnOf name qual params body scope dV kV doc pm an cdv ct), osl⟩) (hcd : codeIn K cdv qual = true) (hroom : A.depth < recursionLimit)
    (hbind : BindsTo s (fnOf name qual params body scope dV kV doc pm an cdv ct) args binds) (hloc : ∀ y ∈ binds, scope.names.lookup y.1 = some .local)
    (h : ∀ g L' h₁, Fr h₀ L g m → Fr g L' h₁ (fun y => binds.reverse.lookup y) → News g L' h₁ news → Below A base (env :: outer) g → K.In g → Top p loose mean mg mb g →
      wpC (model prog w) (A.deeper (envOf qual scope L' f cdv)) (execs body (envOf qual scope L' f cdv))
        (fun fl s' => LeaveK h₀ L m g R (match fl with | .ret v => v | _ => .none) s')
        (fun e s' => wpAny (model prog w) (A.deeper (envOf qual scope L' f cdv)) (leaving (envOf qual scope L' f cdv) e) (fun _ s'' => R (.error e) s'') (fun e' s'' => R (.error e') s'') s')
        { s with heap := h₁, toks := s.toks + binds.length })
    (hco : scope.isCoroutine = false) (hgen : scope.isGenerator = false) (hk : scope.kind = .function)
    (hcell : ∀ x ∈ scope.names, x.2 ≠ .cell) : codeC (model prog w) A (.call (.ref f) args) R s := by
  obtain ⟨FG, BG, st, lv⟩ := groundX (R := R) B F N hA hf hke
  refine codeC_call (fd := fnOf name qual params body scope dV kV doc pm an cdv ct) (body := body) (binds := binds) hroom ((X₀.keeps F.keep) _ _ ho) rfl (T.nolimit.keeps F.keep) (codeRec_of (X₀.keeps F.keep) hcd) rfl hbind hcell hloc (fun h₁ hns hk₁ => ?_) hco hgen hk
  exact wpC_mono (h _ s.heap.objs.size h₁ FG ⟨hns, fun b o e => hk₁ b o (of_hideAll _ e), Nat.le_of_eq (hideAll_size _ _)⟩
    (fun p hp => ⟨hk₁ _ _ (N p hp).1, Nat.ne_of_lt (Heap.lt_size (N p hp).1), hideAll_none _ (List.mem_map_of_mem hp)⟩) BG (X₀.keeps st) (T.keeps st)) (fun fl s' hl => lv _ _ hl) fun _ _ y => y
end
end Mine
end

section
open PySem PySem.W PyProof.Rows PySem.Calls
namespace Mine
theorem ends_C {prog : Program} {w : World} {t : Sem PySem.Fin} {s : Shared} {R : Result → Shared → Prop} (hreg : s.asleep)
    (h : wpC (model prog w) callerA t (fun fin s' => ∃ f, fin = .done f ∧ (R (.ok f) s' ∧ leftWithCleanup s'.gens = false)) (fun e s' => R (.error e) s' ∧ leftWithCleanup s'.gens = false) s) :
    ∃ n r s' s'', runN (denote table) prog w n s ⟨t, .builtin "claim.caller" {}, default, []⟩ = .halted (outcomeOf r) s' ∧
      schedN (denote table) prog w n (.single s ⟨t, .builtin "claim.caller" {}, default, []⟩) = .halted (outcomeOf r) s' ∧ s'.forget = s''.forget ∧ R r s'' := by
  obtain ⟨n, r, s₁, s₂, hs, hn, hfo, hR⟩ := wp_halts_full (M := model prog w) (R := R) hreg (wp_of_wpC (R := fun r s' => R r s' ∧ leftWithCleanup s'.gens = false) h default)
  exact ⟨n, r, s₂, s₁, hn, hs, hfo, hR⟩
theorem callFrom_C {c : ClaimW} {tree : List Value → Sem PySem.Fin} {w : World} {s : Shared} {free : Addr → Prop} {gens : Prop} {kept : Heap → Prop} (hz : s.asleep) (hgens : s.gens = #[])
    (hspec : ∀ args, c.pre args = true → WData.layableAll args = true →
      ∀ ord : List DictEntry → List DictEntry, (∀ l, (ord l).Perm l) →
      ∃ vs s₁, layAllW c.records (classAt s.heap) w.params ord args s = some (vs, s₁) ∧
        wpC (model c.prog w) callerA (tree vs) (fun fin s' => ∃ f, fin = .done f ∧ (c.Ends s args vs s₁ (.ok f) s' ∧ s'.os = s.os ∧ AllBare s'.gens ∧ kept s'.heap))
          (fun e s' => c.Ends s args vs s₁ (.error e) s' ∧ s'.os = s.os ∧ AllBare s'.gens ∧ kept s'.heap) s₁) :
    c.CallFrom (fun vs => ⟨tree vs, .builtin "claim.caller" {}, default, []⟩) w free gens kept s := by
  intro args hpre hlay ord hord
  obtain ⟨vs, s₁, hlaid, hcode⟩ := hspec args hpre hlay ord hord
  have hal := layAllW_rest _ _ _ hlaid
  obtain ⟨k, r, s', s'', hrun, hsched, hfo, hcase, hos, hkp⟩ := ends_C (prog := c.prog) (w := w) (t := tree vs) (s := s₁)
    (R := fun r s' => c.Ends s args vs s₁ r s' ∧ s'.os = s.os ∧ kept s'.heap)
    (Shared.asleep_of_life hal.2.2.2 hz)
    (wpC_mono hcode (by
      rintro fin s' ⟨f, e, h1, h2, h3, h4⟩
      exact ⟨f, e, ⟨h1, h2, h4⟩, leftWithCleanup_false_of_bare h3⟩) (by
      rintro e s' ⟨h1, h2, h3, h4⟩
      exact ⟨⟨h1, h2, h4⟩, leftWithCleanup_false_of_bare h3⟩))
  obtain ⟨eh, _, _, eo, _⟩ := Shared.forget_eq hfo
  have hcase := hcase.congr eh
  have hkp : kept s'.heap := by first | exact eh ▸ hkp | (rw [eh] at hkp; exact hkp) | (rw [← eh] at hkp; exact hkp)
  rw [← eo] at hos
  have hlife : s'.heap.life = s.heap.life := (runN_life _ _ _ hrun).trans hal.2.2.2
  refine ⟨vs, s₁, hlaid, k, _, s', hsched, ?_, (fun _ i x hx => by rw [hgens] at hx; simp at hx), hkp, by rw [hlife], Shared.rest_eq hos⟩
  rcases hcase with ⟨v, rfl, d1, d2, d3, d4, d5⟩ | ⟨e, ob, cls, rfl, d1, d2, d3, d4, d5⟩
  · exact .inl ⟨v, rfl, d1, d2, d3, fun b o y _ => d4 b o y, d5⟩
  · exact .inr ⟨e, ob, cls, rfl, d1, d2, d3, d4, fun b o y _ => d5 b o y⟩
theorem any_C {r : RowW} {run : Value → List Value → Sem Value} {tree : List Value → Sem PySem.Fin} {q : Program} {loose defs kps : List Str} {writes : Bool} {Xt : Shared → Bool} {XP : (Str → Option Value) → Heap → Prop} {α : Type} {Yf : Shared → α} {Ya : World → α} {YP : World → Heap → Prop} {N : Nat}
    (left : LeftO r.prog q loose Xt Yf Ya N) (hY : ∀ w s, Yf s = Ya w → YP w s.heap) (hYk : ∀ w h h', YP w h → (∀ b o, h.get? b = some o → h'.get? b = some o) → YP w h') (hX : ∀ s, Xt s = true → XP (s.heap.nsMap mainGlobals) s.heap) (hXk : ∀ mg h h', XP mg h → (∀ b o, h.get? b = some o → h'.get? b = some o) → XP mg h')
    (hRf : ∀ s, Xt s = true → RecFacts r.records s.heap) (hwr : (!writes || r.records.isEmpty) = true) (ok : (chainsOk q && opensWell r.prog && (frees r && r.within.isEmpty)) = true) (hb : r.prog.bare) (hw : r.promised)
    (ht : ∀ vs (w : World) (s : Shared) mg f (Q : PySem.Fin → Shared → Prop) (E : Value → Shared → Prop), s.heap.Ns mainGlobals mg → mg r.name = some f → wpC (model r.prog w) callerA (run f vs) (fun v s' => Q (.done (.ret v)) s') E s → wpC (model r.prog w) callerA (tree vs) Q E s)
    (pin : ∀ w s, s.heap.isNs mainGlobals = true → Ground q loose [] XP w s (s.heap.nsMap mainGlobals) (s.heap.nsMap builtinsNs) s.heap → ∀ n ∈ defs, isTheDefsW r.prog s.heap n)
    (call : ∀ (w : World) (s₀ s₁ : Shared) (mg mb : Str → Option Value), Ground q loose r.records XP w s₀ mg mb s₁.heap → YP w s₁.heap → ∀ (args : List WData) (vs : List Value) (as : List Addr),
      r.claim.pre args = true → WData.layableAll args = true → Laid r.records w s₀ s₁ args vs as → sysModules < s₀.heap.objs.size → ∃ f, mg r.name = some f ∧
        wpC (model r.prog w) callerA (run f vs) (fun v s' => GoodWG r.claim (classAt s₀.heap) (ExcName.means s₀.heap) args s₁ (.ok (.ret v)) s')
          (fun e s' => GoodWG r.claim (classAt s₀.heap) (ExcName.means s₀.heap) args s₁ (.error e) s') s₁) : r.claim.HoldsOpenBy (fun vs => ⟨tree vs, .builtin "claim.caller" {}, default, []⟩) defs kps writes := by
  obtain ⟨ok, k5⟩ := Bool.and_eq_true_iff.mp ok
  obtain ⟨hch, o1⟩ := Bool.and_eq_true_iff.mp ok
  obtain ⟨k5, k6⟩ := Bool.and_eq_true_iff.mp k5
  obtain ⟨hsame, hu, ha, hap, hm⟩ := frees_parts k5
  refine ⟨⟨hb, o1, by show r.makers.map _ = []; rw [hm]; rfl⟩, hw.witness, fun w => ⟨(left.behind hX hch w).1, fun s' hs' => ?_⟩⟩
  obtain ⟨s₀, hf, hg0, s, hT, hz, hgens, hg, G00, y⟩ := (left.behind (XP := fun mg h => XP mg h ∧ RecFacts r.records h) (fun s hs => ⟨hX s hs, hRf s hs⟩) hch w).2 s' hs'
  have G0 : Ground q loose [] XP w s (s.heap.nsMap mainGlobals) (s.heap.nsMap builtinsNs) s.heap := ⟨G00.T, G00.B, G00.D, G00.TE, G00.TD, G00.W, G00.X.1, G00.cls, G00.has, G00.apart, G00.once, G00.K⟩
  have RF := G00.X.2
  have hT' := hT
  refine ⟨s₀, hf, hg0, s, hT, pin w s hg G0, RF.1, RF.2.1, ?_⟩
  have hgens : s.gens = #[] := Array.eq_empty_of_size_eq_zero (beq_iff_eq.mp hgens)
  have G : Ground q loose r.records XP w s _ _ s.heap := RF.ground G0
  refine callFrom_C (c := r.claim) hz hgens fun args hpre hlay ord hord => ?_
  obtain ⟨⟨vs, s₁⟩, hlaid⟩ := Option.isSome_iff_exists.mp (layAllW_isSome (P := w.params) (ord := ord) G.has args r.args s (pre_splitW hpre).1)
  have keeps := layAllW_keeps _ _ _ hlaid
  have hal := layAllW_rest _ _ _ hlaid
  obtain ⟨as, hrd, hin, hold⟩ := reads_layAllW hord _ _ _ hlaid hlay s₁.heap (fun _ _ e => e)
  have L : Laid r.records w s s₁ args vs as := ⟨⟨ord, hord, hlaid⟩, hrd, hin, hold, keeps, hal.1.trans hgens, hal.2.2.1⟩
  have G₁ := G.keeps hXk keeps
  obtain ⟨f, hf, h⟩ := call w s s₁ _ _ G₁ (hYk _ _ _ (hY w s y) keeps) args vs as hpre hlay L G.low
  have hi := ident_freeW hu ha hap
  have hwi : r.claim.within = [] := List.isEmpty_iff.mp k6
  exact ⟨vs, s₁, hlaid, ht vs w s₁ _ f _ _ G₁.T.g hf (wpC_mono h (fun v s' g => ⟨_, rfl, have z := g.laid (c := r.claim) hsame hwi hi L; ⟨z.1, z.2.1, z.2.2, fun q => ⟨namesKept_of hT' hg kps keeps g.2.1.old, noTable hwr q⟩⟩⟩) fun e s' g => have z := g.laid (c := r.claim) hsame hwi hi L; ⟨z.1, z.2.1, z.2.2, fun q => ⟨namesKept_of hT' hg kps keeps g.2.1.old, noTable hwr q⟩⟩)⟩
abbrev WalkC (q : Program) (loose : List Str) (XP : (Str → Option Value) → Heap → Prop) (YP : World → Heap → Prop) (r : RowW) (d : DefRec) (kwd : List (Str × Expr)) (run : Value → List Value → Sem Value) : Prop :=
  ∀ (w : World) (s₀ s₁ : Shared) (mg mb : Str → Option Value), Ground q loose r.records XP w s₀ mg mb s₁.heap → YP w s₁.heap → ∀ (a : Addr) (o : Obj) (pm cd doc dV kV : Value), s₁.heap.get? a = some o →
    o.data = .func { docDef d.name d.params d.body d.scope pm cd doc with defaults := dV, kwdefaults := kV } → s₁.heap.CodeRec cd d.name → Dflts mg s₁.heap d.params kwd dV kV → mg d.name = some (.ref a) → s₁.gens = #[] →
    ∀ (args : List WData) (vals : List Value) (as : List Addr), r.claim.pre args = true → WData.layableAll args = true → ReadsAllW r.records (classAt s₀.heap) s₁.heap vals args as → WellAll w.params s₁.heap vals args → (∀ a ∈ as, (a == sysModules) = false) →
      wpC (model r.prog w) callerA (run (.ref a) vals) (fun v s' => GoodWG r.claim (classAt s₀.heap) (ExcName.means s₀.heap) args s₁ (.ok (.ret v)) s')
        (fun e s' => GoodWG r.claim (classAt s₀.heap) (ExcName.means s₀.heap) args s₁ (.error e) s') s₁
end Mine
namespace Mine.PySem.W
/-- a view of the text that keeps the law alone: all else is loose -/
abbrev lawView : Program := view PySem.Challenge.pw_ij0094_01 [11]
abbrev lawLoose : List Str := [Str.ofString "_wall", Str.ofString "_tuplegetter", Str.ofString "Pair", Str.ofString "Whitespace", Str.ofString "_law_peeled", Str.ofString "_law_side_is_right", Str.ofString "_law_text"]
/-- the head of an open law, over the contexts that have the claim's caller below: `open_top` finds this name ahead of the library's own in this namespace -/
theorem holds_open {r : OpenRow} {q : Program} {loose : List Str} {Xt : Shared → Bool} {XP : (Str → Option Value) → Heap → Prop} {α : Type} {Yf : Shared → α} {Ya : World → α} {YP : World → Heap → Prop} {d : DefRec} {kwd : List (Str × Expr)} {N : Nat}
    (left : LeftO r.prog lawView lawLoose (fun s => recOk r.records s) Yf Ya N) (hY : ∀ w s, Yf s = Ya w → YP w s.heap) (hYk : ∀ w h h', YP w h → (∀ b o, h.get? b = some o → h'.get? b = some o) → YP w h')
    (hX : ∀ s, Xt s = true → XP (s.heap.nsMap mainGlobals) s.heap) (hXk : ∀ mg h h', XP mg h → (∀ b o, h.get? b = some o → h'.get? b = some o) → XP mg h')
    (hdef : defOf lawView r.name = some (d, kwd)) (hp : r.prog.theDef r.name = some (d.params, d.body, d.scope)) (hk : kwWritten? d.params.kwonlyargs d.params.kw_defaults = some kwd) (hRf : ∀ s, Xt s = true → RecFacts r.records s.heap) (hwr : (!r.writes || r.records.isEmpty) = true)
    (k1 : r.wellSaid = true) (ok : (chainsOk lawView && opensWell r.prog && (frees r.toRowW && r.within.isEmpty)) = true) (hb : r.prog.bare) (hw : r.toRowW.promised)
    (call : WalkC lawView lawLoose (fun _ _ => True) YP r.toRowW d kwd fun f vs => PySem.call f vs) : r.Holds := by
  refine ⟨k1, hw, any_C (r := r.toRowW) (run := fun f vs => PySem.call f vs) (tree := fun vs => do match ← nsGet mainNs r.name with
      | some f => do ret (← PySem.call f vs)
      | none => unsupported "claim.caller:no-such-global") left hY hYk (fun _ _ => trivial) (fun _ _ _ _ _ => trivial) (fun _ e => recFacts_of e) hwr ok hb hw
    (fun vs w s mg f Q E hg hf h => wpC_bindA (wpAny_nsGet hg (by rw [hf]; exact wpC_bind (wpC_mono h (fun _ _ x => wpC_of (wpAny_pure x)) fun _ _ x => x))))
    (fun w s hg G n hn => ?_) fun w s₀ s₁ mg mb G Y args vs as hpre hlay L low => ?_⟩
  · obtain rfl : n = r.name := by split at hn <;> simp_all
    exact pinned_of_view hg G hdef hp hk
  · obtain ⟨a, o, pm, cd, doc, dV, kV, h1, h2, h3, h4, h5⟩ := G.fn hdef
    exact ⟨.ref a, h1, call w s₀ s₁ mg mb G Y a o pm cd doc dV kV h2 h3 h4 h5 (defOf_name hdef ▸ h1) L.gens args vs as hpre hlay L.reads L.well (L.low low)⟩
end Mine.PySem.W
namespace Mine
set_option maxHeartbeats 8000000 in
open_top hd for PySem.Challenge.rw_ij0094_01
end Mine
end

section
open PySem PySem.W PyProof.Rows PySem.Calls
set_option genInjectivity false
set_option genSizeOf false
namespace Mine
def Hold (P : Prop) : Prop := P
theorem Hold.mk {P : Prop} (h : Hold P) : P := h
theorem Hold.out {P : Prop} (h : P) : Hold P := h
structure Sub (Q Q' : Flow → Shared → Prop) : Prop where
  on : ∀ f s', Q f s' → Q' f s'
theorem hideA {M : Model} {A : Around} {t : Sem Flow} {s : Shared} {Q : Flow → Shared → Prop} {E : Value → Shared → Prop} (h : ∀ Q' E', Sub Q Q' → wpAny M A t Q' E' s) : wpAny M A t Q E s := h Q E ⟨fun _ _ x => x⟩
section
variable {prog : Program} {w : World} {A : Around} {E : Value → Shared → Prop} {s : Shared} {env : Env} {h₀ : Heap} {x : PySem.Str} {body : List Stmt} {Q : Flow → Shared → Prop}

/-- what a turn of a loop with letters σ must leave -/
def TurnEnd {σ : Type} (h₀ : Heap) (L : Addr) (x : Str) (Map : σ → Str → Option Value) (Led : σ → List (Addr × Obj)) (Inv : σ → Prop) (own : List (Addr × Obj)) (I : Addr) (s₁ s₂ : Shared) : Prop :=
  ∃ h' tk m' c, s₂ = { s₁ with heap := h', toks := tk } ∧ Fr h₀ L h' m' ∧ (∀ y, y ≠ x → m' y = Map c y) ∧ News h₀ L h' (own ++ Led c) ∧ (∀ p ∈ Led c, p.1 ≠ I) ∧ Inv c
def TurnPost {σ : Type} (h₀ : Heap) (L : Addr) (x : Str) (Map : σ → Str → Option Value) (Led : σ → List (Addr × Obj)) (Inv : σ → Prop) (own : List (Addr × Obj)) (I : Addr) (s₁ : Shared) (Q : Flow → Shared → Prop) (f : Flow) (s₂ : Shared) : Prop :=
  match f with
  | .ret v => Q (.ret v) s₂
  | .brk => Q .next s₂
  | _ => TurnEnd h₀ L x Map Led Inv own I s₁ s₂

theorem frame_of {m₁ m₂ : Str → Option Value} {v : Value} {L : Addr} {h : Heap} (e : ∀ y, y ≠ x → m₁ y = m₂ y) (F : Fr h₀ L h (fun y => if y = x then some v else m₁ y)) : Fr h₀ L h (fun y => if y = x then some v else m₂ y) := by
  have : (fun y => if y = x then some v else m₁ y) = fun y => if y = x then some v else m₂ y := by
    funext y
    by_cases h1 : y = x
    · simp only [if_pos h1]
    · simp only [if_neg h1]; exact e y h1
  exact this ▸ F
theorem frame_out {m₁ m₂ : Str → Option Value} {L : Addr} {h : Heap} (e : ∀ y, y ≠ x → m₁ y = m₂ y) (F : Fr h₀ L h m₁) : Fr h₀ L h (fun y => if y = x then m₁ y else m₂ y) := by
  have : m₁ = fun y => if y = x then m₁ y else m₂ y := by
    funext y
    by_cases h1 : y = x
    · simp only [if_pos h1]
    · simp only [if_neg h1]; exact e y h1
  exact this ▸ F

theorem loop_core {σ : Type} {I : Addr} {n : Nat} {P : Nat → Value → Prop} {St : Nat → Heap → Prop} {m₀ : Str → Option Value} (Map : σ → Str → Option Value) (Led : σ → List (Addr × Obj)) (Inv : Nat → σ → Prop) (c₀ : σ)
    (W : Walks prog w A I [I] [I] n P St) (hSt : ∀ i h, St i h → ∃ o, h.get? I = some o) (hnew : h₀.get? I = none) (hL : env.locals ≠ I) (hst : St 0 s.heap)
    (F : Fr h₀ env.locals s.heap m₀) (hm : ∀ y, y ≠ x → m₀ y = Map c₀ y) (N : News h₀ env.locals s.heap (Led c₀)) (hoff : ∀ p ∈ Led c₀, p.1 ≠ I) (hj : Inv 0 c₀)
    (turn : ∀ i v oI c h tk, i < n → P i v → Inv i c → (∀ p ∈ Led c, p.1 ≠ I) →
      Fr h₀ env.locals h (fun y => if y = x then some v else Map c y) → News h₀ env.locals h ((I, oI) :: Led c) →
      wpAny (model prog w) A (execs body env) (TurnPost h₀ env.locals x Map Led (Inv (i + 1)) [(I, oI)] I { s with heap := h, toks := tk } Q) E { s with heap := h, toks := tk })
    (done : ∀ c (u : Str → Option Value) h tk, Inv n c → Fr h₀ env.locals h (fun y => if y = x then u y else Map c y) → News h₀ env.locals h (Led c) → Q .next { s with heap := h, toks := tk }) :
    LoopAtV prog w A h₀ env x body Q E (.ref I) s := by
  let J : Nat → (Str → Option Value) → List (Addr × Obj) → Prop := fun i m nx => ∃ c, nx = Led c ∧ (∀ y, y ≠ x → m y = Map c y) ∧ Inv i c
  refine ⟨I, [I], [I], n, P, St, m₀, Led c₀, J, rfl, W, ?_, ?_, ?_, hst, F, N, ⟨c₀, rfl, hm, hj⟩, ?_, ?_⟩
  · intro hm'
    exact hL (List.mem_singleton.mp hm')
  · intro b hb
    rw [List.mem_singleton.mp hb]
    exact hnew
  · intro p hp hI
    exact hoff p hp (List.mem_singleton.mp hI)
  · rintro i v m₁ news₁ s₁ own ⟨hh', tk', rfl⟩ hin hP ⟨c, rfl, hmc, hinv⟩ hoff' hown hget hall hst' F₁ N₁
    obtain ⟨oI, hoI⟩ := hSt _ _ hst'
    have hmem : (I, oI) ∈ own := hall I (List.mem_singleton.mpr rfl) hnew oI hoI
    have hall' : ∀ p ∈ own, p = (I, oI) := fun p hp => by
      have h1 := List.mem_singleton.mp (hown p hp)
      have h2 := hget p hp
      rw [h1] at h2
      rw [hoI] at h2
      exact Prod.ext h1 (Option.some.inj h2).symm
    have N₂ : News h₀ env.locals hh' ((I, oI) :: Led c) := fun p hp => by
      rcases List.mem_cons.mp hp with rfl | hp
      · exact N₁ _ (List.mem_append_left _ hmem)
      · exact N₁ _ (List.mem_append_right _ hp)
    refine wpAny_mono (turn i v oI c hh' tk' hin hP hinv (fun p hp e => hoff' p hp (List.mem_singleton.mpr e)) (frame_of hmc F₁) N₂) (fun f s₂ p => ?_) fun _ _ e => e
    have fin : TurnEnd h₀ env.locals x Map Led (Inv (i + 1)) [(I, oI)] I { s with heap := hh', toks := tk' } s₂ → LoopStepU h₀ env.locals [I] own (J (i + 1)) { s with heap := hh', toks := tk' } .next s₂ := by
      rintro ⟨h', tk, m', c', e, F', hm', N', ho, hi⟩
      refine ⟨rfl, h', tk, m', Led c', e, F', fun p hp => ?_, fun p hp hq => ho p hp (List.mem_singleton.mp hq), c', rfl, hm', hi⟩
      rcases List.mem_append.mp hp with hp | hp
      · rw [hall' p hp]; exact N' _ (List.mem_append_left _ (.head _))
      · exact N' _ (List.mem_append_right _ hp)
    cases f with
    | ret v => exact .ret p
    | brk => exact .brk p
    | next => exact .next (fin p)
    | cont => exact .cont (fin p)
  · rintro h' tk m' news' F' N' hoff ⟨c, rfl, hmc, hinv⟩
    exact done c m' h' tk hinv (frame_out hmc F') N'

theorem loop_str {σ : Type} {xt : Str} {tx : Tok} {m₀ : Str → Option Value} (Map : σ → Str → Option Value) (Led : σ → List (Addr × Obj)) (Inv : Nat → σ → Prop) (c₀ : σ)
    (hh : A.handled = none) (F : Fr h₀ env.locals s.heap m₀) (hm : ∀ y, y ≠ x → m₀ y = Map c₀ y) (N : News h₀ env.locals s.heap (Led c₀)) (hj : Inv 0 c₀)
    (turn : ∀ i (k : Nat) t I oI c h tk, xt.cps[i]? = some k → Inv i c → (∀ p ∈ Led c, p.1 ≠ I) →
      Fr h₀ env.locals h (fun y => if y = x then some (.str ⟨#[k]⟩ t) else Map c y) → News h₀ env.locals h ((I, oI) :: Led c) →
      wpAny (model prog w) A (execs body env) (TurnPost h₀ env.locals x Map Led (Inv (i + 1)) [(I, oI)] I { s with heap := h, toks := tk } Q) E { s with heap := h, toks := tk })
    (done : ∀ c (u : Str → Option Value) h tk, Inv xt.cps.size c → Fr h₀ env.locals h (fun y => if y = x then u y else Map c y) → News h₀ env.locals h (Led c) → Q .next { s with heap := h, toks := tk }) :
    wpAny (model prog w) A (pyIter (.str xt tx)) (fun it s₂ => LoopAtV prog w A h₀ env x body Q E it s₂) E s := by
  have go : ∀ (o : Obj) (St : Nat → Heap → Prop), Walks prog w A s.heap.objs.size [s.heap.objs.size] [s.heap.objs.size] xt.cps.size (SignAt xt) St → (∀ i h, St i h → ∃ o, h.get? s.heap.objs.size = some o) → St 0 (s.heap.push o) → LoopAtV prog w A h₀ env x body Q E (.ref s.heap.objs.size) { s with heap := s.heap.push o } := by
    intro o St W hSt hst
    refine loop_core Map Led Inv c₀ W hSt (next_is_new F) (Nat.ne_of_lt F.ns.lt) hst (F.push _) hm (fun p hp => ⟨Heap.get?_push_of_some _ (N p hp).1, (N p hp).2⟩) ?_ hj ?_ ?_
    · intro p hp hI
      exact absurd (Heap.lt_size (N p hp).1) (by rw [hI]; exact Nat.lt_irrefl _)
    · rintro i v oI c h tk hin ⟨k, t, hk, rfl⟩ hinv hof F₁ N₁
      exact turn i k t _ oI c h tk hk hinv hof F₁ N₁
    · intro c u h tk hinv F₁ N₁
      exact done c u h tk hinv F₁ N₁
  cases ha : xt.cps.all (· < 128)
  · exact wpAny_pyIter_wide ha (go _ _ (Walks.strWide hh _ xt tx) (fun i h st => let ⟨o, ho, _⟩ := st; ⟨o, ho⟩) ⟨_, Heap.get?_push_size _ rfl, rfl, rfl⟩)
  · exact wpAny_pyIter_ascii ha (go _ _ (Walks.strAscii hh _ xt tx) (fun i h st => let ⟨o, ho, _⟩ := st; ⟨o, ho⟩) ⟨_, Heap.get?_push_size _ rfl, rfl, rfl⟩)

def WTurnEnd {σ : Type} (h₀ : Heap) (L : Addr) (x : Str) (Map : σ → Str → Option Value) (Led : σ → List (Addr × Obj)) (Inv : σ → Prop) (μ : σ → Nat) (n : Nat) (s₁ s₂ : Shared) : Prop :=
  ∃ h' tk m' c, s₂ = { s₁ with heap := h', toks := tk } ∧ Fr h₀ L h' m' ∧ (∀ y, y ≠ x → m' y = Map c y) ∧ News h₀ L h' (Led c) ∧ Inv c ∧ μ c < n
def WTurnPost {σ : Type} (h₀ : Heap) (L : Addr) (x : Str) (Map : σ → Str → Option Value) (Led : σ → List (Addr × Obj)) (Inv : σ → Prop) (μ : σ → Nat) (n : Nat) (s₁ : Shared) (Q : Flow → Shared → Prop) (f : Flow) (s₂ : Shared) : Prop :=
  match f with
  | .ret v => Q (.ret v) s₂
  | .brk => Q .next s₂
  | _ => WTurnEnd h₀ L x Map Led Inv μ n s₁ s₂
theorem wturn_next {σ : Type} {L : Addr} {Map : σ → Str → Option Value} {Led : σ → List (Addr × Obj)} {Inv : σ → Prop} {μ : σ → Nat} {n : Nat} {s₁ : Shared} {h' : Heap} {tk : Nat} {m' : Str → Option Value} {c : σ}
    (F : Fr h₀ L h' m') (hm : ∀ y, y ≠ x → m' y = Map c y) (N : News h₀ L h' (Led c)) (hi : Inv c) (hμ : μ c < n) : WTurnPost h₀ L x Map Led Inv μ n s₁ Q .next { s₁ with heap := h', toks := tk } := ⟨h', tk, m', c, rfl, F, hm, N, hi, hμ⟩
theorem while_core {σ : Type} {test : Expr} {pos : Pos} {m₀ : Str → Option Value} (x : Str) (Map : σ → Str → Option Value) (Led : σ → List (Addr × Obj)) (Inv : σ → Prop) (μ : σ → Nat) (c₀ : σ) {L : Addr}
    (F : Fr h₀ L s.heap m₀) (hm : ∀ y, y ≠ x → m₀ y = Map c₀ y) (N : News h₀ L s.heap (Led c₀)) (hj : Inv c₀)
    (turn : ∀ c (u : Str → Option Value) h tk, Inv c → Fr h₀ L h (fun y => if y = x then u y else Map c y) → News h₀ L h (Led c) →
      wpAny (model prog w) A (isTrue test env (eval test env)) (fun b s₂ =>
        if b = true then wpAny (model prog w) A (execs body env) (WTurnPost h₀ L x Map Led Inv μ (μ c) s Q) E s₂ else Q .next s₂) E { s with heap := h, toks := tk })
    (hE : PassesOwn (model prog w) A env E := by passes_own) :
    wpAny (model prog w) A (exec (.While test body [] pos) env) Q E s := by
  refine While_inv2 (fun n m nx => ∃ c : σ, nx = Led c ∧ μ c = n ∧ (∀ y, y ≠ x → m y = Map c y) ∧ Inv c) F N ⟨c₀, rfl, rfl, hm, hj⟩ ?_ hE
  rintro n m₁ nx h tk F₁ N₁ ⟨c, rfl, rfl, h1, hp'⟩
  refine wpAny_mono (turn c m₁ h tk hp' (frame_out h1 F₁) N₁) (fun b s₂ p => ?_) fun _ _ x => x
  cases b with
  | false => simpa using p
  | true =>
    simp only [if_true] at p ⊢
    refine wpAny_mono p (fun f s₃ q => ?_) fun _ _ x => x
    cases f with
    | ret v => exact q
    | brk => exact q
    | next =>
      obtain ⟨h', tk', m', c', rfl, F', hm', N', hi', hμ⟩ := q
      exact ⟨h', tk', m', Led c', μ c', rfl, F', N', hμ, c', rfl, rfl, hm', hi'⟩
    | cont =>
      obtain ⟨h', tk', m', c', rfl, F', hm', N', hi', hμ⟩ := q
      exact ⟨h', tk', m', Led c', μ c', rfl, F', N', hμ, c', rfl, rfl, hm', hi'⟩
end
end Mine
end

section
open PySem PySem.W PyProof.Rows PySem.Calls
namespace Mine
theorem slc_from {x : Str} {i : Int} (h0 : 0 ≤ i) (h2 : i ≤ x.length) : (Txt.slice x (some i) none).cps.toList = x.cps.toList.drop i.toNat := by
  rw [slice_from_eq h0 h2 rfl]
  show (x.cps.toList.drop i.toNat).take _ = _
  refine List.take_of_length_le ?_
  have : x.cps.toList.length = x.length := by simp [Str.length]
  rw [List.length_drop, this]; lia
theorem slc_to {x : Str} {j : Int} (h0 : 0 ≤ j) (h2 : j ≤ x.length) : (Txt.slice x none (some j)).cps.toList = x.cps.toList.take j.toNat := by
  have h := eq_of_beq (slice_closes_toL h0 h2)
  rw [h]
  show (x.cps.toList.drop _).take _ = _
  simp
theorem slc {x : Str} {i j : Int} (h0 : 0 ≤ i) (h1 : i ≤ j) (h2 : j ≤ x.length) : (Txt.slice x (some i) (some j)).cps.toList = (x.cps.toList.drop i.toNat).take (j - i).toNat := by
  rw [eq_of_beq (slice_closesL h0 h1 h2)]
theorem slc_out {x : Str} {i : Int} (h : (x.length : Int) ≤ i) : (Txt.slice x (some i) (some (i + 1))).cps.toList = [] := by
  have e : Builtin.Str.strSliceIndices (some i) (some (i + 1)) 1 x.length = [] := by
    have h1 : ¬ (i < 0) := by lia
    have h2 : ¬ (i + 1 < 0) := by lia
    have e1 : max (0 : Int) (min i (x.length : Int)) = x.length := by lia
    have e2 : max (0 : Int) (min (i + 1) (x.length : Int)) = x.length := by lia
    simp only [Builtin.Str.strSliceIndices, sliceRange, h1, h2, if_false, e1, e2]
    simp
  unfold Txt.slice
  rw [e]
  split
  · rename_i hh
    have h0 : x.length = 0 := by have := hh; simp at this; exact this.symm
    have : x.cps.toList.length = 0 := by simpa [Str.length] using h0
    exact List.eq_nil_of_length_eq_zero this
  · rfl
theorem len_list (x : Str) : x.cps.toList.length = x.length := by simp [Str.length]
theorem slc_one {x : Str} {i : Int} (h0 : 0 ≤ i) : (Txt.slice x (some i) (some (i + 1))).cps.toList = x.cps.toList[i.toNat]?.toList := by
  by_cases h : i < x.length
  · rw [slc h0 (by lia) (by lia)]
    have e : (i + 1 - i).toNat = 1 := by lia
    have hl : i.toNat < x.cps.toList.length := by rw [len_list]; lia
    rw [e, List.drop_eq_getElem_cons hl, List.getElem?_eq_getElem hl]
    simp
  · rw [slc_out (by lia)]
    have hl : x.cps.toList.length ≤ i.toNat := by rw [len_list]; lia
    rw [List.getElem?_eq_none hl]
    rfl
theorem str_eq_iff {a b : Str} : (a == b) = true ↔ a.cps.toList = b.cps.toList := by
  constructor
  · intro h; rw [eq_of_beq h]
  · intro h; exact beq_iff_eq.mpr (Str.ext' (Array.toList_inj.mp h))
theorem nl_list : (Str.ofString "\n").cps.toList = [10] := by decide
theorem nl_true {x : Str} {i : Int} (h0 : 0 ≤ i) (h : (Txt.slice x (some i) (some (i + 1)) != Str.ofString "\n") = true) : x.cps.toList[i.toNat]? ≠ some 10 := by
  intro e
  have : (Txt.slice x (some i) (some (i + 1)) == Str.ofString "\n") = true := str_eq_iff.mpr (by rw [slc_one h0, e, nl_list]; rfl)
  rw [bne, this] at h
  cases h
theorem nl_false {x : Str} {i : Int} (h0 : 0 ≤ i) (h : (Txt.slice x (some i) (some (i + 1)) != Str.ofString "\n") = false) : x.cps.toList[i.toNat]? = some 10 := by
  have h' : (Txt.slice x (some i) (some (i + 1)) == Str.ofString "\n") = true := by simpa [bne] using h
  have h2 := str_eq_iff.mp h'
  rw [slc_one h0, nl_list] at h2
  cases e : x.cps.toList[i.toNat]? with
  | none => rw [e] at h2; cases h2
  | some c => rw [e] at h2; have : c = 10 := by simpa using h2
              rw [this]

def blank (c : Nat) : Bool := c == 32 || c == 9
def lead (l : List Nat) : Nat := (l.takeWhile blank).length
def leadT (l : List Nat) : Nat := (l.takeWhile blank).count 9
def blank3 (c : Nat) : Bool := c == 32 || c == 9 || c == 10
def peel (l : List Nat) : Nat := (l.takeWhile blank3).length
def peelT (l : List Nat) : Nat := (l.takeWhile blank3).count 9

theorem take_of_takeWhile (p : Nat → Bool) : ∀ l : List Nat, l.take (l.takeWhile p).length = l.takeWhile p
  | [] => rfl
  | a :: r => by
    by_cases h : p a = true
    · rw [List.takeWhile_cons_of_pos h, List.length_cons, List.take_succ_cons, take_of_takeWhile p r]
    · rw [List.takeWhile_cons_of_neg h]; rfl
theorem after_takeWhile (p : Nat → Bool) : ∀ (l : List Nat) (c : Nat), l[(l.takeWhile p).length]? = some c → p c = false
  | [], _, h => by simp at h
  | a :: r, c, h => by
    by_cases hp : p a = true
    · rw [List.takeWhile_cons_of_pos hp, List.length_cons, List.getElem?_cons_succ] at h
      exact after_takeWhile p r c h
    · rw [List.takeWhile_cons_of_neg hp] at h
      have : a = c := by simpa using h
      rw [← this]; simpa using hp
theorem takeWhile_at {p : Nat → Bool} {l : List Nat} {i : Nat} (hi : i ≤ l.length) (ha : (l.take i).all p = true) (hk : ∀ c, l[i]? = some c → p c = false) : l.takeWhile p = l.take i := by
  have e1 : l = l.take i ++ l.drop i := (List.take_append_drop i l).symm
  conv => lhs; rw [e1]
  rw [List.takeWhile_append_of_pos (fun a ha' => List.all_eq_true.mp ha a ha')]
  by_cases h : i < l.length
  · have hc := hk l[i] (List.getElem?_eq_getElem h)
    rw [List.drop_eq_getElem_cons h, List.takeWhile_cons_of_neg (by rw [hc]; decide), List.append_nil]
  · rw [List.drop_eq_nil_of_le (by lia)]; simp
theorem takeWhile_le (p : Nat → Bool) (l : List Nat) : (l.takeWhile p).length ≤ l.length := (List.takeWhile_sublist p).length_le
theorem takeWhile_all (p : Nat → Bool) : ∀ l : List Nat, (l.takeWhile p).all p = true
  | [] => rfl
  | a :: r => by
    by_cases h : p a = true
    · rw [List.takeWhile_cons_of_pos h, List.all_cons, h, takeWhile_all p r]; rfl
    · rw [List.takeWhile_cons_of_neg h]; rfl
theorem blank_3 {c : Nat} (h : blank c = true) : blank3 c = true := by unfold blank3; unfold blank at h; rw [h]; rfl
theorem peel_step {l : List Nat} {k : Nat} (hk : k ≤ l.length) (hall : (l.take k).all blank3 = true) :
    k + lead (l.drop k) ≤ l.length ∧ (l.take (k + lead (l.drop k))).all blank3 = true ∧ (l.take (k + lead (l.drop k))).count 9 = (l.take k).count 9 + leadT (l.drop k) ∧ ∀ c, l[k + lead (l.drop k)]? = some c → blank c = false := by
  have e : l.take (k + lead (l.drop k)) = l.take k ++ (l.drop k).takeWhile blank := by
    rw [List.take_add, lead, take_of_takeWhile]
  have hn := takeWhile_le blank (l.drop k)
  rw [List.length_drop] at hn
  refine ⟨by unfold lead; lia, ?_, ?_, fun c hc => ?_⟩
  · rw [e, List.all_append, hall, Bool.true_and]
    refine List.all_eq_true.mpr fun a ha => blank_3 (List.all_eq_true.mp (takeWhile_all blank _) a ha)
  · rw [e, List.count_append]; rfl
  · refine after_takeWhile blank (l.drop k) c ?_
    rw [List.getElem?_drop]; exact hc
theorem peel_end {l : List Nat} {i : Nat} (hi : i ≤ l.length) (ha : (l.take i).all blank3 = true) (hb : ∀ c, l[i]? = some c → blank c = false) (hn : l[i]? ≠ some 10) : peel l = i ∧ peelT l = (l.take i).count 9 := by
  have e : l.takeWhile blank3 = l.take i := takeWhile_at hi ha fun c hc => by
    have h1 := hb c hc
    have h2 : c ≠ 10 := fun q => hn (by rw [hc, q])
    unfold blank3; unfold blank at h1
    rw [h1]; simpa using h2
  unfold peel peelT
  rw [e]
  exact ⟨by rw [List.length_take]; lia, rfl⟩
theorem peel_next {l : List Nat} {i : Nat} (ha : (l.take i).all blank3 = true) (hn : l[i]? = some 10) : i + 1 ≤ l.length ∧ (l.take (i + 1)).all blank3 = true ∧ (l.take (i + 1)).count 9 = (l.take i).count 9 := by
  have e : l.take (i + 1) = l.take i ++ [10] := by rw [List.take_add_one, hn]; rfl
  have h := (List.getElem?_eq_some_iff.mp hn).1
  refine ⟨h, ?_, ?_⟩
  · rw [e, List.all_append, ha]; rfl
  · rw [e, List.count_append]; simp
theorem lead_brk {l : List Nat} {i k : Nat} (h : l[i]? = some k) (ha : (l.take i).all blank = true) (hk : blank k = false) : lead l = i ∧ leadT l = (l.take i).count 9 := by
  obtain ⟨hi, hk'⟩ := List.getElem?_eq_some_iff.mp h
  have e : l.takeWhile blank = l.take i := takeWhile_at (Nat.le_of_lt hi) ha fun c hc => by rw [h] at hc; rw [← Option.some.inj hc]; exact hk
  unfold lead leadT
  rw [e]
  exact ⟨by rw [List.length_take]; lia, rfl⟩
theorem lead_all {l : List Nat} (ha : l.all blank = true) : lead l = l.length ∧ leadT l = l.count 9 := by
  have e : l.takeWhile blank = l := by
    have := takeWhile_at (p := blank) (l := l) (i := l.length) (Nat.le_refl _) (by rw [List.take_length]; exact ha) (fun c hc => by simp at hc)
    rw [this, List.take_length]
  unfold lead leadT
  rw [e]
  exact ⟨rfl, rfl⟩
theorem take_snoc {l : List Nat} {i k : Nat} (h : l[i]? = some k) : l.take (i + 1) = l.take i ++ [k] := by rw [List.take_add_one, h]; rfl
end Mine
end

section
open PySem PySem.W PyProof.Rows PySem.Calls
namespace Mine
theorem ar1 {n : Nat} (h : 0 < n) : (-1 + (n : Int)).toNat = n - 1 := by lia
theorem ar2 {L b : Nat} (h : b < L) : L - 1 - (L - 1 - b) = b := Nat.sub_sub_self (Nat.le_sub_one_of_lt h)
theorem ar3 {L b : Nat} (h : b < L) : L - (L - 1 - b) = b + 1 := by rw [Nat.sub_sub, Nat.add_comm 1 b]; exact Nat.sub_sub_self h
theorem ar4 {L i : Nat} (h : i < L) : L - 1 - i < L := Nat.lt_of_le_of_lt (Nat.sub_le _ _) (Nat.sub_one_lt (Nat.ne_of_gt (Nat.lt_of_le_of_lt (Nat.zero_le _) h)))
def letAt (l : List Nat) (k : Int) : Bool := !blank3 (l.getD k.toNat 0)
def letters (l : List Nat) : List Int := ((List.range l.length).filter (fun i => !blank3 (l.getD i 0))).map (fun (i : Nat) => (i : Int))
theorem grow_let (p : Int → Bool) : KPfGrows (fun l k => if p k = true then l ++ [k] else l) := by
  intro l k
  dsimp only
  split
  · simp
  · lia
theorem fold_filter {α : Type} (p : α → Bool) : ∀ (ks acc : List α), ks.foldl (fun l k => if p k = true then l ++ [k] else l) acc = acc ++ ks.filter p
  | [], acc => by simp
  | k :: r, acc => by
    rw [List.foldl_cons, fold_filter p r]
    by_cases h : p k = true
    · rw [if_pos h, List.filter_cons_of_pos h]; simp
    · rw [if_neg h, List.filter_cons_of_neg h]
theorem let_fold {x : Str} : List.foldl (fun (l : List Int) (k : Int) => if letAt x.cps.toList k = true then l ++ [k] else l) [] (rangeKs 0 ((x.length : Int) - 0).toNat) = letters x.cps.toList := by
  rw [fold_filter, List.nil_append]
  unfold rangeKs letters
  rw [List.filter_map, len_list, show ((x.length : Int) - 0).toNat = x.length by lia]
  have e1 : (letAt x.cps.toList ∘ fun (i : Nat) => (0 : Int) + (i : Int)) = fun i => !blank3 (x.cps.toList.getD i 0) := by
    funext i
    show letAt x.cps.toList ((0 : Int) + (i : Int)) = _
    unfold letAt
    rw [show ((0 : Int) + (i : Int)).toNat = i by lia]
  rw [e1]
  refine List.map_congr_left fun i _ => by lia
theorem ws_list : (Str.ofString " \t\n").cps.toList = [32, 9, 10] := by decide
theorem ws_mem (c : Nat) : decide (c ∈ (Str.ofString " \t\n").cps.toList) = blank3 c := by
  rw [ws_list]
  unfold blank3
  rw [Bool.eq_iff_iff]
  simp [or_assoc]
theorem let_true {x : Str} {k : Int} (h : (Builtin.Str.occurrences (Str.ofString " \t\n") ⟨#[x.cps.getD k.toNat 0]⟩ 0 (Str.ofString " \t\n").length 1).isEmpty = true) : letAt x.cps.toList k = true := by
  rw [empty_one, ws_mem] at h
  unfold letAt
  simpa using h
theorem let_false {x : Str} {k : Int} (h : (Builtin.Str.occurrences (Str.ofString " \t\n") ⟨#[x.cps.getD k.toNat 0]⟩ 0 (Str.ofString " \t\n").length 1).isEmpty = false) : ¬ letAt x.cps.toList k = true := by
  rw [empty_one, ws_mem] at h
  unfold letAt
  simpa using h
def mid (l : List Nat) : List Nat := (l.drop (peel l)).take (l.length - peel l.reverse - peel l)
theorem peel_all {l : List Nat} (h : l.all blank3 = true) : peel l = l.length := by
  have e : l.takeWhile blank3 = l := by
    have := takeWhile_at (p := blank3) (l := l) (i := l.length) (Nat.le_refl _) (by rw [List.take_length]; exact h) (fun c hc => by simp at hc)
    rw [this, List.take_length]
  unfold peel; rw [e]
theorem peelT_all {l : List Nat} (h : l.all blank3 = true) : peelT l = l.count 9 := by
  have e : l.takeWhile blank3 = l := by
    have := takeWhile_at (p := blank3) (l := l) (i := l.length) (Nat.le_refl _) (by rw [List.take_length]; exact h) (fun c hc => by simp at hc)
    rw [this, List.take_length]
  unfold peelT; rw [e]
theorem letters_nil {l : List Nat} (h : letters l = []) : l.all blank3 = true := by
  unfold letters at h
  rw [List.map_eq_nil_iff, List.filter_eq_nil_iff] at h
  refine List.all_eq_true.mpr fun c hc => ?_
  obtain ⟨i, hi, rfl⟩ := List.getElem_of_mem hc
  have := h i (List.mem_range.mpr hi)
  rw [List.getD_eq_getElem?_getD, List.getElem?_eq_getElem hi] at this
  simpa using this
theorem filter_sorted (p : Nat → Bool) (n : Nat) : ((List.range n).filter p).Pairwise (· < ·) := List.Pairwise.filter p List.pairwise_lt_range
/-- head and last of the letters -/
theorem letters_ends {l : List Nat} (h : letters l ≠ []) : (letters l).getD 0 0 = (peel l : Nat) ∧ (letters l).getD ((letters l).length - 1) 0 = (l.length : Int) - 1 - (peel l.reverse : Nat) ∧ peel l + peel l.reverse < l.length
    ∧ peelT l = (l.take (peel l)).count 9 ∧ peelT l.reverse = (l.drop (l.length - peel l.reverse)).count 9 := by
  generalize hF : (List.range l.length).filter (fun i => !blank3 (l.getD i 0)) = F at *
  have hL : letters l = F.map (fun (i : Nat) => (i : Int)) := by unfold letters; rw [hF]
  have hne : F ≠ [] := fun e => h (by rw [hL, e]; rfl)
  have hmem : ∀ i, i ∈ F ↔ i < l.length ∧ blank3 (l.getD i 0) = false := fun i => by rw [← hF, List.mem_filter, List.mem_range]; simp
  have hsort : F.Pairwise (· < ·) := hF ▸ filter_sorted _ _
  have hpos : 0 < F.length := List.length_pos_iff.mpr hne
  -- the first
  have ha : F[0] ∈ F := List.getElem_mem _
  have hb : F[F.length - 1]'(by lia) ∈ F := List.getElem_mem _
  have hlo : ∀ i ∈ F, F[0] ≤ i := fun i hi => by
    obtain ⟨j, hj, rfl⟩ := List.getElem_of_mem hi
    by_cases e : j = 0
    · subst e; exact Nat.le_refl _
    · exact Nat.le_of_lt (List.pairwise_iff_getElem.mp hsort 0 j hpos hj (by lia))
  have hhi : ∀ i ∈ F, i ≤ F[F.length - 1]'(by lia) := fun i hi => by
    obtain ⟨j, hj, rfl⟩ := List.getElem_of_mem hi
    by_cases e : j = F.length - 1
    · subst e; exact Nat.le_refl _
    · exact Nat.le_of_lt (List.pairwise_iff_getElem.mp hsort j (F.length - 1) hj (by lia) (by lia))
  generalize hA : F[0] = a at *
  generalize hB : F[F.length - 1]'(by lia) = b at *
  obtain ⟨ha1, ha2⟩ := (hmem a).mp ha
  obtain ⟨hb1, hb2⟩ := (hmem b).mp hb
  have hab : a ≤ b := hlo b hb
  have getD' : ∀ i (hi : i < l.length), l.getD i 0 = l[i] := fun i hi => by rw [List.getD_eq_getElem?_getD, List.getElem?_eq_getElem hi]; rfl
  have e1 : l.takeWhile blank3 = l.take a := by
    refine takeWhile_at (Nat.le_of_lt ha1) (List.all_eq_true.mpr fun c hc => ?_) fun c hc => ?_
    · obtain ⟨i, hi, rfl⟩ := List.getElem_of_mem hc
      rw [List.length_take] at hi
      rw [List.getElem_take]
      have hil : i < l.length := by lia
      cases hq : blank3 l[i] with
      | true => rfl
      | false =>
        have := hlo i ((hmem i).mpr ⟨hil, by rw [getD' i hil]; exact hq⟩)
        lia
    · rw [List.getElem?_eq_getElem ha1] at hc
      rw [getD' a ha1] at ha2
      rw [← Option.some.inj hc]; exact ha2
  have e2 : l.reverse.takeWhile blank3 = l.reverse.take (l.length - 1 - b) := by
    refine takeWhile_at (by rw [List.length_reverse]; lia) (List.all_eq_true.mpr fun c hc => ?_) fun c hc => ?_
    · obtain ⟨i, hi, rfl⟩ := List.getElem_of_mem hc
      rw [List.length_take, List.length_reverse] at hi
      rw [List.getElem_take, List.getElem_reverse]
      have hil : l.length - 1 - i < l.length := by lia
      cases hq : blank3 l[l.length - 1 - i] with
      | true => rfl
      | false =>
        have := hhi _ ((hmem (l.length - 1 - i)).mpr ⟨hil, by rw [getD' _ hil]; exact hq⟩)
        lia
    · have hb' : l.length - 1 - b < l.reverse.length := by rw [List.length_reverse]; exact ar4 hb1
      rw [List.getElem?_eq_getElem hb', List.getElem_reverse] at hc
      have e3 : l.length - 1 - (l.length - 1 - b) = b := ar2 hb1
      rw [getD' b hb1] at hb2
      rw [← Option.some.inj hc]
      simp only [e3]
      exact hb2
  have p1 : peel l = a := by unfold peel; rw [e1, List.length_take]; lia
  have p2 : peel l.reverse = l.length - 1 - b := by unfold peel; rw [e2, List.length_take, List.length_reverse]; lia
  refine ⟨?_, ?_, by lia, ?_, ?_⟩
  · rw [hL, p1, List.getD_eq_getElem?_getD, List.getElem?_map, List.getElem?_eq_getElem hpos, hA]; rfl
  · rw [hL, p2, List.length_map, List.getD_eq_getElem?_getD, List.getElem?_map, List.getElem?_eq_getElem (show F.length - 1 < F.length by lia), hB]
    show (b : Int) = _
    lia
  · unfold peelT; rw [e1, p1]
  · unfold peelT
    rw [e2, p2]
    have e4 : l.length - (l.length - 1 - b) = b + 1 := ar3 hb1
    rw [e4, List.take_reverse, List.count_reverse]
    rw [e4]
theorem cnt_count (c : Nat) : ∀ l : List Nat, PyProof.Rows.cnt c l = (l.count c : Nat)
  | [] => rfl
  | n :: r => by
    rw [PyProof.Rows.cnt_cons, cnt_count c r, List.count_cons]
    by_cases h : n = c
    · subst h; simp; lia
    · have : (n == c) = false := by simpa using h
      rw [if_neg h, this]; simp
theorem tab_mk : Str.ofString "\t" = ⟨#[9]⟩ := by decide
theorem tab_count (x : Str) : Txt.count x (Str.ofString "\t") = (x.cps.toList.count 9 : Nat) := by
  rw [tab_mk, PyProof.Rows.count_cnt, cnt_count]
theorem rev_list (x : Str) (u : Tok) : (Txt.sliceBy x none none (-1, u)).cps.toList = x.cps.toList.reverse := by
  rw [PyProof.Rows.step_rev_list]
  apply List.ext_getElem
  · simp [Str.length]
  · intro i h1 h2
    have hi : i < x.cps.size := by simpa using h2
    simp only [List.getElem_map, List.getElem_range, List.getElem_reverse]
    have hj : x.length - 1 - i < x.cps.size := by show x.cps.size - 1 - i < x.cps.size; lia
    have e : x.cps.getD (x.length - 1 - i) 0 = x.cps[x.length - 1 - i] := by simp [Array.getD, hj]
    rw [e]
    simp [Str.length]
theorem rev_le {x : Str} {u : Tok} {n : Nat} (h : x.length ≤ n) : (Txt.sliceBy x none none (-1, u)).length ≤ n := by rw [PyProof.Rows.step_rev_len]; exact h
theorem ne_list {a b : Str} (h : (a != b) = true) : a.cps.toList ≠ b.cps.toList := fun e => by
  have := str_eq_iff.mpr e
  rw [bne, this] at h
  cases h
theorem empty_list : (Str.ofString "").cps.toList = [] := by decide
theorem mid_all {l : List Nat} (h : l.all blank3 = true) : mid l = [] := by
  unfold mid
  rw [peel_all h]
  simp
theorem all_rev {l : List Nat} (h : l.all blank3 = true) : l.reverse.all blank3 = true := by rw [List.all_reverse]; exact h

abbrev Ends (l : List Nat) (ns : List Int) : Prop := ns.getD 0 0 = (peel l : Nat) ∧ ns.getD (ns.length - 1) 0 = (l.length : Int) - 1 - (peel l.reverse : Nat) ∧ peel l + peel l.reverse < l.length
    ∧ peelT l = (l.take (peel l)).count 9 ∧ peelT l.reverse = (l.drop (l.length - peel l.reverse)).count 9
theorem len_of {x : Str} {l : List Nat} (h : x.cps.toList = l) : x.length = l.length := by rw [← h, len_list]
theorem ends_due {x : Str} {ns : List Int} (h : Ends x.cps.toList ns) (hn : 0 < ns.length) :
    (Txt.slice x (some (ns.getD (Int.toNat 0) 0)) (some (ns.getD (-1 + (ns.length : Int)).toNat 0 + 1))).cps.toList = mid x.cps.toList := by
  obtain ⟨h1, h2, h3, _, _⟩ := h
  rw [show (Int.toNat 0) = 0 from rfl, show (-1 + (ns.length : Int)).toNat = ns.length - 1 from ar1 hn, h1, h2]
  rw [len_list] at *
  rw [slc (by lia) (by lia) (by lia)]
  unfold mid
  rw [len_list]
  congr 1
  lia
theorem ends_ahead {x : Str} {ns : List Int} (h : Ends x.cps.toList ns) :
    ([((peel x.cps.toList : Nat) : Int), ((peelT x.cps.toList : Nat) : Int)] : List Int) = [((Txt.slice x none (some (ns.getD (Int.toNat 0) 0))).length : Int), Txt.count (Txt.slice x none (some (ns.getD (Int.toNat 0) 0))) (Str.ofString "\t")] := by
  obtain ⟨h1, h2, h3, h4, h5⟩ := h
  rw [show (Int.toNat 0) = 0 from rfl, h1]
  rw [len_list] at *
  have e := slc_to (x := x) (j := ((peel x.cps.toList : Nat) : Int)) (by lia) (by lia)
  rw [tab_count, len_of e, e, show ((peel x.cps.toList : Nat) : Int).toNat = peel x.cps.toList by lia, h4, List.length_take, len_list]
  congr 1
  lia
theorem ends_behind {x : Str} {ns : List Int} (h : Ends x.cps.toList ns) (hn : 0 < ns.length) :
    ([((peel x.cps.toList.reverse : Nat) : Int), ((peelT x.cps.toList.reverse : Nat) : Int)] : List Int) = [((Txt.slice x (some (ns.getD (-1 + (ns.length : Int)).toNat 0 + 1)) none).length : Int), Txt.count (Txt.slice x (some (ns.getD (-1 + (ns.length : Int)).toNat 0 + 1)) none) (Str.ofString "\t")] := by
  obtain ⟨h1, h2, h3, h4, h5⟩ := h
  rw [show (-1 + (ns.length : Int)).toNat = ns.length - 1 from ar1 hn, h2]
  rw [len_list] at *
  have e := slc_from (x := x) (i := (x.length : Int) - 1 - (peel x.cps.toList.reverse : Nat) + 1) (by lia) (by lia)
  have e2 : ((x.length : Int) - 1 - (peel x.cps.toList.reverse : Nat) + 1).toNat = x.length - peel x.cps.toList.reverse := by lia
  rw [tab_count, len_of e, e, e2, h5, List.length_drop, len_list]
  congr 1
  lia
end Mine
end

section
open PySem PySem.W PyProof.Rows PySem.Calls
open PySem.Builtin.Str
namespace Mine
theorem eq_mk : Str.ofString "=" = ⟨#[61]⟩ := by decide
theorem kind_pos (x : Str) : 1 ≤ Builtin.Str.strKind x := by
  unfold Builtin.Str.strKind
  split
  · exact Nat.le_refl 1
  · split <;> decide
theorem at_one {x : Str} {c i : Nat} : StrLaws.At x ⟨#[c]⟩ x.length i ↔ x.cps.toList[i]? = some c := by
  exact StrLaws.subAt_one x c i
/-- where the first = stands -/
theorem occ_of {x : Str} {p q : List Nat} (h : x.cps.toList = p ++ 61 :: q) (hp : 61 ∉ p) : occurrences x ⟨#[61]⟩ 0 x.length 1 = [p.length] := by
  have hle := StrLaws.occ_length_le x ⟨#[61]⟩ 0 x.length 1
  rcases StrLaws.occ_head x ⟨#[61]⟩ 1 (Nat.le_refl 1) with ⟨_, hn⟩ | ⟨i, r, e, ha, hf⟩
  · exact absurd (at_one.mpr (by rw [h]; simp)) (hn p.length)
  · rw [e] at hle ⊢
    have hr : r = [] := by
      cases r with
      | nil => rfl
      | cons a b => simp at hle
    have hi : i = p.length := by
      have h1 := at_one.mp ha
      rcases Nat.lt_trichotomy i p.length with hlt | heq | hgt
      · rw [h, List.getElem?_append_left hlt] at h1
        exact absurd (List.mem_of_getElem? h1) hp
      · exact heq
      · exact absurd (at_one.mpr (by rw [h]; simp)) (hf p.length hgt)
    rw [hr, hi]
theorem split_eq {x : Str} {p q : List Nat} (h : x.cps.toList = p ++ 61 :: q) (hp : 61 ∉ p) : ∃ A B : Str, Txt.splitMax x (Str.ofString "=") 1 = [A, B] ∧ A.cps.toList = p ∧ B.cps.toList = q := by
  have hlen : x.length = p.length + 1 + q.length := by rw [← len_list, h]; simp; lia
  refine ⟨strSub x 0 p.length, strSub x (p.length + 1) x.length, ?_, ?_, ?_⟩
  · unfold Txt.splitMax
    rw [eq_mk]
    have c1 : (decide (x.length < (⟨#[61]⟩ : Str).length) || decide (Builtin.Str.strKind x < Builtin.Str.strKind ⟨#[61]⟩)) = false := by
      rw [Bool.or_eq_false_iff]
      have k1 : Builtin.Str.strKind (⟨#[61]⟩ : Str) = 1 := by decide +kernel
      have := kind_pos x
      refine ⟨decide_eq_false ?_, decide_eq_false ?_⟩
      · show ¬ (x.length < 1); lia
      · rw [k1]; lia
    rw [c1, if_neg (by decide)]
    have e : occurrences x ⟨#[61]⟩ 0 x.length (limitOf x 1) = [p.length] := occ_of h hp
    rw [e]
    rfl
  · rw [StrLaws.strSub_toList, h]; simp
  · rw [StrLaws.strSub_toList, h, hlen]
    rw [show p ++ 61 :: q = (p ++ [61]) ++ q by simp, List.drop_append_of_le_length (by simp), List.drop_of_length_le (by simp)]
    simp
theorem split_ne {x : Str} (h : 61 ∉ x.cps.toList) : Txt.splitMax x (Str.ofString "=") 1 = [x] := by
  unfold Txt.splitMax
  rw [eq_mk]
  split
  · rfl
  · have e : (occurrences x ⟨#[61]⟩ 0 x.length (limitOf x 1)).isEmpty = true := by
      show (occurrences x ⟨#[61]⟩ 0 x.length 1).isEmpty = true
      rw [empty_one]
      simpa using h
    rw [if_pos e]
theorem find_eq {x : Str} {p q : List Nat} (h : x.cps.toList = p ++ 61 :: q) (hp : 61 ∉ p) : Txt.find x (Str.ofString "=") = (p.length : Int) := by
  unfold Txt.find
  rw [eq_mk, occ_of h hp]
theorem takeWhile_take (p : Nat → Bool) : ∀ (l : List Nat) (n : Nat), (l.take n).takeWhile p = (l.takeWhile p).take n
  | [], n => by simp
  | a :: r, 0 => by simp
  | a :: r, n + 1 => by
    rw [List.take_succ_cons]
    by_cases h : p a = true
    · rw [List.takeWhile_cons_of_pos h, List.takeWhile_cons_of_pos h, List.take_succ_cons, takeWhile_take p r n]
    · rw [List.takeWhile_cons_of_neg h, List.takeWhile_cons_of_neg h]; rfl
theorem takeWhile_congr {p q : Nat → Bool} : ∀ {l : List Nat}, (∀ c ∈ l, p c = q c) → l.takeWhile p = l.takeWhile q
  | [], _ => rfl
  | a :: r, h => by
    have ha := h a (.head _)
    have ih := takeWhile_congr (l := r) fun c hc => h c (.tail _ hc)
    by_cases hp : p a = true
    · rw [List.takeWhile_cons_of_pos hp, List.takeWhile_cons_of_pos (by rw [← ha]; exact hp), ih]
    · rw [List.takeWhile_cons_of_neg hp, List.takeWhile_cons_of_neg (by rw [← ha]; exact hp)]
/-- the signs of the law's texts -/
def Okc (l : List Nat) : Prop := ∀ c ∈ l, c ∈ [32, 9, 61, 97, 10, 98]
theorem ok_space {c : Nat} (h : c ∈ [32, 9, 61, 97, 10, 98]) : Unicode.isSpace c = blank3 c := by
  have all : ∀ c ∈ [32, 9, 61, 97, 10, 98], Unicode.isSpace c = blank3 c := by decide +kernel
  exact all c h
theorem strip_mid {x : Str} (h : Okc x.cps.toList) : (Txt.strip x).cps.toList = mid x.cps.toList := by
  have hs : ∀ c ∈ x.cps.toList, Unicode.isSpace c = blank3 c := fun c hc => ok_space (h c hc)
  have e1 : (x.cps.toList.takeWhile Unicode.isSpace) = x.cps.toList.takeWhile blank3 := takeWhile_congr hs
  have hlo : stripLo Unicode.isSpace true x = peel x.cps.toList := by unfold stripLo peel; rw [e1]; rfl
  have e2 : ((x.cps.toList.drop (peel x.cps.toList)).reverse.takeWhile Unicode.isSpace) = (x.cps.toList.drop (peel x.cps.toList)).reverse.takeWhile blank3 :=
    takeWhile_congr fun c hc => hs c (List.mem_of_mem_drop (List.mem_reverse.mp hc))
  unfold Txt.strip
  rw [PyProof.Rows.stripBy_eq, StrLaws.strSub_toList, hlo]
  unfold stripHi
  rw [if_pos rfl, e2, ← len_list]
  generalize x.cps.toList = l at *
  unfold mid
  have hp : peel l ≤ l.length := takeWhile_le blank3 l
  by_cases hlt : peel l < l.length
  · have e3 : (l.drop (peel l)).reverse = l.reverse.take (l.length - peel l) := by rw [List.reverse_drop]
    have hb : blank3 l[peel l] = false := after_takeWhile blank3 l l[peel l] (by show l[peel l]? = _; rw [List.getElem?_eq_getElem hlt])
    have hr : peel l.reverse ≤ l.length - 1 - peel l := by
      apply Nat.le_of_not_lt
      intro hgt
      have hm : (l.reverse.takeWhile blank3)[l.length - 1 - peel l]? = some l[peel l] := by
        have e4 := take_of_takeWhile blank3 l.reverse
        rw [← e4, List.getElem?_take, if_pos (show l.length - 1 - peel l < (l.reverse.takeWhile blank3).length from hgt), List.getElem?_reverse (by lia)]
        rw [show l.length - 1 - (l.length - 1 - peel l) = peel l by lia, List.getElem?_eq_getElem hlt]
      have := List.all_eq_true.mp (takeWhile_all blank3 l.reverse) _ (List.mem_of_getElem? hm)
      rw [hb] at this; cases this
    rw [e3, takeWhile_take, List.length_take]
    have e5 : min (l.length - peel l) (l.reverse.takeWhile blank3).length = peel l.reverse := by
      show min (l.length - peel l) (peel l.reverse) = peel l.reverse
      lia
    rw [e5]
  · have : peel l = l.length := by lia
    rw [this, List.drop_length]; simp
end Mine
end

section
open PySem PySem.W PyProof.Rows PySem.Calls
namespace Mine
def sgn : Str := Str.ofString " \t=a \t\nb"
def gTxt (k : Int) : Str := Txt.item sgn (Int.fmod k 8) ++ Txt.item sgn (Int.fmod (Int.fdiv k 8) 8)
theorem cps_app (a b : Str) : (a ++ b).cps.toList = a.cps.toList ++ b.cps.toList := by
  show (a.cps ++ b.cps).toList = _
  simp
theorem join_list (l : List Str) : (Txt.join (Str.ofString "") l).cps.toList = (l.map (·.cps.toList)).flatten := by
  show (Builtin.Str.glued (Str.ofString "") l).cps.toList = _
  rw [StrLaws.glued_eq_join]
  induction l with
  | nil => rfl
  | cons a r ih =>
    cases r with
    | nil => simp [Str.join]
    | cons b r =>
      show (a ++ Str.ofString "" ++ Str.join (Str.ofString "") (b :: r)).cps.toList = _
      rw [cps_app, cps_app, ih]
      have : (Str.ofString "").cps.toList = [] := by decide
      rw [this]
      simp
theorem item_ok {i : Int} (h0 : 0 ≤ i) (h1 : i < 8) : ∃ c, (Txt.item sgn i).cps.toList = [c] ∧ c ∈ [32, 9, 61, 97, 10, 98] := by
  have : i = 0 ∨ i = 1 ∨ i = 2 ∨ i = 3 ∨ i = 4 ∨ i = 5 ∨ i = 6 ∨ i = 7 := by lia
  rcases this with rfl | rfl | rfl | rfl | rfl | rfl | rfl | rfl
  · exact ⟨32, by decide, by decide⟩
  · exact ⟨9, by decide, by decide⟩
  · exact ⟨61, by decide, by decide⟩
  · exact ⟨97, by decide, by decide⟩
  · exact ⟨32, by decide, by decide⟩
  · exact ⟨9, by decide, by decide⟩
  · exact ⟨10, by decide, by decide⟩
  · exact ⟨98, by decide, by decide⟩
theorem gTxt_ok (k : Int) : Okc (gTxt k).cps.toList ∧ (gTxt k).cps.toList.length = 2 := by
  obtain ⟨a, ha, ma⟩ := item_ok (fmod_lo k (n := 8) (by decide)) (fmod_hi k (by decide))
  obtain ⟨b, hb, mb⟩ := item_ok (fmod_lo (Int.fdiv k 8) (n := 8) (by decide)) (fmod_hi _ (by decide))
  unfold gTxt
  rw [cps_app, ha, hb]
  refine ⟨?_, rfl⟩
  intro c hc
  simp only [List.cons_append, List.nil_append, List.mem_cons, List.not_mem_nil, or_false] at hc
  rcases hc with rfl | rfl
  · exact ma
  · exact mb
theorem join_ok (ns : List Int) : Okc (Txt.join (Str.ofString "") (ns.map gTxt)).cps.toList ∧ (Txt.join (Str.ofString "") (ns.map gTxt)).length = 2 * ns.length := by
  rw [← len_list, join_list]
  induction ns with
  | nil => exact ⟨(fun _ h => nomatch h), rfl⟩
  | cons a r ih =>
    obtain ⟨h1, h2⟩ := ih
    obtain ⟨g1, g2⟩ := gTxt_ok a
    simp only [List.map_cons, List.flatten_cons, List.length_append, List.length_cons]
    refine ⟨?_, by lia⟩
    intro c hc
    rcases List.mem_append.mp hc with hc | hc
    · exact g1 c hc
    · exact h1 c hc
theorem text_ok (ns : List Int) (hn : ns.length ≤ 10) : Okc (Txt.join (Str.ofString "") (ns.map gTxt) ++ Str.ofString "\ta ").cps.toList ∧ (Txt.join (Str.ofString "") (ns.map gTxt) ++ Str.ofString "\ta ").length ≤ 50 := by
  obtain ⟨h1, h2⟩ := join_ok ns
  constructor
  · rw [cps_app]
    intro c hc
    rcases List.mem_append.mp hc with hc | hc
    · exact h1 c hc
    · have : ∀ c ∈ (Str.ofString "\ta ").cps.toList, c ∈ [32, 9, 61, 97, 10, 98] := by decide
      exact this c hc
  · rw [Str.length_append, h2]
    have : (Str.ofString "\ta ").length = 3 := by decide
    lia
end Mine
end

section
open PySem PySem.W PyProof.Rows PySem.Calls
namespace Mine
theorem first_of {l : List Nat} {c : Nat} (h : c ∈ l) : ∃ p q, l = p ++ c :: q ∧ c ∉ p := by
  induction l with
  | nil => cases h
  | cons a r ih =>
    by_cases e : a = c
    · exact ⟨[], r, by rw [e]; rfl, fun h => nomatch h⟩
    · have hr : c ∈ r := by
        rcases List.mem_cons.mp h with h | h
        · exact absurd h.symm e
        · exact h
      obtain ⟨p, q, e1, e2⟩ := ih hr
      refine ⟨a :: p, q, by rw [e1]; rfl, fun hm => ?_⟩
      rcases List.mem_cons.mp hm with hm | hm
      · exact e hm.symm
      · exact e2 hm
theorem row_ok {x : Str} {k : Int} {n : Nat} (hx : x.length ≤ 50) (hok : Okc x.cps.toList) (hk : k = 0 + (n : Int)) (hn : n < x.length + 1) :
    (Txt.slice x none (some k) ++ Str.ofString "=" ++ Txt.slice x (some k) none).length ≤ 51 ∧ Okc (Txt.slice x none (some k) ++ Str.ofString "=" ++ Txt.slice x (some k) none).cps.toList ∧
    ∃ pl ql, (Txt.slice x none (some k) ++ Str.ofString "=" ++ Txt.slice x (some k) none).cps.toList = pl ++ 61 :: ql ∧ 61 ∉ pl := by
  have h0 : 0 ≤ k := by lia
  have h1 : k ≤ x.length := by lia
  have e : (Str.ofString "=").cps.toList = [61] := by decide
  rw [← len_list, cps_app, cps_app, slc_to h0 h1, slc_from h0 h1, e]
  refine ⟨?_, ?_, first_of (by simp)⟩
  · simp only [List.length_append, List.length_take, List.length_drop, List.length_cons, List.length_nil, len_list]
    lia
  · intro c hc
    simp only [List.append_assoc, List.mem_append, List.mem_cons, List.not_mem_nil, or_false] at hc
    rcases hc with hc | rfl | hc
    · exact hok c (List.mem_of_mem_take hc)
    · decide
    · exact hok c (List.mem_of_mem_drop hc)
end Mine
end

section
open PySem PySem.W PyProof.Rows PySem.Calls
set_option compiler.extract_closed false
set_option genInjectivity false
set_option genSizeOf false
namespace Mine
theorem fill {G : Prop} (h : (PySem.Challenge.rw_ij0094_01 = PySem.Challenge.rw_ij0094_01) → hd.heap_39 = hd.heap_39 → G) : G := h rfl rfl

structure WsC where
  b : Int
  n : Int
  nt : Int
  tb : Nat
  tn : Nat
  tnt : Nat
  a : Nat
  vs : List Value
  k : Nat
  ns : List Int
abbrev WsMap (x' : Addr) (x : Str) (t : Tok) (c : WsC) (y : Str) : Option Value :=
  if y = Str.ofString "nt" then some (.int c.nt c.tnt) else if y = Str.ofString "n" then some (.int c.n c.tn) else if y = Str.ofString "b" then some (.int c.b c.tb) else
  if y = Str.ofString "count" then some (.ref c.a) else if y = Str.ofString "S" then some (.str (Str.ofString " ") 421) else if y = Str.ofString "T" then some (.str (Str.ofString "\t") 422) else
  List.lookup y [(Str.ofString "ws", .str x t), (Str.ofString "self", .ref x')]
abbrev WsLed (x' : Addr) (ox : Obj) (d' : Addr) (od : Obj) (news : List (Addr × Obj)) (c : WsC) : List (Addr × Obj) := (c.a, W.listOf c.vs.toArray c.k) :: (x', ox) :: (d', od) :: news
structure WsInv (x' : Nat) (x : Str) (i : Nat) (c : WsC) : Prop where
  hn : c.n = i
  hall : ((x.cps.toList.take i).all blank) = true
  hnt : c.nt = ((x.cps.toList.take i).count 9 : Nat)
  hb0 : 0 ≤ c.b
  hb1 : c.b ≤ i
  hi : IntsAre c.vs c.ns
  hl : c.ns.length ≤ i
  ha : x' < c.a

theorem news_sub {h₀ h : Heap} {L : Addr} {a b : List (Addr × Obj)} (N : News h₀ L h a) (hs : ∀ p ∈ b, p ∈ a) : News h₀ L h b := fun p hp => N p (hs p hp)

theorem off3 {a b c I : Nat} {oa ob oc : Obj} {l : List (Addr × Obj)} (h : ∀ p ∈ ((a, oa) :: (b, ob) :: (c, oc) :: l : List (Addr × Obj)), p.1 ≠ I) : (a ≠ I) ∧ (b ≠ I) ∧ (c ≠ I) ∧ ∀ p ∈ l, p.1 ≠ I :=
  ⟨h (a, oa) (.head _), h (b, ob) (.tail _ (.head _)), h (c, oc) (.tail _ (.tail _ (.head _))), fun p hp => h p (.tail _ (.tail _ (.tail _ hp)))⟩
theorem neN' {a b : Nat} (h : a < b) : a < b := h
theorem small_ints {vs : List Value} {ns : List Int} (h : IntsAre vs ns) (hn : ns.length ≤ 16384) : vs.toArray.size ≤ 16384 := by rw [List.size_toArray, h.length]; exact hn
theorem one_eq {k c : Nat} : ((⟨#[k]⟩ : Str) == ⟨#[c]⟩) = decide (k = c) := by
  by_cases h : k = c
  · subst h; simp
  · rw [decide_eq_false h]
    refine beq_eq_false_iff_ne.mpr fun e => h ?_
    have := congrArg (fun x : Str => x.cps.toList) e
    simpa using this
theorem sp_mk : Str.ofString " " = ⟨#[32]⟩ := by decide
theorem tb_mk : Str.ofString "\t" = ⟨#[9]⟩ := by decide
theorem nl_mk : Str.ofString "\n" = ⟨#[10]⟩ := by decide
theorem is_sp {k : Nat} {b : Bool} (h : ((⟨#[k]⟩ : Str) == Str.ofString " ") = b) : decide (k = 32) = b := by rw [sp_mk, one_eq] at h; exact h
theorem is_tb {k : Nat} {b : Bool} (h : ((⟨#[k]⟩ : Str) == Str.ofString "\t") = b) : decide (k = 9) = b := by rw [tb_mk, one_eq] at h; exact h

theorem news_drop4 {h₀ h : Heap} {L : Addr} {a b c d : Addr × Obj} {l : List (Addr × Obj)} (N : News h₀ L h (a :: b :: c :: d :: l)) : News h₀ L h l := fun p hp => N p (.tail _ (.tail _ (.tail _ (.tail _ hp))))
theorem news_drop3 {h₀ h : Heap} {L : Addr} {a b c : Addr × Obj} {l : List (Addr × Obj)} (N : News h₀ L h (a :: b :: c :: l)) : News h₀ L h l := fun p hp => N p (.tail _ (.tail _ (.tail _ hp)))
theorem news_ext {h₀ h : Heap} {L : Addr} {p1 p2 p3 pI p4 p5 p6 : Addr × Obj} {l : List (Addr × Obj)} (N : News h₀ L h (p1 :: p2 :: p3 :: pI :: p4 :: p5 :: p6 :: l)) : News h₀ L h (pI :: p1 :: p5 :: p6 :: l) := fun p hp => by
  rcases List.mem_cons.mp hp with rfl | hp
  · exact N _ (by simp)
  rcases List.mem_cons.mp hp with rfl | hp
  · exact N _ (by simp)
  exact N _ (.tail _ (.tail _ (.tail _ (.tail _ (.tail _ hp)))))
theorem off_of {a b c I : Nat} {oa ob oc : Obj} {l : List (Addr × Obj)} (h1 : a ≠ I) (h2 : b ≠ I) (h3 : c ≠ I) (h4 : ∀ p ∈ l, p.1 ≠ I) : ∀ p ∈ ((a, oa) :: (b, ob) :: (c, oc) :: l : List (Addr × Obj)), p.1 ≠ I :=
  List.forall_mem_cons.mpr ⟨h1, List.forall_mem_cons.mpr ⟨h2, List.forall_mem_cons.mpr ⟨h3, h4⟩⟩⟩
theorem inv_sp {x' : Nat} {x : Str} {i k : Nat} {b : Int} {tb' tn' tnt' a kk : Nat} {vs : List Value} {ns : List Int} (hk : x.cps[i]? = some k) (e : ((⟨#[k]⟩ : Str) == Str.ofString " ") = true)
    (h1 : ((x.cps.toList.take i).all blank) = true) (h2 : 0 ≤ b) (h3 : b ≤ i) (h4 : IntsAre vs ns) (h5 : ns.length ≤ i) (h6 : x' < a) :
    WsInv x' x (i + 1) ⟨b + 1, (i : Int) + 1, ((x.cps.toList.take i).count 9 : Nat), tb', tn', tnt', a, vs, kk, ns⟩ := by
  have hk' : x.cps.toList[i]? = some k := by simpa using hk
  have e' : k = 32 := of_decide_eq_true (is_sp e)
  subst e'
  refine ⟨by simp, ?_, ?_, by dsimp only; omega, by dsimp only; omega, h4, by dsimp only; omega, h6⟩
  · rw [take_snoc hk', List.all_append, h1]; rfl
  · rw [take_snoc hk', List.count_append]; simp
theorem inv_tb {x' : Nat} {x : Str} {i k : Nat} {b' : Int} {tb' tn' tnt' a kk : Nat} {vs : List Value} {ns : List Int} (hk : x.cps[i]? = some k) (e : ((⟨#[k]⟩ : Str) == Str.ofString "\t") = true)
    (h1 : ((x.cps.toList.take i).all blank) = true) (hb : b' = 0) (h4 : IntsAre vs ns) (h5 : ns.length ≤ i + 1) (h6 : x' < a) :
    WsInv x' x (i + 1) ⟨b', (i : Int) + 1, ((x.cps.toList.take i).count 9 : Nat) + 1, tb', tn', tnt', a, vs, kk, ns⟩ := by
  have hk' : x.cps.toList[i]? = some k := by simpa using hk
  have e' : k = 9 := of_decide_eq_true (is_tb e)
  subst e'
  refine ⟨by simp, ?_, ?_, by dsimp only; omega, by dsimp only; omega, h4, by dsimp only; omega, h6⟩
  · rw [take_snoc hk', List.all_append, h1]; rfl
  · rw [take_snoc hk', List.count_append]; simp
theorem not_blank {k : Nat} (h1 : ((⟨#[k]⟩ : Str) == Str.ofString " ") = false) (h2 : ((⟨#[k]⟩ : Str) == Str.ofString "\t") = false) : blank k = false := by
  have a := is_sp h1
  have b := is_tb h2
  unfold blank
  rw [Bool.or_eq_false_iff]
  exact ⟨by simpa using a, by simpa using b⟩
section
variable {h₀ : Heap} {L : Addr} {x : Str} {Q : Flow → Shared → Prop}
theorem turn_next {σ : Type} {Map : σ → Str → Option Value} {Led : σ → List (Addr × Obj)} {Inv : σ → Prop} {own : List (Addr × Obj)} {I : Addr} {s₁ : Shared} {h' : Heap} {tk : Nat} {m' : Str → Option Value} {c : σ}
    (F : Fr h₀ L h' m') (hm : ∀ y, y ≠ x → m' y = Map c y) (N : News h₀ L h' (own ++ Led c)) (ho : ∀ p ∈ Led c, p.1 ≠ I) (hi : Inv c) : TurnPost h₀ L x Map Led Inv own I s₁ Q .next { s₁ with heap := h', toks := tk } := ⟨h', tk, m', c, rfl, F, hm, N, ho, hi⟩
end

abbrev wsDict (P : Params) (x : Str) (t : Tok) (n nt : Int) (tn tnt k1 k2 k3 k4 k5 : Nat) (nm sm : Value) : List DictEntry :=
  [⟨PyData.keyHash P (Str.ofString "raw"), .str (Str.ofString "raw") k1, .str x t⟩, ⟨PyData.keyHash P (Str.ofString "n"), .str (Str.ofString "n") k2, .int n tn⟩, ⟨PyData.keyHash P (Str.ofString "nt"), .str (Str.ofString "nt") k3, .int nt tnt⟩,
   ⟨PyData.keyHash P (Str.ofString "norm"), .str (Str.ofString "norm") k4, nm⟩, ⟨PyData.keyHash P (Str.ofString "is_simple"), .str (Str.ofString "is_simple") k5, sm⟩]


theorem news_drop2 {h₀ h : Heap} {L : Addr} {a b : Addr × Obj} {l : List (Addr × Obj)} (N : News h₀ L h (a :: b :: l)) : News h₀ L h (a :: l) := fun p hp => by
  rcases List.mem_cons.mp hp with rfl | hp
  · exact N _ (.head _)
  · exact N _ (.tail _ (.tail _ hp))

set_option maxHeartbeats 4000000 in
theorem ws_call {prog : Program} {w : World} {p : Program} {loose : List Str} {mean : ExcName → Option Value} {mg mb : Str → Option Value}
    {dp un : Nat} {gd : Option (List Code)} {cn : Str} {cs : Scope} {a : Addr} {ccd : Value} {cl : List (Str × Addr)} {outer : List Env} {A₀ : Around} {base h₀ : Heap} {L : Addr} {m : Str → Option Value} {news : List (Addr × Obj)} {s : Shared} {x : Str} {t : Tok}
    {Q E : Value → Shared → Prop}
    (B : Below A₀ base outer h₀) (F : Fr h₀ L s.heap m) (X : (hd.heap_39 w.params).In h₀) (N : News h₀ L s.heap news) (T : Top p loose mean mg mb h₀) (hk : cs.kind = .function)
    (hx : x.length ≤ 100) (hd : dp + 4 < recursionLimit) (hu : un + 40 < cLine) 
    (ret : ∀ (y d tn tnt k1 k2 k3 k4 k5 : Nat) (nm sm : Value) h' tk', Fr h₀ L h' m → News h₀ L h' ((y, instObj 220 d) :: (d, dictOf (wsDict w.params x t (lead x.cps.toList) (leadT x.cps.toList) tn tnt k1 k2 k3 k4 k5 nm sm) 5) :: news) → (∀ p ∈ news, p.1 < d) → d < y → Q (.ref y) { s with heap := h', toks := tk' }) :
    wpAny (model prog w) (ktrTop dp un gd cn cs L a ccd cl outer) (call (.ref 220) [.str x t]) Q E s := by
  w_top off
  refine fill ?_
  k_fill
  intro _ _
  k_dflt (refine' call_cls ?k1 ?k2 ?k3 ?k4 ?k5 ?k6 ?_; (case k1 => k_asm); (case k2 => k_asm); (case k3 => k_asm); (case k4 => k_is); (case k5 => k_is); (case k6 => k_is); k_whole; intro x' d' h' F' N' l1 l2; have l0 := l1; (try k_lt l1); (try k_lt2 l2); (try k_sweep))
  k_dflt cell_enter
  repeat' (first | ((with_reducible show wpAny _ _ (call (Value.type "tuple") _) _ _ _); refine Hold.mk ?_) | (k_unfold; (try dsimp only)) | (k_end; wrow_close) | walk1 | (dsimp only; walk1) | (leave1; walk_say "STEP leave1"; try dsimp only) | fail "no step")
  rename Fr _ _ _ _ => lF
  rename News _ _ _ _ => lN
  have l9 := l1
  have lF2 : Fr _ _ _ (WsMap x' x t ⟨0, 0, 0, _, _, _, _, [], 0, []⟩) := lF
  have lN2 := news_drop2 lN
  refine loop_str (WsMap x' x t) (WsLed x' _ d' _ news) (WsInv x' x) _ (by rfl) lF2 (fun y _ => rfl) lN2 ?s2 ?turn ?done
  case s2 => exact ⟨rfl, rfl, rfl, Int.le_refl 0, Int.le_refl 0, .nil, Nat.le_refl 0, neN' (by dsimp only; omega)⟩
  case turn =>
    clear lF lN lF2 lN2 F' N'
    rintro i k t2 I oI ⟨b, n, nt, tb, tn, tnt, a9, vs, k9, ns⟩ h9 tk9 hk9 ⟨hn, hall, hnt, hb0, hb1, hi, hl, ha⟩ hoff F9 N9
    dsimp only at hn hall hnt hb0 hb1 hi hl ha
    obtain ⟨hI1, hI2, hI3, hoff⟩ := off3 hoff
    dsimp only at hI1
    dsimp only [WsMap, WsLed] at F9 N9
    subst hn hnt
    have hA9 : ∀ p ∈ news, p.1 < a9 := fun p hp => by have := ltN (l0 p hp); exact (by omega : @LT.lt Nat _ p.1 a9)
    have hiL : i < 100 := by have := (Array.getElem?_eq_some_iff.mp hk9).1; have : x.cps.size ≤ 100 := hx; omega
    have kMark : KstMark := kstMark
    refine hideA fun Q9 E9 hQ9 => ?_
    repeat' (first | ((with_reducible show wpAny _ _ (call (Value.type "tuple") _) _ _ _); refine Hold.mk ?_) | (k_unfold; (try dsimp only)) | (k_end; wrow_close) | walk1 | (dsimp only; walk1) | (leave1; walk_say "STEP leave1"; try dsimp only) | fail "no step")
    all_goals refine hQ9.on _ _ ?_
    rotate_left 3
    · dsimp only [TurnPost]
      repeat' (first | ((with_reducible show wpAny _ _ (call (Value.type "tuple") _) _ _ _); refine Hold.mk ?_) | (k_unfold; (try dsimp only)) | (k_end; wrow_close) | walk1 | (dsimp only; walk1) | (leave1; walk_say "STEP leave1"; try dsimp only) | fail "no step")
      refine Hold.out ?_
      ((with_reducible show wpAny _ _ (call (Value.type _) [Value.ref _]) _ _ _); k_dflt (refine' kde_tupleOf ?k1 ?k2 ?k3 ?k4 ?k5 ?_; (case k1 => k_asm); (case k2 => k_asm); (case k3 => exact News.isList (by k_asm) (by k_mem)); (case k4 => exact small_ints (by assumption) (by omega)); (case k5 => exact rfl); k_whole); intro D' h' F' N' l1; (try k_lt l1); (try k_sweep))
      repeat' (first | ((with_reducible show wpAny _ _ (call (Value.type "tuple") _) _ _ _); refine Hold.mk ?_) | (k_unfold; (try dsimp only)) | (k_end; wrow_close) | walk1 | (dsimp only; walk1) | (leave1; walk_say "STEP leave1"; try dsimp only) | fail "no step")
      have hl := lead_brk (l := x.cps.toList) (by simpa using hk9) hall (not_blank (by assumption) (by assumption))
      rw [hl.1, hl.2] at ret
      exact ret x' d' _ _ _ _ _ _ _ _ _ _ _ (by assumption) (news_drop4 (by assumption)) l0 l2
    · refine' turn_next (c := ⟨b + 1, (i : Int) + 1, ((x.cps.toList.take i).count 9 : Nat), _, _, _, a9, vs, k9, ns⟩) (by assumption) ?hm (by assumption) (off_of hI1 hI2 hI3 (by assumption)) (inv_sp hk9 (by assumption) hall hb0 hb1 hi hl ha)
      case hm =>
        intro y hy
        by_cases h1 : y = Str.ofString "nt"
        · subst h1; exact rfl
        by_cases h2 : y = Str.ofString "n"
        · subst h2; exact rfl
        by_cases h3 : y = Str.ofString "b"
        · subst h3; exact rfl
        simp only [if_neg h1, if_neg h2, if_neg h3, if_neg hy]
    · rename IntsAre (List.set _ _ _) _ => hi2
      rename List.length (List.set _ _ _) = _ => hl2
      rename List.length (List.flatten _) = _ => hl3
      rename 0 ≤ b - (ns.length : Int) + 1 → _ => hl4
      refine' turn_next (c := ⟨0, (i : Int) + 1, ((x.cps.toList.take i).count 9 : Nat) + 1, _, _, _, _, _, _, _⟩) (by assumption) ?hm (news_ext (by assumption)) (off_of ?o1 hI2 hI3 (by assumption)) (inv_tb hk9 (by assumption) hall rfl hi2 (by rw [hl2, List.length_append, hl3]; omega) ?o2)
      case hm =>
        intro y hy
        by_cases h1 : y = Str.ofString "nt"
        · subst h1; exact rfl
        by_cases h2 : y = Str.ofString "n"
        · subst h2; exact rfl
        by_cases h3 : y = Str.ofString "b"
        · subst h3; exact rfl
        by_cases h4 : y = Str.ofString "count"
        · subst h4; exact rfl
        simp only [if_neg h1, if_neg h2, if_neg h3, if_neg h4, if_neg hy]
      case o1 => exact neN (by dsimp only; omega)
      case o2 => omega
    · rename IntsAre (List.set _ _ _) _ => hi2
      rename List.length (List.set _ _ _) = _ => hl2
      refine' turn_next (c := ⟨0, (i : Int) + 1, ((x.cps.toList.take i).count 9 : Nat) + 1, _, _, _, _, _, _, _⟩) (by assumption) ?hm (by assumption) (off_of hI1 hI2 hI3 (by assumption)) (inv_tb hk9 (by assumption) hall rfl hi2 (by rw [hl2]; omega) ha)
      case hm =>
        intro y hy
        by_cases h1 : y = Str.ofString "nt"
        · subst h1; exact rfl
        by_cases h2 : y = Str.ofString "n"
        · subst h2; exact rfl
        by_cases h3 : y = Str.ofString "b"
        · subst h3; exact rfl
        simp only [if_neg h1, if_neg h2, if_neg h3, if_neg hy]
  case done =>
    clear lF lN lF2 lN2 F' N'
    rintro ⟨b, n, nt, tb, tn, tnt, a9, vs, k9, ns⟩ u h9 tk9 ⟨hn, hall, hnt, hb0, hb1, hi, hl, ha⟩ F9 N9
    dsimp only at hn hall hnt hb0 hb1 hi hl ha
    dsimp only [WsMap, WsLed] at F9 N9
    subst hn hnt
    have hA9 : ∀ p ∈ news, p.1 < a9 := fun p hp => by have := ltN (l0 p hp); exact (by omega : @LT.lt Nat _ p.1 a9)
    have hiL : x.cps.size ≤ 100 := hx
    have kMark : KstMark := kstMark
    repeat' (first | ((with_reducible show wpAny _ _ (call (Value.type "tuple") _) _ _ _); refine Hold.mk ?_) | (k_unfold; (try dsimp only)) | (k_end; wrow_close) | walk1 | (dsimp only; walk1) | (leave1; walk_say "STEP leave1"; try dsimp only) | fail "no step")
    refine Hold.out ?_
    ((with_reducible show wpAny _ _ (call (Value.type _) [Value.ref _]) _ _ _); k_dflt (refine' kde_tupleOf ?k1 ?k2 ?k3 ?k4 ?k5 ?_; (case k1 => k_asm); (case k2 => k_asm); (case k3 => exact News.isList (by k_asm) (by k_mem)); (case k4 => exact small_ints (by assumption) (by omega)); (case k5 => exact rfl); k_whole); intro D' h' F' N' l1; (try k_lt l1); (try k_sweep))
    repeat' (first | ((with_reducible show wpAny _ _ (call (Value.type "tuple") _) _ _ _); refine Hold.mk ?_) | (k_unfold; (try dsimp only)) | (k_end; wrow_close) | walk1 | (dsimp only; walk1) | (leave1; walk_say "STEP leave1"; try dsimp only) | fail "no step")
    have ht : x.cps.toList.take x.cps.size = x.cps.toList := List.take_of_length_le (by simp)
    rw [ht] at hall
    have hl := lead_all hall
    have e1 : lead x.cps.toList = x.cps.size := by rw [hl.1]; simp
    have e2 : leadT x.cps.toList = (x.cps.toList.take x.cps.size).count 9 := by rw [hl.2, ht]
    rw [e1, e2] at ret
    exact ret x' d' _ _ _ _ _ _ _ _ _ _ _ (by assumption) (news_drop3 (by assumption)) l0 l2
end Mine
end

section
open PySem PySem.W PyProof.Rows PySem.Calls
set_option compiler.extract_closed false
set_option genInjectivity false
set_option genSizeOf false
namespace Mine

theorem ar5 {k : Int} {v : Nat} (h : 0 ≤ k) : (k + (v : Int)).toNat = k.toNat + v := Int.toNat_add_nat h v
theorem ar6 {k : Int} {v : Nat} (h : 0 ≤ k) : (k + (v : Int) + 1).toNat = k.toNat + v + 1 := by
  have := ar5 (v := v + 1) h
  rw [Int.natCast_add, ← Int.add_assoc] at this
  exact this
structure PlC where
  k : Int
  nt : Int
  tk : Nat
  tnt : Nat
abbrev PlMap (x : Str) (t : Tok) (c : PlC) (y : Str) : Option Value :=
  if y = Str.ofString "tabs" then some (.int c.nt c.tnt) else if y = Str.ofString "taken" then some (.int c.k c.tk) else List.lookup y [(Str.ofString "side", .str x t)]
structure PlInv (x : Str) (c : PlC) : Prop where
  h0 : 0 ≤ c.k
  h1 : c.k ≤ x.length
  hall : ((x.cps.toList.take c.k.toNat).all blank3) = true
  hnt : c.nt = ((x.cps.toList.take c.k.toNat).count 9 : Nat)

theorem news_drop2' {h₀ h : Heap} {L : Addr} {a b : Addr × Obj} {l : List (Addr × Obj)} (N : News h₀ L h (a :: b :: l)) : News h₀ L h l := fun p hp => N p (.tail _ (.tail _ hp))
theorem news_mid2 {h₀ h : Heap} {L : Addr} {c a b : Addr × Obj} {l : List (Addr × Obj)} (N : News h₀ L h (c :: a :: b :: l)) : News h₀ L h (c :: l) := fun p hp => by
  rcases List.mem_cons.mp hp with rfl | hp
  · exact N _ (.head _)
  · exact N _ (.tail _ (.tail _ (.tail _ hp)))

set_option maxHeartbeats 4000000 in
theorem peeled_call {prog : Program} {w : World} {p : Program} {loose : List Str} {mean : ExcName → Option Value} {mg mb : Str → Option Value}
    {dp un : Nat} {gd : Option (List Code)} {cn : Str} {cs : Scope} {a : Addr} {ccd : Value} {cl : List (Str × Addr)} {outer : List Env} {A₀ : Around} {base h₀ : Heap} {L : Addr} {m : Str → Option Value} {news : List (Addr × Obj)} {s : Shared} {x : Str} {t : Tok}
    {Q E : Value → Shared → Prop}
    (B : Below A₀ base outer h₀) (F : Fr h₀ L s.heap m) (X : (hd.heap_39 w.params).In h₀) (N : News h₀ L s.heap news) (T : Top p loose mean mg mb h₀) (hk : cs.kind = .function)
    (hx : x.length ≤ 100) (hd : dp + 8 < recursionLimit) (hu : un + 80 < cLine) 
    (ret : ∀ (D k t1 t2 : Nat) h' tk', Fr h₀ L h' m → News h₀ L h' ((D, W.listOf #[.int (peel x.cps.toList) t1, .int (peelT x.cps.toList) t2] k) :: news) → (∀ p ∈ news, p.1 < D) → Q (.ref D) { s with heap := h', toks := tk' }) :
    wpAny (model prog w) (ktrTop dp un gd cn cs L a ccd cl outer) (call (.ref 231) [.str x t]) Q E s := by
  w_top off
  refine fill ?_
  k_fill
  intro _ _
  refine wpAny_call ?_
  k_dflt cell_enter
  repeat' (first | ((with_reducible show wpAny _ _ (call (Value.ref 220) _) _ _ _); refine Hold.mk ?_) | ((with_reducible show wpAny _ _ (exec (Stmt.While _ _ _ _) _) _ _ _); refine Hold.mk ?_) | (k_unfold; (try dsimp only)) | (k_end; wrow_close) | walk1 | (dsimp only; walk1) | (leave1; walk_say "STEP leave1"; try dsimp only) | fail "no step")
  refine Hold.out ?_
  rename Fr _ _ _ _ => lF
  rename News _ _ _ _ => lN
  have lF2 : Fr _ _ _ (PlMap x t ⟨0, 0, _, _⟩) := lF
  refine while_core (Str.ofString "lead") (PlMap x t) (fun _ => news) (PlInv x) (fun c => x.length - c.k.toNat) _ lF2 (fun y _ => rfl) lN ⟨Int.le_refl 0, Int.natCast_nonneg _, rfl, rfl⟩ ?turn
  clear lF lN lF2
  rintro ⟨k, nt, tk, tnt⟩ u h9 tk9 ⟨hk0, hk1, hall, hnt⟩ F9 N9
  dsimp only at hk0 hk1 hall hnt
  dsimp only [PlMap] at F9
  subst hnt
  have hkl : k.toNat ≤ x.cps.toList.length := by rw [len_list]; omega
  obtain ⟨st1, st2, st3, st4⟩ := peel_step hkl hall
  have hsl := slc_from hk0 hk1
  repeat' (first | ((with_reducible show wpAny _ _ (call (Value.ref 220) _) _ _ _); refine Hold.mk ?_) | ((with_reducible show wpAny _ _ (exec (Stmt.While _ _ _ _) _) _ _ _); refine Hold.mk ?_) | (k_unfold; (try dsimp only)) | (k_end; wrow_close) | walk1 | (dsimp only; walk1) | (leave1; walk_say "STEP leave1"; try dsimp only) | fail "no step")
  refine Hold.out ?_
  k_dflt (refine' ws_call ?B ?F ?X ?N ?T ?hk ?hx ?hd ?hu ?_; (case B => k_asm); (case F => k_asm); (case X => k_asm); (case N => k_asm); (case T => k_asm); (case hk => first | exact rfl | assumption); (case hx => size_fits); (case hd => ktr_room); (case hu => ktr_units))
  intro y' d' tn' tnt' k1' k2' k3' k4' k5' nm' sm' h' tk' F' N' l1 l2
  (try k_lt l1)
  (try k_lt2 l2)
  (try k_sweep)
  repeat' (first | ((with_reducible show wpAny _ _ (call (Value.ref 220) _) _ _ _); refine Hold.mk ?_) | ((with_reducible show wpAny _ _ (exec (Stmt.While _ _ _ _) _) _ _ _); refine Hold.mk ?_) | (k_unfold; (try dsimp only)) | (k_end; wrow_close) | walk1 | (dsimp only; walk1) | (leave1; walk_say "STEP leave1"; try dsimp only) | fail "no step")
  · rw [hsl] at *
    rename (Txt.slice _ _ _ != _) = true => hne
    rename News _ _ _ ((_, W.listOf _ _) :: _) => nE
    generalize hv : lead (x.cps.toList.drop k.toNat) = v at *
    have hn := nl_true (by omega) hne
    rw [show (k + (v : Int)).toNat = k.toNat + v from ar5 hk0] at hn
    obtain ⟨e1, e2⟩ := peel_end st1 st2 st4 hn
    dsimp only [WTurnPost]
    repeat' (first | ((with_reducible show wpAny _ _ (call (Value.ref 220) _) _ _ _); refine Hold.mk ?_) | ((with_reducible show wpAny _ _ (exec (Stmt.While _ _ _ _) _) _ _ _); refine Hold.mk ?_) | (k_unfold; (try dsimp only)) | (k_end; wrow_close) | walk1 | (dsimp only; walk1) | (leave1; walk_say "STEP leave1"; try dsimp only) | fail "no step")
    have e3 : ((peel x.cps.toList : Nat) : Int) = k + (v : Int) := by rw [e1]; omega
    have e4 : ((peelT x.cps.toList : Nat) : Int) = ((x.cps.toList.take k.toNat).count 9 : Nat) + (leadT (x.cps.toList.drop k.toNat) : Nat) := by rw [e2, st3]; simp
    rw [e3, e4] at ret
    rename _ < _ ∧ _ < _ ∧ AllLt _ _ => hL
    exact ret _ _ _ _ _ _ (by assumption) (news_mid2 (by assumption)) (kst_ltOf hL.2.2)
  · rw [hsl] at *
    rename (Txt.slice _ _ _ != _) = false => hne
    generalize hv : lead (x.cps.toList.drop k.toNat) = v at *
    have hn := nl_false (by omega) hne
    rw [show (k + (v : Int)).toNat = k.toNat + v from ar5 hk0] at hn
    obtain ⟨e0, e1, e2⟩ := peel_next st2 hn
    rw [len_list] at e0
    refine' wturn_next (c := ⟨_, _, _, _⟩) (by assumption) ?hm (news_drop2' (by assumption)) ⟨?i1, ?i2, ?i3, ?i4⟩ ?mu
    case hm =>
      intro y hy
      by_cases h1 : y = Str.ofString "tabs"
      · subst h1; exact rfl
      by_cases h2 : y = Str.ofString "taken"
      · subst h2; exact rfl
      simp only [if_neg h1, if_neg h2, if_neg hy]
    all_goals dsimp only
    all_goals (try rw [show (k + (v : Int) + 1).toNat = k.toNat + v + 1 from ar6 hk0])
    case i1 => omega
    case i2 => omega
    case i3 => exact e1
    case i4 => rw [e2, st3]; simp
    case mu => omega
end Mine
end

section
open PySem PySem.W PyProof.Rows PySem.Calls
set_option compiler.extract_closed false
namespace Mine

theorem ret_dec {P : Prop} [Decidable P] {Q : Value → Shared → Prop} {s : Shared} (e : P) (h : Q (.bool true) s) : Q (.bool (decide P)) s := by rw [decide_eq_true e]; exact h
set_option maxHeartbeats 4000000 in
theorem side_call {prog : Program} {w : World} {p : Program} {loose : List Str} {mean : ExcName → Option Value} {mg mb : Str → Option Value}
    {dp un : Nat} {gd : Option (List Code)} {cn : Str} {cs : Scope} {a : Addr} {ccd : Value} {cl : List (Str × Addr)} {outer : List Env} {A₀ : Around} {base h₀ : Heap} {L : Addr} {m : Str → Option Value} {news : List (Addr × Obj)} {s : Shared} {x y : Str} {t u : Tok}
    {Q E : Value → Shared → Prop}
    (B : Below A₀ base outer h₀) (F : Fr h₀ L s.heap m) (X : (hd.heap_39 w.params).In h₀) (N : News h₀ L s.heap news) (T : Top p loose mean mg mb h₀) (hk : cs.kind = .function)
    (hx : x.length ≤ 100) (hy : y.length ≤ 100) (hw : y.cps.toList = mid x.cps.toList) (hd : dp + 16 < recursionLimit) (hu : un + 160 < cLine) 
    (ret : ∀ h' tk', Fr h₀ L h' m → News h₀ L h' news → Q (.bool true) { s with heap := h', toks := tk' }) :
    wpAny (model prog w) (ktrTop dp un gd cn cs L a ccd cl outer) (call (.ref 236) [.str x t, .str y u]) Q E s := by
  w_top off
  refine fill ?_
  k_fill
  intro _ _
  refine wpAny_call ?_
  k_dflt (refine' code_defC ?k1 ?k2 ?k3 ?k4 ?k5 ?kA ?kF ?kK ?k6 ?k7 ?k8 ?k9 ?kB ?kD ?_ ?c2 ?c3 ?c4; (case kA => exact rfl); (case kF => exact rfl); (case kK => assumption); (case k1 => k_asm); (case k2 => k_asm); (case k3 => k_asm); (case k4 => k_asm); (case k5 => k_asm); (case k6 => k_is); (case k7 => k_is); (case k8 => ktr_room); (case k9 => exact BindsTo.of_eq rfl); (case kB => exact rfl); (case kD => decide +kernel); (case c2 => exact rfl); (case c3 => exact rfl); (case c4 => exact rfl); k_whole; intro g' L' h' tk' cells' FG' F' N' Y' B' X' T' l1; have l0 := l1; (try k_lt l1); k_cells Y'; (try simp only [List.cons_append, List.nil_append] at N'); (try dsimp only); (try k_fold))
  clear F N
  have hu64 : un + 3 + 64 < cLine := by omega
  have hu80 : un + 3 + 80 < cLine := by omega
  repeat' (first | ((with_reducible show wpAny _ _ (call (Value.ref 231) [Value.str _ _]) _ _ _); k_dflt (refine' peeled_call ?B ?F ?X ?N ?T ?hk ?hx ?hd ?hu ?_; (case B => k_asm); (case F => k_asm); (case X => k_asm); (case N => k_asm); (case T => k_asm); (case hk => first | exact rfl | assumption); (case hx => first | exact rev_le (by assumption) | size_fits); (case hd => ktr_room); (case hu => ktr_units)); intro D' k1' k2' k3' h' tk' F' N' l1; (try k_lt l1); (try k_sweep)) | ((with_reducible show LCt.CompSrcT ..); refine Hold.mk ?_) | ((with_reducible show wpAny _ _ (exec (Stmt.Assign _ (Expr.ListComp _ _ _ _) _) _) _ _ _); k_dflt (refine LCt.Assign_ListComp_T (F₀ := by k_asm) (by rfl) (by with_unfolding_all rfl) (by with_unfolding_all rfl) (by decide) (by rfl) (by decide) (by rfl) (by rfl) (by rfl) ?_)) | (k_unfold; (try dsimp only)) | (k_end; wrow_close) | walk1 | (dsimp only; walk1) | (leave1; walk_say "STEP leave1"; try dsimp only) | fail "no step")
  refine Hold.out ?_
  k_dflt (refine LCt.CompSrcT.range (by rfl) (by k_asm) (by k_asm) (by assumption) (by first | decide | exact small_one (by l_bnd) (by l_bnd) (by l_bnd) (by l_bnd)) (by first | exact rangeSize_nat _ _ | rfl) (by rw [PySem.sizeLine_eq]; omega) ?_; intro g'; (refine' kci_range (fun l k => if letAt x.cps.toList k then l ++ [k] else l) (fun k' t' I' oI' C' oC' D' m' ys' l' h' tk' E' hlo' hhi' hI' hC' hx' F' N' off' ne' hMark' => ?turn) ?fin ?grow))
  case grow => exact grow_let _
  case turn =>
    have hkl : k' < x.length := by omega
    have hit := PyProof.Rows.item_at hlo' hkl rfl
    repeat' (first | ((with_reducible show wpAny _ _ (call (Value.ref 231) [Value.str _ _]) _ _ _); k_dflt (refine' peeled_call ?B ?F ?X ?N ?T ?hk ?hx ?hd ?hu ?_; (case B => k_asm); (case F => k_asm); (case X => k_asm); (case N => k_asm); (case T => k_asm); (case hk => first | exact rfl | assumption); (case hx => first | exact rev_le (by assumption) | size_fits); (case hd => ktr_room); (case hu => ktr_units)); intro D' k1' k2' k3' h' tk' F' N' l1; (try k_lt l1); (try k_sweep)) | ((with_reducible show LCt.CompSrcT ..); refine Hold.mk ?_) | ((with_reducible show wpAny _ _ (exec (Stmt.Assign _ (Expr.ListComp _ _ _ _) _) _) _ _ _); k_dflt (refine LCt.Assign_ListComp_T (F₀ := by k_asm) (by rfl) (by with_unfolding_all rfl) (by with_unfolding_all rfl) (by decide) (by rfl) (by decide) (by rfl) (by rfl) (by rfl) ?_)) | (k_unfold; (try dsimp only)) | (k_end; wrow_close) | walk1 | (dsimp only; walk1) | (leave1; walk_say "STEP leave1"; try dsimp only) | fail "no step")
    · rw [hit] at *
      refine LCg.CompEnd.intro (by assumption) (by assumption) _ (fun p hp => hp) off' (by first | lcg_src | assumption) (kci_el (if_pos (let_true (by assumption))) rfl rfl)
    · rw [hit] at *
      refine LCg.CompEnd.intro (by assumption) (by assumption) _ (fun p hp => hp) off' (by first | lcg_src | assumption) (kci_no (if_neg (let_false (by assumption))) rfl)
  case fin =>
    unfold KPfDone
    intro ys hys _
    rw [let_fold] at hys
    by_cases hne : letters x.cps.toList = []
    · have hall := letters_nil hne
      rw [hne] at hys
      cases hys
      repeat' (first | ((with_reducible show wpAny _ _ (call (Value.ref 231) [Value.str _ _]) _ _ _); k_dflt (refine' peeled_call ?B ?F ?X ?N ?T ?hk ?hx ?hd ?hu ?_; (case B => k_asm); (case F => k_asm); (case X => k_asm); (case N => k_asm); (case T => k_asm); (case hk => first | exact rfl | assumption); (case hx => first | exact rev_le (by assumption) | size_fits); (case hd => ktr_room); (case hu => ktr_units)); intro D' k1' k2' k3' h' tk' F' N' l1; (try k_lt l1); (try k_sweep)) | ((with_reducible show LCt.CompSrcT ..); refine Hold.mk ?_) | ((with_reducible show wpAny _ _ (exec (Stmt.Assign _ (Expr.ListComp _ _ _ _) _) _) _ _ _); k_dflt (refine LCt.Assign_ListComp_T (F₀ := by k_asm) (by rfl) (by with_unfolding_all rfl) (by with_unfolding_all rfl) (by decide) (by rfl) (by decide) (by rfl) (by rfl) (by rfl) ?_)) | (k_unfold; (try dsimp only)) | (k_end; wrow_close) | walk1 | (dsimp only; walk1) | (leave1; walk_say "STEP leave1"; try dsimp only) | fail "no step")
      · exact absurd (hw.trans ((mid_all hall).trans empty_list.symm)) (ne_list (by assumption))
      · refine ret_dec ?_ (ret _ _ (by assumption) (news_sub (by assumption) (by intro p hp; repeat (first | exact hp | refine List.Mem.tail _ ?_))))
        rw [rev_list, peel_all (all_rev hall), peelT_all (all_rev hall), tab_count, List.length_reverse, List.count_reverse, len_list]
      · rename ¬ _ = _ => hno
        exact absurd (by rw [peel_all hall, peelT_all hall, tab_count, len_list]) hno
    · have hends := letters_ends hne
      have hpos : 0 < (letters x.cps.toList).length := List.length_pos_iff.mpr hne
      generalize hns : letters x.cps.toList = ns at *
      repeat' (first | ((with_reducible show wpAny _ _ (call (Value.ref 231) [Value.str _ _]) _ _ _); k_dflt (refine' peeled_call ?B ?F ?X ?N ?T ?hk ?hx ?hd ?hu ?_; (case B => k_asm); (case F => k_asm); (case X => k_asm); (case N => k_asm); (case T => k_asm); (case hk => first | exact rfl | assumption); (case hx => first | exact rev_le (by assumption) | size_fits); (case hd => ktr_room); (case hu => ktr_units)); intro D' k1' k2' k3' h' tk' F' N' l1; (try k_lt l1); (try k_sweep)) | ((with_reducible show LCt.CompSrcT ..); refine Hold.mk ?_) | ((with_reducible show wpAny _ _ (exec (Stmt.Assign _ (Expr.ListComp _ _ _ _) _) _) _ _ _); k_dflt (refine LCt.Assign_ListComp_T (F₀ := by k_asm) (by rfl) (by with_unfolding_all rfl) (by with_unfolding_all rfl) (by decide) (by rfl) (by decide) (by rfl) (by rfl) (by rfl) ?_)) | (k_unfold; (try dsimp only)) | (k_end; wrow_close) | walk1 | (dsimp only; walk1) | (leave1; walk_say "STEP leave1"; try dsimp only) | fail "no step")
      · exact absurd (hw.trans (ends_due hends hpos).symm) (ne_list (by assumption))
      · refine ret_dec ?_ (ret _ _ (by assumption) (news_sub (by assumption) (by intro p hp; repeat (first | exact hp | refine List.Mem.tail _ ?_))))
        rw [rev_list]
        exact ends_behind hends hpos
      · rename ¬ _ = _ => hno
        exact absurd (ends_ahead hends) hno
end Mine
end

section
open PySem PySem.W PyProof.Rows PySem.Calls
namespace Mine
namespace Mp
open Sem (wp)
theorem slot_next : Slot "map" "__next__" "map.__next__" :=
  .of (owner := "map") (n := "__next__") (by rw [typeLookup_type, builtinLookup_eq_fast]; kernel_rfl) (by decide +kernel) (by decide +kernel) (by decide +kernel)
    (by first | exact .inl (by decide +kernel) | exact .inr (by decide +kernel)) (by rw [isSubtype_type]; kernel_rfl)
theorem slot_iter : Slot "map" "__iter__" "map.__iter__" :=
  .of (owner := "map") (n := "__iter__") (by rw [typeLookup_type, builtinLookup_eq_fast]; kernel_rfl) (by decide +kernel) (by decide +kernel) (by decide +kernel)
    (by first | exact .inl (by decide +kernel) | exact .inr (by decide +kernel)) (by rw [isSubtype_type]; kernel_rfl)
theorem slot_init : Slot "map" "__init__" "object.__init__" :=
  .of (owner := "object") (n := "__init__") (by rw [typeLookup_type, builtinLookup_eq_fast]; kernel_rfl) (by decide +kernel) (by decide +kernel) (by decide +kernel)
    (by first | exact .inl (by decide +kernel) | exact .inr (by decide +kernel)) (by rw [isSubtype_type]; kernel_rfl)
theorem entry_next : entryFor table "map.__next__" = some Builtin.«map.__next__» := entryFor_of_tree (by kernel_rfl)
theorem entry_new : entryFor table "map.__new__" = some Builtin.«map.__new__» := entryFor_of_tree (by kernel_rfl)
theorem entry_iter : entryFor table "map.__iter__" = some Builtin.«dict_keyiterator.__iter__» :=
  entryFor_alias (id' := "dict_keyiterator.__iter__") (by kernel_rfl) (by first | rfl | decide +kernel | (unfold String.splitOn; simp +decide [String.splitOnAux])) (by decide +kernel) (by kernel_rfl)
theorem owner : Manifest.owners.lookup (String.ofList ['p', 'a', 'm'].reverse) = some Manifest.sig_map := by kernel_rfl
theorem args_next (a : Value) : argsOk "map.__next__" ⟨[a], []⟩ := by
  unfold argsOk; rw [signature?_of (id := "map.__next__") (n := ['_', '_', 't', 'x', 'e', 'n', '_', '_']) (o := ['p', 'a', 'm']) (by kernel_rfl) owner]; kernel_rfl
theorem args_iter (a : Value) : argsOk "map.__iter__" ⟨[a], []⟩ := by
  unfold argsOk; rw [signature?_of (id := "map.__iter__") (n := ['_', '_', 'r', 'e', 't', 'i', '_', '_']) (o := ['p', 'a', 'm']) (by kernel_rfl) owner]; kernel_rfl
theorem mro : mroOf (.type "map") = pure [.type "map", .type "object"] := by rw [mroOf_type]; kernel_rfl
theorem lookup_new : typeLookup (.type "map") "__new__" = pure (some (.builtin "map.__new__")) := by rw [typeLookup_type, builtinLookup_eq_fast]; kernel_rfl
theorem called : TypeCalled "map" "map.__new__" "object.__init__" :=
  ⟨by decide +kernel, by decide +kernel, ⟨_, _, mro⟩, madeBy_type mro lookup_new (by decide +kernel), by decide +kernel, by rw [isSubtype_type]; kernel_rfl, slot_init⟩
theorem typeCall (a b : Value) : checkTypeCall "map" ⟨[a, b], []⟩ = pure () := by kernel_rfl
theorem newCall (a b : Value) : checkBuiltinCall "map.__new__" ⟨[.type "map", a, b], []⟩ = pure () := by kernel_rfl
theorem args_init (a b c : Value) : argsOk "object.__init__" ⟨[a, b, c], []⟩ := F.args_object_init_3 a b c
theorem sub : isSubtype (.type "map") (.type "map") = pure true := by rw [isSubtype_type]; kernel_rfl
theorem no_len : typeLookup (.type "map") "__len__" = pure none := by rw [typeLookup_type, builtinLookup_eq_fast]; kernel_rfl
theorem no_hint : typeLookup (.type "map") "__length_hint__" = pure none := by rw [typeLookup_type, builtinLookup_eq_fast]; kernel_rfl

abbrev IsMap (h : Heap) (z T : Addr) (f : Value) : Prop := h.get? z = some { cls := .type "map", data := .fields #[.ref T, f] }
abbrev IsOne (h : Heap) (T : Addr) (a : Value) : Prop := h.get? T = some { cls := .type "tuple", data := .seq #[a] }
abbrev h1 (h : Heap) (l : Addr) : Heap := h.push { cls := .type "list_iterator", data := .fields #[.ref l, .int 0 0] }
abbrev h2 (h : Heap) (l : Addr) : Heap := (h1 h l).push { cls := .type "tuple", data := .seq #[.ref h.objs.size] }
abbrev h3 (h : Heap) (l : Addr) (f : Value) : Heap := (h2 h l).push { cls := .type "map", data := .fields #[.ref (h1 h l).objs.size, f] }

theorem meets_new (l : Addr) (xs : Array Value) (id : String) :
    Meets (Builtin.«map.__new__» ⟨[.type "map", .builtin id, .ref l], []⟩) (fun _ R s => s.heap.IsList l xs ∧
      R (.ok (.ret (.ref (h2 s.heap l).objs.size))) { s with heap := h3 s.heap l (.builtin id) }) :=
  .of_wp fun prog w A R s h => by
    obtain ⟨hp, g, d, tk, os⟩ := s; obtain ⟨hl1, h⟩ := h
    have hsub := sub
    have hL1 : Heap.IsList (Shared.heap ⟨hp, g, d, tk, os⟩) l xs := hl1
    wp_walk using wpAny_pyIter_list hL1
    exact ⟨_, rfl, h⟩
section
variable {prog : Program} {w : World} {A : Around} {E : Value → Shared → Prop} {s : Shared}

theorem call_map {l : Addr} {xs : Array Value} {id : String} {Q : Value → Shared → Prop} (hl : s.heap.IsList l xs)
    (h : ∀ h', IsMap h' (s.heap.objs.size + 2) (s.heap.objs.size + 1) (.builtin id) → IsOne h' (s.heap.objs.size + 1) (.ref s.heap.objs.size) → h'.IsListIter s.heap.objs.size l 0 → h'.objs.size = s.heap.objs.size + 3 →
      (∀ c o, s.heap.get? c = some o → h'.get? c = some o) → Q (.ref (s.heap.objs.size + 2)) { s with heap := h' }) :
    wpAny (model prog w) A (call (.type "map") [.builtin id, .ref l]) Q E s := by
  refine callType_new called (by decide) (typeCall _ _) (newCall _ _) (fun obj => args_init obj _ _) entry_new (meets_new l xs id) ⟨hl, ?_⟩
  have z1 : (h1 s.heap l).objs.size = s.heap.objs.size + 1 := Heap.size_push ..
  have z2 : (h2 s.heap l).objs.size = s.heap.objs.size + 2 := by rw [Heap.size_push, z1]
  have z3 : (h3 s.heap l (.builtin id)).objs.size = s.heap.objs.size + 3 := by rw [Heap.size_push, z2]
  have g3 : (h3 s.heap l (.builtin id)).get? (h2 s.heap l).objs.size = some _ := Heap.get?_push_size _ rfl
  have g2 : (h3 s.heap l (.builtin id)).get? (h1 s.heap l).objs.size = some _ := Heap.get?_push_of_some _ (Heap.get?_push_size _ rfl)
  have g1 : (h3 s.heap l (.builtin id)).get? s.heap.objs.size = some _ := Heap.get?_push_of_some _ (Heap.get?_push_of_some _ (Heap.get?_push_size _ rfl))
  show _ ∧ _
  rw [z1, z2] at g3
  rw [z1] at g2
  rw [z2]
  exact ⟨⟨_, g3, rfl⟩, h _ g3 g2 ⟨_, g1, rfl, rfl⟩ z3 fun c o x => Heap.get?_push_of_some _ (Heap.get?_push_of_some _ (Heap.get?_push_of_some _ x))⟩

end
end Mp
end Mine
end

section
open PySem PySem.W PyProof.Rows PySem.Calls
namespace Mine
namespace Mp
open Sem (wp)
section
variable {prog : Program} {w : World} {A : Around} {E : Value → Shared → Prop} {s : Shared}
theorem next_item {z T it l : Addr} {i : Nat} {items : Array Value} {x : Str} {t : Tok} {Q : Value → Shared → Prop} (D1 : z ≠ it) (D2 : T ≠ it) (hz : IsMap s.heap z T (.builtin "str.strip")) (hT : IsOne s.heap T (.ref it))
    (hi : s.heap.IsListIter it l i) (hl : s.heap.IsList l items) (hx : items[i]? = some (.str x t)) (hsz : x.length ≤ sizeLine)
    (hQ : ∀ h' t' k, h'.IsListIter it l (i + 1) → Heap.SameBut it s.heap h' → Q (.str (Txt.strip x) t') { s with heap := h', toks := k }) :
    wpAny (model prog w) A (Builtin.«map.__next__» ⟨[.ref z], []⟩) (fun fin s' => ∃ v, fin = .done (.ret v) ∧ Q v s') E s := by
  show wpAny _ _ (field (.ref z) 0 >>= _) _ _ _
  refine wpAny_bind (wpAny_field hz rfl (x := .ref T) rfl ?_)
  refine wpAny_bind (wpAny_seqItems hT rfl ?_)
  simp only [List.forIn_toArray, List.forIn_cons, List.forIn_nil, bind_assoc, pure_bind]
  refine wpAny_bind (wpAny_holding (wpAny_nextOf_list_item hi hl hx fun h' hi' hs' => ?_))
  have hz' : IsMap h' z T (.builtin "str.strip") := (hs'.2 z D1).trans hz
  refine wpAny_bind (m := field (.ref z) 1) (wpAny_field hz' rfl (x := .builtin "str.strip") rfl ?_)
  refine wpAny_bind (wpAny_holding ?_)
  show wpAny _ _ (call (.builtin "str.strip") [.str x t]) _ _ _
  refine SC.strip (fun t' k => ?_) hsz
  refine wpAny_bind (wpAny_letGo (wpAny_pure ⟨_, rfl, hQ _ _ _ hi' hs'⟩))

theorem pyNext_item {z T it l : Addr} {i : Nat} {items : Array Value} {x : Str} {t : Tok} {Q : Option Value → Shared → Prop} (D1 : z ≠ it) (D2 : T ≠ it) (hz : IsMap s.heap z T (.builtin "str.strip")) (hT : IsOne s.heap T (.ref it))
    (hi : s.heap.IsListIter it l i) (hl : s.heap.IsList l items) (hx : items[i]? = some (.str x t)) (hsz : x.length ≤ sizeLine)
    (hQ : ∀ h' t' k, h'.IsListIter it l (i + 1) → Heap.SameBut it s.heap h' → Q (some (.str (Txt.strip x) t')) { s with heap := h', toks := k }) :
    wpAny (model prog w) A (pyNext (.ref z)) Q E s := by
  have hM : s.TypeIs (.ref z) "map" := ⟨_, hz, rfl⟩
  unfold pyNext
  exact wpAny_bind (wpAny_attempt (wpAny_callSpecial?_slot (name := Str.ofString "__next__") hM slot_next
    (wpAny_call_entry slot_next hM entry_next (next_item D1 D2 hz hT hi hl hx hsz fun h' t' k a b => wpAny_pure (hQ h' t' k a b)) (args_next _))))

theorem pyNext_end {z T it l : Addr} {i : Nat} {items : Array Value} {Q : Option Value → Shared → Prop} (hh : A.handled = none) (hz : IsMap s.heap z T (.builtin "str.strip")) (hT : IsOne s.heap T (.ref it))
    (hi : s.heap.IsListIter it l i) (hl : s.heap.IsList l items) (hx : items[i]? = none)
    (hQ : ∀ h', Heap.ExtBut it s.heap h' → Q none { s with heap := h' }) : wpAny (model prog w) A (pyNext (.ref z)) Q E s := by
  have hM : s.TypeIs (.ref z) "map" := ⟨_, hz, rfl⟩
  unfold pyNext
  refine wpAny_bind (wpAny_attempt (wpAny_callSpecial?_slot (name := Str.ofString "__next__") hM slot_next
    (wpAny_call_entry slot_next hM entry_next ?_ (args_next _))))
  show wpAny _ _ (field (.ref z) 0 >>= _) _ _ _
  refine wpAny_bind (wpAny_field hz rfl (x := .ref T) rfl ?_)
  refine wpAny_bind (wpAny_seqItems hT rfl ?_)
  simp only [List.forIn_toArray, List.forIn_cons, List.forIn_nil, bind_assoc, pure_bind]
  refine wpAny_bind (wpAny_holding (wpAny_nextOf_list_end hh hi hl hx fun h' x he' hx' => ?_))
  obtain ⟨o, ho, hc⟩ := hx'
  refine wpAny_bind (wpAny_isInstance (T := "StopIteration") (b := true) ⟨o, ho, hc⟩ isSubtype_stop ?_)
  exact wpAny_pure (hQ _ he')

theorem pyIter_map {z T : Addr} {f : Value} {Q : Value → Shared → Prop} (hz : IsMap s.heap z T f) (h : Q (.ref z) s) : wpAny (model prog w) A (pyIter (.ref z)) Q E s := by
  have hM : s.TypeIs (.ref z) "map" := ⟨_, hz, rfl⟩
  refine wpAny_pyIter_slot hM slot_iter (wpAny_call_entry slot_iter hM entry_iter ?_ (args_iter _))
  show wpAny _ _ (ret (.ref z)) _ _ s
  exact wpAny_pure ⟨_, rfl, "map", _, hM, slot_next.lookup, h⟩

abbrev MapSt (z T it l : Addr) (items : Array Value) (i : Nat) (h : Heap) : Prop := IsMap h z T (.builtin "str.strip") ∧ IsOne h T (.ref it) ∧ h.IsListIter it l i ∧ h.IsList l items
abbrev MapP (items : Array Value) (i : Nat) (v : Value) : Prop := ∃ x t t', items[i]? = some (.str x t) ∧ v = .str (Txt.strip x) t'

theorem walks (hh : A.handled = none) {z T it l : Addr} {items : Array Value} (D1 : z ≠ it) (D2 : T ≠ it) (D3 : l ≠ it) (hs : ∀ (i : Nat) (v : Value), items[i]? = some v → ∃ (x : Str) (t : Tok), v = Value.str x t ∧ x.length ≤ sizeLine) :
    Walks prog w A z [z, T, it, l] [it] items.size (MapP items) (MapSt z T it l items) where
  sub := fun b hb => by rw [List.mem_singleton.mp hb]; simp
  frame := fun i h h' st hk => ⟨hk z (by simp) _ st.1, hk T (by simp) _ st.2.1, st.2.2.1.at fun o e => hk it (by simp) o e, st.2.2.2.at fun o e => hk l (by simp) o e⟩
  item := fun i s Q E hi st hQ => by
    obtain ⟨x, t, hx, hsz⟩ := hs i items[i] (by simp [hi])
    have hx' : items[i]? = some (.str x t) := by rw [Array.getElem?_eq_getElem hi, hx]
    refine pyNext_item D1 D2 st.1 st.2.1 st.2.2.1 st.2.2.2 hx' hsz fun h' t' k hi' hs' => ?_
    exact hQ _ h' k ⟨x, t, t', hx', rfl⟩ ⟨(hs'.2 z D1).trans st.1, (hs'.2 T D2).trans st.2.1, hi', st.2.2.2.extBut hs'.extBut D3⟩ fun b o hb e => hs'.extBut b o (fun h => hb (by simp [h])) e
  done := fun s Q E st hQ => pyNext_end hh st.1 st.2.1 st.2.2.1 st.2.2.2 (by simp) fun h' he' => hQ h' s.toks fun b o hb e => he' b o (fun h => hb (by simp [h])) e
  self := fun _ _ _ _ st hQ => pyIter_map st.1 hQ
end
end Mp
end Mine
end

section
open PySem PySem.W PyProof.Rows PySem.Calls
namespace Mine
namespace Mp
open Sem (wp)
section
variable {prog : Program} {w : World} {A : Around} {E : Value → Shared → Prop} {s : Shared}

theorem collect_map {z T it l : Addr} {items : Array Value} {Q : List Value → Shared → Prop} (hh : A.handled = none) (D1 : z ≠ it) (D2 : T ≠ it) (D3 : l ≠ it) (hst : MapSt z T it l items 0 s.heap)
    (hs : ∀ (i : Nat) (v : Value), items[i]? = some v → ∃ (x : Str) (t : Tok), v = Value.str x t ∧ x.length ≤ sizeLine) (hn : items.size ≤ sizeLine)
    (hQ : ∀ h' tk (acc : Array Value), (∀ b o, b ≠ it → s.heap.get? b = some o → h'.get? b = some o) → ItemsOf (MapP items) acc items.size → Q acc.toList { s with heap := h', toks := tk }) :
    wpAny (model prog w) A (collect (.ref z)) Q E s := by
  have W := (walks (prog := prog) (w := w) (A := A.in1) hh D1 D2 D3 hs).toS
  have below : ∀ b ∈ [z, T, it, l], b < s.heap.objs.size := by
    obtain ⟨a, b, ⟨oi, c, _⟩, ⟨ol, d, _⟩⟩ := hst
    intro q hq
    rcases List.mem_cons.mp hq with rfl | hq
    · exact Heap.lt_size a
    rcases List.mem_cons.mp hq with rfl | hq
    · exact Heap.lt_size b
    rcases List.mem_cons.mp hq with rfl | hq
    · exact Heap.lt_size c
    rw [List.mem_singleton.mp hq]; exact Heap.lt_size d
  have hSf : s.heap.objs.size ∉ [z, T, it, l] := fun hm => Nat.lt_irrefl _ (below _ hm)
  have hSz : s.heap.objs.size ≠ z := fun e => hSf (e ▸ List.mem_cons_self)
  unfold collect
  refine wpAny_bind (wpAny_runValue (codeAny_builtin F.entry_proto_collect ?_))
  rw [Around.under_plainId F.plain_proto_collect _]
  show wpAny _ A.in1 (newList [] >>= fun l => again (.builtin "list.__iadd__" ⟨[l, .ref z], []⟩)) _ _ s
  refine wpAny_bind (wpAny_newObj_type ?_)
  refine wpAny_pure ⟨plainId_quiet F.plain_list_iadd _, codeAny_builtin F.entry_list_iadd ?_⟩
  rw [Around.under_plainId F.plain_list_iadd _]
  generalize hH : s.heap.push { cls := .type "list", data := .seq ([] : List Value).toArray } = H
  have hS₁ : H.get? s.heap.objs.size = some { cls := .type "list", data := .seq ([] : List Value).toArray } := hH ▸ Heap.get?_push_size _ rfl
  have up : ∀ b o, s.heap.get? b = some o → H.get? b = some o := fun b o e => hH ▸ Heap.get?_push_of_some _ e
  have hst₁ : MapSt z T it l items 0 H := ⟨up _ _ hst.1, up _ _ hst.2.1, hst.2.2.1.at fun o e => up _ o e, hst.2.2.2.at fun o e => up _ o e⟩
  have hM : Shared.TypeIs { s with heap := H } (.ref z) "map" := ⟨_, hst₁.1, rfl⟩
  have e1 : Builtin.List.listSameRef (.ref s.heap.objs.size) (.ref z) = false := by simp [Builtin.List.listSameRef, hSz]
  show wpAny _ A.in1 (Builtin.List.listExtendWith (.ref s.heap.objs.size) (.ref z) (.ref s.heap.objs.size)) _ _ _
  unfold Builtin.List.listExtendWith
  refine wpAny_bind (wpAny_typeOf hM ?_)
  rw [if_neg (by rw [e1]; decide)]
  refine wpAny_bind (W.self 0 _ _ _ hst₁ ?_)
  refine wpAny_bind (wpAny_holding ?_)
  unfold Builtin.List.listLengthHint
  refine wpAny_bind (wpAny_specialOf hM no_len ?_)
  show wpAny _ A.in1 (specialOf (Value.ref z) (Str.ofString "__length_hint__") >>= _) _ _ _
  refine wpAny_bind (wpAny_specialOf hM no_hint ?_)
  refine wpAny_pure ?_
  show wpAny _ A.in1 (rule "list.extend.makes-room" >>= fun _ => Builtin.List.listTouch (.ref s.heap.objs.size) >>= fun _ =>
    again (.builtin "list.extend.loop" ⟨[.ref s.heap.objs.size, .ref z, .ref s.heap.objs.size], []⟩)) _ _ _
  refine wpAny_bind (wpAny_rule ?_)
  refine wpAny_bind ?_
  show wpAny _ A.in1 (updateSeq s.heap.objs.size (·.push .none) >>= fun _ => updateSeq s.heap.objs.size (·.pop)) _ _ _
  refine wpAny_bind (wpAny_updateSeq hS₁ rfl ?_)
  have hS₂ := Heap.get?_update_self (Obj.mapSeq (·.push Value.none)) hS₁ rfl
  refine wpAny_updateSeq hS₂ rfl ?_
  have hS₃ := Heap.get?_update_self (Obj.mapSeq (·.pop)) hS₂ rfl
  generalize hG : (H.update s.heap.objs.size (Obj.mapSeq (·.push Value.none))).update s.heap.objs.size (Obj.mapSeq (·.pop)) = G at hS₃ ⊢
  have oth : ∀ b o, b ≠ s.heap.objs.size → H.get? b = some o → G.get? b = some o := fun b o hb e => by
    rw [← hG]
    exact (Heap.get?_update_other _ _ (Ne.symm hb)).trans ((Heap.get?_update_other _ _ (Ne.symm hb)).trans e)
  have hst₃ : MapSt z T it l items 0 G := by
    have q : ∀ b ∈ [z, T, it, l], ∀ o, H.get? b = some o → G.get? b = some o := fun b hb o e => oth b o (fun h => hSf (h ▸ hb)) e
    exact ⟨q z (by simp) _ hst₁.1, q T (by simp) _ hst₁.2.1, hst₁.2.2.1.at fun o e => q it (by simp) o e, hst₁.2.2.2.at fun o e => q l (by simp) o e⟩
  refine wpAny_pure ⟨plainId_quiet F.plain_extend_loop _, codeAny_extend_loopS W hn _ hSf _ items.size 0 _ _ _ rfl (Nat.zero_le _) hst₃ hS₃ (ItemsOf.nil _) fun s' acc' c' hm hS' hacc => ?_⟩
  show wpAny _ A (load s.heap.objs.size >>= _) _ _ s'
  refine wpAny_bind (wpAny_load hS' ?_)
  obtain ⟨h', g', dr', tk', os'⟩ := s'
  obtain ⟨m1, m2, m3, m4, _⟩ := hm
  dsimp only at m1 m2 m3 m4
  subst m2 m3 m4
  refine wpAny_pure (hQ h' tk' acc' (fun b o hb e => m1 b o ?_ (oth b o ?_ (up b o e))) hacc)
  · intro hm
    rcases List.mem_cons.mp hm with rfl | hm
    · exact Nat.lt_irrefl _ (Heap.lt_size e)
    · exact hb (List.mem_singleton.mp hm)
  · rintro rfl
    exact Nat.lt_irrefl _ (Heap.lt_size e)

theorem strs_of : ∀ (vs : List Value) (ys : List Str), vs.length = ys.length → (∀ (j : Nat) (v : Value), vs[j]? = some v → ∃ (y : Str) (t : Tok), ys[j]? = some y ∧ v = .str y t) → StrsAre vs ys
  | [], [], _, _ => .nil
  | v :: vs, y :: ys, hl, h => by
    obtain ⟨y', t, hy, hv⟩ := h 0 v rfl
    have e : y' = y := by simpa using hy.symm
    subst e hv
    exact .cons _ t (strs_of vs ys (by simpa using hl) fun j u hu => h (j + 1) u (by simpa using hu))
theorem items_strip {ps : List (Str × Tok)} {acc : Array Value} (h : ItemsOf (MapP (strValues ps).toArray) acc (strValues ps).toArray.size) : StrsAre acc.toList ((ps.map (·.1)).map Txt.strip) := by
  obtain ⟨h1, h2⟩ := h
  refine strs_of _ _ (by simpa [strValues] using h1) fun j v hv => ?_
  obtain ⟨x, t, t', hx, rfl⟩ := h2 j v (by simpa using hv)
  refine ⟨_, t', ?_, rfl⟩
  have hx' : (ps.map fun p => Value.str p.1 p.2)[j]? = some (.str x t) := by simpa [strValues] using hx
  rw [List.getElem?_map] at hx'
  cases hp : ps[j]? with
  | none => rw [hp] at hx'; cases hx'
  | some p =>
    rw [hp] at hx'
    have : p.1 = x := by simpa using (Value.str.inj (Option.some.inj hx')).1
    simp [hp, this]
theorem str_items {ps : List (Str × Tok)} {n : Nat} (hn : n ≤ sizeLine) (h : ∀ a ∈ ps.map (·.1), a.length ≤ n) : ∀ (i : Nat) (v : Value), (strValues ps).toArray[i]? = some v → ∃ (x : Str) (t : Tok), v = Value.str x t ∧ x.length ≤ sizeLine := by
  intro i v hv
  have hx' : (ps.map fun p => Value.str p.1 p.2)[i]? = some v := by simpa [strValues] using hv
  rw [List.getElem?_map] at hx'
  cases hp : ps[i]? with
  | none => rw [hp] at hx'; cases hx'
  | some p =>
    rw [hp] at hx'
    have e : Value.str p.1 p.2 = v := Option.some.inj hx'
    exact ⟨p.1, p.2, e.symm, Nat.le_trans (h p.1 (List.mem_map_of_mem (List.mem_of_getElem? hp))) hn⟩

/-- map(str.strip, the texts) spread by a star -/
theorem map_star {h₀ : Heap} {L l : Addr} {m : Str → Option Value} {news : List (Addr × Obj)} {ps : List (Str × Tok)} {n : Nat} {Q : List Value → Shared → Prop} (hh : A.handled = none) (F : Fr h₀ L s.heap m) (N : News h₀ L s.heap news)
    (hl : s.heap.IsList l (strValues ps).toArray) (hn : n ≤ sizeLine) (hb : ∀ a ∈ ps.map (·.1), a.length ≤ n) (hp : ps.length ≤ sizeLine)
    (h : ∀ h' tk vs, Fr h₀ L h' m → News h₀ L h' news → StrsAre vs ((ps.map (·.1)).map Txt.strip) → Q vs { s with heap := h', toks := tk }) :
    wpAny (model prog w) A (call (.type "map") [.builtin "str.strip", .ref l]) (fun v s₁ => StarOf (model prog w) A E v Q s₁) E s := by
  have hll : l < s.heap.objs.size := by obtain ⟨o, e, _⟩ := hl; exact Heap.lt_size e
  refine call_map hl fun h₁ a b c hz hk => ?_
  unfold StarOf notIterableAtAll
  have hM : Shared.TypeIs { s with heap := h₁ } (.ref (s.heap.objs.size + 2)) "map" := ⟨_, a, rfl⟩
  refine wpAny_bind (wpAny_specialOf hM slot_iter.lookup (wpAny_pure ⟨rfl, ?_⟩))
  refine collect_map (s := { s with heap := h₁ }) hh (neN (by omega)) (neN (by omega)) (Nat.ne_of_lt hll) ⟨a, b, c, hl.at fun o e => hk _ o e⟩ (str_items hn hb) (by simpa [strValues] using hp) fun h' tk acc hk' hacc => ?_
  have up : ∀ b o, s.heap.get? b = some o → h'.get? b = some o := fun b o e => hk' b o (fun q => Nat.lt_irrefl _ (q ▸ Heap.lt_size e)) (hk b o e)
  exact h h' tk _ (F.keeps up) (fun p hp => ⟨up _ _ (N p hp).1, (N p hp).2⟩) (items_strip hacc)
end
end Mp
end Mine
end

section
open PySem PySem.W PyProof.Rows PySem.Calls
namespace Mine
section
variable (prog : Program) (w : World)
noncomputable abbrev KK (w : World) : Frag := hd.heap_39 w.params
theorem pk_madeBy : peek (KK w) ⟨prog, w.params⟩ (Bind.madeBy (.ref 155)) = some none := by kernel_rfl
theorem pk_static : peek (KK w) ⟨prog, w.params⟩ (Bind.staticBase (.ref 155)) = some (.type "tuple") := by kernel_rfl
theorem pk_here : peek (KK w) ⟨prog, w.params⟩ (Bind.madeHere "tuple.__new__" (.ref 155)) = some () := by kernel_rfl
theorem pk_mro : peek (KK w) ⟨prog, w.params⟩ (mroOf (.ref 155)) = some [.ref 155, .ref 132, .type "tuple", .type "object"] := by kernel_rfl
theorem pk_init : peek (KK w) ⟨prog, w.params⟩ (typeLookup (.ref 155) "__init__") = some (some (.builtin "object.__init__")) := by kernel_rfl
theorem pk_sub : peek (KK w) ⟨prog, w.params⟩ (isSubtype (.ref 155) (.type "tuple")) = some true := by kernel_rfl
theorem pk_self : peek (KK w) ⟨prog, w.params⟩ (isSubtype (.ref 155) (.ref 155)) = some true := by kernel_rfl
theorem pk_isType : peek (KK w) ⟨prog, w.params⟩ (isType (.ref 155)) = some true := by kernel_rfl
theorem pk_call : peek (KK w) ⟨prog, w.params⟩ (specialOf (.ref 155) "__call__") = some (some (.builtin "type.__call__")) := by kernel_rfl
theorem pk_inst : peek (KK w) ⟨prog, w.params⟩ (isInstance (.ref 155) (.type "type")) = some true := by kernel_rfl
theorem pk_check (T : Addr) : peek (KK w) ⟨prog, w.params⟩ (checkBuiltinCall "tuple.__new__" ⟨[.ref 155, .ref T], []⟩) = some () := by kernel_rfl
theorem pk_obj : peek (KK w) ⟨prog, w.params⟩ (isSubtype (.ref 155) (.type "object")) = some true := by kernel_rfl
end
end Mine
end

section
open PySem PySem.W PyProof.Rows PySem.Calls
namespace Mine
abbrev pairCls : Obj := { cls := .type "type", data := .cls { name := Str.ofString "Pair", bases := [.ref 132], mro := [.ref 155, .ref 132, .type "tuple", .type "object"], ns := 154, qualname := Str.ofString "Pair" }, slots := #[some (.ref 136), none, some (.str (Str.ofString "Pair") 368), some (.str (Str.ofString "Pair") 376), some .none, some (.bool false)] }
theorem lk155 (w : World) : (KK w).lookup 155 = some pairCls := by kernel_rfl
theorem fc_new (w : World) : findCls (KK w) (.ref 155) (.type "type") "__new__" = some (.get (.builtin "staticmethod.__get__") (.ref 133) .none (.ref 155)) := by kernel_rfl
theorem rd155 (w : World) : readsIn (KK w) 155 (.type "type") = true := by kernel_rfl
theorem ty155 (w : World) : typeIn (KK w) (.ref 155) = some (.type "type") := by kernel_rfl
theorem rec133 (w : World) : recIn (KK w) 133 "staticmethod" = some [.ref 82] := by kernel_rfl
def PairBack (w : World) (R : Result → Shared → Prop) (r : Result) (s' : Shared) : Prop := match r with
  | .ok (.ret v) => (∃ y o, v = .ref y ∧ s'.heap.get? y = some o ∧ o.cls = .ref 155) ∧ (KK w).In s'.heap ∧ R (.ok (.ret v)) s'
  | .ok _ => False
  | .error e => R (.error e) s'
def HoldN (P : Prop) : Prop := P
theorem HoldN.out {P : Prop} (h : P) : HoldN P := h
theorem stop_get {M : Model} {A : Around} {E : Value → Shared → Prop} {s : Shared} {o : Value} {n : Str} {b : Bool} {Q : Value → Shared → Prop} (h : HoldN (wpAny M A (getAttr o n b) Q E s)) : wpAny M A (getAttr o n b) Q E s := h
theorem stop_call {M : Model} {A : Around} {E : Value → Shared → Prop} {s : Shared} {o : Value} {as : List Value} {ks : List (Str × Value)} {Q : Value → Shared → Prop} (h : HoldN (wpAny M A (call o as ks) Q E s)) : wpAny M A (call o as ks) Q E s := h
theorem stop_collect {M : Model} {A : Around} {E : Value → Shared → Prop} {s : Shared} {o : Value} {Q : List Value → Shared → Prop} (h : HoldN (wpAny M A (collect o) Q E s)) : wpAny M A (collect o) Q E s := h
section
variable {prog : Program} {w : World} {A : Around} {E : Value → Shared → Prop} {s : Shared} {h₀ : Heap} {L : Addr} {m : Str → Option Value} {news : List (Addr × Obj)} {a b : Value}
set_option maxHeartbeats 4000000 in
theorem pair_make {R : Result → Shared → Prop} (F : Fr h₀ L s.heap m) (X₀ : (KK w).In h₀)
    (hq : ∀ tk, codeAny (model prog w) (A.under (.builtin "type.__call__" ⟨.ref 155 :: [a, b], []⟩)) (.call (.ref 82) ⟨.ref 155 :: [a, b], []⟩) (PairBack w R) { s with toks := tk }) :
    codeAny (model prog w) A (.call (.ref 155) ⟨[a, b], []⟩) R s := by
  have X := X₀.keeps F.keep
  have hC : s.heap.get? 155 = some pairCls := X _ _ (lk155 w)
  have call : Looks (model prog w) s.heap (specialOf (.ref 155) "__call__") (some (.builtin "type.__call__")) := Looks.of_peek X (pk_call prog w)
  have typ : Looks (model prog w) s.heap (isInstance (.ref 155) (.type "type")) true := Looks.of_peek X (pk_inst prog w)
  have hm : Looks (model prog w) s.heap (mroOf (.ref 155)) _ := Looks.of_peek X (pk_mro prog w)
  have made : Looks (model prog w) s.heap (Bind.madeBy (.ref 155)) none := Looks.of_peek X (pk_madeBy prog w)
  obtain ⟨h, g, d, t, os⟩ := s
  refine codeAny_of_tree ?_
  show wpAny _ _ (callAny (.ref 155) _) _ _ _
  refine nd_load hC ?_
  show wpAny _ _ (callAny.viaDunder (.ref 155) _) _ _ _
  unfold callAny.viaDunder
  refine wpAny_bind (call.at ?_)
  dsimp only
  rw [tc_bind]
  refine wpAny_bind (wpAny_pure (wpAny_bind (wpAny_pure ?_)))
  refine wpAny_pure (a := Fin.again (.call (.builtin "type.__call__") ⟨.ref 155 :: [a, b], []⟩)) (And.intro rfl ?_)
  refine codeAny_call_builtin_at (Code.quiet_builtin _ (by decide +kernel)) entry_typeCall (check_slot tc_kind tc_split typ (tc_args _ _ _) ?_)
  unfold Builtin.«type.__call__»
  repeat (first | with_reducible refine stop_get ?_ | lk)
  refine HoldN.out ?_
  refine cls_sm F X₀ (ty155 w) (rd155 w) (fc_new w) (rec133 w) (by decide +kernel) ?_
  repeat (first | with_reducible refine stop_call ?_ | lk)
  refine HoldN.out (wpAny_call (codeAny_mono (hq _) fun r s' z => ?_))
  rcases r with e | (v | _ | _ | _) <;> first | exact z | exact z.elim | skip
  obtain ⟨⟨y, o, rfl, ho, hc⟩, X', z⟩ := z
  obtain ⟨h', g', d', t', os'⟩ := s'
  have ti : Looks (model prog w) h' (typeOf (.ref y)) (.ref 155) := hc ▸ (Looks.ld ho).andThen .now
  have is : Looks (model prog w) h' (isInstance (.ref y) (.ref 155)) true := ti.andThen (Looks.of_peek X' (pk_self prog w))
  have ini : Looks (model prog w) h' (typeLookup (.ref 155) "__init__") (some (.builtin "object.__init__")) := Looks.of_peek X' (pk_init prog w)
  have sub : Looks (model prog w) h' (isSubtype (.ref 155) (.type "object")) true := Looks.of_peek X' (pk_obj prog w)
  have made' : Looks (model prog w) h' (Bind.madeBy (.ref 155)) none := Looks.of_peek X' (pk_madeBy prog w)
  unfold callSpecial? specialOf
  repeat (first | with_reducible refine stop_call ?_ | lk)
  refine HoldN.out (wpAny_call ?_)
  have top : Looks (model prog w) h' (isInstance (.ref y) (.type "object")) true := ti.andThen sub
  refine codeAny_call_builtin oi_plain entry_oi (@check_slot (model prog w) _ _ _ "object.__init__" "object" "__init__" (.ref y) [a, b] [] _ oi_kind oi_split top (PySem.F.args_object_init_3 (.ref y) a b) ?_)
  unfold Builtin.«object.__init__»
  repeat lk
  exact z

abbrev pairObj (d : Addr) (x y : Value) : Obj := { cls := .ref 155, dict := some d, data := .seq #[x, y] }
abbrev twoObj (x y : Value) : Obj := { cls := .type "tuple", data := .seq #[x, y] }
theorem tn_kind : plainId "tuple.__new__" = true := by decide +kernel
set_option maxHeartbeats 4000000 in
theorem tuple_new {T : Addr} {x y : Value} {Q : Value → Shared → Prop} (F : Fr h₀ L s.heap m) (N : News h₀ L s.heap news) (X₀ : (KK w).In h₀) (hT : (T, twoObj x y) ∈ news)
    (h : ∀ z d h', Fr h₀ L h' m → News h₀ L h' ((z, pairObj d x y) :: (d, emptyDict) :: news) → (∀ p ∈ news, p.1 < d) → d < z → Q (.ref z) { s with heap := h' }) :
    wpAny (model prog w) A (call (.builtin "tuple.__new__") [.ref 155, .ref T]) Q E s := by
  have X := X₀.keeps F.keep
  have chk : Looks (model prog w) s.heap (checkBuiltinCall "tuple.__new__" ⟨[.ref 155, .ref T], []⟩) () := Looks.of_peek X (pk_check prog w T)
  have k1 : Looks (model prog w) s.heap (isType (.ref 155)) true := Looks.of_peek X (pk_isType prog w)
  have k2 : Looks (model prog w) s.heap (isSubtype (.ref 155) (.type "tuple")) true := Looks.of_peek X (pk_sub prog w)
  have k3 : Looks (model prog w) s.heap (Bind.madeHere "tuple.__new__" (.ref 155)) () := Looks.of_peek X (pk_here prog w)
  have k4 : Looks (model prog w) s.heap (typeLookup (.ref 155) "__init__") (some (.builtin "object.__init__")) := Looks.of_peek X (pk_init prog w)
  refine wpAny_call (codeAny_call_builtin tn_kind PySem.F.entry_tuple_new (chk.here ?_))
  unfold Builtin.«tuple.__new__»
  obtain ⟨hh, g, d, t, os⟩ := s
  repeat (first | with_reducible refine stop_collect ?_ | lk)
  have D := (N _ hT).1
  refine HoldN.out (PySem.wpAny_collect_seq T (.inr rfl) D rfl rfl (fun h' hk => ?_) (by show 2 ≤ sizeLine; rw [sizeLine_eq]; decide))
  have hC : h'.get? 155 = some pairCls := hk _ _ (X _ _ (lk155 w))
  have F' : Fr h₀ L h' m := F.keeps hk
  have N' : News h₀ L h' news := fun p hp => ⟨hk _ _ (N p hp).1, (N p hp).2⟩
  refine wpAny_bind (wpAny_pure (wpAny_bind (wpAny_alloc ?_)))
  have N1 := N'.push F' emptyDict
  have F1 := F'.push emptyDict
  have e2 : (h'.push emptyDict).objs.size = h'.objs.size + 1 := Heap.size_push ..
  have N2 := N1.push F1 (pairObj h'.objs.size x y)
  have F2 := F1.push (pairObj h'.objs.size x y)
  unfold newObj newObjAsIs classHasDel
  dsimp only
  rw [if_neg (by show ¬ (2 > sizeLine); rw [sizeLine_eq]; decide)]
  refine wpAny_bind (wpAny_bind (wpAny_alloc ?_))
  refine wpAny_bind (wpAny_bind (wpAny_load (Heap.get?_push_of_some _ (Heap.get?_push_of_some _ hC)) (wpAny_pure ?_)))
  rw [if_neg (by decide)]
  refine wpAny_pure (wpAny_pure ?_)
  exact h _ _ _ F2 N2 (fun p hp => Heap.lt_size (N' p hp).1) (Nat.lt_of_lt_of_eq (Nat.lt_succ_self _) e2.symm)

theorem pairBack {R : Result → Shared → Prop} {z d : Addr} {x y : Value} {s' : Shared} (N : News h₀ L s'.heap ((z, pairObj d x y) :: news)) (X : (KK w).In s'.heap) (h : R (.ok (.ret (.ref z))) s') : PairBack w R (.ok (.ret (.ref z))) s' :=
  ⟨⟨z, _, rfl, N.get (.head _), rfl⟩, X, h⟩
theorem type_str : typeOf (.type "str") = pure (.type "type") := by first | rfl | kernel_rfl
theorem type_tuple : typeOf (.type "tuple") = pure (.type "type") := by first | rfl | kernel_rfl
theorem stub_str : Manifest.isStub "str" = false := by decide +kernel
theorem stub_tuple : Manifest.isStub "tuple" = false := by decide +kernel
theorem fc_strip (w : World) : findCls (KK w) (.type "str") (.type "type") (Str.ofString "strip") = some (.val (.builtin "str.strip")) := by kernel_rfl
theorem fc_tnew (w : World) : findCls (KK w) (.type "tuple") (.type "type") (Str.ofString "__new__") = some (.val (.builtin "tuple.__new__")) := by kernel_rfl
theorem fc_titem (w : World) : findCls (KK w) (.type "tuple") (.type "type") (Str.ofString "__getitem__") = some (.val (.builtin "tuple.__getitem__")) := by kernel_rfl
theorem hand_new : handedIn (.builtin "tuple.__new__") = true := by decide +kernel
theorem hand_item : handedIn (.builtin "tuple.__getitem__") = true := by decide +kernel
theorem attr_strip {expr : Bool} {Q : Value → Shared → Prop} (F : Fr h₀ L s.heap m) (X₀ : (KK w).In h₀) (h : Q (.builtin "str.strip") { s with toks := s.toks + 1 }) : wpAny (model prog w) A (getAttr (.type "str") (Str.ofString "strip") expr) Q E s := by
  have X := X₀.keeps F.keep
  have hstub : opaqueClassAbove (.type "str") = pure none := by unfold opaqueClassAbove; dsimp only; rw [stub_str]; rfl
  have L0 : Looks (model prog w) s.heap (typeOf (.type "str")) (.type "type") := Looks.of_pure type_str
  have hg : findIn (KK w) (.type "type") "__getattribute__" = some (some (.builtin "type.__getattribute__")) := type_tga
  have LO : Looks (model prog w) s.heap (opaqueClassAbove (.type "str")) none := Looks.of_pure hstub
  refine cls_open X LO L0 hg (looks_hook X (r := none) (by rfl)) (by show subIn (KK w) _ _ = _; rfl) (fc_strip w)
    (wpAny_pure (by show wpAny _ _ (handedOut _) _ _ _; rw [handedOut_of (by decide +kernel)]; exact wpAny_pure h))
theorem meth_new {pl : Sem Bool} {Q : Value × List Value → Shared → Prop} (F : Fr h₀ L s.heap m) (X₀ : (KK w).In h₀) (h : Q (.builtin "tuple.__new__", []) { s with toks := s.toks + 1 }) : wpAny (model prog w) A (getMethod (.type "tuple") (Str.ofString "__new__") pl) Q E s :=
  method_type (K := KK w) (T := "tuple") (name := Str.ofString "__new__") (v := .builtin "tuple.__new__") F X₀ type_tuple stub_tuple (fc_tnew w) hand_new h
theorem meth_item {pl : Sem Bool} {Q : Value × List Value → Shared → Prop} (F : Fr h₀ L s.heap m) (X₀ : (KK w).In h₀) (h : Q (.builtin "tuple.__getitem__", []) { s with toks := s.toks + 1 }) : wpAny (model prog w) A (getMethod (.type "tuple") (Str.ofString "__getitem__") pl) Q E s :=
  method_type (K := KK w) (T := "tuple") (name := Str.ofString "__getitem__") (v := .builtin "tuple.__getitem__") F X₀ type_tuple stub_tuple (fc_titem w) hand_item h
end
end Mine
end

section
open PySem PySem.W PyProof.Rows PySem.Calls
namespace Mine
section
variable (prog : Program) (w : World)
theorem pk_iter : peek (KK w) ⟨prog, w.params⟩ (typeLookup (.ref 155) "__iter__") = some (some (.builtin "tuple.__iter__")) := by kernel_rfl
theorem pk_len : peek (KK w) ⟨prog, w.params⟩ (typeLookup (.ref 155) "__len__") = some (some (.builtin "tuple.__len__")) := by kernel_rfl
end
theorem is155 (w : World) : isIn (KK w) (.ref 155) 155 = true := by kernel_rfl
section
variable {prog : Program} {w : World} {A : Around} {E : Value → Shared → Prop} {s : Shared} {h₀ : Heap} {L : Addr} {m : Str → Option Value} {news : List (Addr × Obj)} {a b : Value} {z d : Addr} {x y : Value}
theorem pair_type {h : Heap} {o : Obj} {M : Model} (e : h.get? z = some o) (hc : o.cls = .ref 155) : Looks M h (typeOf (.ref z)) (.ref 155) := hc ▸ (Looks.ld e).andThen .now
theorem isi_pair {Q : Value → Shared → Prop} (F : Fr h₀ L s.heap m) (X₀ : (KK w).In h₀) (N : News h₀ L s.heap news) (hz : (z, pairObj d x y) ∈ news) (h : Q (.bool true) s) :
    wpAny (model prog w) A (call (.builtin "isinstance") [.ref z, .ref 155]) Q E s :=
  isi_call (t := .ref 155) (X₀.keeps F.keep) (fun M => pair_type (N _ hz).1 rfl) (is155 w) (by intro e; cases e) h

theorem ti_kind : builtinKind "tuple.__iter__" = some .slot := by decide +kernel
theorem ti_split : splitId "tuple.__iter__" = some ("tuple", "__iter__") := by decide +kernel
theorem tl_kind : builtinKind "tuple.__len__" = some .slot := by decide +kernel
theorem tl_split : splitId "tuple.__len__" = some ("tuple", "__len__") := by decide +kernel
theorem pair_is (X : (KK w).In s.heap) (hz : s.heap.get? z = some (pairObj d x y)) : Looks (model prog w) s.heap (isInstance (.ref z) (.type "tuple")) true :=
  (pair_type hz rfl).andThen (Looks.of_peek X (pk_sub prog w))
theorem call_slot {i n : String} {bb : Builtin} {rest : List Value} {Q : Value → Shared → Prop} (hp : plainId i = true) (hk : builtinKind i = some .slot) (hs : splitId i = some ("tuple", n)) (he : entryFor table i = some bb) (X : (KK w).In s.heap) (hz : s.heap.get? z = some (pairObj d x y))
    (ha : argsOk i ⟨.ref z :: rest, []⟩) (hc : wpAny (model prog w) A.in1 (bb ⟨.ref z :: rest, []⟩) (fun fin s' => ∃ v, fin = .done (.ret v) ∧ Q v s') E s) : wpAny (model prog w) A (call (.builtin i) (.ref z :: rest)) Q E s := by
  refine wpAny_call (codeAny_call_builtin hp he (check_slot hk hs (pair_is X hz) ha (wpAny_mono hc (fun fin s' h' => ?_) fun _ _ h' => h')))
  obtain ⟨v, rfl, hv⟩ := h'; exact hv
theorem pair_iter {Q : Value → Shared → Prop} (X : (KK w).In s.heap) (hz : s.heap.get? z = some (pairObj d x y))
    (h : Q (.ref s.heap.objs.size) { s with heap := s.heap.push { cls := .type "tuple_iterator", data := .fields #[.ref z, .int 0 0] } }) :
    wpAny (model prog w) A (pyIter (.ref z)) Q E s := by
  have sp : Looks (model prog w) s.heap (specialOf (.ref z) "__iter__") (some (.builtin "tuple.__iter__")) := (pair_type hz rfl).andThen (Looks.of_peek X (pk_iter prog w))
  have cl : wpAny (model prog w) A (call (.builtin "tuple.__iter__") [.ref z]) (fun v s' => v = .ref s.heap.objs.size ∧ s' = { s with heap := s.heap.push { cls := .type "tuple_iterator", data := .fields #[.ref z, .int 0 0] } }) E s := by
    refine call_slot (by decide +kernel) ti_kind ti_split F.entry_tuple_iter X hz (F.args_tuple_iter_1 _) ?_
    show wpAny _ _ (do ret (← newFields "tuple_iterator" [.ref z, rawInt 0])) _ _ s
    exact wpAny_bind (wpAny_newObj_type (wpAny_pure ⟨_, rfl, rfl, rfl⟩))
  unfold pyIter
  refine wpAny_bind (sp.here ?_)
  dsimp only
  unfold callSpecialIfBoundUnlessNone? bindSpecialIfBound?
  refine wpAny_bind (wpAny_holding (wpAny_bind (wpAny_bind (sp.here ?_))))
  dsimp only
  rw [F.slot_tuple_iter.bind]
  refine wpAny_bind (wpAny_askSetting (wpAny_ite ?_))
  split
  · refine wpAny_bind (wpAny_pure (wpAny_pure ?_))
    dsimp only
    rw [if_neg (by intro e; cases e)]
    refine wpAny_bind (wpAny_mono cl (fun v s' h' => ?_) fun _ _ h' => h')
    obtain ⟨rfl, rfl⟩ := h'
    refine wpAny_pure ?_
    exact wpAny_bind (wpAny_specialOf (T := "tuple_iterator") ⟨_, Heap.get?_push_size _ rfl, rfl⟩ F.slot_tuple_iterator_next.lookup (wpAny_pure h))
  · refine wpAny_tryCatch (wpAny_bind (wpAny_pure (wpAny_pure ?_)))
    dsimp only
    rw [if_neg (by intro e; cases e)]
    refine wpAny_bind (wpAny_mono cl (fun v s' h' => ?_) fun _ _ h' => h')
    obtain ⟨rfl, rfl⟩ := h'
    refine wpAny_pure ?_
    exact wpAny_bind (wpAny_specialOf (T := "tuple_iterator") ⟨_, Heap.get?_push_size _ rfl, rfl⟩ F.slot_tuple_iterator_next.lookup (wpAny_pure h))

theorem pair_len {Q : Value → Shared → Prop} (X : (KK w).In s.heap) (hz : s.heap.get? z = some (pairObj d x y))
    (h : Q (.int 2 (s.toks + 1)) { s with toks := s.toks + 1 + 1 }) : wpAny (model prog w) A (call (.builtin "len") [.ref z]) Q E s := by
  have sp : Looks (model prog w) s.heap (specialOf (.ref z) "__len__") (some (.builtin "tuple.__len__")) := (pair_type hz rfl).andThen (Looks.of_peek X (pk_len prog w))
  refine Calls.call_function_entry kind_len plain_len entry_len (args_len1 _) ?_
  unfold Builtin.«len»
  refine wpAny_bind (m := oneArg "len" _) (wpAny_pure ?_)
  show wpAny _ _ (callSpecial? (.ref z) (Str.ofString "__len__") >>= _) _ _ _
  unfold callSpecial?
  refine wpAny_bind (wpAny_bind (sp.here ?_))
  dsimp only
  (try dsimp only)
  rw [slot_tuple_len.bind]
  refine wpAny_holding (wpAny_bind (wpAny_pure (wpAny_bind ?_)))
  refine call_slot (by decide +kernel) tl_kind tl_split entry_tuple_len X hz (args_tuple_len _) ?_
  show wpAny _ _ (do retInt (← Builtin.Tuple.tupleItemsOf (.ref z)).size) _ _ s
  unfold Builtin.Tuple.tupleItemsOf
  refine wpAny_bind (wpAny_bind (wpAny_seqItems hz rfl (wpAny_pure ?_)))
  refine wpAny_bind (wpAny_mkInt (wpAny_pure ⟨_, rfl, ?_⟩))
  refine wpAny_pure ?_
  refine wpAny_bind (wpAny_holding (wpAny_pure ?_))
  refine wpAny_bind (wpAny_letGo ?_)
  show wpAny _ _ (if ((2 : Nat) : Int) < 0 then _ else _) _ _ _
  rw [if_neg (by omega)]
  show wpAny _ _ (if ((2 : Nat) : Int) ≥ 2 ^ 63 then _ else _) _ _ _
  rw [if_neg (by omega)]
  exact wpAny_bind (wpAny_mkInt (wpAny_pure ⟨_, rfl, h⟩))

theorem pair_hint {Q : Bool → Shared → Prop} (X : (KK w).In s.heap) (hz : s.heap.get? z = some (pairObj d x y))
    (h : Q true { s with toks := s.toks + 1 + 1 }) : wpAny (model prog w) A (Builtin.List.listLengthHint (.ref z)) Q E s := by
  have sp : Looks (model prog w) s.heap (specialOf (.ref z) "__len__") (some (.builtin "tuple.__len__")) := (pair_type hz rfl).andThen (Looks.of_peek X (pk_len prog w))
  unfold Builtin.List.listLengthHint
  refine wpAny_bind (sp.here ?_)
  generalize hid : ("tuple.__len__" : String) = id0
  wp_delta
  rw [show splitId id0 = some ("tuple", "__len__") from by subst hid; decide +kernel]
  subst hid
  refine wpAny_bind ((pair_is X hz).here ?_)
  refine wpAny_ite_split (fun hab => absurd hab (by decide)) (fun _ => ?_)
  refine wpAny_ite_split (fun _ => ?_) (fun hab => absurd (by decide +kernel) hab)
  refine wpAny_bind ((pair_type hz rfl).here ?_)
  dsimp only
  refine wpAny_bind (pair_len X hz ?_)
  refine wpAny_bind (m := asInt? _) (wpAny_pure ?_)
  exact wpAny_pure h
end
end Mine
end

section
open PySem PySem.W PyProof.Rows PySem.Calls
namespace Mine
def SeqAt (h : Heap) (a : Addr) (items : Array Value) : Prop := ∃ o n, h.get? a = some o ∧ o.data = .seq items n
theorem SeqAt.at {h h' : Heap} {a items} (x : SeqAt h a items) (e : ∀ o, h.get? a = some o → h'.get? a = some o) : SeqAt h' a items := let ⟨o, n, ho, r⟩ := x; ⟨o, n, e o ho, r⟩
section
variable {prog : Program} {w : World} {A : Around} {E : Value → Shared → Prop} {s : Shared} {h₀ : Heap} {L : Addr} {m : Str → Option Value} {news : List (Addr × Obj)} {z d : Addr} {x y : Value}
theorem seq_next {it t : Addr} {i : Nat} {items} {x : Value} {Q : Option Value → Shared → Prop} (hit : s.heap.IsTupleIter it t i)
    (ht : SeqAt s.heap t items) (hx : items[i]? = some x)
    (hQ : ∀ h', h'.IsTupleIter it t (i + 1) → Heap.SameBut it s.heap h' → Q (some x) { s with heap := h' }) :
    wpAny (model prog w) A (pyNext (.ref it)) Q E s := by
  obtain ⟨o, ho, hc, hd⟩ := id hit
  obtain ⟨ol, nl, hol, hdl⟩ := ht
  unfold pyNext
  refine wpAny_bind (wpAny_attempt (wpAny_callSpecial?_slot (name := Str.ofString "__next__") hit.typeIs F.slot_tuple_iterator_next
    (wpAny_call_entry F.slot_tuple_iterator_next hit.typeIs F.entry_tuple_iterator_next ?_ (F.args_tuple_iterator_next_1 _))))
  show wpAny _ _ (field (.ref it) 0 >>= _) _ _ s
  refine wpAny_bind (wpAny_field ho hd (x := .ref t) rfl ?_)
  show wpAny _ _ (if (Value.ref t == Value.none) = true then _ else _) _ _ s
  rw [if_neg (show ¬ ((Value.ref t == Value.none) = true) from Bool.false_ne_true)]
  show wpAny _ _ (field (.ref it) 1 >>= _) _ _ s
  refine wpAny_bind (wpAny_field ho hd (x := .int i 0) rfl ?_)
  show wpAny _ _ (seqItems? (.ref t) >>= _) _ _ s
  refine wpAny_bind (wpAny_seqItems hol hdl ?_)
  dsimp only
  rw [Int.toNat_natCast, hx]
  dsimp only
  refine wpAny_bind (wpAny_setField ho hd (by simp) (wpAny_pure ⟨x, rfl, wpAny_pure (hQ _ ?_ (Heap.SameBut.update ..))⟩))
  exact ⟨_, Heap.get?_update_self _ ho (Obj.isFreed_of_fields (Obj.data_mapFields hd _)), (Obj.cls_mapFields ..).trans hc, by
    rw [Obj.data_mapFields hd]; simp [rawInt]⟩
theorem seq_end {it t : Addr} {i : Nat} {items} {Q : Option Value → Shared → Prop} (hh : A.handled = none)
    (hit : s.heap.IsTupleIter it t i) (ht : SeqAt s.heap t items) (hx : items[i]? = none)
    (hQ : ∀ h', Heap.ExtBut it s.heap h' → Q none { s with heap := h' }) : wpAny (model prog w) A (pyNext (.ref it)) Q E s := by
  obtain ⟨o, ho, hc, hd⟩ := id hit
  obtain ⟨ol, nl, hol, hdl⟩ := ht
  unfold pyNext
  refine wpAny_bind (wpAny_attempt (wpAny_callSpecial?_slot (name := Str.ofString "__next__") hit.typeIs F.slot_tuple_iterator_next
    (wpAny_call_entry F.slot_tuple_iterator_next hit.typeIs F.entry_tuple_iterator_next ?_ (F.args_tuple_iterator_next_1 _))))
  show wpAny _ _ (field (.ref it) 0 >>= _) _ _ s
  refine wpAny_bind (wpAny_field ho hd (x := .ref t) rfl ?_)
  show wpAny _ _ (if (Value.ref t == Value.none) = true then _ else _) _ _ s
  rw [if_neg (show ¬ ((Value.ref t == Value.none) = true) from Bool.false_ne_true)]
  show wpAny _ _ (field (.ref it) 1 >>= _) _ _ s
  refine wpAny_bind (wpAny_field ho hd (x := .int i 0) rfl ?_)
  show wpAny _ _ (seqItems? (.ref t) >>= _) _ _ s
  refine wpAny_bind (wpAny_seqItems hol hdl ?_)
  dsimp only
  rw [Int.toNat_natCast, hx]
  dsimp only
  refine wpAny_bind (wpAny_rule (wpAny_bind (wpAny_setField ho hd (by simp) ?_)))
  show wpAny _ _ (newExc (.type "StopIteration") [] >>= _) _ _ _
  refine wpAny_bind ?_
  unfold newExc newTuple
  refine wpAny_bind (wpAny_newObj_type ?_ (by size_fits))
  refine wpAny_bind (m := firstArgMember _ _) (wpAny_of_eq (a := Value.none) (by first | rfl | (simp only [firstArgMember]; rfl)) ?_)
  refine wpAny_newObj_type ?_ (by size_fits)
  unfold raiseNew
  refine wpAny_bind (wpAny_handled ?_)
  first | rw [show A.in1.handled = none from hh] | rw [hh]
  refine wpAny_bind (wpAny_pure (wpAny_throw ?_))
  refine wpAny_bind (wpAny_isInstance (T := "StopIteration") (b := true) ⟨_, Heap.get?_push_size _ rfl, rfl⟩ isSubtype_stop ?_)
  exact wpAny_pure (hQ _ (((Heap.SameBut.update ..).extBut.push _).push _))
theorem seq_walks (hh : A.handled = none) (I ax : Addr) (hne : ax ≠ I) (items : Array Value) :
    Walks prog w A I [I, ax] [I] items.size (fun i v => items[i]? = some v) (fun i h => h.IsTupleIter I ax i ∧ SeqAt h ax items) where
  sub := fun b hb => by simp at hb; simp [hb]
  frame := fun _ _ _ st hk => ⟨st.1.at fun o e => hk I (by simp) o e, st.2.at fun o e => hk ax (by simp) o e⟩
  item := fun i s Q E hi st hQ => by
    refine seq_next st.1 st.2 (x := items[i]) (by simp [hi]) fun h' hit' hs' => ?_
    exact hQ _ h' s.toks (by simp [hi]) ⟨hit', st.2.at fun o e => hs'.extBut _ o hne e⟩ fun b o hb e => hs'.extBut b o (fun h => hb (by simp [h])) e
  done := fun s Q E st hQ => seq_end hh st.1 st.2 (by simp) fun h' he' => hQ h' s.toks fun b o hb e => he' b o (fun h => hb (by simp [h])) e
  self := fun _ _ _ _ st hQ => wpAny_pyIter_tupleiter st.1 hQ

theorem pair_extend {R : Result → Shared → Prop} (hh : A.handled = none) (X : (KK w).In s.heap) (hz : s.heap.get? z = some (pairObj d x y)) (S : Addr) (hSz : S ≠ z) (res : Value) (c₀ : Nat) (hS : s.heap.get? S = some { cls := .type "list", data := .seq #[] c₀ }) (XS : ∀ h', (∀ b o, b ≠ S → s.heap.get? b = some o → h'.get? b = some o) → (KK w).In h')
    (hR : ∀ h' tk acc' c', (∀ b o, b ≠ S → s.heap.get? b = some o → h'.get? b = some o) → h'.get? S = some { cls := .type "list", dict := none, data := .seq acc' c', slots := #[] } → ItemsOf (fun i v => (#[x, y] : Array Value)[i]? = some v) acc' 2 → R (.ok (.ret res)) { s with heap := h', toks := tk }) :
    wpAny (model prog w) A.in1 (Builtin.List.listExtendWith (.ref S) (.ref z) res)
      (fun fin s' => match fin with | .done f => R (.ok f) s' | .again c' => c'.quiet = true ∧ codeAny (model prog w) A c' R s') (fun e s' => R (.error e) s') s := by
  have hSI : S ≠ s.heap.objs.size := Nat.ne_of_lt (Heap.lt_size hS)
  have hSf : S ∉ [s.heap.objs.size, z] := by simp only [List.mem_cons, List.not_mem_nil, or_false, not_or]; exact ⟨hSI, hSz⟩
  have hzI : z ≠ s.heap.objs.size := Nat.ne_of_lt (Heap.lt_size hz)
  have W := seq_walks (prog := prog) (w := w) (A := A.in1) hh s.heap.objs.size z hzI #[x, y]
  have key : ∀ (h : Heap) (c₁ tk : Nat), (h.IsTupleIter s.heap.objs.size z 0 ∧ SeqAt h z #[x, y]) → (∀ b o, b ≠ S → s.heap.get? b = some o → h.get? b = some o) →
      h.get? S = some { cls := .type "list", data := .seq #[] c₁ } → codeAny (model prog w) A (.builtin "list.extend.loop" ⟨[.ref S, .ref s.heap.objs.size, res], []⟩) R { s with heap := h, toks := tk } := by
    intro h c₁ tk hst hk hS₁
    refine codeAny_extend_loopS W.toS (by show 2 ≤ sizeLine; rw [sizeLine_eq]; decide) S hSf res 2 0 _ #[] c₁ rfl (Nat.zero_le _) hst hS₁ (ItemsOf.nil _) fun s' acc' c' hm hS' hacc => ?_
    rw [Moved.eq_with hm]
    refine hR s'.heap s'.toks acc' c' (fun b o hb e => hm.heap b o (fun hmem => ?_) (hk b o hb e)) hS' hacc
    rcases List.mem_cons.mp hmem with e' | hmem
    · exact hb e'
    · exact absurd (Heap.lt_size e) (by rw [List.mem_singleton.mp hmem]; exact Nat.lt_irrefl _)
  unfold Builtin.List.listExtendWith
  refine wpAny_bind ((pair_type hz rfl).here ?_)
  have h1 : Builtin.List.listSameRef (.ref S) (.ref z) = false := by simp [Builtin.List.listSameRef, hSz]
  have h2 : (Value.ref 155 == Value.type "list") = false := by decide
  have h3 : (Value.ref 155 == Value.type "tuple") = false := by decide
  rw [if_neg (by rw [h1, h2, h3]; decide)]
  refine wpAny_bind (pair_iter X hz ?_)
  have up : ∀ b o, s.heap.get? b = some o → (s.heap.push { cls := .type "tuple_iterator", data := .fields #[.ref z, .int 0 0] }).get? b = some o := fun b o e => Heap.get?_push_of_some _ e
  have hS₁ := up _ _ hS
  refine wpAny_bind (wpAny_holding (pair_hint (x := x) (y := y) (d := d) (X.keeps up) (up _ _ hz) ?_))
  refine wpAny_ite_split (fun _ => ?_) (fun hn => absurd rfl hn)
  refine wpAny_bind (wpAny_rule ?_)
  refine wpAny_bind ?_
  show wpAny _ _ (updateSeq S (·.push .none) >>= fun _ => updateSeq S (·.pop)) _ _ _
  refine wpAny_bind (wpAny_updateSeq hS₁ rfl ?_)
  have hS₂ := Heap.get?_update_self (Obj.mapSeq (·.push Value.none)) hS₁ rfl
  refine wpAny_updateSeq (hz := by seq_fits) hS₂ rfl ?_
  have hS₃ := Heap.get?_update_self (Obj.mapSeq (·.pop)) hS₂ rfl
  have st0 : (s.heap.push { cls := .type "tuple_iterator", data := .fields #[.ref z, .int 0 0] }).IsTupleIter s.heap.objs.size z 0 ∧ SeqAt (s.heap.push { cls := .type "tuple_iterator", data := .fields #[.ref z, .int 0 0] }) z #[x, y] := ⟨⟨_, Heap.get?_push_size _ rfl, rfl, rfl⟩, ⟨_, _, up _ _ hz, rfl⟩⟩
  refine wpAny_pure ⟨plainId_quiet PySem.F.plain_extend_loop _, key _ _ _ ?_ (fun b o hb e => ?_) hS₃⟩
  · refine W.frame 0 _ _ st0 fun b hb o e => ?_
    have hbS : b ≠ S := fun h => hSf (h ▸ hb)
    exact (Heap.get?_update_other _ _ (Ne.symm hbS)).trans ((Heap.get?_update_other _ _ (Ne.symm hbS)).trans e)
  · exact (Heap.get?_update_other _ _ (Ne.symm hb)).trans ((Heap.get?_update_other _ _ (Ne.symm hb)).trans (Heap.get?_push_of_some _ e))

theorem pair_init {R : Result → Shared → Prop} (hh : A.handled = none) (X : (KK w).In s.heap) (hz : s.heap.get? z = some (pairObj d x y)) (S : Addr) (hSz : S ≠ z) (hS : s.heap.get? S = some { cls := .type "list", data := .seq #[] }) (XS : ∀ h', (∀ b o, b ≠ S → s.heap.get? b = some o → h'.get? b = some o) → (KK w).In h')
    (hR : ∀ h' tk acc' c', (∀ b o, b ≠ S → s.heap.get? b = some o → h'.get? b = some o) → h'.get? S = some { cls := .type "list", dict := none, data := .seq acc' c', slots := #[] } → ItemsOf (fun i v => (#[x, y] : Array Value)[i]? = some v) acc' 2 → R (.ok (.ret .none)) { s with heap := h', toks := tk }) :
    wpAny (model prog w) A.in1 (Builtin.«list.__init__» ⟨[.ref S, .ref z], []⟩)
      (fun fin s' => match fin with | .done f => R (.ok f) s' | .again c' => c'.quiet = true ∧ codeAny (model prog w) A c' R s') (fun e s' => R (.error e) s') s := by
  show wpAny _ _ (do let old ← Builtin.List.listItems (.ref S); Builtin.List.listUpdate (.ref S) (fun _ => #[]); letGo old.toList.reverse; Builtin.List.listExtendWith (.ref S) (.ref z) .none) _ _ s
  refine wpAny_bind ?_
  unfold Builtin.List.listItems
  refine wpAny_bind (wpAny_seqItems hS rfl (wpAny_pure ?_))
  show wpAny _ _ (updateSeq S (fun _ => #[]) >>= fun _ => letGo (#[] : Array Value).toList.reverse >>= fun _ => Builtin.List.listExtendWith (.ref S) (.ref z) .none) _ _ s
  refine wpAny_bind (wpAny_updateSeq hS rfl ?_)
  have hS₂ := Heap.get?_update_self (Obj.mapSeq (fun _ => (#[] : Array Value))) hS rfl
  have oth : ∀ b o, b ≠ S → s.heap.get? b = some o → (s.heap.update S (Obj.mapSeq (fun _ => (#[] : Array Value)))).get? b = some o :=
    fun b o hb e => (Heap.get?_update_other _ _ (Ne.symm hb)).trans e
  refine wpAny_bind (wpAny_letGo ?_)
  refine pair_extend hh (XS _ oth) (oth _ _ hSz.symm hz) S hSz .none _ hS₂ (fun h' k => XS h' fun b o hb e => k b o hb (oth b o hb e)) (fun h' tk acc' c' hk hS' hacc => ?_)
  exact hR h' tk acc' c' (fun b o hb e => hk b o hb (oth b o hb e)) hS' hacc

theorem pair_list {Q : Value → Shared → Prop} (hh : A.handled = none) (F : Fr h₀ L s.heap m) (X₀ : (KK w).In h₀) (N : News h₀ L s.heap news) (hz : (z, pairObj d x y) ∈ news)
    (h : ∀ D c h' tk, Fr h₀ L h' m → News h₀ L h' ((D, W.listOf [x, y].toArray c) :: news) → (∀ q ∈ news, q.1 < D) → Q (.ref D) { s with heap := h', toks := tk }) :
    wpAny (model prog w) A (call (.type "list") [.ref z]) Q E s := by
  have X := X₀.keeps F.keep
  have Z := (N _ hz).1
  refine callType_codes (Q₁ := fun obj s₁ => obj = .ref s.heap.objs.size ∧ s₁ = { s with heap := s.heap.push { cls := .type "list", data := .seq #[] } }) PySem.F.called_list (PySem.F.typeCall_list_1 _) PySem.F.entry_list_init
    (code_list_new _ ⟨rfl, rfl⟩) fun obj s₁ h₁ => ?_
  obtain ⟨rfl, rfl⟩ := h₁
  have hS : (s.heap.push { cls := .type "list", data := .seq #[] }).get? s.heap.objs.size = some { cls := .type "list", data := .seq #[] } := Heap.get?_push_size _ rfl
  have up : ∀ b o, s.heap.get? b = some o → (s.heap.push { cls := .type "list", data := .seq #[] }).get? b = some o := fun b o e => Heap.get?_push_of_some _ e
  refine ⟨⟨_, hS, rfl⟩, PySem.F.args_list_init_2 _ _, pair_init (A := A.in1) hh (X.keeps up) (up _ _ Z) _ (Nat.ne_of_gt (Heap.lt_size Z)) hS
    (fun h' k => X.keeps fun b o e => k b o (Nat.ne_of_lt (Heap.lt_size e)) (up b o e)) (fun h' tk acc' c' hk hS' hacc => ?_)⟩
  have hk' : ∀ b o, s.heap.get? b = some o → h'.get? b = some o := fun b o e => hk b o (Nat.ne_of_lt (Heap.lt_size e)) (up b o e)
  have ea : acc' = #[x, y] := by
    obtain ⟨e1, e2⟩ := hacc
    refine Array.ext (by simpa using e1) fun i hi hj => ?_
    have : (#[x, y] : Array Value)[i]? = some acc'[i] := e2 i acc'[i] (by simp [hi])
    rw [Array.getElem?_eq_getElem hj] at this
    exact (Option.some.inj this).symm
  subst ea
  exact ⟨rfl, h _ c' h' tk (F.keeps hk') (news_pushed F N hk' hS' rfl) (fun q hq => Heap.lt_size (N q hq).1)⟩
end
end Mine
end

section
open PySem PySem.W PyProof.Rows PySem.Calls
namespace Mine
theorem fi_name (w : World) : findIn (KK w) (.ref 155) "name" = some (some (.ref 124)) := by kernel_rfl
theorem fi_value (w : World) : findIn (KK w) (.ref 155) "value" = some (some (.ref 127)) := by kernel_rfl
theorem sg_name (w : World) : specialIn (KK w) (.ref 124) "__get__" = some (some (.ref 43)) := by kernel_rfl
theorem sg_value (w : World) : specialIn (KK w) (.ref 127) "__get__" = some (some (.ref 43)) := by kernel_rfl
theorem tk_name (w : World) : takesIn (KK w) (.ref 124) = some true := by kernel_rfl
theorem tk_value (w : World) : takesIn (KK w) (.ref 127) = some true := by kernel_rfl
theorem ci155 (w : World) : (clsIn (KK w) 155).isSome = true := by kernel_rfl
theorem fi_ga (w : World) : findIn (KK w) (.ref 155) "__getattr__" = some none := by kernel_rfl
theorem fi_gab (w : World) : findIn (KK w) (.ref 155) "__getattribute__" = some (some (.builtin "tuple.__getattribute__")) := by kernel_rfl
theorem tg_kind : builtinKind "tuple.__getattribute__" = some .slot := by decide +kernel
theorem tg_split : splitId "tuple.__getattribute__" = some ("tuple", "__getattribute__") := by decide +kernel
section
variable {prog : Program} {w : World} {A : Around} {E : Value → Shared → Prop} {s : Shared} {h₀ : Heap} {L : Addr} {m : Str → Option Value} {news : List (Addr × Obj)} {z d : Addr} {x y : Value}
set_option maxHeartbeats 4000000 in
theorem pair_attr {p : Addr} {name : Str} {Q : Value → Shared → Prop} (X : (KK w).In s.heap) (hz : s.heap.get? z = some (pairObj d x y)) (hd : s.heap.get? d = some emptyDict)
    (ha : findIn (KK w) (.ref 155) name = some (some (.ref p))) (hg : specialIn (KK w) (.ref p) "__get__" = some (some (.ref 43))) (ht : takesIn (KK w) (.ref p) = some true)
    (h : wpAny (model prog w) A.in1 (call (.ref 43) [.ref p, .ref z, .ref 155]) (fun v s' => handedIn v = true ∧ Q v s') (fun _ _ => False) { s with toks := s.toks + 1 }) :
    wpAny (model prog w) A (getAttr (.ref z) name true) Q E s := by
  have I : InstAt s.heap z (pairObj d x y) 155 (some emptyDict) := ⟨hz, rfl, rfl, hd⟩
  have fb : findObj (KK w) 155 (some emptyDict) name = some (.bind (.ref 43) (.ref p)) := findObj_data (ci155 w) ha hg ht
  have L0 : Looks (model prog w) s.heap (typeOf (.ref z)) (.ref 155) := pair_type hz rfl
  have L1 := looks_findIn (M := model prog w) X (fi_gab w)
  have L2 := looks_findIn (M := model prog w) X (fi_ga w)
  have L3 := looks_find (M := model prog w) X I fb
  obtain ⟨hh, gg, dd, tt, os⟩ := s
  unfold getAttr getAttrBy
  refine wpAny_bind (wpAny_mkText (wpAny_holding (wpAny_bind (L0.at (wpAny_bind (L1.at ?_))))))
  dsimp only
  rw [if_neg (by decide)]
  unfold getAttrByItsOwn hookBefore
  rw [if_pos (by rfl)]
  refine wpAny_bind (L2.at ?_)
  refine wpAny_bind (wpAny_attempt (wpAny_holding ?_))
  unfold callGetattribute
  rw [if_neg (by decide)]
  unfold boundAndCalled
  rw [F.slot_tuple_getattribute.bind]
  refine wpAny_bind (wpAny_pure ?_)
  dsimp only
  refine call_slot (d := d) (x := x) (y := y) (by decide +kernel) tg_kind tg_split F.entry_tuple_ga X hz (F.args_tuple_getattribute_2 _ _) ?_
  refine wpAny_bind (wpAny_pure (wpAny_bind (wpAny_pure ?_)))
  refine wpAny_bind (L0.at (wpAny_bind (L3.at ?_)))
  show wpAny _ _ (holding [Value.ref p] (call (.ref 43) [.ref p, .ref z, .ref 155]) >>= ret) _ _ _
  refine wpAny_bind (wpAny_holding (wpAny_mono h (fun v s' q => ?_) fun _ _ q => q.elim))
  refine wpAny_pure ⟨v, rfl, ?_⟩
  try dsimp only
  rw [handedOut_of q.1]
  exact wpAny_pure q.2
end
end Mine
end

section
open PySem PySem.W PyProof.Rows PySem.Calls
namespace Mine
theorem si155 (w : World) : subIn (KK w) (.ref 155) (.type "tuple") = some true := by kernel_rfl
theorem tgi_kind : builtinKind "tuple.__getitem__" = some .slot := by decide +kernel
theorem tgi_split : splitId "tuple.__getitem__" = some ("tuple", "__getitem__") := by decide +kernel
section
variable {prog : Program} {w : World} {A : Around} {E : Value → Shared → Prop} {s : Shared} {h₀ : Heap} {L : Addr} {m : Str → Option Value} {news : List (Addr × Obj)} {z d : Addr} {x y : Value}
theorem type_pair {Q : Value → Shared → Prop} (N : News h₀ L s.heap news) (hz : (z, pairObj d x y) ∈ news) (h : Q (.ref 155) s) : wpAny (model prog w) A (call (.type "type") [.ref z]) Q E s := by
  have Z := (N _ hz).1
  obtain ⟨hh, g, d, t, os⟩ := s
  exact call_type_obj Z (by rfl) h
theorem sub_nested {w₀ : World} {dep : Int} {tk : Tok} {Q : Fin → Shared → Prop} {M : Model} (X : (KK w₀).In s.heap) (h : Q (.done (.ret (.bool true))) s) :
    wpAny M A (Builtin.«issubclass.nested» ⟨[.ref 155, .type "tuple", .int dep tk], []⟩) Q E s := by
  have L1 : Looks M s.heap (isSubtype (.ref 155) (.type "tuple")) true := looks_subIn X (si155 w₀)
  have ho := X _ _ (lk155 w₀)
  obtain ⟨hh, g, d, tt, os⟩ := s
  unfold Builtin.«issubclass.nested»
  dsimp only
  rw [type_tuple]
  refine wpAny_bind (wpAny_pure ?_)
  rw [if_pos (by decide)]
  k_delta "plainIsSubclass"
  unfold isType
  repeat lk
  exact h
theorem sub_pair {Q : Value → Shared → Prop} (F : Fr h₀ L s.heap m) (X : (KK w).In h₀) (h : Q (.bool true) s) : wpAny (model prog w) A (call (.builtin "issubclass") [.ref 155, .type "tuple"]) Q E s :=
  call_issubclass (S := fun _ R s => (KK w).In s.heap ∧ R (.ok (.ret (.bool true))) s) (fun _ _ _ _ _ hs => issubclass_outer (sub_nested hs.1 hs.2)) ⟨X.keeps F.keep, h⟩
theorem item_pair {k : Int} {u : Tok} {v : Value} {Q : Value → Shared → Prop} (F : Fr h₀ L s.heap m) (X₀ : (KK w).In h₀) (N : News h₀ L s.heap news) (hz : (z, pairObj d x y) ∈ news)
    (hk : (k = 0 ∧ v = x) ∨ (k = 1 ∧ v = y)) (h : Q v s) : wpAny (model prog w) A (call (.builtin "tuple.__getitem__") [.ref z, .int k u]) Q E s := by
  have Z := (N _ hz).1
  refine call_slot (d := d) (x := x) (y := y) (by decide +kernel) tgi_kind tgi_split entry_tuple_getitem (X₀.keeps F.keep) Z (args_tuple_getitem _ _) ?_
  show wpAny _ _ (Builtin.Tuple.tupleItemsOf (.ref z) >>= _) _ _ s
  unfold Builtin.Tuple.tupleItemsOf
  refine wpAny_bind (wpAny_bind (wpAny_seqItems Z rfl (wpAny_pure ?_)))
  refine wpAny_bind (wpAny_typeOf (typeIs_int s k u) ?_)
  rw [if_neg (by decide)]
  refine wpAny_bind (wpAny_specialOf (T := "int") (typeIs_int s k u) int_index ?_)
  rw [if_neg (by simp)]
  refine wpAny_bind (wpAny_of_eq (a := k) rfl ?_)
  rw [if_neg (by simp only [Bool.or_eq_true, decide_eq_true_eq]; omega)]
  rcases hk with ⟨rfl, rfl⟩ | ⟨rfl, rfl⟩
  · exact wpAny_pure ⟨_, rfl, h⟩
  · exact wpAny_pure ⟨_, rfl, h⟩
end
end Mine
end

section
open PySem PySem.W PyProof.Rows PySem.Calls
namespace Mine
theorem mid_sub {l : List Nat} {c : Nat} (h : c ∈ mid l) : c ∈ l := by
  unfold mid at h
  exact List.mem_of_mem_drop (List.mem_of_mem_take h)
theorem okc_left {A row : Str} {pl ql : List Nat} (hA : A.cps.toList = mid pl) (hpq : row.cps.toList = pl ++ 61 :: ql) (hok : Okc row.cps.toList) : Okc A.cps.toList := fun c hc => by
  rw [hA] at hc
  exact hok c (by rw [hpq]; exact List.mem_append_left _ (mid_sub hc))
theorem okc_right {A row : Str} {pl ql : List Nat} (hA : A.cps.toList = mid ql) (hpq : row.cps.toList = pl ++ 61 :: ql) (hok : Okc row.cps.toList) : Okc A.cps.toList := fun c hc => by
  rw [hA] at hc
  exact hok c (by rw [hpq]; exact List.mem_append_right _ (.tail _ (mid_sub hc)))
theorem strOk_of {A : Str} (h : Okc A.cps.toList) : PyData.strOk A = true := by
  unfold PyData.strOk
  rw [Array.all_eq_true']
  intro c hc
  have := h c (by simpa using hc)
  simp only [List.mem_cons, List.not_mem_nil, or_false] at this
  simp only [decide_eq_true_eq]
  omega
section
variable {prog : Program} {w : World} {A : Around} {E : Value → Shared → Prop} {s : Shared} {h₀ : Heap} {L : Addr} {m : Str → Option Value} {news : List (Addr × Obj)}
theorem ne_same {D D' : Addr} {c c' : Nat} {x y : Str} {t u t' u' : Tok} {Q : Value → Shared → Prop} (N : News h₀ L s.heap news) (h1 : (D, W.listOf #[.str x t, .str y u] c) ∈ news) (h2 : (D', W.listOf #[.str x t', .str y u'] c') ∈ news)
    (hx : Okc x.cps.toList) (hy : Okc y.cps.toList) (hu : A.units + 64 < cLine) (h : Q (.bool false) s) : wpAny (model prog w) A (compareOp .NotEq (.ref D) (.ref D')) Q E s := by
  have ok : PyData.canLay0 (.list [.str x, .str y]) = true := by
    show (PyData.strOk x && (PyData.strOk y && true)) = true
    rw [strOk_of hx, strOk_of hy]; rfl
  have sh : SeqAt.shaped (.list [.str x, .str y]) = true := by
    unfold SeqAt.shaped
    rw [ok]; rfl
  refine ne_dataH (da := .list [.str x, .str y]) (db := .list [.str x, .str y]) (reads_list_at (N.get h1) rfl rfl (.cons (.str _ _) (.cons (.str _ _) .nil))) (reads_list_at (N.get h2) rfl rfl (.cons (.str _ _) (.cons (.str _ _) .nil))) sh sh hu ?_
  rw [PySem.SeqAt.eqv_refl _ ok]
  exact h
end
end Mine
end

section
open PySem PySem.W PyProof.Rows PySem.Calls
set_option compiler.extract_closed false
namespace Mine
theorem news_two {h₀ h : Heap} {L : Addr} {a b c d : Addr × Obj} {l : List (Addr × Obj)} (N : News h₀ L h (a :: b :: c :: d :: l)) : News h₀ L h (a :: b :: l) := fun p hp => by
  rcases List.mem_cons.mp hp with rfl | hp
  · exact N _ (.head _)
  rcases List.mem_cons.mp hp with rfl | hp
  · exact N _ (.tail _ (.head _))
  exact N _ (.tail _ (.tail _ (.tail _ (.tail _ hp))))
theorem strip_len {x : Str} (h : Okc x.cps.toList) : (Txt.strip x).length ≤ x.length := by
  rw [← len_list, strip_mid h, ← len_list]
  unfold mid
  rw [List.length_take, List.length_drop]
  omega
theorem strs_two {vs : List Value} {A B : Str} (h : StrsAre vs [A, B]) : ∃ t u, vs = [.str A t, .str B u] := by
  cases h with
  | cons _ t h2 =>
    cases h2 with
    | cons _ u h3 =>
      cases h3
      exact ⟨t, u, rfl⟩
theorem strs_one {vs : List Value} {A : Str} (h : StrsAre vs [A]) : ∃ t, vs = [.str A t] := by
  cases h with
  | cons _ t h2 =>
    cases h2
    exact ⟨t, rfl⟩
set_option maxHeartbeats 4000000 in
theorem parse_code {prog : Program} {w : World} {p : Program} {loose : List Str} {mean : ExcName → Option Value} {mg mb : Str → Option Value}
    {dp un : Nat} {gd : Option (List Code)} {cn : Str} {cs : Scope} {a : Addr} {ccd : Value} {cl : List (Str × Addr)} {outer : List Env} {A₀ : Around} {base h₀ : Heap} {L : Addr} {m : Str → Option Value} {news : List (Addr × Obj)} {s : Shared} {x : Str} {t : Tok}
    {Q E : Value → Shared → Prop}
    (B : Below A₀ base outer h₀) (F : Fr h₀ L s.heap m) (X : (hd.heap_39 w.params).In h₀) (N : News h₀ L s.heap news) (T : Top p loose mean mg mb h₀) (hk : cs.kind = .function)
    (hx : x.length ≤ 100) {pl ql : List Nat} (hpq : x.cps.toList = pl ++ 61 :: ql) (hpl : 61 ∉ pl) (hok : Okc x.cps.toList) (hd : dp + 16 < recursionLimit) (hu : un + 160 < cLine) 
    (ret : ∀ (z d t1 t2 : Nat) (A B : Str) h' tk', A.cps.toList = mid pl → B.cps.toList = mid ql → A.length ≤ 100 → B.length ≤ 100 → Fr h₀ L h' m → News h₀ L h' ((z, pairObj d (.str A t1) (.str B t2)) :: (d, emptyDict) :: news) → (∀ p ∈ news, p.1 < d) → d < z → Q (.ref z) { s with heap := h', toks := tk' }) :
    codeAny (model prog w) (ktrTop dp un gd cn cs L a ccd cl outer) (.call (.ref 149) ⟨[.ref 155, .str x t], []⟩) (fun r s' => match r with | .ok (.ret v) => Q v s' | .ok _ => False | .error e => E e s') s := by
  w_top off
  refine fill ?_
  k_fill
  intro _ _
  k_dflt cell_enter
  clear F N
  repeat' (first | (with_reducible refine meth_new (by k_asm) (by k_asm) ?_) | (with_reducible refine attr_strip (by k_asm) (by k_asm) ?_) | ((with_reducible show wpAny _ _ (call (Value.type "map") _) _ _ _); refine Hold.mk ?_) | ((with_reducible show wpAny _ _ (call (Value.ref _) _) _ _ _); refine Hold.mk ?_) | (k_unfold; (try dsimp only)) | (k_end; wrow_close) | walk1 | (dsimp only; walk1) | (leave1; walk_say "STEP leave1"; try dsimp only) | fail "no step")
  refine Hold.out ?_
  obtain ⟨A9, B9, hsp, hA, hB⟩ := split_eq hpq hpl
  rename List.map _ _ = Txt.splitMax _ _ _ => hmap
  rename ∀ a, a ∈ List.map _ _ → _ => hle
  rename Heap.IsList _ _ _ => hli
  rw [hsp] at hmap
  refine Mp.map_star (by rfl) (by k_asm) (by k_asm) hli (n := x.length) (by rw [sizeLine_eq]; omega) hle ?_ ?_
  · have he := congrArg List.length hmap
    rw [List.length_map] at he
    rw [he, sizeLine_eq]; exact Nat.le_of_ble_eq_true rfl
  intro h' tk' vs' F' N' S'
  rw [hmap] at S'
  obtain ⟨t1, t2, rfl⟩ := strs_two S'
  refine ⟨by k_in, ?_⟩
  dsimp only
  refine wpAny_call (pair_make (by k_asm) (by k_asm) ?_)
  intro tk'
  k_dflt (refine' code_def ?k1 ?k2 ?k3 ?k4 ?k5 ?kA ?kF ?kK ?k6 ?k7 ?k8 ?k9 ?kB ?_ ?c2 ?c3 ?c4 ?c5; (case kA => exact rfl); (case kF => exact rfl); (case kK => first | exact rfl | assumption); (case k1 => k_asm); (case k2 => k_asm); (case k3 => k_asm); (case k4 => k_asm); (case k5 => k_asm); (case k6 => k_is); (case k7 => k_is); (case k8 => ktr_room); (case k9 => exact BindsTo.of_eq rfl); (case c5 => decide); (case kB => exact locs rfl); (case c2 => exact rfl); (case c3 => exact rfl); (case c4 => exact rfl); k_whole; intro g' L' h' FG' F' N' B' X' T'; (try dsimp only); (try k_lift B'); (try k_fold))
  repeat' (first | (with_reducible refine meth_new (by k_asm) (by k_asm) ?_) | (with_reducible refine attr_strip (by k_asm) (by k_asm) ?_) | ((with_reducible show wpAny _ _ (call (Value.type "map") _) _ _ _); refine Hold.mk ?_) | ((with_reducible show wpAny _ _ (call (Value.ref _) _) _ _ _); refine Hold.mk ?_) | (k_unfold; (try dsimp only)) | (k_end; wrow_close) | walk1 | (dsimp only; walk1) | (leave1; walk_say "STEP leave1"; try dsimp only) | fail "no step")
  k_dflt (refine' tuple_new ?F ?N ?X ?m ?_; (case F => k_asm); (case N => k_asm); (case X => k_asm); (case m => k_mem))
  intro z' d' h' F' N' l1 l2
  (try k_lt l1)
  (try k_lt2 l2)
  (try k_sweep)
  repeat' (first | (with_reducible refine meth_new (by k_asm) (by k_asm) ?_) | (with_reducible refine attr_strip (by k_asm) (by k_asm) ?_) | ((with_reducible show wpAny _ _ (call (Value.type "map") _) _ _ _); refine Hold.mk ?_) | ((with_reducible show wpAny _ _ (call (Value.ref _) _) _ _ _); refine Hold.mk ?_) | (k_unfold; (try dsimp only)) | (k_end; wrow_close) | walk1 | (dsimp only; walk1) | (leave1; walk_say "STEP leave1"; try dsimp only) | fail "no step")
  k_dflt (refine' pairBack ?N ?X ?_; (case N => k_asm); (case X => k_in))
  (try dsimp only)
  repeat' (first | (with_reducible refine meth_new (by k_asm) (by k_asm) ?_) | (with_reducible refine attr_strip (by k_asm) (by k_asm) ?_) | ((with_reducible show wpAny _ _ (call (Value.type "map") _) _ _ _); refine Hold.mk ?_) | ((with_reducible show wpAny _ _ (call (Value.ref _) _) _ _ _); refine Hold.mk ?_) | (k_unfold; (try dsimp only)) | (k_end; wrow_close) | walk1 | (dsimp only; walk1) | (leave1; walk_say "STEP leave1"; try dsimp only) | fail "no step")
  have okA : Okc A9.cps.toList := fun c hc => hok c (by rw [hpq, ← hA]; exact List.mem_append_left _ hc)
  have okB : Okc B9.cps.toList := fun c hc => hok c (by rw [hpq, ← hB]; exact List.mem_append_right _ (.tail _ hc))
  have sA := strip_mid okA
  have sB := strip_mid okB
  have lA := strip_len okA
  have lB := strip_len okB
  have hxl : x.length = pl.length + (ql.length + 1) := by rw [← len_list, hpq]; simp
  have hAl : A9.length = pl.length := by rw [← len_list, hA]
  have hBl : B9.length = ql.length := by rw [← len_list, hB]
  rename _ < _ ∧ _ < _ ∧ AllLt _ _ => hL
  exact ret _ _ _ _ (Txt.strip A9) (Txt.strip B9) _ _ (by rw [sA, hA]) (by rw [sB, hB]) (by omega) (by omega) (by assumption) (news_two (by assumption)) (kst_ltOf hL.2.2) (by assumption)
end Mine
end

section
open PySem PySem.W PyProof.Rows PySem.Calls
set_option compiler.extract_closed false
namespace Mine
theorem item_two {x y : Str} {i j : Int} : (Txt.item x i).length + (Txt.item y j).length ≤ 16777216 := by
  show 1 + 1 ≤ 16777216
  decide
set_option maxHeartbeats 4000000 in
theorem text_call {prog : Program} {w : World} {p : Program} {loose : List Str} {mean : ExcName → Option Value} {mg mb : Str → Option Value}
    {dp un : Nat} {gd : Option (List Code)} {cn : Str} {cs : Scope} {a : Addr} {ccd : Value} {cl : List (Str × Addr)} {outer : List Env} {A₀ : Around} {base h₀ : Heap} {L : Addr} {m : Str → Option Value} {news : List (Addr × Obj)} {s : Shared}
    {Q E : Value → Shared → Prop} {l : Nat} {vs : List Value} {ns : List Int}
    (B : Below A₀ base outer h₀) (F : Fr h₀ L s.heap m) (X : (hd.heap_39 w.params).In h₀) (N : News h₀ L s.heap ((l, LCg.lst vs) :: news)) (T : Top p loose mean mg mb h₀) (hk : cs.kind = .function)
    (hi : IntsAre vs ns) (hn : ns.length ≤ 10) (hd : dp + 16 < recursionLimit) (hu : un + 160 < cLine) 
    (ret : ∀ (t : Nat) (x : Str) h' tk', x.length ≤ 50 → Okc x.cps.toList → Fr h₀ L h' m → News h₀ L h' news → Q (.str x t) { s with heap := h', toks := tk' }) :
    wpAny (model prog w) (ktrTop dp un gd cn cs L a ccd cl outer) (call (.ref 241) [.ref l]) Q E s := by
  w_top off
  refine fill ?_
  k_fill
  intro _ _
  refine wpAny_call ?_
  k_dflt (refine' code_defC ?k1 ?k2 ?k3 ?k4 ?k5 ?kA ?kF ?kK ?k6 ?k7 ?k8 ?k9 ?kB ?kD ?_ ?c2 ?c3 ?c4; (case kA => exact rfl); (case kF => exact rfl); (case kK => assumption); (case k1 => k_asm); (case k2 => k_asm); (case k3 => k_asm); (case k4 => k_asm); (case k5 => k_asm); (case k6 => k_is); (case k7 => k_is); (case k8 => ktr_room); (case k9 => exact BindsTo.of_eq rfl); (case kB => exact rfl); (case kD => decide +kernel); (case c2 => exact rfl); (case c3 => exact rfl); (case c4 => exact rfl); k_whole; intro g' L' h' tk' cells' FG' F' N' Y' B' X' T' l1; have l0 := l1; (try k_lt l1); k_cells Y'; (try simp only [List.cons_append, List.nil_append] at N'); (try dsimp only); (try k_fold))
  clear F N
  have kMark : KstMark := kstMark
  have hA9 : ∀ p ∈ news, p.1 < L' + 1 := fun p hp => Nat.lt_succ_of_lt (l0 p (.tail _ hp))
  repeat' (first | ((with_reducible show LCg.CompSrc ..); refine Hold.mk ?_) | ((with_reducible show wpAny _ _ (binaryOp _ (Value.str _ _) (Value.str _ _)) _ _ _); refine Hold.mk ?_) | (k_unfold; (try dsimp only)) | (k_end; wrow_close) | walk1 | (dsimp only; walk1) | (leave1; walk_say "STEP leave1"; try dsimp only) | fail "no step")
  refine Hold.out ?_
  k_dflt (refine LCg.CompSrc.ledger (by rfl) (by k_asm) (by k_asm) (by k_mem) (by rw [List.size_toArray, hi.length, PySem.sizeLine_eq]; omega) ?_; intro g9; (refine' kct_list gTxt hi (fun k' t' I' oI' C' oC' D' m' ys' h' tk' E' hk' hC' hx' F' N' off' ne' hMark' => ?turn) ?fin))
  case turn =>
    repeat' (first | ((with_reducible show LCg.CompSrc ..); refine Hold.mk ?_) | ((with_reducible show wpAny _ _ (binaryOp _ (Value.str _ _) (Value.str _ _)) _ _ _); refine Hold.mk ?_) | (k_unfold; (try dsimp only)) | (k_end; wrow_close) | walk1 | (dsimp only; walk1) | (leave1; walk_say "STEP leave1"; try dsimp only) | fail "no step")
    refine Hold.out ?_
    refine KOpn.add item_two ?_
    intro _ _ _
    repeat' (first | ((with_reducible show LCg.CompSrc ..); refine Hold.mk ?_) | ((with_reducible show wpAny _ _ (binaryOp _ (Value.str _ _) (Value.str _ _)) _ _ _); refine Hold.mk ?_) | (k_unfold; (try dsimp only)) | (k_end; wrow_close) | walk1 | (dsimp only; walk1) | (leave1; walk_say "STEP leave1"; try dsimp only) | fail "no step")
    refine LCg.CompEnd.intro (by assumption) (by assumption) _ (fun p hp => hp) off' (by first | lcg_src | assumption) (kct_el (by rfl) rfl rfl)
  case fin =>
    unfold KPfDone
    intro ys hys hlen
    have hj9 := join_ok ns
    have hj8 := text_ok ns hn
    have hj6 : (Str.ofString "\ta ").length = 3 := by decide
    have hj7 : 0 ≤ (Txt.join (Str.ofString "") (List.map gTxt ns)).length ∧ (Txt.join (Str.ofString "") (List.map gTxt ns)).length ≤ 20 := ⟨Nat.zero_le _, by have := hj9.2; omega⟩
    repeat' (first | ((with_reducible show LCg.CompSrc ..); refine Hold.mk ?_) | ((with_reducible show wpAny _ _ (binaryOp _ (Value.str _ _) (Value.str _ _)) _ _ _); refine Hold.mk ?_) | (k_unfold; (try dsimp only)) | (k_end; wrow_close) | walk1 | (dsimp only; walk1) | (leave1; walk_say "STEP leave1"; try dsimp only) | fail "no step")
    refine Hold.out ?_
    refine KOpn.add (by omega) ?_
    intro _ _ _
    repeat' (first | ((with_reducible show LCg.CompSrc ..); refine Hold.mk ?_) | ((with_reducible show wpAny _ _ (binaryOp _ (Value.str _ _) (Value.str _ _)) _ _ _); refine Hold.mk ?_) | (k_unfold; (try dsimp only)) | (k_end; wrow_close) | walk1 | (dsimp only; walk1) | (leave1; walk_say "STEP leave1"; try dsimp only) | fail "no step")
    exact ret _ _ _ _ hj8.2 hj8.1 (by assumption) (kst_newsOf (by assumption) (by intro p hp; repeat (first | exact hp | refine List.Mem.tail _ ?_)))
end Mine
end

section
open PySem PySem.W PyProof.Rows PySem.Calls
set_option compiler.extract_closed false
namespace Mine
set_option maxHeartbeats 4000000 in
theorem name_call {prog : Program} {w : World} {p : Program} {loose : List Str} {mean : ExcName → Option Value} {mg mb : Str → Option Value}
    {dp un : Nat} {gd : Option (List Code)} {cn : Str} {cs : Scope} {a : Addr} {ccd : Value} {cl : List (Str × Addr)} {outer : List Env} {A₀ : Around} {base h₀ : Heap} {L : Addr} {m : Str → Option Value} {news : List (Addr × Obj)} {s : Shared} {z d : Addr} {x y : Value}
    {Q E : Value → Shared → Prop}
    (B : Below A₀ base outer h₀) (F : Fr h₀ L s.heap m) (X : (hd.heap_39 w.params).In h₀) (N : News h₀ L s.heap news) (T : Top p loose mean mg mb h₀) (hk : cs.kind = .function)
    (hz : (z, pairObj d x y) ∈ news) (hd : dp + 16 < recursionLimit) (hu : un + 160 < cLine) 
    (ret : ∀ h' tk', Fr h₀ L h' m → News h₀ L h' news → Q x { s with heap := h', toks := tk' }) :
    wpAny (model prog w) (ktrTop dp un gd cn cs L a ccd cl outer).in1 (call (.ref 43) [.ref 124, .ref z, .ref 155]) Q E s := by
  w_top off
  refine fill ?_
  k_fill
  intro _ _
  refine wpAny_call ?_
  k_dflt (refine' code_def ?k1 ?k2 ?k3 ?k4 ?k5 ?kA ?kF ?kK ?k6 ?k7 ?k8 ?k9 ?kB ?_ ?c2 ?c3 ?c4 ?c5; (case kA => exact rfl); (case kF => exact rfl); (case kK => first | exact rfl | assumption); (case k1 => k_asm); (case k2 => k_asm); (case k3 => k_asm); (case k4 => k_asm); (case k5 => k_asm); (case k6 => k_is); (case k7 => k_is); (case k8 => ktr_room); (case k9 => first | exact BindsTo.of_eq rfl | exact binds_K (by k_in) rfl (by k_is) rfl rfl rfl); (case c5 => decide); (case kB => exact locs rfl); (case c2 => exact rfl); (case c3 => exact rfl); (case c4 => exact rfl); k_whole; intro g' L' h' FG' F' N' B' X' T'; (try dsimp only); (try k_lift B'); (try k_fold))
  clear F N
  repeat' (first | (with_reducible refine meth_item (by k_asm) (by k_asm) ?_) | (k_unfold; (try dsimp only)) | (k_end; wrow_close) | walk1 | (dsimp only; walk1) | (leave1; walk_say "STEP leave1"; try dsimp only) | fail "no step")
  refine' type_pair ?N ?hz ?_; (case N => k_asm); (case hz => k_mem)
  repeat' (first | (with_reducible refine meth_item (by k_asm) (by k_asm) ?_) | (k_unfold; (try dsimp only)) | (k_end; wrow_close) | walk1 | (dsimp only; walk1) | (leave1; walk_say "STEP leave1"; try dsimp only) | fail "no step")
  refine' sub_pair ?F ?X ?_; (case F => k_asm); (case X => k_asm)
  repeat' (first | (with_reducible refine meth_item (by k_asm) (by k_asm) ?_) | (k_unfold; (try dsimp only)) | (k_end; wrow_close) | walk1 | (dsimp only; walk1) | (leave1; walk_say "STEP leave1"; try dsimp only) | fail "no step")
  refine' item_pair ?F ?X ?N ?hz ?hk ?_; (case F => k_asm); (case N => k_asm); (case X => k_asm); (case hz => k_mem); (case hk => first | exact .inl ⟨rfl, rfl⟩ | exact .inr ⟨rfl, rfl⟩)
  repeat' (first | (with_reducible refine meth_item (by k_asm) (by k_asm) ?_) | (k_unfold; (try dsimp only)) | (k_end; wrow_close) | walk1 | (dsimp only; walk1) | (leave1; walk_say "STEP leave1"; try dsimp only) | fail "no step")
  exact ret _ _ (by assumption) (by assumption)
set_option maxHeartbeats 4000000 in
theorem value_call {prog : Program} {w : World} {p : Program} {loose : List Str} {mean : ExcName → Option Value} {mg mb : Str → Option Value}
    {dp un : Nat} {gd : Option (List Code)} {cn : Str} {cs : Scope} {a : Addr} {ccd : Value} {cl : List (Str × Addr)} {outer : List Env} {A₀ : Around} {base h₀ : Heap} {L : Addr} {m : Str → Option Value} {news : List (Addr × Obj)} {s : Shared} {z d : Addr} {x y : Value}
    {Q E : Value → Shared → Prop}
    (B : Below A₀ base outer h₀) (F : Fr h₀ L s.heap m) (X : (hd.heap_39 w.params).In h₀) (N : News h₀ L s.heap news) (T : Top p loose mean mg mb h₀) (hk : cs.kind = .function)
    (hz : (z, pairObj d x y) ∈ news) (hd : dp + 16 < recursionLimit) (hu : un + 160 < cLine) 
    (ret : ∀ h' tk', Fr h₀ L h' m → News h₀ L h' news → Q y { s with heap := h', toks := tk' }) :
    wpAny (model prog w) (ktrTop dp un gd cn cs L a ccd cl outer).in1 (call (.ref 43) [.ref 127, .ref z, .ref 155]) Q E s := by
  w_top off
  refine fill ?_
  k_fill
  intro _ _
  refine wpAny_call ?_
  k_dflt (refine' code_def ?k1 ?k2 ?k3 ?k4 ?k5 ?kA ?kF ?kK ?k6 ?k7 ?k8 ?k9 ?kB ?_ ?c2 ?c3 ?c4 ?c5; (case kA => exact rfl); (case kF => exact rfl); (case kK => first | exact rfl | assumption); (case k1 => k_asm); (case k2 => k_asm); (case k3 => k_asm); (case k4 => k_asm); (case k5 => k_asm); (case k6 => k_is); (case k7 => k_is); (case k8 => ktr_room); (case k9 => first | exact BindsTo.of_eq rfl | exact binds_K (by k_in) rfl (by k_is) rfl rfl rfl); (case c5 => decide); (case kB => exact locs rfl); (case c2 => exact rfl); (case c3 => exact rfl); (case c4 => exact rfl); k_whole; intro g' L' h' FG' F' N' B' X' T'; (try dsimp only); (try k_lift B'); (try k_fold))
  clear F N
  repeat' (first | (with_reducible refine meth_item (by k_asm) (by k_asm) ?_) | (k_unfold; (try dsimp only)) | (k_end; wrow_close) | walk1 | (dsimp only; walk1) | (leave1; walk_say "STEP leave1"; try dsimp only) | fail "no step")
  refine' type_pair ?N ?hz ?_; (case N => k_asm); (case hz => k_mem)
  repeat' (first | (with_reducible refine meth_item (by k_asm) (by k_asm) ?_) | (k_unfold; (try dsimp only)) | (k_end; wrow_close) | walk1 | (dsimp only; walk1) | (leave1; walk_say "STEP leave1"; try dsimp only) | fail "no step")
  refine' sub_pair ?F ?X ?_; (case F => k_asm); (case X => k_asm)
  repeat' (first | (with_reducible refine meth_item (by k_asm) (by k_asm) ?_) | (k_unfold; (try dsimp only)) | (k_end; wrow_close) | walk1 | (dsimp only; walk1) | (leave1; walk_say "STEP leave1"; try dsimp only) | fail "no step")
  refine' item_pair ?F ?X ?N ?hz ?hk ?_; (case F => k_asm); (case N => k_asm); (case X => k_asm); (case hz => k_mem); (case hk => first | exact .inl ⟨rfl, rfl⟩ | exact .inr ⟨rfl, rfl⟩)
  repeat' (first | (with_reducible refine meth_item (by k_asm) (by k_asm) ?_) | (k_unfold; (try dsimp only)) | (k_end; wrow_close) | walk1 | (dsimp only; walk1) | (leave1; walk_say "STEP leave1"; try dsimp only) | fail "no step")
  exact ret _ _ (by assumption) (by assumption)
theorem name_get {prog : Program} {w : World} {p : Program} {loose : List Str} {mean : ExcName → Option Value} {mg mb : Str → Option Value}
    {dp un : Nat} {gd : Option (List Code)} {cn : Str} {cs : Scope} {a : Addr} {ccd : Value} {cl : List (Str × Addr)} {outer : List Env} {A₀ : Around} {base h₀ : Heap} {L : Addr} {m : Str → Option Value} {news : List (Addr × Obj)} {s : Shared} {z d : Addr} {x y : Value}
    {Q E : Value → Shared → Prop}
    (B : Below A₀ base outer h₀) (F : Fr h₀ L s.heap m) (X : (hd.heap_39 w.params).In h₀) (N : News h₀ L s.heap news) (T : Top p loose mean mg mb h₀) (hk : cs.kind = .function)
    (hz : (z, pairObj d x y) ∈ news) (he : (d, emptyDict) ∈ news) (hh : handedIn x = true) (hd : dp + 16 < recursionLimit) (hu : un + 160 < cLine)
    (ret : ∀ h' tk', Fr h₀ L h' m → News h₀ L h' news → Q x { s with heap := h', toks := tk' }) :
    wpAny (model prog w) (ktrTop dp un gd cn cs L a ccd cl outer) (getAttr (.ref z) (Str.ofString "name") true) Q E s :=
  pair_attr (X.keeps F.keep) (N _ hz).1 (N _ he).1 (fi_name w) (sg_name w) (tk_name w)
    (name_call (s := { s with toks := s.toks + 1 }) B F X N T hk hz hd hu fun h' tk' F' N' => ⟨hh, ret h' tk' F' N'⟩)
theorem value_get {prog : Program} {w : World} {p : Program} {loose : List Str} {mean : ExcName → Option Value} {mg mb : Str → Option Value}
    {dp un : Nat} {gd : Option (List Code)} {cn : Str} {cs : Scope} {a : Addr} {ccd : Value} {cl : List (Str × Addr)} {outer : List Env} {A₀ : Around} {base h₀ : Heap} {L : Addr} {m : Str → Option Value} {news : List (Addr × Obj)} {s : Shared} {z d : Addr} {x y : Value}
    {Q E : Value → Shared → Prop}
    (B : Below A₀ base outer h₀) (F : Fr h₀ L s.heap m) (X : (hd.heap_39 w.params).In h₀) (N : News h₀ L s.heap news) (T : Top p loose mean mg mb h₀) (hk : cs.kind = .function)
    (hz : (z, pairObj d x y) ∈ news) (he : (d, emptyDict) ∈ news) (hh : handedIn y = true) (hd : dp + 16 < recursionLimit) (hu : un + 160 < cLine)
    (ret : ∀ h' tk', Fr h₀ L h' m → News h₀ L h' news → Q y { s with heap := h', toks := tk' }) :
    wpAny (model prog w) (ktrTop dp un gd cn cs L a ccd cl outer) (getAttr (.ref z) (Str.ofString "value") true) Q E s :=
  pair_attr (X.keeps F.keep) (N _ hz).1 (N _ he).1 (fi_value w) (sg_value w) (tk_value w)
    (value_call (s := { s with toks := s.toks + 1 }) B F X N T hk hz hd hu fun h' tk' F' N' => ⟨hh, ret h' tk' F' N'⟩)
end Mine
end

section
open PySem PySem.W PyProof.Rows PySem.Calls
open PySem.Sem (wp)
namespace Mine
section
variable {α : Type} {prog : Program} {w : World} {M : Model} {A A₀ : Around} {E : Value → Shared → Prop} {s : Shared} {K : Frag} {R : Result → Shared → Prop}
theorem no_mark {l : List Code} (h : ∃ c ∈ l, c.isCaller = true) (own : List String) : pythonCodeMadeTheCall own l = false := by
  have e : l.any Code.isCaller = true := by
    obtain ⟨c, hc, h⟩ := h
    exact List.any_eq_true.mpr ⟨c, hc, h⟩
  show (!(l.any Code.isCaller) && _ && _) = false
  rw [e]
  rfl
theorem mark_C {e : Value} {own : List String} {Q : Unit → Shared → Prop} (h : Q () s) : wpC M A (markTheRefusal own e) Q E s := by
  unfold markTheRefusal
  refine wpC_bind (wpC_stack fun st hst => wpC_of ?_)
  have hn : pythonCodeMadeTheCall own (st.map (·.1)) = false := no_mark (by
    obtain ⟨q, hq, h⟩ := hst
    exact ⟨q.1, List.mem_map_of_mem hq, h⟩) own
  rw [if_neg (by rw [hn]; decide)]
  exact wpAny_pure h
theorem refuse_C {msg : String} {Q : α → Shared → Prop} (hh : A.handled = none) (hm : (msg : Str).length ≤ sizeLine)
    (h : ∀ h' tk e, Heap.NewExc s.heap h' e "TypeError" → E (.ref e) { s with heap := h', toks := tk }) : wpC M A (theBinderRefuses msg : Sem α) Q E s := by
  unfold theBinderRefuses
  refine wpC_bindA (wpAny_mkStr (wpC_bindA ?_) hm)
  unfold newExc newTuple
  refine wpAny_bind (wpAny_newObj_type ?_)
  refine wpAny_bind (m := firstArgMember _ _) (wpAny_of_eq (a := Value.none) (by simp only [firstArgMember, typeError_no_first]; rfl) ?_)
  rw [ownMembersOf_TypeError]
  refine wpAny_newObj_type ?_
  refine wpC_bind (mark_C (wpC_of ?_))
  unfold raiseNew
  refine wpAny_bind (wpAny_handled ?_)
  rw [hh]
  first
    | refine wpAny_throw ?_
    | refine wpAny_bind (wpAny_pure (wpAny_throw ?_))
  exact h _ _ _ ⟨fun b o hb => Heap.get?_push_of_some _ (Heap.get?_push_of_some _ hb), Heap.get?_none_of_le (by simp), _, .ref s.heap.objs.size, Heap.get?_push_size _ rfl, rfl, by simp⟩
theorem codeC_refuses {f : Addr} {name qual : Str} {params : Arguments} {body : List Stmt} {scope : Scope} {dV kV doc pm cdv ct oc : Value} {an od : Option Addr} {osl : Array (Option Value)} {args : Args} {tag msg : String}
    (X : K.In s.heap) (ho : K.lookup f = some ⟨oc, od, .func (fnOf name qual params body scope dV kV doc pm an cdv ct), osl⟩) (hcd : codeIn K cdv qual = true) (hroom : A.depth < recursionLimit) (hh : A.handled = none)
    {rest : PUnit → Sem (List (Str × Value))} (hb : bindArgs (fnOf name qual params body scope dV kV doc pm an cdv ct) args = (rule tag >>= fun _ => (theBinderRefuses msg : Sem PUnit) >>= rest)) (hm : (msg : Str).length ≤ sizeLine) (hco : scope.isCoroutine = false) (hgen : scope.isGenerator = false)
    (h : ∀ h' tk e, Heap.NewExc s.heap h' e "TypeError" → R (.error (.ref e)) { s with heap := h', toks := tk }) : codeC (model prog w) A (.call (.ref f) args) R s := by
  refine codeC_function (fd := fnOf name qual params body scope dV kV doc pm an cdv ct) (body := body) hroom (X _ _ ho) rfl hco hgen rfl (codeRec_of X hcd) ?_
  rw [hb]
  exact wpC_bindA (wpAny_rule (wpC_bind (refuse_C (A := A.in1) hh hm h)))
end
section
variable {prog : Program} {w : World} {A : Around} {s : Shared} {R : Result → Shared → Prop} {v : Value}
set_option maxHeartbeats 2000000 in
theorem new_refuses (X : (hd.heap_39 w.params).In s.heap) (hroom : A.depth < recursionLimit) (hh : A.handled = none)
    (h : ∀ h' tk e, Heap.NewExc s.heap h' e "TypeError" → R (.error (.ref e)) { s with heap := h', toks := tk }) : codeC (model prog w) A (.call (.ref 82) ⟨[.ref 155, v], []⟩) R s := by
  w_top off
  refine fill ?_
  k_fill
  intro _ _
  refine' codeC_refuses X ?ho ?hcd hroom hh ?hb ?hm ?hco ?hgen h
  case ho => k_is
  case hcd => k_is
  case hb => exact rfl
  case hm => exact Nat.le_of_ble_eq_true (by kernel_rfl)
  case hco => exact rfl
  case hgen => exact rfl
end
end Mine
end

section
open PySem PySem.W PyProof.Rows PySem.Calls
open PySem.Sem (wp)
namespace Mine
section
variable {prog : Program} {w : World} {A : Around} {E : Value → Shared → Prop} {s : Shared} {h₀ : Heap} {L : Addr} {m : Str → Option Value} {a : Value} {R : Result → Shared → Prop}
theorem codeC_builtin_at {id : String} {args : Args} {b : Builtin} (hq : (Code.builtin id args).quiet = true) (hb : entryFor table id = some b)
    (h : wpAny (model prog w) A.in1 (checkBuiltinCall id args) (fun _ s₁ => wpC (model prog w) (A.under (.builtin id args)) (b args)
      (fun fin s' => match fin with | .done f => R (.ok f) s' | .again c' => c'.quiet = true ∧ codeC (model prog w) A c' R s') (fun e s' => R (.error e) s') s₁)
      (fun e s' => R (.error e) s') s) : codeC (model prog w) A (.call (.builtin id) args) R s := by
  refine codeC_of_tree ?_
  show wpC _ A.in1 (do checkBuiltinCall id args; again (.builtin id args)) _ _ s
  refine wpC_bindA (wpAny_mono h (fun _ s₁ h₁ => wpC_of (wpAny_pure (And.intro hq (codeC_of_tree ?_)))) fun _ _ h' => h')
  show wpC _ _ (match entryFor table id with | some b => b args | none => unsupported ((withoutEnding? id "#data").getD id)) _ _ s₁
  rw [hb]; exact h₁
set_option maxHeartbeats 4000000 in
theorem pair_refuses (F : Fr h₀ L s.heap m) (X₀ : (KK w).In h₀) (hroom : (A.under (.builtin "type.__call__" ⟨[.ref 155, a], []⟩)).depth < recursionLimit) (hh : A.handled = none)
    (h : ∀ h' tk e, Heap.NewExc s.heap h' e "TypeError" → R (.error (.ref e)) { s with heap := h', toks := tk }) :
    codeC (model prog w) A (.call (.ref 155) ⟨[a], []⟩) R s := by
  have X := X₀.keeps F.keep
  have hC : s.heap.get? 155 = some pairCls := X _ _ (lk155 w)
  have call : Looks (model prog w) s.heap (specialOf (.ref 155) "__call__") (some (.builtin "type.__call__")) := Looks.of_peek X (pk_call prog w)
  have typ : Looks (model prog w) s.heap (isInstance (.ref 155) (.type "type")) true := Looks.of_peek X (pk_inst prog w)
  have hm : Looks (model prog w) s.heap (mroOf (.ref 155)) _ := Looks.of_peek X (pk_mro prog w)
  have made : Looks (model prog w) s.heap (Bind.madeBy (.ref 155)) none := Looks.of_peek X (pk_madeBy prog w)
  obtain ⟨hp, g, d, t, os⟩ := s
  refine codeC_of_tree (wpC_of ?_)
  show wpAny _ _ (callAny (.ref 155) _) _ _ _
  refine nd_load hC ?_
  show wpAny _ _ (callAny.viaDunder (.ref 155) _) _ _ _
  unfold callAny.viaDunder
  refine wpAny_bind (call.at ?_)
  dsimp only
  rw [tc_bind]
  refine wpAny_bind (wpAny_pure (wpAny_bind (wpAny_pure ?_)))
  refine wpAny_pure (a := Fin.again (.call (.builtin "type.__call__") ⟨.ref 155 :: [a], []⟩)) (And.intro rfl ?_)
  refine codeC_builtin_at (Code.quiet_builtin _ (by decide +kernel)) entry_typeCall (check_slot tc_kind tc_split typ (tc_args _ _ _) ?_)
  unfold Builtin.«type.__call__»
  dsimp only
  rw [if_neg (by decide)]
  refine wpC_bindA (hm.at ?_)
  rw [if_neg (by decide)]
  refine wpC_bindA (made.at ?_)
  dsimp only
  refine wpC_bindA (cls_sm F X₀ (ty155 w) (rd155 w) (fc_new w) (rec133 w) (by decide +kernel) ?_)
  refine wpC_bind (wpC_holding (wpC_call (codeC_mono (new_refuses (v := a) X hroom ?_ (R := fun r s' => ∃ h' tk e, Heap.NewExc hp h' e "TypeError" ∧ r = .error (.ref e) ∧ s' = ⟨h', g, d, tk, os⟩) fun h' tk e x => ⟨h', tk, e, x, rfl, rfl⟩) fun r s' z => ?_)))
  · exact hh
  · obtain ⟨h', tk, e, x, rfl, rfl⟩ := z
    exact h h' tk e x
end
end Mine
end

section
open PySem PySem.W PyProof.Rows PySem.Calls
open PySem.Sem (wp)
namespace Mine
theorem enterC {M : Model} {A : Around} {s : Shared} {f : Value} {pos : List Value} {kw : List (Str × Value)} {c : ClaimW} {cl : Str → Option Addr} {mean : ExcName → Option Value} {args : List WData} {s₁ : Shared}
    (h : codeC M A (.call f ⟨pos, kw⟩) (GoodW c cl mean args s₁) s) : wpC M A (PySem.call f pos kw) (fun v s' => GoodWG c cl mean args s₁ (.ok (.ret v)) s') (fun e s' => GoodWG c cl mean args s₁ (.error e) s') s :=
  wpC_call (codeC_mono h fun res s' g => by
    have g' := g.toG
    rcases g.1 with ⟨v, _, _, rfl, _⟩ | ⟨e, _, _, rfl, _⟩ <;> exact g')
theorem fullC {prog : Program} {w : World} {A : Around} {R : Result → Shared → Prop} {s : Shared} {name : Str} {params : Arguments} {body : List Stmt} {scope : Scope}
    {dV kV pm cd doc : Value} {a : Addr} {o : Obj} {args : Args} {binds : List (Str × Value)}
    (hroom : A.depth < recursionLimit) (ho : s.heap.get? a = some o) (hdata : o.data = .func { docDef name params body scope pm cd doc with defaults := dV, kwdefaults := kV }) (hlim : s.heap.NoLimit) (hcd : s.heap.CodeRec cd name)
    (hbind : BindsTo s { docDef name params body scope pm cd doc with defaults := dV, kwdefaults := kV } args binds)
    (hloc : ∀ x ∈ binds, scope.names.lookup x.1 = some .local)
    (h : ∀ h₁, Fr s.heap s.heap.objs.size h₁ (fun x => binds.reverse.lookup x) →
      wpC (model prog w) (A.deeper (envOf name scope s.heap.objs.size a cd)) (execs body (envOf name scope s.heap.objs.size a cd))
        (fun f s' => R (.ok (.ret (match f with | .ret v => v | _ => .none))) s')
        (fun e s' => wpAny (model prog w) (A.deeper (envOf name scope s.heap.objs.size a cd)) (leaving (envOf name scope s.heap.objs.size a cd) e)
          (fun _ s'' => R (.error e) s'') (fun e' s'' => R (.error e') s'') s')
        { s with heap := h₁, toks := s.toks + binds.length })
    (hco : scope.isCoroutine = false := by rfl) (hgen : scope.isGenerator = false := by rfl) (hk : scope.kind = .function := by rfl)
    (hcell : ∀ x ∈ scope.names, x.2 ≠ .cell := by decide) :
    codeC (model prog w) A (.call (.ref a) args) R s :=
  codeC_call hroom ho hdata hlim hcd rfl hbind hcell hloc (fun h₁ hns hkeep => h h₁ ⟨hns, hkeep, Nat.le_refl _⟩) hco hgen hk
end Mine
end

section
open PySem PySem.W PyProof.Rows PySem.Calls
set_option compiler.extract_closed false
namespace Mine
theorem wpC_callWith_K {M : Model} {A : Around} {E : Value → Shared → Prop} {s : Shared} {env : Env} {f : Value} {first : List Value} {pos : Pos} {Q : Value → Shared → Prop} {P : Heap → Prop} {e : Expr} {rest : List Expr}
    (hk : ∀ h, P h → ∃ k, (k = Keeper.frame ∨ k = Keeper.machine ∨ k = Keeper.boundFrame) ∧ Looks M h (keeperOf f) k)
    (h : wpAny M A (spliced (backTo pos (starEach (e :: rest) env))) (fun vs s₁ => P s₁.heap ∧ wpC M A (call f (first ++ vs)) Q E s₁) E s)
    (he : starEach (e :: rest) env = (false, eval e env) :: starEach rest env := by rfl) : wpC M A (callWith pos f first (backTo pos (starEach (e :: rest) env)) []) Q E s := by
  rw [he] at h ⊢
  exact wpC_callWith hk (evalArgs_plain h)
theorem gone_ok {x : Str} (hx : x.length ≤ 50) (hok : Okc x.cps.toList) : 61 ∉ (Txt.replace x (Str.ofString "=") (Str.ofString "")).cps.toList ∧ Okc (Txt.replace x (Str.ofString "=") (Str.ofString "")).cps.toList ∧ (Txt.replace x (Str.ofString "=") (Str.ofString "")).length ≤ 50 := by
  have e : (Txt.replace x (Str.ofString "=") (Str.ofString "")).cps.toList = x.cps.toList.filter (· != 61) := by
    have e0 : Str.ofString "" = ⟨#[]⟩ := by decide
    rw [eq_mk, e0, replace_strikes]
  refine ⟨?_, ?_, ?_⟩
  · rw [e]
    intro h
    have := (List.mem_filter.mp h).2
    exact absurd this (by decide)
  · rw [e]
    exact fun c hc => hok c (List.mem_filter.mp hc).1
  · rw [← len_list, e]
    exact Nat.le_trans (List.length_filter_le _ _) (by rw [len_list]; exact hx)
theorem wpC_callWith_S {M : Model} {A : Around} {E : Value → Shared → Prop} {s : Shared} {env : Env} {f : Value} {first : List Value} {pos p : Pos} {Q : Value → Shared → Prop} {P : Heap → Prop} {e : Expr}
    (hk : ∀ h, P h → ∃ k, (k = Keeper.frame ∨ k = Keeper.machine ∨ k = Keeper.boundFrame) ∧ Looks M h (keeperOf f) k)
    (h : wpAny M A (eval e env) (fun v s₁ => StarOf M A E v (fun vs s₂ => P s₂.heap ∧ wpC M A (call f (first ++ vs)) Q E s₂) s₁) E s)
    (he : starEach [.Starred e p] env = [(true, eval e env)] := by rfl) :
    wpC M A (callWith pos f first (backTo pos (starEach [.Starred e p] env)) []) Q E s := by
  rw [he]
  exact wpC_callWith hk (ks_lone h)
theorem take_ten {α β : Type} (f : α → β) (l : List α) : (List.map f (List.take 10 l)).length ≤ 10 := by
  rw [List.length_map, List.length_take]; exact Nat.min_le_left _ _
theorem news_one {h₀ h : Heap} {L : Addr} {a b c : Addr × Obj} {l : List (Addr × Obj)} (N : News h₀ L h (a :: b :: c :: l)) : News h₀ L h (a :: b :: l) := fun p hp => by
  rcases List.mem_cons.mp hp with rfl | hp
  · exact N _ (.head _)
  rcases List.mem_cons.mp hp with rfl | hp
  · exact N _ (.tail _ (.head _))
  exact N _ (.tail _ (.tail _ (.tail _ hp)))
theorem side_hw {A S : Str} {pl : List Nat} (h1 : A.cps.toList = mid pl) (h2 : S.cps.toList = pl) : A.cps.toList = mid S.cps.toList := by rw [h1, h2]
theorem cut_left {row : Str} {pl ql : List Nat} (hrl : row.length ≤ 51) (hpq : row.cps.toList = pl ++ 61 :: ql) (hf : Txt.find row (Str.ofString "=") = (pl.length : Int)) :
    (Txt.slice row none (some (Txt.find row (Str.ofString "=")))).cps.toList = pl ∧ (Txt.slice row none (some (Txt.find row (Str.ofString "=")))).length ≤ 100 := by
  have hl : row.length = pl.length + (ql.length + 1) := by rw [← len_list, hpq]; simp
  have e : (Txt.slice row none (some (Txt.find row (Str.ofString "=")))).cps.toList = pl := by
    rw [hf, slc_to (by omega) (by omega), hpq]
    simp
  refine ⟨e, ?_⟩
  rw [← len_list, e]; omega
theorem cut_right {row : Str} {pl ql : List Nat} (hrl : row.length ≤ 51) (hpq : row.cps.toList = pl ++ 61 :: ql) (hf : Txt.find row (Str.ofString "=") = (pl.length : Int)) :
    (Txt.slice row (some (Txt.find row (Str.ofString "=") + 1)) none).cps.toList = ql ∧ (Txt.slice row (some (Txt.find row (Str.ofString "=") + 1)) none).length ≤ 100 := by
  have hl : row.length = pl.length + (ql.length + 1) := by rw [← len_list, hpq]; simp
  have e : (Txt.slice row (some (Txt.find row (Str.ofString "=") + 1)) none).cps.toList = ql := by
    rw [hf, slc_from (by omega) (by omega), hpq]
    have : ((pl.length : Int) + 1).toNat = pl.length + 1 := by omega
    rw [this, show pl ++ 61 :: ql = (pl ++ [61]) ++ ql by simp, List.drop_append_of_le_length (by simp), List.drop_of_length_le (by simp)]
    simp
  refine ⟨e, ?_⟩
  rw [← len_list, e]; omega
theorem stored_off {z : Str} (h : [Str.ofString "row", Str.ofString "first", Str.ofString "told"].contains z = false) : z ≠ Str.ofString "row" ∧ z ≠ Str.ofString "first" ∧ z ≠ Str.ofString "told" := by
  refine ⟨?_, ?_, ?_⟩ <;> (rintro rfl; revert h; decide)
theorem range_sz (n : Nat) : Builtin.Range.rangeSize 0 ((n : Int) + 1) 1 = ((n + 1 : Nat) : Int) := by
  rw [rangeSize_nat]; omega
set_option maxHeartbeats 8000000 in
theorem law_holds : PySem.Challenge.rw_ij0094_01.Holds := by
  exact hd (by
    k_fill
    intro w s₀ s₁ mg mb G Y fa o pm cd doc dV kV ho hdd hcd hD hmg hg args vals as hpre hlay hrd hwl hlo
    have KX := kIn_of Y
    refine Ground.open G ?_
    intro T B D TE TW
    try (refine guard_noD D (by decide +kernel) ?_; clear D)
    obtain ⟨_, _, M⟩ := bmod_of_top T
    have TA := at_of_top T
    clear hmg
    wrow_args hpre hlay hrd hwl hlo
    refine enterC ?_
    w_top on
    have K0 := below_caller (Top.heap T)
    have he := Dflts.none hD rfl
    subst he
    refine fullC (by decide) ho hdd (Top.nolimit T) hcd (BindsTo.of_eq rfl) (locs rfl) fun h₁ F => ?_
    w_binds F
    have N0 := (News.nil : News _ _ _ []).at F
    clear hdd TA
    k_drop
    (all_goals try k_fold)
    refine wpC_execs_cons (wpC_of ?_)
    repeat' (first | ((with_reducible show wpAny _ _ (call (Value.ref _) _) _ _ _); refine Hold.mk ?_) | ((with_reducible show wpAny _ _ (call (Value.type "map") _) _ _ _); refine Hold.mk ?_) | ((with_reducible show wpAny _ _ (getAttr (Value.ref _) _ true) _ _ _); refine Hold.mk ?_) | ((with_reducible show wpAny _ _ (storeName _ (Str.ofString "row") (Value.str (_ ++ _ ++ _) _)) _ _ _); refine Hold.mk ?_) | ((with_reducible show wpAny _ _ (pyIter (Value.ref _)) _ _ _); refine Hold.mk ?_) | (k_unfold; (try dsimp only)) | (k_end; wrow_close) | walk1 | (dsimp only; walk1) | (leave1; walk_say "STEP leave1"; try dsimp only) | fail "no step")
    refine Hold.out ?_
    refine' text_call ?B ?F ?X ?N ?T ?hk ?hi ?hn ?hd ?hu ?_; (case F => k_asm); (case X => k_asm); (case N => k_asm); (case T => k_asm); (case B => exact below_caller _); (case hk => first | exact rfl | assumption); (case hi => assumption); (case hn => exact take_ten _ _); (case hd => ktr_room); (case hu => ktr_units)
    intro t' x' h' tk' hx' hok' F' N'
    (try k_sweep)
    repeat' (first | ((with_reducible show wpAny _ _ (call (Value.ref _) _) _ _ _); refine Hold.mk ?_) | ((with_reducible show wpAny _ _ (call (Value.type "map") _) _ _ _); refine Hold.mk ?_) | ((with_reducible show wpAny _ _ (getAttr (Value.ref _) _ true) _ _ _); refine Hold.mk ?_) | ((with_reducible show wpAny _ _ (storeName _ (Str.ofString "row") (Value.str (_ ++ _ ++ _) _)) _ _ _); refine Hold.mk ?_) | ((with_reducible show wpAny _ _ (pyIter (Value.ref _)) _ _ _); refine Hold.mk ?_) | (k_unfold; (try dsimp only)) | (k_end; wrow_close) | walk1 | (dsimp only; walk1) | (leave1; walk_say "STEP leave1"; try dsimp only) | fail "no step")
    refine wpC_execs_cons (wpC_of ?_)
    repeat' (first | ((with_reducible show wpAny _ _ (call (Value.ref _) _) _ _ _); refine Hold.mk ?_) | ((with_reducible show wpAny _ _ (call (Value.type "map") _) _ _ _); refine Hold.mk ?_) | ((with_reducible show wpAny _ _ (getAttr (Value.ref _) _ true) _ _ _); refine Hold.mk ?_) | ((with_reducible show wpAny _ _ (storeName _ (Str.ofString "row") (Value.str (_ ++ _ ++ _) _)) _ _ _); refine Hold.mk ?_) | ((with_reducible show wpAny _ _ (pyIter (Value.ref _)) _ _ _); refine Hold.mk ?_) | (k_unfold; (try dsimp only)) | (k_end; wrow_close) | walk1 | (dsimp only; walk1) | (leave1; walk_say "STEP leave1"; try dsimp only) | fail "no step")
    refine Hold.out ?_
    rename IsRange _ _ _ _ _ _ _ _ => hRng'
    rename Str => x
    have hx : x.length ≤ 50 := by assumption
    have hok : Okc x.cps.toList := by assumption
    refine' kst_range (σ := Unit) (fun _ => []) (fun _ => []) (fun _ => True) [Str.ofString "row", Str.ofString "first", Str.ofString "told"] (fun _ _ => True) () (by rfl) hRng' (small_one (by decide) (by decide) (by omega) (by omega)) (range_sz _) (by assumption) (fun _ h => nomatch h) trivial (fun _ h => nomatch h) trivial (fun c pre k t u h tk own hk hlt hoff _ _ F' N' => ?turn) (fun c u h tk _ _ F' N' => ?done)
    case turn =>
      have kM9 : KstMark := kstMark
      obtain ⟨hrl, hro, pl, ql, hpq, hpl⟩ := row_ok hx hok hk hlt
      refine hideA fun Q9 E9 hQ9 => ?_
      (try k_fold)
      repeat' (first | ((with_reducible show wpAny _ _ (call (Value.ref _) _) _ _ _); refine Hold.mk ?_) | ((with_reducible show wpAny _ _ (call (Value.type "map") _) _ _ _); refine Hold.mk ?_) | ((with_reducible show wpAny _ _ (getAttr (Value.ref _) _ true) _ _ _); refine Hold.mk ?_) | ((with_reducible show wpAny _ _ (storeName _ (Str.ofString "row") (Value.str (_ ++ _ ++ _) _)) _ _ _); refine Hold.mk ?_) | ((with_reducible show wpAny _ _ (pyIter (Value.ref _)) _ _ _); refine Hold.mk ?_) | (k_unfold; (try dsimp only)) | (k_end; wrow_close) | walk1 | (dsimp only; walk1) | (leave1; walk_say "STEP leave1"; try dsimp only) | fail "no step")
      refine Hold.out ?_
      have hfi := find_eq hpq hpl
      have hoc := occ_of hpq hpl
      generalize (Txt.slice x none (some k) ++ Str.ofString "=" ++ Txt.slice x (some k) none) = row at *
      obtain ⟨hL1, hL2⟩ := cut_left hrl hpq hfi
      obtain ⟨hR1, hR2⟩ := cut_right hrl hpq hfi
      repeat' (first | ((with_reducible show wpAny _ _ (call (Value.ref _) _) _ _ _); refine Hold.mk ?_) | ((with_reducible show wpAny _ _ (call (Value.type "map") _) _ _ _); refine Hold.mk ?_) | ((with_reducible show wpAny _ _ (getAttr (Value.ref _) _ true) _ _ _); refine Hold.mk ?_) | ((with_reducible show wpAny _ _ (storeName _ (Str.ofString "row") (Value.str (_ ++ _ ++ _) _)) _ _ _); refine Hold.mk ?_) | ((with_reducible show wpAny _ _ (pyIter (Value.ref _)) _ _ _); refine Hold.mk ?_) | (k_unfold; (try dsimp only)) | (k_end; wrow_close) | walk1 | (dsimp only; walk1) | (leave1; walk_say "STEP leave1"; try dsimp only) | fail "no step")
      · rename List.isEmpty _ = true => he9
        rw [eq_mk, hoc] at he9
        cases he9
      refine Hold.out ?_
      refine' call_meth ?k1 ?k2 ?_; (case k1 => k_asm); (case k2 => k_mem); refine' parse_code ?B ?F ?X ?N ?T ?hk ?hx ?hpq ?hpl ?hok ?hd ?hu ?_; (case F => k_asm); (case X => k_asm); (case N => k_asm); (case T => k_asm); (case B => exact below_caller _); (case hk => first | exact rfl | assumption); (case hx => omega); (case hpq => assumption); (case hpl => assumption); (case hok => assumption); (case hd => ktr_room); (case hu => ktr_units)
      intro z' d' t1' t2' A' B' h' tk' hA' hB' lA' lB' F' N' l1 l2
      replace N' := news_one N'
      have okA' := okc_left hA' (by assumption) (by assumption)
      have okB' := okc_right hB' (by assumption) (by assumption)
      (try k_sweep)
      repeat' (first | ((with_reducible show wpAny _ _ (call (Value.ref _) _) _ _ _); refine Hold.mk ?_) | ((with_reducible show wpAny _ _ (call (Value.type "map") _) _ _ _); refine Hold.mk ?_) | ((with_reducible show wpAny _ _ (getAttr (Value.ref _) _ true) _ _ _); refine Hold.mk ?_) | ((with_reducible show wpAny _ _ (storeName _ (Str.ofString "row") (Value.str (_ ++ _ ++ _) _)) _ _ _); refine Hold.mk ?_) | ((with_reducible show wpAny _ _ (pyIter (Value.ref _)) _ _ _); refine Hold.mk ?_) | (k_unfold; (try dsimp only)) | (k_end; wrow_close) | walk1 | (dsimp only; walk1) | (leave1; walk_say "STEP leave1"; try dsimp only) | fail "no step")
      refine' isi_pair ?F ?X ?N ?hz ?_; (case F => k_asm); (case N => k_asm); (case X => k_asm); (case hz => k_mem)
      repeat' (first | ((with_reducible show wpAny _ _ (call (Value.ref _) _) _ _ _); refine Hold.mk ?_) | ((with_reducible show wpAny _ _ (call (Value.type "map") _) _ _ _); refine Hold.mk ?_) | ((with_reducible show wpAny _ _ (getAttr (Value.ref _) _ true) _ _ _); refine Hold.mk ?_) | ((with_reducible show wpAny _ _ (storeName _ (Str.ofString "row") (Value.str (_ ++ _ ++ _) _)) _ _ _); refine Hold.mk ?_) | ((with_reducible show wpAny _ _ (pyIter (Value.ref _)) _ _ _); refine Hold.mk ?_) | (k_unfold; (try dsimp only)) | (k_end; wrow_close) | walk1 | (dsimp only; walk1) | (leave1; walk_say "STEP leave1"; try dsimp only) | fail "no step")
      refine' pair_list ?hh ?F ?X ?N ?hz ?_; (case hh => exact rfl); (case F => k_asm); (case N => k_asm); (case X => k_asm); (case hz => k_mem)
      intro D' c' h' tk' F' N' l1
      (try k_lt l1)
      (try k_sweep)
      repeat' (first | ((with_reducible show wpAny _ _ (call (Value.ref _) _) _ _ _); refine Hold.mk ?_) | ((with_reducible show wpAny _ _ (call (Value.type "map") _) _ _ _); refine Hold.mk ?_) | ((with_reducible show wpAny _ _ (getAttr (Value.ref _) _ true) _ _ _); refine Hold.mk ?_) | ((with_reducible show wpAny _ _ (storeName _ (Str.ofString "row") (Value.str (_ ++ _ ++ _) _)) _ _ _); refine Hold.mk ?_) | ((with_reducible show wpAny _ _ (pyIter (Value.ref _)) _ _ _); refine Hold.mk ?_) | (k_unfold; (try dsimp only)) | (k_end; wrow_close) | walk1 | (dsimp only; walk1) | (leave1; walk_say "STEP leave1"; try dsimp only) | fail "no step")
      refine Hold.out ?_
      refine' name_get ?B ?F ?X ?N ?T ?hk ?hz ?he ?hh ?hd ?hu ?_; (case F => k_asm); (case X => k_asm); (case N => k_asm); (case T => k_asm); (case B => exact below_caller _); (case hk => first | exact rfl | assumption); (case hz => k_mem); (case he => k_mem); (case hh => exact rfl); (case hd => ktr_room); (case hu => ktr_units)
      intro h' tk' F' N'
      (try k_sweep)
      repeat' (first | ((with_reducible show wpAny _ _ (call (Value.ref _) _) _ _ _); refine Hold.mk ?_) | ((with_reducible show wpAny _ _ (call (Value.type "map") _) _ _ _); refine Hold.mk ?_) | ((with_reducible show wpAny _ _ (getAttr (Value.ref _) _ true) _ _ _); refine Hold.mk ?_) | ((with_reducible show wpAny _ _ (storeName _ (Str.ofString "row") (Value.str (_ ++ _ ++ _) _)) _ _ _); refine Hold.mk ?_) | ((with_reducible show wpAny _ _ (pyIter (Value.ref _)) _ _ _); refine Hold.mk ?_) | (k_unfold; (try dsimp only)) | (k_end; wrow_close) | walk1 | (dsimp only; walk1) | (leave1; walk_say "STEP leave1"; try dsimp only) | fail "no step")
      refine Hold.out ?_
      refine' value_get ?B ?F ?X ?N ?T ?hk ?hz ?he ?hh ?hd ?hu ?_; (case F => k_asm); (case X => k_asm); (case N => k_asm); (case T => k_asm); (case B => exact below_caller _); (case hk => first | exact rfl | assumption); (case hz => k_mem); (case he => k_mem); (case hh => exact rfl); (case hd => ktr_room); (case hu => ktr_units)
      intro h' tk' F' N'
      (try k_sweep)
      repeat' (first | ((with_reducible show wpAny _ _ (call (Value.ref _) _) _ _ _); refine Hold.mk ?_) | ((with_reducible show wpAny _ _ (call (Value.type "map") _) _ _ _); refine Hold.mk ?_) | ((with_reducible show wpAny _ _ (getAttr (Value.ref _) _ true) _ _ _); refine Hold.mk ?_) | ((with_reducible show wpAny _ _ (storeName _ (Str.ofString "row") (Value.str (_ ++ _ ++ _) _)) _ _ _); refine Hold.mk ?_) | ((with_reducible show wpAny _ _ (pyIter (Value.ref _)) _ _ _); refine Hold.mk ?_) | (k_unfold; (try dsimp only)) | (k_end; wrow_close) | walk1 | (dsimp only; walk1) | (leave1; walk_say "STEP leave1"; try dsimp only) | fail "no step")
      refine' ne_same ?N ?h1 ?h2 ?hx ?hy ?hu ?_; (case N => k_asm); (case h1 => k_mem); (case h2 => k_mem); (case hx => assumption); (case hy => assumption); (case hu => units_room)
      repeat' (first | ((with_reducible show wpAny _ _ (call (Value.ref _) _) _ _ _); refine Hold.mk ?_) | ((with_reducible show wpAny _ _ (call (Value.type "map") _) _ _ _); refine Hold.mk ?_) | ((with_reducible show wpAny _ _ (getAttr (Value.ref _) _ true) _ _ _); refine Hold.mk ?_) | ((with_reducible show wpAny _ _ (storeName _ (Str.ofString "row") (Value.str (_ ++ _ ++ _) _)) _ _ _); refine Hold.mk ?_) | ((with_reducible show wpAny _ _ (pyIter (Value.ref _)) _ _ _); refine Hold.mk ?_) | (k_unfold; (try dsimp only)) | (k_end; wrow_close) | walk1 | (dsimp only; walk1) | (leave1; walk_say "STEP leave1"; try dsimp only) | fail "no step")
      refine Hold.out ?_
      refine' name_get ?B ?F ?X ?N ?T ?hk ?hz ?he ?hh ?hd ?hu ?_; (case F => k_asm); (case X => k_asm); (case N => k_asm); (case T => k_asm); (case B => exact below_caller _); (case hk => first | exact rfl | assumption); (case hz => k_mem); (case he => k_mem); (case hh => exact rfl); (case hd => ktr_room); (case hu => ktr_units)
      intro h' tk' F' N'
      (try k_sweep)
      repeat' (first | ((with_reducible show wpAny _ _ (call (Value.ref _) _) _ _ _); refine Hold.mk ?_) | ((with_reducible show wpAny _ _ (call (Value.type "map") _) _ _ _); refine Hold.mk ?_) | ((with_reducible show wpAny _ _ (getAttr (Value.ref _) _ true) _ _ _); refine Hold.mk ?_) | ((with_reducible show wpAny _ _ (storeName _ (Str.ofString "row") (Value.str (_ ++ _ ++ _) _)) _ _ _); refine Hold.mk ?_) | ((with_reducible show wpAny _ _ (pyIter (Value.ref _)) _ _ _); refine Hold.mk ?_) | (k_unfold; (try dsimp only)) | (k_end; wrow_close) | walk1 | (dsimp only; walk1) | (leave1; walk_say "STEP leave1"; try dsimp only) | fail "no step")
      refine Hold.out ?_
      refine' side_call ?B ?F ?X ?N ?T ?hk ?hx ?hy ?hw ?hd ?hu ?_; (case F => k_asm); (case X => k_asm); (case N => k_asm); (case T => k_asm); (case B => exact below_caller _); (case hk => first | exact rfl | assumption); (case hx => assumption); (case hy => assumption); (case hw => exact side_hw (by assumption) (by assumption)); (case hd => ktr_room); (case hu => ktr_units)
      intro h' tk' F' N'
      (try k_sweep)
      repeat' (first | ((with_reducible show wpAny _ _ (call (Value.ref _) _) _ _ _); refine Hold.mk ?_) | ((with_reducible show wpAny _ _ (call (Value.type "map") _) _ _ _); refine Hold.mk ?_) | ((with_reducible show wpAny _ _ (getAttr (Value.ref _) _ true) _ _ _); refine Hold.mk ?_) | ((with_reducible show wpAny _ _ (storeName _ (Str.ofString "row") (Value.str (_ ++ _ ++ _) _)) _ _ _); refine Hold.mk ?_) | ((with_reducible show wpAny _ _ (pyIter (Value.ref _)) _ _ _); refine Hold.mk ?_) | (k_unfold; (try dsimp only)) | (k_end; wrow_close) | walk1 | (dsimp only; walk1) | (leave1; walk_say "STEP leave1"; try dsimp only) | fail "no step")
      refine Hold.out ?_
      refine' value_get ?B ?F ?X ?N ?T ?hk ?hz ?he ?hh ?hd ?hu ?_; (case F => k_asm); (case X => k_asm); (case N => k_asm); (case T => k_asm); (case B => exact below_caller _); (case hk => first | exact rfl | assumption); (case hz => k_mem); (case he => k_mem); (case hh => exact rfl); (case hd => ktr_room); (case hu => ktr_units)
      intro h' tk' F' N'
      (try k_sweep)
      repeat' (first | ((with_reducible show wpAny _ _ (call (Value.ref _) _) _ _ _); refine Hold.mk ?_) | ((with_reducible show wpAny _ _ (call (Value.type "map") _) _ _ _); refine Hold.mk ?_) | ((with_reducible show wpAny _ _ (getAttr (Value.ref _) _ true) _ _ _); refine Hold.mk ?_) | ((with_reducible show wpAny _ _ (storeName _ (Str.ofString "row") (Value.str (_ ++ _ ++ _) _)) _ _ _); refine Hold.mk ?_) | ((with_reducible show wpAny _ _ (pyIter (Value.ref _)) _ _ _); refine Hold.mk ?_) | (k_unfold; (try dsimp only)) | (k_end; wrow_close) | walk1 | (dsimp only; walk1) | (leave1; walk_say "STEP leave1"; try dsimp only) | fail "no step")
      refine Hold.out ?_
      refine' side_call ?B ?F ?X ?N ?T ?hk ?hx ?hy ?hw ?hd ?hu ?_; (case F => k_asm); (case X => k_asm); (case N => k_asm); (case T => k_asm); (case B => exact below_caller _); (case hk => first | exact rfl | assumption); (case hx => assumption); (case hy => assumption); (case hw => exact side_hw (by assumption) (by assumption)); (case hd => ktr_room); (case hu => ktr_units)
      intro h' tk' F' N'
      (try k_sweep)
      repeat' (first | ((with_reducible show wpAny _ _ (call (Value.ref _) _) _ _ _); refine Hold.mk ?_) | ((with_reducible show wpAny _ _ (call (Value.type "map") _) _ _ _); refine Hold.mk ?_) | ((with_reducible show wpAny _ _ (getAttr (Value.ref _) _ true) _ _ _); refine Hold.mk ?_) | ((with_reducible show wpAny _ _ (storeName _ (Str.ofString "row") (Value.str (_ ++ _ ++ _) _)) _ _ _); refine Hold.mk ?_) | ((with_reducible show wpAny _ _ (pyIter (Value.ref _)) _ _ _); refine Hold.mk ?_) | (k_unfold; (try dsimp only)) | (k_end; wrow_close) | walk1 | (dsimp only; walk1) | (leave1; walk_say "STEP leave1"; try dsimp only) | fail "no step")
      refine hQ9.on _ _ ?_
      refine kst_end () (by assumption) (by assumption) (fun _ h => nomatch h) ?ho rfl trivial (fun _ h => nomatch h) ?hr trivial
      case ho => intro p hp; repeat (first | exact hp | refine List.Mem.tail _ ?_)
      case hr =>
        intro z hz _ hs
        obtain ⟨n1, n2, n3⟩ := stored_off hs
        show (if z = Str.ofString "told" then _ else if z = Str.ofString "first" then _ else if z = Str.ofString "row" then _ else if z = Str.ofString "place" then _ else _) = _
        rw [if_neg n3, if_neg n2, if_neg n1, if_neg hz]
        show (if [Str.ofString "row", Str.ofString "first", Str.ofString "told"].contains z = true then _ else _) = _
        rw [if_neg (by rw [hs]; decide)]
    case done =>
      have kM9 : KstMark := kstMark
      (try k_fold)
      refine wpC_execs_cons (wpC_Try (wpC_execs_cons (wpC_Expr (wpC_MethodCall (pl := ?_) ?_))))
      rotate_left
      repeat' (first | ((with_reducible show wpAny _ _ (call (Value.ref _) _) _ _ _); refine Hold.mk ?_) | ((with_reducible show wpAny _ _ (call (Value.type "map") _) _ _ _); refine Hold.mk ?_) | ((with_reducible show wpAny _ _ (getAttr (Value.ref _) _ true) _ _ _); refine Hold.mk ?_) | ((with_reducible show wpAny _ _ (storeName _ (Str.ofString "row") (Value.str (_ ++ _ ++ _) _)) _ _ _); refine Hold.mk ?_) | ((with_reducible show wpAny _ _ (pyIter (Value.ref _)) _ _ _); refine Hold.mk ?_) | (k_unfold; (try dsimp only)) | (k_end; wrow_close) | walk1 | (dsimp only; walk1) | (leave1; walk_say "STEP leave1"; try dsimp only) | fail "no step")
      refine wpC_callWith_K (P := MethP (hd.heap_39 w.params) _ 149 (.ref 155)) (keeps_M (by k_is)) ?_
      repeat' (first | ((with_reducible show wpAny _ _ (call (Value.ref _) _) _ _ _); refine Hold.mk ?_) | ((with_reducible show wpAny _ _ (call (Value.type "map") _) _ _ _); refine Hold.mk ?_) | ((with_reducible show wpAny _ _ (getAttr (Value.ref _) _ true) _ _ _); refine Hold.mk ?_) | ((with_reducible show wpAny _ _ (storeName _ (Str.ofString "row") (Value.str (_ ++ _ ++ _) _)) _ _ _); refine Hold.mk ?_) | ((with_reducible show wpAny _ _ (pyIter (Value.ref _)) _ _ _); refine Hold.mk ?_) | (k_unfold; (try dsimp only)) | (k_end; wrow_close) | walk1 | (dsimp only; walk1) | (leave1; walk_say "STEP leave1"; try dsimp only) | fail "no step")
      obtain ⟨hno9, hok9, hlen9⟩ := gone_ok hx hok
      generalize Txt.replace x (Str.ofString "=") (Str.ofString "") = y at *
      refine wpC_call (codeC_meth (News.get (by assumption) (.head _)) ?_)
      k_dflt (refine' codeC_def ?k1 ?k2 ?k3 ?k4 ?k5 ?kA ?kF ?kK ?k6 ?k7 ?k8 ?k9 ?kB ?_ ?c2 ?c3 ?c4 ?c5; (case kA => exact rfl); (case kF => exact rfl); (case kK => first | exact rfl | assumption); (case k1 => k_asm); (case k2 => k_asm); (case k3 => k_asm); (case k4 => k_asm); (case k5 => k_asm); (case k6 => k_is); (case k7 => k_is); (case k8 => ktr_room); (case k9 => exact BindsTo.of_eq rfl); (case c5 => decide); (case kB => exact locs rfl); (case c2 => exact rfl); (case c3 => exact rfl); (case c4 => exact rfl); k_whole; intro g' L' h' FG' F' N' B' X' T'; (try dsimp only); (try k_lift B'); (try k_fold))
      refine wpC_execs_cons (wpC_Return (wpC_Call ?_))
      repeat' (first | ((with_reducible show wpAny _ _ (call (Value.ref _) _) _ _ _); refine Hold.mk ?_) | ((with_reducible show wpAny _ _ (call (Value.type "map") _) _ _ _); refine Hold.mk ?_) | ((with_reducible show wpAny _ _ (getAttr (Value.ref _) _ true) _ _ _); refine Hold.mk ?_) | ((with_reducible show wpAny _ _ (storeName _ (Str.ofString "row") (Value.str (_ ++ _ ++ _) _)) _ _ _); refine Hold.mk ?_) | ((with_reducible show wpAny _ _ (pyIter (Value.ref _)) _ _ _); refine Hold.mk ?_) | (k_unfold; (try dsimp only)) | (k_end; wrow_close) | walk1 | (dsimp only; walk1) | (leave1; walk_say "STEP leave1"; try dsimp only) | fail "no step")
      refine wpC_callWith_S (P := fun h => (hd.heap_39 w.params).In h) (keeps_K (by k_is)) ?_
      repeat' (first | ((with_reducible show wpAny _ _ (call (Value.ref _) _) _ _ _); refine Hold.mk ?_) | ((with_reducible show wpAny _ _ (call (Value.type "map") _) _ _ _); refine Hold.mk ?_) | ((with_reducible show wpAny _ _ (getAttr (Value.ref _) _ true) _ _ _); refine Hold.mk ?_) | ((with_reducible show wpAny _ _ (storeName _ (Str.ofString "row") (Value.str (_ ++ _ ++ _) _)) _ _ _); refine Hold.mk ?_) | ((with_reducible show wpAny _ _ (pyIter (Value.ref _)) _ _ _); refine Hold.mk ?_) | (k_unfold; (try dsimp only)) | (k_end; wrow_close) | walk1 | (dsimp only; walk1) | (leave1; walk_say "STEP leave1"; try dsimp only) | fail "no step")
      refine attr_strip (by k_asm) (by k_asm) ?_
      repeat' (first | ((with_reducible show wpAny _ _ (call (Value.ref _) _) _ _ _); refine Hold.mk ?_) | ((with_reducible show wpAny _ _ (call (Value.type "map") _) _ _ _); refine Hold.mk ?_) | ((with_reducible show wpAny _ _ (getAttr (Value.ref _) _ true) _ _ _); refine Hold.mk ?_) | ((with_reducible show wpAny _ _ (storeName _ (Str.ofString "row") (Value.str (_ ++ _ ++ _) _)) _ _ _); refine Hold.mk ?_) | ((with_reducible show wpAny _ _ (pyIter (Value.ref _)) _ _ _); refine Hold.mk ?_) | (k_unfold; (try dsimp only)) | (k_end; wrow_close) | walk1 | (dsimp only; walk1) | (leave1; walk_say "STEP leave1"; try dsimp only) | fail "no step")
      refine Hold.out ?_
      have hsp := split_ne hno9
      rename List.map _ _ = Txt.splitMax _ _ _ => hmap
      rename ∀ a, a ∈ List.map _ _ → _ => hle
      rename Heap.IsList _ _ (strValues _).toArray => hli
      rw [hsp] at hmap
      refine Mp.map_star (by rfl) (by k_asm) (by k_asm) hli (n := y.length) (by rw [sizeLine_eq]; omega) hle ?_ ?_
      · have he := congrArg List.length hmap
        rw [List.length_map] at he
        rw [he, sizeLine_eq]; exact Nat.le_of_ble_eq_true rfl
      intro h' tk' vs' F' N' S'
      rw [hmap] at S'
      obtain ⟨t1, rfl⟩ := strs_one S'
      refine ⟨by k_in, ?_⟩
      dsimp only
      refine wpC_call (pair_refuses (a := .str (Txt.strip y) t1) F' (by k_asm) (by ktr_room) rfl ?_)
      intro h'' tk'' e' hx'
      dsimp only
      repeat' (first | ((with_reducible show wpAny _ _ (call (Value.ref _) _) _ _ _); refine Hold.mk ?_) | ((with_reducible show wpAny _ _ (call (Value.type "map") _) _ _ _); refine Hold.mk ?_) | ((with_reducible show wpAny _ _ (getAttr (Value.ref _) _ true) _ _ _); refine Hold.mk ?_) | ((with_reducible show wpAny _ _ (storeName _ (Str.ofString "row") (Value.str (_ ++ _ ++ _) _)) _ _ _); refine Hold.mk ?_) | ((with_reducible show wpAny _ _ (pyIter (Value.ref _)) _ _ _); refine Hold.mk ?_) | (k_unfold; (try dsimp only)) | (k_end; wrow_close) | walk1 | (dsimp only; walk1) | (leave1; walk_say "STEP leave1"; try dsimp only) | fail "no step"))
end Mine
end

theorem PySem.Challenge.cw_ij0094_01_holds : PySem.Challenge.rw_ij0094_01.Holds := by
  exact Mine.law_holds
