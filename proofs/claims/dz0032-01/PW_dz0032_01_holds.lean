import PyProof.Rows.All
import Wide.All
import OpenK.AllK
import Wide.FinOn
import PySem.Challenge.RW_dz0032_01
set_option Elab.async false
set_option linter.all false
section
open PySem PySem.W PyProof.Rows
namespace Mine
open PySem.Sem (wp)

/-- a claim's caller stands in the stack -/
def HasC (Γ : Ctx) : Prop := (Γ.code :: Γ.below.map (·.1)).any Code.isCaller = true
theorem HasC.enter {Γ : Ctx} (h : HasC Γ) (c : Code) (v : Option Value) (p : Pos) : ((Γ.enter c v p).below.map (·.1)).any Code.isCaller = true := h
theorem hasC_of_below {Γ : Ctx} (h : (Γ.below.map (·.1)).any Code.isCaller = true) : HasC Γ := by
  unfold HasC
  rw [List.any_cons, h, Bool.or_true]

def wpC {α : Type} (M : Model) (A : Around) (t : Sem α) (Q : α → Shared → Prop) (E : Value → Shared → Prop) (s : Shared) : Prop :=
  ∀ Γ p, Γ.In A → HasC Γ → wp M Γ t (fun a _ s' => Q a s') (fun e _ s' => E e s') p s
def codeC (M : Model) (A : Around) (c : Code) (R : Result → Shared → Prop) (s : Shared) : Prop :=
  ∀ Γ p, Γ.code = c → Γ.Below A → (Γ.below.map (·.1)).any Code.isCaller = true → wpCode M Γ R p s

section
variable {α β : Type} {M : Model} {A : Around} {E : Value → Shared → Prop} {s : Shared} {env : Env}

theorem wpC_of_any {t : Sem α} {Q : α → Shared → Prop} (h : wpAny M A t Q E s) : wpC M A t Q E s := fun Γ p hΓ _ => h Γ p hΓ
theorem codeC_of_any {c : Code} {R : Result → Shared → Prop} (h : codeAny M A c R s) : codeC M A c R s := fun Γ p hc hΓ _ => h Γ p hc hΓ
theorem wpC_mono {t : Sem α} {Q Q' : α → Shared → Prop} {E' : Value → Shared → Prop} (h : wpC M A t Q E s)
    (hQ : ∀ a s, Q a s → Q' a s) (hE : ∀ e s, E e s → E' e s) : wpC M A t Q' E' s :=
  fun Γ p hΓ hC => Sem.wp_mono M Γ t (fun a _ s => hQ a s) (fun e _ s => hE e s) p s (h Γ p hΓ hC)
theorem codeC_mono {c : Code} {R R' : Result → Shared → Prop} (h : codeC M A c R s) (hR : ∀ r s, R r s → R' r s) : codeC M A c R' s :=
  fun Γ p hc hΓ hC => wpCode_mono hR (h Γ p hc hΓ hC)
theorem wpC_pure {a : α} {Q : α → Shared → Prop} (h : Q a s) : wpC M A (pure a) Q E s := fun _ _ _ _ => h
theorem wpC_bind {m : Sem α} {f : α → Sem β} {Q : β → Shared → Prop} (h : wpC M A m (fun a s' => wpC M A (f a) Q E s') E s) :
    wpC M A (m >>= f) Q E s := fun Γ p hΓ hC => by
  rw [Sem.wp_bind']
  exact Sem.wp_mono M Γ m (fun a p' s' h' => h' Γ p' hΓ hC) (fun _ _ _ h' => h') p s (h Γ p hΓ hC)
/-- the first part off the spine -/
theorem wpC_bindA {m : Sem α} {f : α → Sem β} {Q : β → Shared → Prop} (h : wpAny M A m (fun a s' => wpC M A (f a) Q E s') E s) :
    wpC M A (m >>= f) Q E s := wpC_bind (wpC_of_any h)
/-- the rest off the spine -/
theorem wpC_bindZ {m : Sem α} {f : α → Sem β} {Q : β → Shared → Prop} (h : wpC M A m (fun a s' => wpAny M A (f a) Q E s') E s) :
    wpC M A (m >>= f) Q E s := wpC_bind (wpC_mono h (fun _ _ x => wpC_of_any x) fun _ _ x => x)
theorem wpC_onRaise {m : Sem α} {k : Value → Sem Unit} {Q : α → Shared → Prop}
    (h : wpC M A m Q (fun e s' => wpAny M A (k e) (fun _ s'' => E e s'') E s') s) : wpC M A (m.onRaise k) Q E s := fun Γ p hΓ hC => by
  rw [Sem.wp_onRaise]
  exact Sem.wp_mono M Γ m (fun _ _ _ h' => h') (fun e p' s' h' => h' Γ p' hΓ) p s (h Γ p hΓ hC)
theorem wpC_attempt {m : Sem α} {Q : Except Value α → Shared → Prop} (h : wpC M A m (fun a => Q (.ok a)) (fun e => Q (.error e)) s) :
    wpC M A m.attempt Q E s := fun Γ p hΓ hC => by rw [Sem.wp_attempt]; exact h Γ p hΓ hC
theorem wpC_holding {vs : List Value} {m : Sem α} {Q : α → Shared → Prop} (h : wpC M A m Q E s) : wpC M A (holding vs m) Q E s :=
  fun Γ p hΓ hC => by rw [Sem.wp_holding]; exact h Γ p hΓ hC
theorem wpC_run {c : Code} {h : Option Value} {Q : Flow → Shared → Prop}
    (hc : codeC M (A.mark h) c (fun r s' => match r with | .ok f => Q f s' | .error e => E e s') s) (hnb : h ≠ some byPass := by intro x; cases x) :
    wpC M A (run c h) Q E s :=
  fun Γ p hΓ hC => by rw [Sem.wp_run]; exact hc _ p rfl (hΓ.enter c h p hnb) hC
theorem wpC_runValue {c : Code} {Q : Value → Shared → Prop}
    (hc : codeC M A c (fun r s' => match r with | .ok (.ret v) => Q v s' | .ok _ => False | .error e => E e s') s) :
    wpC M A (runValue c) Q E s := fun Γ p hΓ hC => by rw [Sem.wp_runValue]; exact hc _ p rfl (hΓ.enter c none p (by intro x; cases x)) hC
theorem wpC_call {f : Value} {pos : List Value} {kw : List (Str × Value)} {Q : Value → Shared → Prop}
    (hc : codeC M A (.call f ⟨pos, kw⟩) (fun r s' => match r with | .ok (.ret v) => Q v s' | .ok _ => False | .error e => E e s') s) :
    wpC M A (call f pos kw) Q E s := wpC_runValue hc
theorem codeC_of_tree {c : Code} {R : Result → Shared → Prop}
    (h : wpC M (A.under c) (M.den c) (fun fin s' => match fin with | .done f => R (.ok f) s' | .again c' => c'.quiet = true ∧ codeC M A c' R s')
      (fun e s' => R (.error e) s') s) : codeC M A c R s := fun Γ p hc hΓ hC => by
  rw [wpCode_iff_wp, hc]
  refine Sem.wp_mono M Γ _ (fun fin p' s' h' => ?_) (fun _ _ _ h' => h') p s (h Γ p (hc ▸ hΓ.in) (hasC_of_below hC))
  cases fin with
  | done f => exact h'
  | again c' => exact ⟨h'.1, h'.2 (Γ.goto c') p' rfl (hΓ.goto c') hC⟩
theorem wpC_runOwn {c : Code} {h : Option Value} {Q : Flow → Shared → Prop}
    (hc : codeC M (A.mark h) c (fun r s' => match r with | .ok f => Q f s' | .error e => cameBackBy M A env E e s') s) (hnb : h ≠ some byPass := by intro x; cases x) :
    wpC M A (runOwn c env h) Q E s := by
  unfold runOwn
  exact wpC_onRaise (wpC_run hc hnb)

/-- a block, cut in two: the first part is walked off the spine -/
theorem execs_split (env : Env) (b : List Stmt) : ∀ a : List Stmt, execs (a ++ b) env = (execs a env >>= fun f => match f with | .next => execs b env | f => pure f)
  | [] => rfl
  | st :: a => by
    rw [List.cons_append]
    show (exec st env >>= fun f => match f with | .next => execs (a ++ b) env | f => pure f) = (exec st env >>= fun f => match f with | .next => execs a env | f => pure f) >>= _
    rw [bind_assoc]
    refine congrArg _ (funext fun f => ?_)
    cases f with
    | next => exact execs_split env b a
    | _ => rfl
theorem wpC_split (a b : List Stmt) {Q : Flow → Shared → Prop} (h : wpAny M A (execs a env) (fun f s' => match f with | .next => wpC M A (execs b env) Q E s' | f => Q f s') E s) : wpC M A (execs (a ++ b) env) Q E s := by
  rw [execs_split]
  refine wpC_bindA (wpAny_mono h (fun f s' h' => ?_) fun _ _ x => x)
  cases f <;> first | exact h' | exact wpC_pure h'
theorem wpC_cut (k : Nat) {body : List Stmt} {Q : Flow → Shared → Prop} (h : wpAny M A (execs (body.take k) env) (fun f s' => match f with | .next => wpC M A (execs (body.drop k) env) Q E s' | f => Q f s') E s) : wpC M A (execs body env) Q E s := by
  rw [← List.take_append_drop k body]
  exact wpC_split _ _ h
/-- the first statement is on the spine -/
theorem wpC_cons {st : Stmt} {b : List Stmt} {Q : Flow → Shared → Prop} (h : wpC M A (exec st env) (fun f s' => match f with | .next => wpC M A (execs b env) Q E s' | f => Q f s') E s) : wpC M A (execs (st :: b) env) Q E s := by
  show wpC M A (exec st env >>= fun f => match f with | .next => execs b env | f => pure f) Q E s
  refine wpC_bind (wpC_mono h (fun f s' h' => ?_) fun _ _ x => x)
  cases f <;> first | exact h' | exact wpC_pure h'
theorem wpC_consZ {st : Stmt} {b : List Stmt} {Q : Flow → Shared → Prop} (h : wpC M A (exec st env) (fun f s' => match f with | .next => wpAny M A (execs b env) Q E s' | f => Q f s') E s) : wpC M A (execs (st :: b) env) Q E s :=
  wpC_cons (wpC_mono h (fun f s' h' => by cases f <;> first | exact h' | exact wpC_of_any h') fun _ _ x => x)
theorem wpC_standAt_bind {pos : Pos} {f : Unit → Sem β} {Q : β → Shared → Prop} (h : wpC M A (f ()) Q E s) : wpC M A (standAt pos >>= f) Q E s :=
  wpC_bindA (wpAny_standAt h)
/-- if l op r: the left side is on the spine -/
theorem wpC_If_cmp {l : Expr} {op : CmpOp} {r : Expr} {cpos pos : Pos} {body orelse : List Stmt} {Q : Flow → Shared → Prop}
    (h : wpC M A (eval l env) (fun a s₁ => wpAny M A (eval r env) (fun b s₂ => wpAny M A (compareOp op a b) (fun c s₃ => wpAny M A (truthy c) (fun b s₂ => if b then wpAny M A (execs body env) Q E s₂ else wpAny M A (execs orelse env) Q E s₂) E s₃) E s₂) E s₁) E s)
    (hm : behindInMarks op r = false := by with_unfolding_all rfl) :
    wpC M A (exec (.If (.Compare l [op] [r] cpos) body orelse pos) env) Q E s := fun Γ p hΓ hC => by
  simp only [exec_If, Sem.wp_bind', Sem.wp_cmd_standAt, isTrue_Compare1, markedBehindIn_of_false hm, Sem.wp_holding, Sem.wp_operate]
  refine Sem.wp_mono M Γ _ (fun a p₁ s₁ h₁ => ?_) (fun _ _ _ h' => h') _ _ (h Γ _ hΓ hC)
  refine Sem.wp_mono M Γ _ (fun b p₂ s₂ h₂ => ?_) (fun _ _ _ h' => h') _ _ (h₁ Γ _ hΓ)
  refine Sem.wp_mono M Γ _ (fun c p₃ s₃ h₃ => ?_) (fun _ _ _ h' => h') _ _ (h₂ Γ _ hΓ)
  refine Sem.wp_mono M Γ _ (fun b p₄ s₄ h₄ => ?_) (fun _ _ _ h' => h') _ _ (h₃ Γ _ hΓ)
  cases b <;> exact h₄ Γ p₄ hΓ
theorem wpC_Assign_Name {x pos' value pos} {Q : Flow → Shared → Prop}
    (h : wpC M A (eval value env) (fun v s₁ => wpAny M A (storeName env x v) (fun _ => Q .next) E s₁) E s)
    (hs : swapsWith value (some (.Name x pos')) pos.line env = pure false := by rfl) :
    wpC M A (exec (.Assign [.Name x pos'] value pos) env) Q E s := fun Γ p hΓ hC => by
  simp only [exec_Assign_Name env x pos' value pos hs, Sem.wp_bind', Sem.wp_cmd_standAt, Sem.wp_bindName, Sem.wp_pure']
  exact Sem.wp_mono M Γ _ (fun v _ s₁ h₁ => h₁ Γ _ hΓ) (fun _ _ _ h' => h') _ _ (h Γ _ hΓ hC)
theorem wpC_Try {body orelse : List Stmt} {h₀ : ExceptHandler} {hs : List ExceptHandler} {pos : Pos} {Q : Flow → Shared → Prop}
    (h : wpC M A (execs body env) (fun f s₁ => match f with | .next => wpAny M A (execs orelse env) Q E s₁ | f => Q f s₁)
      (fun e s₁ => wpAny M A (noteFrame e env) (fun _ s₂ => wpAny M A (setFlight e none) (fun _ s₃ => wpAny M A (handleBy e env (h₀ :: hs)) Q E s₃) E s₂) E s₁) s) :
    wpC M A (exec (.Try body (h₀ :: hs) orelse [] pos) env) Q E s := by
  rw [arm_exec_Try]
  refine wpC_standAt_bind ?_
  unfold tryStmt
  simp only [List.isEmpty_nil, if_true, List.isEmpty_cons, Bool.false_and, Bool.false_eq_true, if_false]
  refine wpC_bindZ (wpC_attempt (wpC_mono h (fun f s₁ h₁ => ?_) fun e s₁ h₁ => ?_))
  · cases f <;> first | exact h₁ | exact wpAny_pure h₁
  · exact wpAny_bind (wpAny_mono h₁ (fun _ _ h₂ => wpAny_bind h₂) fun _ _ x => x)
theorem wpC_For {target iter body orelse pos} {Q : Flow → Shared → Prop}
    (h : wpAny M A (eval iter env) (fun x s₁ => wpAny M A (pyIter x) (fun it s₂ =>
      codeC M A (.forLoop target it body orelse env) (fun r s' => match r with | .ok f => Q f s' | .error e => cameBackBy M A env E e s') s₂) E s₁) E s)
    (hs : ∀ x, foldedSetIterable iter env x = pure x := by intro _; rfl) :
    wpC M A (exec (.For target iter body orelse pos) env) Q E s := by
  rw [exec_For]
  refine wpC_standAt_bind (wpC_bindA (wpAny_mono h (fun x s₁ h₁ => ?_) fun _ _ x => x))
  refine wpC_bindA (wpAny_of_eq (hs x) ?_)
  refine wpC_standAt_bind (wpC_bindA (wpAny_holding (wpAny_mono h₁ (fun it s₂ h₂ => wpC_runOwn h₂) fun _ _ x => x)))
end
end Mine
end
section
open PySem PySem.W PyProof.Rows
namespace Mine
open PySem.Sem (wp)
open PySem.Calls PySem.Spec
section
variable {prog : Program} {w : World} {A A₀ : Around} {R : Result → Shared → Prop} {s : Shared}

theorem codeC_func {body : List Stmt} {env : Env}
    (h : wpC (model prog w) (A.deeper env) (execs body env) (fun f s' => R (.ok (.ret (match f with | .ret v => v | _ => .none))) s')
      (fun e s' => wpAny (model prog w) (A.deeper env) (leaving env e) (fun _ s'' => R (.error e) s'') (fun e' s'' => R (.error e') s'') s') s) :
    codeC (model prog w) A (.func body env) R s := by
  refine codeC_of_tree ?_
  show wpC _ (A.deeper env) (do point; match ← (execs body env).onRaise (leaving env) with | .ret v => ret v | _ => ret .none) _ _ s
  refine wpC_bindA (wpAny_point (wpC_bindZ (wpC_onRaise (wpC_mono h (fun f s' h' => ?_) fun _ _ h' => h'))))
  cases f <;> exact wpAny_pure h'

theorem codeC_call_function {a : Addr} {args : Args} {o : Obj} {fd : FuncData} {body : List Stmt} (hroom : A.depth < recursionLimit)
    (ho : s.heap.get? a = some o)
    (hd' : o.data = .func fd) (hco : fd.scope.isCoroutine = false) (hgen : fd.scope.isGenerator = false) (hbody : fd.body = .stmts body) (hcd : s.heap.CodeRec fd.code fd.qualname)
    (h : wpAny (model prog w) A.in1 (bindArgs fd args) (fun binds s₁ =>
      wpAny (model prog w) A.in1 (newFunctionEnv fd.scope fd.globals fd.closure binds (fd.qualname ++ ".<locals>.") (some a) fd.code none fd.builtins)
        (fun env s₂ => s₂.heap.NoLimit ∧ codeC (model prog w) A (.func body env) R s₂) (fun e s' => R (.error e) s') s₁) (fun e s' => R (.error e) s') s) :
    codeC (model prog w) A (.call (.ref a) args) R s := by
  refine codeC_of_tree (wpC_of_any ?_)
  show wpAny _ A.in1 (callAny (.ref a) args) _ _ s
  simp only [callAny]
  refine wpAny_bind (wpAny_load ho ?_)
  obtain ⟨c, oc, vs, tq, hc, hoc, hdc, hq⟩ := hcd
  simp only [hd', callFunction, hco, hgen, hbody, hc]
  rw [hc] at h
  refine wpAny_bind (m := field (.ref c) 1) (wpAny_field hoc hdc hq (wpAny_bind (wpAny_pure ?_)))
  exact wpAny_bind (wpAny_mono h (fun binds s₁ h₁ => wpAny_bind (wpAny_mono h₁ (fun env s₂ h₂ => wpAny_bind (wpAny_enterFrame h₂.1 hroom
    (wpAny_pure (And.intro rfl h₂.2)))) fun _ _ h' => h')) fun _ _ h' => h')

theorem codeC_call_def {a : Addr} {o : Obj} {fd : FuncData} {body : List Stmt} {args : Args} {binds : List (Str × Value)}
    (hroom : A.depth < recursionLimit) (ho : s.heap.get? a = some o) (hdata : o.data = .func fd) (hlim : s.heap.NoLimit) (hcd : s.heap.CodeRec fd.code fd.qualname)
    (hbody : fd.body = .stmts body) (hbind : BindsTo s fd args binds)
    (hcell : ∀ x ∈ fd.scope.names, x.2 ≠ .cell) (hloc : ∀ x ∈ binds, fd.scope.names.lookup x.1 = some .local)
    (h : ∀ h₀, h₀.Ns s.heap.objs.size (fun x => binds.reverse.lookup x) → (∀ b o, s.heap.get? b = some o → h₀.get? b = some o) →
      wpC (model prog w) (A.deeper (callEnv fd s.heap.objs.size a)) (execs body (callEnv fd s.heap.objs.size a)) (fun f s' => R (.ok (.ret (match f with | .ret v => v | _ => .none))) s')
        (fun e s' => wpAny (model prog w) (A.deeper (callEnv fd s.heap.objs.size a)) (leaving (callEnv fd s.heap.objs.size a) e) (fun _ s'' => R (.error e) s'') (fun e' s'' => R (.error e') s'') s')
        { s with heap := h₀, toks := s.toks + binds.length })
    (hco : fd.scope.isCoroutine = false := by rfl) (hgen : fd.scope.isGenerator = false := by rfl) (hk : fd.scope.kind = .function := by rfl) :
    codeC (model prog w) A (.call (.ref a) args) R s := by
  refine codeC_call_function hroom ho hdata hco hgen hbody hcd (hbind _ _ _ _ ?_)
  refine wpAny_newFunctionEnv hcell hloc (fun h₀ hns₀ hsb₀ => ⟨hlim.fresh _ hsb₀, codeC_func (h h₀ hns₀ fun b o e => ?_)⟩) hk
  exact hsb₀.extBut b o (Nat.ne_of_lt (Heap.lt_size e)) (Heap.get?_push_of_some _ e)
end

section
variable {prog : Program} {w : World} {A A₀ : Around} {R : Result → Shared → Prop} {s : Shared} {base h₀ : Heap} {outer : List Env} {L a : Addr} {m : Str → Option Value} {news : List (Addr × Obj)} {K : Frag}
  {p : Program} {loose : List Str} {mean : ExcName → Option Value} {mg mb : Str → Option Value} {cn : Str} {cs : Scope} {ccd : Value}
  {name qual : Str} {params : Arguments} {body : List Stmt} {scope : Scope} {dV kV doc pm cdv ct oc : Value} {an od : Option Addr} {osl : Array (Option Value)} {f : Addr} {args : Args} {binds : List (Str × Value)}

/-- entering a def from a def's frame, on the spine -/
theorem enterC {env : Env} (B : Below A₀ base outer h₀) (F : Fr h₀ L s.heap m) (X₀ : K.In h₀) (N : News h₀ L s.heap news) (T : Top p loose mean mg mb h₀) (hA : A.frames = some (env :: outer)) (hf : env.frame = some L) (hke : env.scope.kind = .function)
    (ho : K.lookup f = some ⟨oc, od, .func (fnOf name qual params body scope dV kV doc pm an cdv ct), osl⟩) (hcd : codeIn K cdv qual = true) (hroom : A.depth < recursionLimit)
    (hbind : BindsTo s (fnOf name qual params body scope dV kV doc pm an cdv ct) args binds) (hloc : ∀ y ∈ binds, scope.names.lookup y.1 = some .local)
    (h : ∀ g L' h₁, Fr h₀ L g m → Fr g L' h₁ (fun y => binds.reverse.lookup y) → News g L' h₁ news → Below A base (env :: outer) g → K.In g → Top p loose mean mg mb g →
      wpC (model prog w) (A.deeper (envOf qual scope L' f cdv)) (execs body (envOf qual scope L' f cdv))
        (fun fl s' => LeaveK h₀ L m g R (match fl with | .ret v => v | _ => .none) s')
        (fun e s' => wpAny (model prog w) (A.deeper (envOf qual scope L' f cdv)) (leaving (envOf qual scope L' f cdv) e) (fun _ s'' => R (.error e) s'') (fun e' s'' => R (.error e') s'') s')
        { s with heap := h₁, toks := s.toks + binds.length })
    (hco : scope.isCoroutine = false) (hgen : scope.isGenerator = false) (hk : scope.kind = .function)
    (hcell : ∀ x ∈ scope.names, x.2 ≠ .cell) : codeC (model prog w) A (.call (.ref f) args) R s := by
  obtain ⟨FG, BG, st, lv⟩ := groundX (R := R) B F N hA hf hke
  have X := X₀.keeps F.keep
  refine codeC_call_def (fd := fnOf name qual params body scope dV kV doc pm an cdv ct) (body := body) (binds := binds) hroom (X _ _ ho) rfl (T.nolimit.keeps F.keep) (codeRec_of X hcd) rfl hbind hcell hloc (fun h₁ hns hk₁ => ?_) hco hgen hk
  exact wpC_mono (h _ s.heap.objs.size h₁ FG ⟨hns, fun b o e => hk₁ b o (of_hideAll _ e), Nat.le_of_eq (hideAll_size _ _)⟩
    (fun p hp => ⟨hk₁ _ _ (N p hp).1, Nat.ne_of_lt (Heap.lt_size (N p hp).1), hideAll_none _ (List.mem_map_of_mem hp)⟩) BG (X₀.keeps st) (T.keeps st)) (fun fl s' hl => lv _ _ hl) fun _ _ y => y

/-- entering, from the law's own frame, a def that catches -/
theorem enterCS (B : Below A₀ base [] h₀) (F : Fr h₀ L s.heap m) (X₀ : K.In h₀) (N : News h₀ L s.heap news) (T : Top p loose mean mg mb h₀) (hA : A.frames = some [envOf cn cs L a ccd])
    (ho : K.lookup f = some ⟨oc, od, .func (fnOf name qual params body scope dV kV doc pm an cdv ct), osl⟩) (hcd : codeIn K cdv qual = true) (hroom : A.depth < recursionLimit)
    (hbind : BindsTo s (fnOf name qual params body scope dV kV doc pm an cdv ct) args binds) (hloc : ∀ y ∈ binds, scope.names.lookup y.1 = some .local)
    (h : ∀ g L' h₁, Fr h₀ L g m → Fr g L' h₁ (fun y => binds.reverse.lookup y) → News g L' h₁ news → Below A base [envOf cn cs L a ccd] g → K.In g → Top p loose mean mg mb g → KtsDicts ([envOf cn cs L a ccd].filterMap (·.frame)) g →
      wpC (model prog w) (A.deeper (envOf qual scope L' f cdv)) (execs body (envOf qual scope L' f cdv))
        (fun fl s' => LeaveS0 ([envOf cn cs L a ccd].filterMap (·.frame)) h₀ L m g R (match fl with | .ret v => v | _ => .none) s')
        (fun e s' => wpAny (model prog w) (A.deeper (envOf qual scope L' f cdv)) (leaving (envOf qual scope L' f cdv) e) (fun _ s'' => R (.error e) s'') (fun e' s'' => R (.error e') s'') s')
        { s with heap := h₁, toks := s.toks + binds.length })
    (hck : cs.kind = .function) (hco : scope.isCoroutine = false) (hgen : scope.isGenerator = false) (hk : scope.kind = .function)
    (hcell : ∀ x ∈ scope.names, x.2 ≠ .cell) : codeC (model prog w) A (.call (.ref f) args) R s := by
  have X := X₀.keeps F.keep
  refine codeC_call_def (fd := fnOf name qual params body scope dV kV doc pm an cdv ct) (body := body) (binds := binds) hroom (X _ _ ho) rfl (T.nolimit.keeps F.keep) (codeRec_of X hcd) rfl hbind hcell hloc (fun h₁ hns hk₁ => ?_) hco hgen hk
  obtain ⟨oL, es, ep, hLg, hLd, hN, hNs, st, B₂⟩ := kts_enter B F N hA hck
  refine wpC_mono (h _ s.heap.objs.size h₁ ⟨hN _ hLg, st, F.above⟩ ⟨hns, fun b o e => hk₁ b o (of_hideAll _ e), Nat.le_of_eq (hideAll_size _ _)⟩
    (fun p hp => ⟨hk₁ _ _ (N p hp).1, Nat.ne_of_lt (Heap.lt_size (N p hp).1), hideAll_none _ (List.mem_map_of_mem hp)⟩) B₂ (X₀.keeps st) (T.keeps st) (fun b hb => ?_)) (fun fl s' hl => ?_) fun _ _ y => y
  · rcases kts_mem hb with rfl | z
    · exact ⟨oL, es, ep, hLg, hLd⟩
    · simp at z
  · obtain ⟨g', L', m', news', T', F', N', k⟩ := hl
    have nL₀ : h₀.get? L = none := kts_self F
    obtain ⟨sl, hs⟩ := T'.up hLg
    have other : ∀ b o, h₀.get? b = some o → s'.heap.get? b = some o := fun b o e => F'.keep b o (T'.other b o (st b o e) fun q => by
      rcases kts_mem q with z | z
      · rw [z, nL₀] at e
        cases e
      · simp at z)
    refine k ⟨hNs sl _ (F'.keep _ _ hs), other, F.above⟩ fun p hp => ⟨(N' p hp).1, fun q => ?_, ?_⟩
    · have e := (N' p hp).2.2
      rw [q, hs] at e
      cases e
    · cases q : h₀.get? p.1 with
      | none => rfl
      | some o =>
        obtain ⟨sl', hs'⟩ := T'.up (st _ _ q)
        have e := (N' p hp).2.2
        rw [hs'] at e
        cases e
end
end Mine
end
section
open PySem PySem.W PyProof.Rows
namespace Mine
open PySem.Sem (wp)
open PySem.Calls PySem.Spec
section
variable {α β : Type} {M : Model} {A : Around} {E : Value → Shared → Prop} {s : Shared} {env : Env} {K : Frag} {pos : Pos} {f : Value} {first : List Value} {Q : Value → Shared → Prop}
theorem wpC_keep {vs : List Value} {m : Sem α} {Q : α → Shared → Prop} (h : wpC M A m Q E s) : wpC M A (m.keep vs) Q E s :=
  fun Γ p hΓ hC => by rw [Sem.wp_keep]; exact h Γ p hΓ hC
theorem wpC_callWith_of {P : Heap → Prop} {args : List (Bool × Sem Value)} {keywords : List (Option Str × Sem Value)} (hplain : (args.any (·.1) || keywords.any (·.1.isNone)) = false)
    (hk : ∀ h, P h → ∃ k, (k = Keeper.frame ∨ k = Keeper.machine ∨ k = Keeper.boundFrame) ∧ Looks M h (keeperOf f) k)
    (h : wpAny M A (evalArgs f true args keywords) (fun a s₁ => P s₁.heap ∧ wpC M A (call f (first ++ a.pos) a.kw) Q E s₁) E s) : wpC M A (callWith pos f first args keywords) Q E s := by
  unfold callWith
  refine wpC_bindA (wpAny_holding (wpAny_mono h (fun a s₁ h₁ => wpC_standAt_bind ?_) fun _ _ x => x))
  obtain ⟨k, hk', L⟩ := hk _ h₁.1
  simp only [hplain]
  refine wpC_bindA (L.here ?_)
  have tail : ∀ {t : Sem Value}, wpC M A t Q E s₁ → wpC M A (t >>= fun r => holding [r] point >>= fun _ => pure r) Q E s₁ :=
    fun ht => wpC_bindZ (wpC_mono ht (fun r s₂ hr => wpAny_bind (wpAny_holding (wpAny_point (wpAny_pure hr)))) fun _ _ x => x)
  have marked (mk : Value) : wpC M A (callMarked mk f (first ++ a.pos) a.kw) Q E s₁ := by unfold callMarked; exact wpC_keep h₁.2
  rcases hk' with rfl | rfl | rfl <;> dsimp only <;> first | exact tail h₁.2 | (split <;> first | exact tail h₁.2 | exact tail (marked _))
/-- a call by a name: a def of the text's -/
theorem wpC_Call {func : Expr} {e : Expr} {rest : List Expr} {Q : Value → Shared → Prop}
    (h : wpAny M A (eval func env) (fun f s₁ => keepIn K f = true ∧ wpAny M A (spliced (backTo pos (starEach (e :: rest) env))) (fun vs s₂ => K.In s₂.heap ∧ wpC M A (call f vs) Q E s₂) E s₁) E s)
    (hc : eval (.Call func (e :: rest) [] pos) env = (do callWith pos (← eval func env) [] (backTo pos (starEach (e :: rest) env)) (backToKw pos (keywordEach [] env))) := by rfl)
    (he : starEach (e :: rest) env = (false, eval e env) :: starEach rest env := by rfl) (hplain : (backTo pos (starEach rest env)).any (·.1) = false := by rfl) :
    wpC M A (eval (.Call func (e :: rest) [] pos) env) Q E s := by
  rw [hc]
  refine wpC_bindA (wpAny_mono h (fun f s₁ h₁ => ?_) fun _ _ x => x)
  obtain ⟨hk, h₁⟩ := h₁
  rw [he] at h₁ ⊢
  exact wpC_callWith_of (by show ((false || (backTo pos (starEach rest env)).any (·.1)) || false) = false; rw [hplain]; rfl) (keeps_K hk) (evalArgs_plain h₁)
/-- a call of a built-in type, by name -/
theorem wpC_CallType {func : Expr} {e : Expr} {rest : List Expr} {Q : Value → Shared → Prop}
    (h : wpAny M A (eval func env) (fun f s₁ => ∃ T, f = .type T ∧ wpAny M A (spliced (backTo pos (starEach (e :: rest) env))) (fun vs s₂ => wpC M A (call (.type T) vs) Q E s₂) E s₁) E s)
    (hc : eval (.Call func (e :: rest) [] pos) env = (do callWith pos (← eval func env) [] (backTo pos (starEach (e :: rest) env)) (backToKw pos (keywordEach [] env))) := by rfl)
    (he : starEach (e :: rest) env = (false, eval e env) :: starEach rest env := by rfl) (hplain : (backTo pos (starEach rest env)).any (·.1) = false := by rfl) :
    wpC M A (eval (.Call func (e :: rest) [] pos) env) Q E s := by
  rw [hc]
  refine wpC_bindA (wpAny_mono h (fun f s₁ h₁ => ?_) fun _ _ x => x)
  obtain ⟨T, rfl, h₁⟩ := h₁
  rw [he] at h₁ ⊢
  exact wpC_callWith_of (P := fun _ => True) (by show ((false || (backTo pos (starEach rest env)).any (·.1)) || false) = false; rw [hplain]; rfl) (fun _ _ => ⟨.machine, .inr (.inl rfl), Looks.of_pure rfl⟩) (evalArgs_plain (wpAny_mono h₁ (fun _ _ x => ⟨trivial, x⟩) fun _ _ x => x))
end
section
variable {prog : Program} {w : World} {A : Around} {s : Shared}
theorem codeC_loop' {M : Model} {c : Code} {R : Result → Shared → Prop} (hq : c.quiet = true) (I : Nat → Shared → Prop)
    (turn : ∀ n s, I n s → wpC M (A.under c) (M.den c)
      (fun fin s' => match fin with
        | .done f => R (.ok f) s'
        | .again c' => (c' = c ∧ ∃ m, m < n ∧ I m s') ∨ (c'.quiet = true ∧ codeC M A c' R s')) (fun e s' => R (.error e) s') s)
    (n : Nat) (h : I n s) : codeC M A c R s := by
  induction n using Nat.strongRecOn generalizing s with
  | ind n ih =>
    refine codeC_of_tree (wpC_mono (turn n s h) (fun fin s' hf => ?_) fun _ _ h' => h')
    cases fin with
    | done f => exact hf
    | again c' =>
      rcases hf with ⟨rfl, m, hm, hI⟩ | hf
      · exact ⟨hq, ih m hm hI⟩
      · exact hf
/-- a for whose turn is on the spine and never raises -/
theorem codeC_forLoop {R : Result → Shared → Prop} {target it body orelse env} (I : Nat → Shared → Prop)
    (turn : ∀ n s, I n s → wpAny (model prog w) A (pyNext it) (fun r s₁ => match r with
      | none => wpAny (model prog w) A (execs orelse env) (fun f s₃ => R (.ok f) s₃) (fun _ _ => False) s₁
      | some v => wpAny (model prog w) A (assign target env v) (fun _ s₂ => wpC (model prog w) A (execs body env) (fun f s₃ => match f with
          | .next | .cont => ∃ m, m < n ∧ I m s₃
          | .brk => R (.ok .next) s₃
          | .ret v => R (.ok (.ret v)) s₃) (fun _ _ => False) s₂) (fun _ _ => False) s₁) (fun _ _ => False) s)
    (n : Nat) (h : I n s) (ht : ∀ v, letOwnedTupleGo target it v = pure () := by intro _; rfl) : codeC (model prog w) A (.forLoop target it body orelse env) R s := by
  refine codeC_loop' rfl I (fun n s hI => ?_) n h
  show wpC _ _ ((forTurn target it body orelse env).onRaise (fun x => do noteFrame x env; theTreesLotGoes x)) _ _ s
  refine wpC_onRaise (wpC_mono (Q := fun fin s' => match fin with
        | .done f => R (.ok f) s'
        | .again c' => (c' = Code.forLoop target it body orelse env ∧ ∃ m, m < n ∧ I m s') ∨ (c'.quiet = true ∧ codeC (model prog w) A c' R s')) (E := fun _ _ => False) ?_ (fun _ _ x => x) fun _ _ x => x.elim)
  simp only [forTurn]
  refine wpC_standAt_bind (wpC_bindA (wpAny_onRaise (wpAny_mono (turn n s hI) (fun r s₁ h₁ => ?_) fun _ _ h' => wpAny_standAt h')))
  cases r with
  | none => exact wpC_pure (.inr ⟨rfl, codeC_of_any (codeAny_block (wpAny_mono h₁ (fun _ _ x => x) fun _ _ x => x.elim))⟩)
  | some v =>
    refine wpC_bindA (wpAny_of_eq (ht v) ?_)
    refine wpC_bindA (wpAny_mono h₁ (fun _ s₂ h₂ => wpC_bindZ (wpC_mono h₂ (fun f s₃ h₃ => ?_) fun _ _ h' => h')) fun _ _ h' => h')
    cases f with
    | next => exact wpAny_pure (.inl ⟨rfl, h₃⟩)
    | cont => exact wpAny_pure (.inl ⟨rfl, h₃⟩)
    | brk => exact wpAny_pure h₃
    | ret v => exact wpAny_pure h₃
end
end Mine
end
section
open PySem PySem.W PyProof.Rows
namespace Mine
open PySem.Sem (wp)
open PySem.Calls PySem.Spec
section
variable {prog : Program} {w : World} {A : Around} {s : Shared} {env : Env} {h₀ : Heap}
theorem map_again {m : Str → Option Value} {x : Str} {u : Option Value} {v : Value} : (fun y => if y = x then some v else (if y = x then u else m y)) = fun y => if y = x then some v else m y := by
  funext y
  by_cases h : y = x
  · simp only [if_pos h]
  · simp only [if_neg h]
theorem map_self {m : Str → Option Value} {x : Str} : (fun y => if y = x then m x else m y) = m := by
  funext y
  by_cases h : y = x
  · subst h; simp only [if_true]
  · simp only [if_neg h]
/-- what a for over a made list asks of its turns -/
def TurnsC (prog : Program) (w : World) (A : Around) (h₀ : Heap) (env : Env) (x : Str) (body : List Stmt) (Q : Flow → Shared → Prop) (xv : Value) (s₁ : Shared) : Prop :=
  ∃ (l : Addr) (items : List Value) (news : List (Addr × Obj)) (m : Str → Option Value) (o : Obj), xv = .ref l ∧ s₁.heap.IsList l items.toArray ∧ Fr h₀ env.locals s₁.heap m ∧ News h₀ env.locals s₁.heap news ∧ (l, o) ∈ news ∧
    (∀ v h tk I oI, v ∈ items → (∀ q ∈ news, q.1 ≠ I) → Fr h₀ env.locals h (fun y => if y = x then some v else m y) → News h₀ env.locals h ((I, oI) :: news) →
      wpC (model prog w) A (execs body env) (fun f s₃ => f = .next ∧ ∃ h' tk', s₃ = { s₁ with heap := h', toks := tk' } ∧ Fr h₀ env.locals h' (fun y => if y = x then some v else m y) ∧ News h₀ env.locals h' ((I, oI) :: news)) (fun _ _ => False) { s₁ with heap := h, toks := tk }) ∧
    ∀ u h tk, Fr h₀ env.locals h (fun y => if y = x then u else m y) → News h₀ env.locals h news → Q .next { s₁ with heap := h, toks := tk }
theorem For_listC {E : Value → Shared → Prop} {Q : Flow → Shared → Prop} {x : Str} {px pos : Pos} {iter : Expr} {body : List Stmt} (hh : A.handled = none) (hx : env.kindOf x = some .local)
    (hp : (env.scope.kind == .class || (env.scope.kind == .module && env.locals != env.globals)) = false)
    (h : wpAny (model prog w) A (eval iter env) (TurnsC prog w A h₀ env x body Q) E s)
    (hs : ∀ x, foldedSetIterable iter env x = pure x := by intro _; rfl) :
    wpC (model prog w) A (exec (.For (.Name x px) iter body [] pos) env) Q E s := by
  refine wpC_For (wpAny_mono h (fun xv s₁ h₁ => ?_) fun _ _ e => e) hs
  obtain ⟨l, items, news, m, o, rfl, hl, F, N, ho, turn, done⟩ := h₁
  refine wpAny_pyIter_list hl ?_
  have hlt : l < s₁.heap.objs.size := Heap.lt_size (N _ ho).1
  have hne : l ≠ s₁.heap.objs.size := Nat.ne_of_lt hlt
  have W := Walks.list (prog := prog) (w := w) hh s₁.heap.objs.size l hne items.toArray
  have hsz : items.toArray.size = items.length := by simp
  rw [hsz] at W
  have hIL : s₁.heap.objs.size ≠ env.locals := fun e => absurd F.ns.lt (e ▸ Nat.lt_irrefl _)
  have hI₀ : h₀.get? s₁.heap.objs.size = none := next_is_new F
  have hnI : ∀ q ∈ news, q.1 ≠ s₁.heap.objs.size := fun q hq => Nat.ne_of_lt (Heap.lt_size (N q hq).1)
  generalize hI : s₁.heap.objs.size = I at *
  refine codeC_forLoop (fun k s' => ∃ h' tk u i, s' = { s₁ with heap := h', toks := tk } ∧ (h'.IsListIter I l i ∧ h'.IsList l items.toArray) ∧ Fr h₀ env.locals h' (fun y => if y = x then u else m y) ∧ News h₀ env.locals h' news ∧ i ≤ items.length ∧ k = items.length + 1 - i) ?_ (items.length + 1) ?_
  · rintro k s' ⟨h', tk, u, i, rfl, hst, F', N', hi, rfl⟩
    have next : ∀ h₁ : Heap, (∀ b o, b ∉ [I] → h'.get? b = some o → h₁.get? b = some o) → Fr h₀ env.locals h₁ (fun y => if y = x then u else m y) ∧ News h₀ env.locals h₁ news := fun h₁ hk₁ =>
      ⟨⟨F'.ns.at' fun o e => hk₁ _ o (by simpa using hIL.symm) e, fun b o e => hk₁ b o (fun hb => by rw [List.mem_singleton.mp hb, hI₀] at e; cases e) (F'.keep b o e), F'.above⟩,
        fun p hp => ⟨hk₁ _ _ (by simpa using hnI p hp) (N' p hp).1, (N' p hp).2⟩⟩
    by_cases hlt : i < items.length
    · refine W.item i _ _ _ hlt hst fun v h₁ tk₁ hP hst₁ hk₁ => ?_
      obtain ⟨F₁, N₁⟩ := next h₁ hk₁
      refine wpAny_assign_Name (wpAny_storeName_local hx F₁.ns (fun h₂ hn₂ hs₂ => ?_) hp)
      have F₂ := F₁.set hn₂ hs₂
      have N₂ := N₁.set hs₂
      have hst₂ : h₂.IsListIter I l (i + 1) ∧ h₂.IsList l items.toArray := W.frame _ _ _ hst₁ fun b hb o e => (hs₂.2 b fun q => by
        rcases List.mem_cons.mp hb with rfl | hb
        · exact hIL q
        · rw [List.mem_singleton.mp hb] at q
          exact (N _ ho).2.1 q).trans e
      obtain ⟨oI, hoI, hoI'⟩ := hst₂.1
      rw [map_again] at F₂
      have hv : v ∈ items := by
        have : items[i]? = some v := by simpa using hP
        exact List.mem_of_getElem? this
      refine wpC_mono (turn v h₂ _ I oI hv hnI F₂ (fun p hp => ?_)) (fun f s₃ h₃ => ?_) fun _ _ e => e
      · rcases List.mem_cons.mp hp with rfl | hp
        · exact ⟨hoI, hIL, hI₀⟩
        · exact N₂ p hp
      · obtain ⟨rfl, h₄, tk₄, rfl, F₄, N₄⟩ := h₃
        refine ⟨items.length + 1 - (i + 1), by omega, h₄, tk₄, some v, i + 1, rfl, ?_, F₄, fun p hp => N₄ p (.tail _ hp), hlt, rfl⟩
        refine W.frame _ _ _ hst₂ fun b hb o e => ?_
        rcases List.mem_cons.mp hb with rfl | hb
        · rw [hoI] at e
          cases e
          exact (N₄ _ (.head _)).1
        · rw [List.mem_singleton.mp hb] at e ⊢
          have e₁ := (N₂ _ ho).1
          rw [e] at e₁
          cases e₁
          exact (N₄ _ (.tail _ ho)).1
    · have hin : i = items.length := by omega
      subst hin
      refine W.done _ _ _ hst fun h₁ tk₁ hk₁ => wpAny_execs_nil ?_
      obtain ⟨F₁, N₁⟩ := next h₁ hk₁
      exact done u h₁ tk₁ F₁ N₁
  · refine ⟨_, _, m x, 0, rfl, ⟨?_, hl.at fun o e => Heap.get?_push_of_some _ e⟩, ?_, fun p hp => ⟨Heap.get?_push_of_some _ (N p hp).1, (N p hp).2⟩, Nat.zero_le _, rfl⟩
    · rw [← hI]; exact ⟨_, Heap.get?_push_size _ rfl, rfl, rfl⟩
    · rw [map_self]; exact F.push _
end
end Mine
end
section
open PySem PySem.W PyProof.Rows
namespace Mine
open PySem.Calls PySem.Spec

theorem caller_hasC : HasC ⟨.builtin "claim.caller" {}, none, none, [], none⟩ := rfl
theorem thread_endsC {prog : Program} {w : World} {t : Sem Fin} {s : Shared} {R : Result → Shared → Prop} (hreg : s.asleep)
    (h : wpC (model prog w) callerA t (fun fin s' => ∃ f, fin = .done f ∧ (R (.ok f) s' ∧ leftWithCleanup s'.gens = false)) (fun e s' => R (.error e) s' ∧ leftWithCleanup s'.gens = false) s) :
    ∃ n r s' s'', runN (denote table) prog w n s ⟨t, .builtin "claim.caller" {}, default, []⟩ = .halted (outcomeOf r) s' ∧
      schedN (denote table) prog w n (.single s ⟨t, .builtin "claim.caller" {}, default, []⟩) = .halted (outcomeOf r) s' ∧ s'.forget = s''.forget ∧ R r s'' := by
  have h' : Sem.wp (model prog w) ⟨.builtin "claim.caller" {}, none, none, [], none⟩ t (Sem.finPost (model prog w) ⟨.builtin "claim.caller" {}, none, none, [], none⟩ fun r s' => R r s' ∧ leftWithCleanup s'.gens = false)
      (fun e _ s' => R (.error e) s' ∧ leftWithCleanup s'.gens = false) default s := by
    refine Sem.wp_mono _ _ t (fun fin p' s' h' => ?_) (fun _ _ _ h' => h') default s (h _ default caller_in caller_hasC)
    obtain ⟨f, rfl, hf⟩ := h'
    exact hf
  obtain ⟨n, r, s₁, s₂, hs, hn, hfo, hR⟩ := wp_halts_full (M := model prog w) (R := R) hreg h'
  exact ⟨n, r, s₂, s₁, hn, hs, hfo, hR⟩

theorem callFromC {c : ClaimW} {tree : List Value → Sem Fin} {w : World} {s : Shared} {free : Addr → Prop} {gens : Prop} {kept : Heap → Prop} (hz : s.asleep) (hgens : s.gens = #[])
    (hspec : ∀ args, c.pre args = true → WData.layableAll args = true →
      ∀ ord : List DictEntry → List DictEntry, (∀ l, (ord l).Perm l) →
      ∃ vs s₁, layAllW c.records (classAt s.heap) w.params ord args s = some (vs, s₁) ∧
        wpC (model c.prog w) callerA (tree vs) (fun fin s' => ∃ f, fin = .done f ∧ (c.Ends s args vs s₁ (.ok f) s' ∧ s'.os = s.os ∧ AllBare s'.gens ∧ kept s'.heap))
          (fun e s' => c.Ends s args vs s₁ (.error e) s' ∧ s'.os = s.os ∧ AllBare s'.gens ∧ kept s'.heap) s₁) :
    c.CallFrom (fun vs => ⟨tree vs, .builtin "claim.caller" {}, default, []⟩) w free gens kept s := by
  intro args hpre hlay ord hord
  obtain ⟨vs, s₁, hlaid, hcode⟩ := hspec args hpre hlay ord hord
  have hal := layAllW_rest _ _ _ hlaid
  obtain ⟨k, r, s', s'', hrun, hsched, hfo, hcase, hos, hkp⟩ := thread_endsC (prog := c.prog) (w := w) (t := tree vs) (s := s₁)
    (R := fun r s' => c.Ends s args vs s₁ r s' ∧ s'.os = s.os ∧ kept s'.heap)
    (Shared.asleep_of_life hal.2.2.2 hz)
    (wpC_mono hcode (fun fin s' ⟨f, e, h1, h2, h3, h4⟩ => ⟨f, e, ⟨h1, h2, h4⟩, leftWithCleanup_false_of_bare h3⟩)
      fun e s' ⟨h1, h2, h3, h4⟩ => ⟨⟨h1, h2, h4⟩, leftWithCleanup_false_of_bare h3⟩)
  obtain ⟨eh, _, _, eo, _⟩ := Shared.forget_eq hfo
  have hcase := hcase.congr eh
  rw [← eh] at hkp
  rw [← eo] at hos
  have hlife : s'.heap.life = s.heap.life := (runN_life _ _ _ hrun).trans hal.2.2.2
  refine ⟨vs, s₁, hlaid, k, _, s', hsched, ?_, (fun _ i x hx => by rw [hgens] at hx; simp at hx), hkp, by rw [hlife], Shared.rest_eq hos⟩
  rcases hcase with ⟨v, rfl, d1, d2, d3, d4, d5⟩ | ⟨e, ob, cls, rfl, d1, d2, d3, d4, d5⟩
  · exact .inl ⟨v, rfl, d1, d2, d3, fun b o y _ => d4 b o y, d5⟩
  · exact .inr ⟨e, ob, cls, rfl, d1, d2, d3, d4, fun b o y _ => d5 b o y⟩

/-- what is left of the law behind its top, on the spine -/
abbrev WalkC (q : Program) (loose : List Str) (XP : (Str → Option Value) → Heap → Prop) (YP : World → Heap → Prop) (r : RowW) (d : DefRec) (kwd : List (Str × Expr)) : Prop :=
  ∀ (w : World) (s₀ s₁ : Shared) (mg mb : Str → Option Value), Ground q loose r.records XP w s₀ mg mb s₁.heap → YP w s₁.heap → ∀ (a : Addr) (o : Obj) (pm cd doc dV kV : Value), s₁.heap.get? a = some o →
    o.data = .func { docDef d.name d.params d.body d.scope pm cd doc with defaults := dV, kwdefaults := kV } → s₁.heap.CodeRec cd d.name → Dflts mg s₁.heap d.params kwd dV kV → mg d.name = some (.ref a) → s₁.gens = #[] →
    ∀ (args : List WData) (vals : List Value) (as : List Addr), r.claim.pre args = true → WData.layableAll args = true → ReadsAllW r.records (classAt s₀.heap) s₁.heap vals args as → WellAll w.params s₁.heap vals args → (∀ a ∈ as, (a == sysModules) = false) →
      wpC (model r.prog w) callerA (PySem.call (.ref a) vals) (fun v s' => GoodWG r.claim (classAt s₀.heap) (ExcName.means s₀.heap) args s₁ (.ok (.ret v)) s')
        (fun e s' => GoodWG r.claim (classAt s₀.heap) (ExcName.means s₀.heap) args s₁ (.error e) s') s₁

/-- the head, for a walk on the spine (found by o_head under this name within this namespace) -/
theorem PySem.W.holds_open {r : OpenRow} {q : Program} {loose : List Str} {Xt : Shared → Bool} {XP : (Str → Option Value) → Heap → Prop} {α : Type} {Yf : Shared → α} {Ya : World → α} {YP : World → Heap → Prop} {d : DefRec} {kwd : List (Str × Expr)} {N : Nat}
    (left : LeftO r.prog q loose Xt Yf Ya N) (hY : ∀ w s, Yf s = Ya w → YP w s.heap) (hYk : ∀ w h h', YP w h → (∀ b o, h.get? b = some o → h'.get? b = some o) → YP w h')
    (hX : ∀ s, Xt s = true → XP (s.heap.nsMap mainGlobals) s.heap) (hXk : ∀ mg h h', XP mg h → (∀ b o, h.get? b = some o → h'.get? b = some o) → XP mg h')
    (hdef : defOf q r.name = some (d, kwd)) (hp : r.prog.theDef r.name = some (d.params, d.body, d.scope)) (hk : kwWritten? d.params.kwonlyargs d.params.kw_defaults = some kwd) (hRf : ∀ s, Xt s = true → RecFacts r.records s.heap) (hwr : (!r.writes || r.records.isEmpty) = true)
    (k1 : r.wellSaid = true) (ok : (chainsOk q && opensWell r.prog && (frees r.toRowW && r.within.isEmpty)) = true) (hb : r.prog.bare) (hw : r.toRowW.promised)
    (call : WalkC q loose XP YP r.toRowW d kwd) : r.Holds := by
  obtain ⟨ok, k5⟩ := Bool.and_eq_true_iff.mp ok
  obtain ⟨hch, o1⟩ := Bool.and_eq_true_iff.mp ok
  obtain ⟨k5, k6⟩ := Bool.and_eq_true_iff.mp k5
  obtain ⟨hsame, hu, ha, hap, hm⟩ := frees_parts k5
  refine ⟨k1, hw, ⟨hb, o1, by show r.makers.map _ = []; rw [hm]; rfl⟩, hw.witness, fun w => ⟨(left.behind hX hch w).1, fun s' hs' => ?_⟩⟩
  obtain ⟨s₀, hf, hg0, s, hT, hz, hgens, hg, G00, y⟩ := (left.behind (XP := fun mg h => XP mg h ∧ RecFacts r.records h) (fun s hs => ⟨hX s hs, hRf s hs⟩) hch w).2 s' hs'
  have G0 : Ground q loose [] XP w s (s.heap.nsMap mainGlobals) (s.heap.nsMap builtinsNs) s.heap := ⟨G00.T, G00.B, G00.D, G00.TE, G00.TD, G00.W, G00.X.1, G00.cls, G00.has, G00.apart, G00.once, G00.K⟩
  have RF := G00.X.2
  have hT' := hT
  refine ⟨s₀, hf, hg0, s, hT, (fun n hn => ?_), RF.1, RF.2.1, ?_⟩
  · obtain rfl : n = r.name := by split at hn <;> simp_all
    exact pinned_of_view hg G0 hdef hp hk
  have hgens : s.gens = #[] := Array.eq_empty_of_size_eq_zero (beq_iff_eq.mp hgens)
  have G : Ground q loose r.records XP w s _ _ s.heap := RF.ground G0
  refine callFromC (c := r.toRowW.claim) (tree := fun vs => do match ← nsGet mainNs r.name with
      | some f => do ret (← PySem.call f vs)
      | none => unsupported "claim.caller:no-such-global") hz hgens fun args hpre hlay ord hord => ?_
  obtain ⟨⟨vs, s₁⟩, hlaid⟩ := Option.isSome_iff_exists.mp (layAllW_isSome (P := w.params) (ord := ord) G.has args r.args s (pre_splitW hpre).1)
  have keeps := layAllW_keeps _ _ _ hlaid
  have hal := layAllW_rest _ _ _ hlaid
  obtain ⟨as, hrd, hin, hold⟩ := reads_layAllW hord _ _ _ hlaid hlay s₁.heap (fun _ _ e => e)
  have L : Laid r.records w s s₁ args vs as := ⟨⟨ord, hord, hlaid⟩, hrd, hin, hold, keeps, hal.1.trans hgens, hal.2.2.1⟩
  have G₁ := G.keeps hXk keeps
  obtain ⟨a, o, pm, cd, doc, dV, kV, h1, h2, h3, h4, h5⟩ := G₁.fn hdef
  have h := call w s s₁ _ _ G₁ (hYk _ _ _ (hY w s y) keeps) a o pm cd doc dV kV h2 h3 h4 h5 (defOf_name hdef ▸ h1) L.gens args vs as hpre hlay L.reads L.well (L.low G.low)
  have hi := ident_freeW hu ha hap
  have hwi : r.toRowW.claim.within = [] := List.isEmpty_iff.mp k6
  refine ⟨vs, s₁, hlaid, wpC_bindA (wpAny_nsGet G₁.T.g ?_)⟩
  rw [show s.heap.nsMap mainGlobals r.name = some (.ref a) from h1]
  refine wpC_bindZ (wpC_mono h (fun v s' g => wpAny_pure ⟨_, rfl, ?_⟩) fun e s' g => ?_)
  · have z := g.laid (c := r.toRowW.claim) hsame hwi hi L
    exact ⟨z.1, z.2.1, z.2.2, fun q => ⟨namesKept_of hT' hg _ keeps g.2.1.old, noTable hwr q⟩⟩
  · have z := g.laid (c := r.toRowW.claim) hsame hwi hi L
    exact ⟨z.1, z.2.1, z.2.2, fun q => ⟨namesKept_of hT' hg _ keeps g.2.1.old, noTable hwr q⟩⟩
end Mine
end
section
open PySem PySem.W PyProof.Rows
set_option maxRecDepth 100000
set_option maxHeartbeats 4000000
namespace Mine
open PySem.Sem (wp)
open PySem.Calls PySem.NumText
theorem step_eq {α β : Type} {m : Sem α} {a : α} {k : α → Sem β} {t u : Sem β} (e : m = pure a) (h : t = (m >>= k)) (h' : k a = u) : t = u := by
  rw [h, e]; exact h'
theorem new_eq (x : PySem.Str) (u : Tok) : Builtin.«int.__new__» ⟨[.type "int", .str x u], []⟩ = ((int_private% "intFromText") (.str x u) (numTextOf x) 10 >>= fun v => ret v) := by
  have f1 := F.conv_sub_int
  have f2 := F.madeHere_int
  have f3 := KIN.str_int
  have f4 := KIN.str_idx
  have f5 := KIN.str_trunc
  have f6 : typeOf (.str x u) = pure (.type "str") := rfl
  refine step_eq f1 rfl ?_
  refine step_eq f2 rfl ?_
  show ((int_private% "intFromObject") (.str x u) >>= fun v => ret v) = _
  refine congrArg (· >>= fun v => ret v) ?_
  have s3 : callSpecial? (.str x u) "__int__" [] [] = pure none := by
    show (typeLookup (.type "str") "__int__" >>= _) = _
    rw [f3]; rfl
  have s4 : specialOf (.str x u) "__index__" = pure none := f4
  have s5 : specialOf (.str x u) "__trunc__" = pure none := f5
  refine step_eq s3 rfl ?_
  refine step_eq s4 rfl ?_
  refine step_eq s5 rfl ?_
  rfl
theorem call_eq (x : Value) : ∃ k : Value → Sem PySem.Fin, Builtin.«type.__call__» ⟨[.type "int", x], []⟩ = (holding [.builtin "int.__new__"] (call (.builtin "int.__new__") [.type "int", x] []) >>= k) := by
  obtain ⟨c, tl, hmro⟩ := F.called_int.mro
  have hmade := F.called_int.made
  have h2 := F.called_int.canCreate
  have h3 := F.typeCall_int_1 x
  refine ⟨?k, ?_⟩
  rotate_left
  · unfold Builtin.«type.__call__»
    dsimp only
    rw [if_neg (by decide)]
    rw [if_neg (by rw [h2]; decide)]
    refine step_eq h3 rfl ?_
    refine step_eq hmro rfl ?_
    refine step_eq hmade rfl ?_
    rfl
end Mine
end
section
open PySem PySem.W PyProof.Rows
set_option maxRecDepth 100000
set_option maxHeartbeats 4000000
namespace Mine
open PySem.Sem (wp)
open PySem.Calls PySem.NumText
open PySem.Builtin PySem.Builtin.Str
section
variable {prog : Program} {w : World} {A : Around} {E : Value → Shared → Prop} {s : Shared}
theorem wpC_mark {own : List String} {e : Value} {Q : Unit → Shared → Prop} (h : Q () s) : wpC (model prog w) A (markTheRefusal own e) Q E s := fun Γ p hΓ hC => by
  unfold markTheRefusal
  show wp _ Γ (if pythonCodeMadeTheCall own (((Γ.code, p) :: Γ.below).map (·.1)) then _ else _) _ _ p s
  have hf : pythonCodeMadeTheCall own (((Γ.code, p) :: Γ.below).map (·.1)) = false := by
    have hc : (((Γ.code, p) :: Γ.below).map (·.1)).any Code.isCaller = true := hC
    unfold pythonCodeMadeTheCall
    exact Bool.and_eq_false_iff.mpr (.inl (Bool.and_eq_false_iff.mpr (.inl (congrArg not hc))))
  rw [hf]
  exact h
/-- int's own words for a text that it refuses -/
def refusal (x : PySem.Str) : PySem.Str := PySem.Str.ofString "invalid literal for int() with base 10: " ++ ⟨(reprText x).cps.extract 0 200⟩
theorem refusal_length (x : PySem.Str) : (refusal x).length ≤ 240 := by
  have e : (PySem.Str.ofString "invalid literal for int() with base 10: ").length = 40 := by decide +kernel
  unfold refusal
  rw [PySem.Str.length_append, e]
  show 40 + ((reprText x).cps.extract 0 200).size ≤ 240
  simp only [Array.size_extract]
  omega
theorem head_words : (Coe.coe (toString "invalid literal for int() with base " ++ toString (10 : Nat) ++ toString ": ") : PySem.Str) = PySem.Str.ofString "invalid literal for int() with base 10: " := by decide +kernel
theorem text_refused {x : PySem.Str} {u : Tok} {Q : Value → Shared → Prop} (hs : (numSeenOf x).length ≤ 640) (hr : (int_private% "readNumeral") 0 10 (numSeenOf x) = int_private% "Numeral.invalid") (hh : A.handled = none) (hsz : (reprText x).length ≤ sizeLine)
    (h : ∀ h' tk e t, Heap.MadeExc s.heap h' e "ValueError" [.str (refusal x) t] → E (.ref e) { s with heap := h', toks := tk }) :
    wpC (model prog w) A ((int_private% "intFromText") (.str x u) (numTextOf x) 10) Q E s := by
  have e : (int_private% "intFromText") (.str x u) (numTextOf x) 10 = (do
      rule "int.__new__.invalid-literal"
      let shown ← pyRepr (.str x u)
      let m ← mkStr (PySem.Str.ofString "invalid literal for int() with base 10: " ++ ⟨shown.cps.extract 0 200⟩)
      let refusal ← newExc (.type "ValueError") [m]
      markTheRefusal ["int.__new__"] refusal
      raiseNew refusal) := by
    rw [← head_words]
    refine (if_pos hs).trans ?_
    rw [pure_bind]
    dsimp only
    rw [show (int_private% "readNumeral") 0 10 (List.takeWhile (fun x => x != 0) (numTextOf x)) = int_private% "Numeral.invalid" from hr]
    rfl
  rw [e]
  refine wpC_bindA (wpAny_rule ?_)
  refine wpC_bindA (wpAny_pyRepr_str ?_ hsz)
  refine wpC_bindA (wpAny_mkStr ?_ (Nat.le_trans (refusal_length x) (by rw [sizeLine_eq]; decide)))
  refine wpC_bindA (wpAny_newExc_plain plainExc_ValueError (fun h' ea hm => ?_))
  refine wpC_bind (wpC_mark ?_)
  exact wpC_of_any (wpAny_raiseNew_none hh (h _ _ _ _ hm))

theorem codeC_builtin {R : Result → Shared → Prop} {id : String} {args : Args} {b : Builtin} (hb : entryFor table id = some b)
    (h : wpC (model prog w) (A.under (.builtin id args)) (b args)
      (fun fin s' => match fin with | .done f => R (.ok f) s' | .again c' => c'.quiet = true ∧ codeC (model prog w) A c' R s') (fun e s' => R (.error e) s') s) :
    codeC (model prog w) A (.builtin id args) R s := by
  refine codeC_of_tree ?_
  show wpC _ _ (match entryFor table id with | some b => b args | none => unsupported ((withoutEnding? id "#data").getD id)) _ _ s
  rw [hb]; exact h
theorem int_refused {x : PySem.Str} {u : Tok} {Q : Value → Shared → Prop} (hn : PySem.intText? x = none) (hl : x.length ≤ 640) (hz : (numSeenOf x).length = (numTextOf x).length) (hh : A.handled = none) (hsz : (reprText x).length ≤ sizeLine)
    (h : ∀ h' tk e t, Heap.MadeExc s.heap h' e "ValueError" [.str (refusal x) t] → E (.ref e) { s with heap := h', toks := tk }) :
    wpC (model prog w) A (call (.type "int") [.str x u]) Q E s := by
  have hs : (numSeenOf x).length ≤ 640 := Nat.le_trans (seen_length x) hl
  have hr : (int_private% "readNumeral") 0 10 (numSeenOf x) = int_private% "Numeral.invalid" := by
    rcases read0 x hs with ⟨m, h1, _⟩ | ⟨_, h2 | ⟨i, _, h3⟩⟩
    · rw [hn] at h1; cases h1
    · exact h2
    · exact absurd (beq_iff_eq.mpr hz) h3
  refine wpC_call (codeC_of_tree ?_)
  show wpC _ _ (callAny (.type "int") _) _ _ _
  refine wpC_pure ⟨Code.quiet_builtin _ (by decide +kernel), codeC_builtin F.entry_type_call ?_⟩
  rw [Around.under_plain (weight_type_call_type "int" [.str x u] []) (units_type_call_type "int" [.str x u] [])]
  obtain ⟨k, hk⟩ := call_eq (.str x u)
  rw [hk]
  refine wpC_bindZ (wpC_mono (Q := fun _ _ => False) (wpC_holding (wpC_call (codeC_of_tree ?_))) (fun _ _ x => x.elim) fun _ _ x => x)
  show wpC _ A.in1.in1 (do checkBuiltinCall "int.__new__" ⟨[.type "int", .str x u], []⟩; again (.builtin "int.__new__" ⟨[.type "int", .str x u], []⟩)) _ _ s
  refine wpC_bindA (wpAny_of_eq (F.newCall_int_1 (.str x u)) (wpC_pure ⟨plainId_quiet F.called_int.plain _, codeC_builtin F.entry_int_new ?_⟩))
  rw [Around.under_plainId F.called_int.plain, new_eq]
  exact wpC_bindZ (wpC_mono (Q := fun _ _ => False) (text_refused hs hr hh hsz h) (fun _ _ x => x.elim) fun _ _ x => x)
end
end Mine
end
section
open PySem PySem.W PyProof.Rows
set_option maxRecDepth 100000
set_option maxHeartbeats 400000
namespace Mine
open PySem.Calls PySem.Builtin PySem.Builtin.Str PySem.Builtin.BaseException PySem.Builtin.Exceptions
section
variable {prog : Program} {w : World} {A : Around} {E : Value → Shared → Prop} {s : Shared} {K : Frag} {C e t0 : Addr} {oe : Obj} {ws : Array Value} {m : PySem.Str} {tk : Tok}
theorem excArgs_own {M : Model} {items : List Value} {Q : Value × List Value → Shared → Prop} (he : s.heap.get? e = some oe) (hd : oe.data = .fields ws) (h0 : ws[0]? = some (.ref t0)) (ht : s.heap.TupAt t0 items) (hq : Q (.ref t0, items) s) :
    wpAny M A (bexcArgs (.ref e)) Q E s := by
  obtain ⟨ot, k, hto, _, htd⟩ := ht
  unfold bexcArgs
  refine wpAny_bind (wpAny_field he hd h0 (wpAny_bind (wpAny_seqItems hto htd ?_)))
  have : items.toArray.toList = items := by simp
  show wpAny M A (pure (Value.ref t0, items.toArray.toList)) Q E s
  rw [this]; exact wpAny_pure hq
theorem excStr_own {Q : PySem.Fin → Shared → Prop} (he : s.heap.get? e = some oe) (hd : oe.data = .fields ws) (h0 : ws[0]? = some (.ref t0)) (ht : s.heap.TupAt t0 [.str m tk]) (hq : Q (.done (.ret (.str m tk))) s) :
    wpAny (model prog w) A (Builtin.«BaseException.__str__» ⟨[.ref e], []⟩) Q E s := by
  unfold Builtin.«BaseException.__str__»
  repeat (first | with_reducible refine excArgs_own he hd h0 ht ?_ | wp_step)
  exact hq
theorem bind_bexcStr (self : Value) : bindSpecial (.builtin "BaseException.__str__") self = pure (.builtin "BaseException.__str__", [self]) := F.excStr_ValueError.str.bind self
theorem kind_bexcStr : builtinKind "BaseException.__str__" = some .slot := by decide +kernel
theorem split_bexcStr : splitId "BaseException.__str__" = some ("BaseException", "__str__") := by decide +kernel
theorem strOf_own {Q : Value → Shared → Prop} (X : K.In s.heap) (hu : A.units < cLine) (he : s.heap.get? e = some oe) (hc : oe.cls = .ref C) (hd : oe.data = .fields ws) (h0 : ws[0]? = some (.ref t0)) (ht : s.heap.TupAt t0 [.str m tk])
    (hf : findIn K (.ref C) "__str__" = some (some (.builtin "BaseException.__str__"))) (hsub : subIn K (.ref C) (.type "BaseException") = some true) (hq : Q (.str m tk) s) :
    wpAny (model prog w) A (PySem.Builtin.Str.strOf (.ref e)) Q E s := by
  have hty : Looks (model prog w) s.heap (typeOf (.ref e)) (.ref C) := (Looks.ld (part := none) he).andThen (hc ▸ .now)
  have hi : Looks (model prog w) s.heap (isInstance (.ref e) (.type "BaseException")) true := hty.andThen (looks_subIn X hsub)
  unfold PySem.Builtin.Str.strOf
  refine wpAny_ite ?_
  rw [if_neg (show ¬ isExactStr (Value.ref e) = true from Bool.false_ne_true)]
  refine wpAny_bind (wpAny_cRoomFor hu ?_)
  refine wpAny_bind (m := callSpecial? (.ref e) "__str__") ?_
  unfold callSpecial?
  refine wpAny_bind (wpAny_bind (hty.here ((looks_findIn X hf).here ?_)))
  dsimp only
  refine wpAny_holding (wpAny_bind (wpAny_of_eq (bind_bexcStr _) ?_))
  dsimp only
  refine wpAny_bind (wpAny_call ?_)
  refine codeAny_call_builtin F.excStr_ValueError.str.plain F.entry_bexc_str ?_
  refine check_slot (i := "BaseException.__str__") (owner := "BaseException") (n := "__str__") kind_bexcStr split_bexcStr hi (F.args_bexc_str _) ?_
  refine excStr_own he hd h0 ht ?_
  dsimp only
  refine wpAny_pure ?_
  dsimp only
  refine wpAny_bind (m := asStr? (.str m tk)) (wpAny_pure (a := some m) ?_)
  rw [if_neg (show ¬ (some m).isNone = true from Bool.false_ne_true)]
  exact wpAny_pure hq
theorem str_own {Q : Value → Shared → Prop} (X : K.In s.heap) (hu : A.units + 2 < cLine) (he : s.heap.get? e = some oe) (hc : oe.cls = .ref C) (hd : oe.data = .fields ws) (h0 : ws[0]? = some (.ref t0)) (ht : s.heap.TupAt t0 [.str m tk])
    (hf : findIn K (.ref C) "__str__" = some (some (.builtin "BaseException.__str__"))) (hsub : subIn K (.ref C) (.type "BaseException") = some true) (hq : Q (.str m tk) s) :
    wpAny (model prog w) A (call (.type "str") [.ref e]) Q E s :=
  callType_new F.called_str (by decide) (F.typeCall_str_1 _) (F.newCall_str_1 _) (fun obj => F.args_object_init_2 obj _) F.entry_str_new
    (meets_str_new (S := fun A' R s' => A'.units + 1 < cLine ∧ K.In s'.heap ∧ s'.heap.get? e = some oe ∧ s'.heap.TupAt t0 [.str m tk] ∧ R (.ok (.ret (.str m tk))) s')
      fun _ _ A' _ _ hq => strOf_own (A := A'.in1) hq.2.1 hq.1 hq.2.2.1 hc hd h0 hq.2.2.2.1 hf hsub hq.2.2.2.2)
    ⟨(show A.units + 1 + 1 < cLine from hu), X, he, ht, typeIs_str _ _ _, hq⟩
/-- str of an exception that the frame's own clause holds -/
theorem str_got_own {h₀ : Heap} {L : Addr} {mm : PySem.Str → Option Value} {news : List (Addr × Obj)} {Q : Value → Shared → Prop} (F : Fr h₀ L s.heap mm) (X : K.In h₀) (N : News h₀ L s.heap news) (G : Got news e t0 (.ref C) [.str m tk]) (hu : A.units + 2 < cLine)
    (hf : findIn K (.ref C) "__str__" = some (some (.builtin "BaseException.__str__"))) (hsub : subIn K (.ref C) (.type "BaseException") = some true) (hq : Q (.str m tk) s) :
    wpAny (model prog w) A (call (.type "str") [.ref e]) Q E s := by
  obtain ⟨oe, ot, ws, nt, h1, h2, h3, h4, h5, h6, h7⟩ := G
  exact str_own (X.keeps F.keep) hu (N _ h1).1 h3 h4 h5 ⟨ot, nt, (N _ h2).1, h6, h7⟩ hf hsub hq
theorem str_got_value {h₀ : Heap} {L : Addr} {news : List (Addr × Obj)} {Q : Value → Shared → Prop} (N : News h₀ L s.heap news) (G : Got news e t0 (.type "ValueError") [.str m tk]) (hu : A.units + 2 < cLine)
    (hq : Q (.str m tk) s) : wpAny (model prog w) A (call (.type "str") [.ref e]) Q E s := by
  obtain ⟨oe, ot, ws, nt, h1, h2, h3, h4, h5, h6, h7⟩ := G
  exact P.str_of_exc_one F.excStr_ValueError hu ⟨oe, ws, (N _ h1).1, h3, h4, h5⟩ ⟨ot, nt, (N _ h2).1, h6, h7⟩ hq
end
end Mine
end
open PySem PySem.W PyProof.Rows
namespace Mine
set_option maxRecDepth 100000 in
set_option maxHeartbeats 8000000 in
open_top hd for PySem.Challenge.rw_dz0032_01
end Mine
section
open PySem PySem.W PyProof.Rows
namespace Mine
abbrev lawSc : Scope := { kind := ScopeKind.function, names := [(Str.ofString "script", NameKind.local), (Str.ofString "peer", NameKind.local), (Str.ofString "resp", NameKind.local), (Str.ofString "str", NameKind.globalImplicit), (Str.ofString "sum", NameKind.globalImplicit), (Str.ofString "_law_replies", NameKind.globalImplicit), (Str.ofString "_law_told", NameKind.globalImplicit), (Str.ofString "_law_due", NameKind.globalImplicit)], isGenerator := false, isCoroutine := false }
abbrev tup2 (host : Str) (t2 t3 : Tok) (n : Nat) : Obj := { cls := .type "tuple", data := .seq #[.str host t2, .int 21 t3] n }
end Mine
end
section
open PySem PySem.W PyProof.Rows
namespace Mine
/-- the four answers -/
inductive Ans where
  | reply (x : PySem.Str)
  | proto (x : PySem.Str)
  | number (x : PySem.Str)
  | told (p : Int)
abbrev pairL (k : PySem.Str) (v : Value) (t : Tok) (n : Nat) : Obj := W.listOf #[.str k t, v] n
abbrev tupP (host : PySem.Str) (t2 : Tok) (p : Int) (t3 : Tok) (n : Nat) : Obj := { cls := .type "tuple", data := .seq #[.str host t2, .int p t3] n }
/-- the value r bears the answer in the heap -/
def AnsAt (host : PySem.Str) (h₀ : Heap) (L : Addr) (h : Heap) (r : Value) : Ans → Prop
  | .reply x => ∃ l t t' n, r = .ref l ∧ News h₀ L h [(l, pairL (Str.ofString "reply") (.str x t') t n)]
  | .proto x => ∃ l t t' n, r = .ref l ∧ News h₀ L h [(l, pairL (Str.ofString "proto") (.str x t') t n)]
  | .number x => ∃ l t t' n, r = .ref l ∧ News h₀ L h [(l, pairL (Str.ofString "number") (.str x t') t n)]
  | .told p => ∃ l u t t' t'' n n', r = .ref l ∧ News h₀ L h [(l, pairL (Str.ofString "told") (.ref u) t n), (u, tupP host t' p t'' n')]
section
variable {host : PySem.Str} {h₀ h : Heap} {L l u : Addr} {t t' t'' : Tok} {n n' : Nat} {x : PySem.Str} {p : Int} {rest : List (Addr × Obj)} {a : Ans}
theorem ansReply (N : News h₀ L h ((l, pairL (Str.ofString "reply") (.str x t') t n) :: rest)) (e : a = .reply x) : AnsAt host h₀ L h (.ref l) a := by
  subst e; exact ⟨l, t, t', n, rfl, fun p hp => N p (by rw [List.mem_singleton.mp hp]; exact .head _)⟩
theorem ansProto (N : News h₀ L h ((l, pairL (Str.ofString "proto") (.str x t') t n) :: rest)) (e : a = .proto x) : AnsAt host h₀ L h (.ref l) a := by
  subst e; exact ⟨l, t, t', n, rfl, fun p hp => N p (by rw [List.mem_singleton.mp hp]; exact .head _)⟩
theorem ansNumber (N : News h₀ L h ((l, pairL (Str.ofString "number") (.str x t') t n) :: rest)) (e : a = .number x) : AnsAt host h₀ L h (.ref l) a := by
  subst e; exact ⟨l, t, t', n, rfl, fun p hp => N p (by rw [List.mem_singleton.mp hp]; exact .head _)⟩
theorem ansTold (N : News h₀ L h ((l, pairL (Str.ofString "told") (.ref u) t n) :: (u, tupP host t' p t'' n') :: rest)) (e : a = .told p) : AnsAt host h₀ L h (.ref l) a := by
  subst e
  refine ⟨l, u, t, t', t'', n, n', rfl, fun q hq => N q ?_⟩
  rcases List.mem_cons.mp hq with rfl | hq
  · exact .head _
  · rw [List.mem_singleton.mp hq]; exact .tail _ (.head _)
end
/-- what parse229 and _law_told reckon -/
def toldAns (resp : PySem.Str) : Ans :=
  if (Txt.slice resp none (some 3) != Str.ofString "229") = true then .reply resp
  else if Txt.find resp (Str.ofString "(") < 0 then .proto resp
  else if Txt.find3 resp (Str.ofString ")") (Txt.find resp (Str.ofString "(") + 1) < 0 then .proto resp
  else if (Txt.item resp (Txt.find resp (Str.ofString "(") + 1) != Txt.item resp (Txt.find3 resp (Str.ofString ")") (Txt.find resp (Str.ofString "(") + 1) - 1)) = true then .proto resp
  else match Txt.split (Txt.slice resp (some (Txt.find resp (Str.ofString "(") + 1)) (some (Txt.find3 resp (Str.ofString ")") (Txt.find resp (Str.ofString "(") + 1)))) (Txt.item resp (Txt.find resp (Str.ofString "(") + 1)) with
    | [_, _, _, f, _] => (match PySem.intText? f with
      | some n => .told n
      | none => .number (refusal f))
    | _ => .proto resp
section
variable {resp : PySem.Str}
theorem told_1 (h : (Txt.slice resp none (some 3) != Str.ofString "229") = true) : toldAns resp = .reply resp := by
  unfold toldAns; rw [if_pos h]
theorem told_2 (h1 : (Txt.slice resp none (some 3) != Str.ofString "229") = false) (h : Txt.find resp (Str.ofString "(") < 0) : toldAns resp = .proto resp := by
  unfold toldAns; rw [if_neg (by rw [h1]; decide), if_pos h]
theorem told_3 (h1 : (Txt.slice resp none (some 3) != Str.ofString "229") = false) (h2 : ¬ Txt.find resp (Str.ofString "(") < 0) (h : Txt.find3 resp (Str.ofString ")") (Txt.find resp (Str.ofString "(") + 1) < 0) : toldAns resp = .proto resp := by
  unfold toldAns; rw [if_neg (by rw [h1]; decide), if_neg h2, if_pos h]
theorem told_4 (h1 : (Txt.slice resp none (some 3) != Str.ofString "229") = false) (h2 : ¬ Txt.find resp (Str.ofString "(") < 0) (h3 : ¬ Txt.find3 resp (Str.ofString ")") (Txt.find resp (Str.ofString "(") + 1) < 0)
    (h : (Txt.item resp (Txt.find resp (Str.ofString "(") + 1) != Txt.item resp (Txt.find3 resp (Str.ofString ")") (Txt.find resp (Str.ofString "(") + 1) - 1)) = true) : toldAns resp = .proto resp := by
  unfold toldAns; rw [if_neg (by rw [h1]; decide), if_neg h2, if_neg h3, if_pos h]
theorem told_5 {l : List (PySem.Str × Tok)} (h1 : (Txt.slice resp none (some 3) != Str.ofString "229") = false) (h2 : ¬ Txt.find resp (Str.ofString "(") < 0) (h3 : ¬ Txt.find3 resp (Str.ofString ")") (Txt.find resp (Str.ofString "(") + 1) < 0)
    (h4 : (Txt.item resp (Txt.find resp (Str.ofString "(") + 1) != Txt.item resp (Txt.find3 resp (Str.ofString ")") (Txt.find resp (Str.ofString "(") + 1) - 1)) = false)
    (hl : List.map (fun x => x.1) l = Txt.split (Txt.slice resp (some (Txt.find resp (Str.ofString "(") + 1)) (some (Txt.find3 resp (Str.ofString ")") (Txt.find resp (Str.ofString "(") + 1)))) (Txt.item resp (Txt.find resp (Str.ofString "(") + 1)))
    (h : (l.length : Int) ≠ 5) : toldAns resp = .proto resp := by
  unfold toldAns; rw [if_neg (by rw [h1]; decide), if_neg h2, if_neg h3, if_neg (by rw [h4]; decide), ← hl]
  split
  · rename_i e
    have := congrArg List.length e
    simp at this
    omega
  · rfl
theorem told_six {l : List (PySem.Str × Tok)} (h1 : (Txt.slice resp none (some 3) != Str.ofString "229") = false) (h2 : ¬ Txt.find resp (Str.ofString "(") < 0) (h3 : ¬ Txt.find3 resp (Str.ofString ")") (Txt.find resp (Str.ofString "(") + 1) < 0)
    (h4 : (Txt.item resp (Txt.find resp (Str.ofString "(") + 1) != Txt.item resp (Txt.find3 resp (Str.ofString ")") (Txt.find resp (Str.ofString "(") + 1) - 1)) = false)
    (hl : List.map (fun x => x.1) l = Txt.split (Txt.slice resp (some (Txt.find resp (Str.ofString "(") + 1)) (some (Txt.find3 resp (Str.ofString ")") (Txt.find resp (Str.ofString "(") + 1)))) (Txt.item resp (Txt.find resp (Str.ofString "(") + 1)))
    (h : (l.length : Int) = 5) {y : PySem.Str} (hy : (List.map (fun x => x.1) l)[(3 : Int).toNat]? = some y) : toldAns resp = match PySem.intText? y with | some n => .told n | none => .number (refusal y) := by
  unfold toldAns; rw [if_neg (by rw [h1]; decide), if_neg h2, if_neg h3, if_neg (by rw [h4]; decide), ← hl]
  match l, h with
  | [a, b, c, d, e], _ =>
    have e : d.1 = y := Option.some.inj hy
    rw [← e]
    rfl
theorem told_6 {y : PySem.Str} {n : Int} (e : toldAns resp = match PySem.intText? y with | some n => .told n | none => .number (refusal y)) (h : PySem.intText? y = some n) : toldAns resp = .told n := by rw [e, h]
theorem told_7 {y : PySem.Str} (e : toldAns resp = match PySem.intText? y with | some n => .told n | none => .number (refusal y)) (h : PySem.intText? y = none) : toldAns resp = .number (refusal y) := by rw [e, h]
end
end Mine
end
section
open PySem PySem.W PyProof.Rows
set_option maxRecDepth 100000
set_option maxHeartbeats 8000000
namespace Mine
local macro_rules | `(tactic| walk_at "call type:str") => `(tactic| (k_here; (with_reducible show wpAny _ _ (call (Value.type "str") [Value.ref _]) _ _ _); first
  | (refine' str_got_own ?k1 ?k2 ?k3 ?k4 ?k5 ?k6 ?k7 ?_; (case k4 => assumption); (case k1 => k_asm); (case k2 => k_asm); (case k3 => assumption); (case k5 => k_units); (case k6 => k_is); (case k7 => k_is))
  | (refine' str_got_value ?k3 ?k4 ?k5 ?_; (case k4 => assumption); (case k3 => assumption); (case k5 => k_units))))
theorem told : ∀ (w : World) (mean : ExcName → Option Value) (mg mb : Str → Option Value) (news : List (Addr × Obj)) (resp host : Str) (t1 t2 t3 : Tok) (q : Addr) (n : Nat)
   (a : Addr) (ccd : Value) (h₀ : Heap) (L : Addr) (m : Str → Option Value) (s : Shared) (Q E : Value → Shared → Prop)
   (B : Below callerA h₀ [] h₀) (F : Fr h₀ L s.heap m) (X : (Mine.hd.heap_39 w.params).In h₀) (N : News h₀ L s.heap ((q, tup2 host t2 t3 n) :: news)) (T : Top Mine.hd.view_39 (looseW Mine.hd.view_39 []) mean mg mb h₀)
   (hlen : resp.length ≤ 100)
   (hB1 : Txt.find resp (Str.ofString "(") < (resp.length : Int)) (hB2 : Txt.find3 resp (Str.ofString ")") (Txt.find resp (Str.ofString "(") + 1) < (resp.length : Int))
   (hB3 : 0 ≤ Txt.find resp (Str.ofString "(") → 0 ≤ Txt.find3 resp (Str.ofString ")") (Txt.find resp (Str.ofString "(") + 1) → Txt.find resp (Str.ofString "(") + 1 ≤ Txt.find3 resp (Str.ofString ")") (Txt.find resp (Str.ofString "(") + 1))
   (hpart : ∀ y ∈ Txt.split (Txt.slice resp (some (Txt.find resp (Str.ofString "(") + 1)) (some (Txt.find3 resp (Str.ofString ")") (Txt.find resp (Str.ofString "(") + 1)))) (Txt.item resp (Txt.find resp (Str.ofString "(") + 1)), y.length ≤ 640 ∧ (numSeenOf y).length = (numTextOf y).length ∧ (PySem.reprText y).length ≤ sizeLine)
   (hret : ∀ r h' tk', Fr h₀ L h' m → News h₀ L h' ((q, tup2 host t2 t3 n) :: news) → AnsAt host h₀ L h' r (toldAns resp) → Q r { s with heap := h', toks := tk' }),
   wpC (model Challenge.rw_dz0032_01.row.prog w) (callerA.deeper (envOf (Str.ofString "law") lawSc L a ccd)) (call (.ref 77) [.str resp t1, .ref q]) Q E s := by
  w_on
  k_fill
  intro w mean mg mb news resp host t1 t2 t3 q n a ccd h₀ L m s Q E B F X N T hlen hB1 hB2 hB3 hpart hret
  refine wpC_call ?_
  refine' enterCS ?k1 ?k2 ?k3 ?k4 ?k5 ?kA ?k6 ?k7 ?k8 ?k9 ?kB ?_ ?cK ?c2 ?c3 ?c4 ?c5
  (case kA => exact rfl)
  (case k2 => k_asm)
  (case k1 => k_asm)
  (case k3 => k_asm)
  (case k4 => k_asm)
  (case k5 => k_asm)
  (case k6 => k_is)
  (case k7 => k_is)
  (case k8 => k_room)
  (case k9 => exact BindsTo.of_eq rfl)
  (case kB => exact locs rfl)
  (case cK => exact rfl)
  (case c2 => exact rfl)
  (case c3 => exact rfl)
  (case c4 => exact rfl)
  (case c5 => decide)
  intro g' L' h' FG' F' N' B' X' T' D'
  dsimp only
  refine wpC_consZ (wpC_Try (wpC_consZ (wpC_Assign_Name ?_)))
  refine wpC_Call (K := Mine.hd.heap_39 w.params) ?_
  k_steps
  refine wpC_call ?_
  refine' enterC ?k1 ?k2 ?k3 ?k4 ?k5 ?kA ?kF ?kK ?k6 ?k7 ?k8 ?k9 ?kB ?_ ?c2 ?c3 ?c4 ?c5
  (case kA => exact rfl)
  (case kF => exact rfl)
  (case kK => exact rfl)
  (case k1 => k_asm)
  (case k2 => k_asm)
  (case k3 => k_asm)
  (case k4 => k_asm)
  (case k5 => k_asm)
  (case k6 => k_is)
  (case k7 => k_is)
  (case k8 => k_room)
  (case k9 => exact BindsTo.of_eq rfl)
  (case c5 => decide)
  (case kB => exact locs rfl)
  (case c2 => exact rfl)
  (case c3 => exact rfl)
  (case c4 => exact rfl)
  intro g2 L2 h2 FG2 F2 N2 B2 X2 T2
  dsimp only
  refine wpC_cut 9 ?_
  simp only [List.take_succ_cons, List.take_zero, List.drop_succ_cons, List.drop_zero]
  k_fold
  k_steps
  all_goals first
    | ((rename News h₀ L _ _ => kN9); first
      | exact hret _ _ _ (by assumption) (cb_drop kN9 (by kcj_all)) (ansReply kN9 (told_1 (by assumption)))
      | exact hret _ _ _ (by assumption) (cb_drop kN9 (by kcj_all)) (ansProto kN9 (told_2 (by assumption) (by assumption)))
      | exact hret _ _ _ (by assumption) (cb_drop kN9 (by kcj_all)) (ansProto kN9 (told_3 (by assumption) (by assumption) (by assumption)))
      | exact hret _ _ _ (by assumption) (cb_drop kN9 (by kcj_all)) (ansProto kN9 (told_4 (by assumption) (by assumption) (by assumption) (by assumption)))
      | exact hret _ _ _ (by assumption) (cb_drop kN9 (by kcj_all)) (ansProto kN9 (told_5 (by assumption) (by assumption) (by assumption) (by assumption) (by assumption) (by assumption))))
    | skip
  refine wpC_consZ (wpC_Assign_Name ?_)
  refine wpC_CallType ?_
  k_steps
  (rename (List.map _ _)[_]? = some _ => hy9)
  (rename List.map _ _ = Txt.split _ _ => hl9)
  have hp9 := hpart _ (hl9 ▸ List.mem_of_getElem? hy9)
  have e9 := told_six (by assumption) (by assumption) (by assumption) (by assumption) hl9 (by assumption) hy9
  rcases hn9 : PySem.intText? _ with _ | n9
  rotate_left
  · have e8 := told_6 e9 hn9
    refine wpC_of_any (KIN.call_text hn9 hp9.1 ?_)
    k_steps
    (rename News h₀ L _ _ => kN9)
    exact hret _ _ _ (by assumption) (cb_drop kN9 (by kcj_all)) (ansTold kN9 e8)
  · have e8 := told_7 e9 hn9
    refine int_refused hn9 hp9.1 hp9.2.1 rfl hp9.2.2 ?_
    intro h9 tk9 ex9 t9 hm9
    k_steps
    (rename News h₀ L _ _ => kN9)
    exact hret _ _ _ (by assumption) (cb_drop kN9 (by kcj_all)) (ansNumber kN9 e8)
end Mine
end
section
open PySem PySem.W PyProof.Rows
namespace Mine
open PySem.Calls PySem.Spec
/-- a turn's end: what holds between the turns -/
def TurnJ (h₀ : Heap) (L : Addr) (J : (PySem.Str → Option Value) → Prop) (news : List (Addr × Obj)) (s : Shared) (Q : Flow → Shared → Prop) (f : Flow) (s₃ : Shared) : Prop :=
  match f with
  | .ret v => Q (.ret v) s₃
  | .brk => Q .next s₃
  | _ => ∃ h' tk' m', s₃ = { s with heap := h', toks := tk' } ∧ Fr h₀ L h' m' ∧ News h₀ L h' news ∧ J m'
section
variable {prog : Program} {w : World} {A : Around} {E : Value → Shared → Prop} {s : Shared} {env : Env} {h₀ : Heap} {x : PySem.Str} {body : List Stmt} {Q : Flow → Shared → Prop}
theorem iter_strs {lst : Addr} {l : List (PySem.Str × Tok)} {o : Obj} {m₀ : PySem.Str → Option Value} {news : List (Addr × Obj)} (J : Nat → (PySem.Str → Option Value) → Prop)
    (hh : A.handled = none) (hl : s.heap.IsList lst (strValues l).toArray) (F : Fr h₀ env.locals s.heap m₀) (N : News h₀ env.locals s.heap ((lst, o) :: news)) (hoff : ∀ p ∈ news, p.1 ≠ lst) (hj : J 0 m₀)
    (turn : ∀ i y t m₁ h tk own, (l.map (·.1))[i]? = some y → J i m₁ → Fr h₀ env.locals h (fun z => if z = x then some (.str y t) else m₁ z) → News h₀ env.locals h (news ++ own) →
      wpAny (model prog w) A (execs body env) (TurnJ h₀ env.locals (J (i + 1)) (news ++ own) { s with heap := h, toks := tk } Q) E { s with heap := h, toks := tk })
    (done : ∀ m₁ h tk, J l.length m₁ → Fr h₀ env.locals h m₁ → News h₀ env.locals h news → Q .next { s with heap := h, toks := tk }) :
    wpAny (model prog w) A (pyIter (.ref lst)) (fun it s₂ => LoopAtV prog w A h₀ env x body Q E it s₂) E s := by
  have hlt : lst < s.heap.objs.size := Heap.lt_size (N _ (.head _)).1
  have hne : lst ≠ s.heap.objs.size := Nat.ne_of_lt hlt
  refine wpAny_pyIter_list hl ?_
  have W := Walks.list (prog := prog) (w := w) hh s.heap.objs.size lst hne (strValues l).toArray
  have hlen : (strValues l).toArray.size = l.length := by simp [strValues]
  rw [hlen] at W
  refine loop_invN (fun i m nx => nx = news ∧ J i m) W ?_ ?_ ?_ ?_ ⟨⟨_, Heap.get?_push_size _ rfl, rfl, rfl⟩, hl.at fun o e => Heap.get?_push_of_some _ e⟩ (F.push _) (fun p hp => ⟨Heap.get?_push_of_some _ (N p (.tail _ hp)).1, (N p (.tail _ hp)).2⟩) ⟨rfl, hj⟩ ?_ ?_
  · intro hm
    rcases List.mem_cons.mp hm with e | hm
    · exact absurd F.ns.lt (e ▸ Nat.lt_irrefl _)
    · exact (N _ (.head _)).2.1 (List.mem_singleton.mp hm).symm
  · intro b' hb
    rw [List.mem_singleton.mp hb]
    exact next_is_new F
  · intro p hp hI
    exact absurd (Heap.lt_size (N p (.tail _ hp)).1) ((List.mem_singleton.mp hI) ▸ Nat.lt_irrefl _)
  · intro p hp hI
    rcases List.mem_cons.mp hI with e | hI
    · exact absurd (Heap.lt_size (N p (.tail _ hp)).1) (e ▸ Nat.lt_irrefl _)
    · exact hoff p hp (List.mem_singleton.mp hI)
  · rintro i v m₁ nx h tk own hi hP _ _ ⟨rfl, hJ⟩ F₁ N₁
    have hl9 : i < l.length := hi
    have e : (strValues l)[i]? = some v := by simpa using hP
    have hv : v = .str l[i].1 l[i].2 := by
      have : (strValues l)[i]? = some (.str l[i].1 l[i].2) := by simp [strValues, hl9]
      rw [this] at e
      exact (Option.some.inj e).symm
    subst hv
    refine wpAny_mono (turn i l[i].1 l[i].2 m₁ h tk own (by simp [hl9]) hJ F₁ N₁) (fun f s₃ p => ?_) fun _ _ e => e
    cases f with
    | ret v => exact p
    | brk => exact p
    | next =>
      obtain ⟨h', tk', m', rfl, F', N', hJ'⟩ := p
      exact ⟨h', tk', m', nx ++ own, nx, rfl, F', N', fun p hp => List.mem_append_left _ hp, fun p hp => List.mem_append_right _ hp, rfl, rfl, hJ'⟩
    | cont =>
      obtain ⟨h', tk', m', rfl, F', N', hJ'⟩ := p
      exact ⟨h', tk', m', nx ++ own, nx, rfl, F', N', fun p hp => List.mem_append_left _ hp, fun p hp => List.mem_append_right _ hp, rfl, rfl, hJ'⟩
  · rintro m₁ nx h tk ⟨rfl, hJ⟩ F₁ N₁
    exact done m₁ h tk hJ F₁ N₁
/-- a text's signs -/
theorem iter_signs {xt : PySem.Str} {tx : Tok} {m₀ : PySem.Str → Option Value} {news : List (Addr × Obj)} (J : Nat → (PySem.Str → Option Value) → Prop)
    (hh : A.handled = none) (F : Fr h₀ env.locals s.heap m₀) (N : News h₀ env.locals s.heap news) (hj : J 0 m₀)
    (turn : ∀ i c t m₁ h tk own, xt.cps.toList[i]? = some c → J i m₁ → Fr h₀ env.locals h (fun z => if z = x then some (.str ⟨#[c]⟩ t) else m₁ z) → News h₀ env.locals h (news ++ own) →
      wpAny (model prog w) A (execs body env) (TurnJ h₀ env.locals (J (i + 1)) (news ++ own) { s with heap := h, toks := tk } Q) E { s with heap := h, toks := tk })
    (done : ∀ m₁ h tk, J xt.length m₁ → Fr h₀ env.locals h m₁ → News h₀ env.locals h news → Q .next { s with heap := h, toks := tk }) :
    wpAny (model prog w) A (pyIter (.str xt tx)) (fun it s₂ => LoopAtV prog w A h₀ env x body Q E it s₂) E s := by
  refine wpAny_pyIter_str fun o St hW hst => ?_
  have W := hW A hh
  refine loop_invN (fun i m nx => nx = news ∧ J i m) W ?_ ?_ ?_ ?_ hst (F.push _) (fun p hp => ⟨Heap.get?_push_of_some _ (N p hp).1, (N p hp).2⟩) ⟨rfl, hj⟩ ?_ ?_
  · intro hm
    exact absurd F.ns.lt ((List.mem_singleton.mp hm) ▸ Nat.lt_irrefl _)
  · intro b' hb
    rw [List.mem_singleton.mp hb]
    exact next_is_new F
  · intro p hp hI
    exact absurd (Heap.lt_size (N p hp).1) ((List.mem_singleton.mp hI) ▸ Nat.lt_irrefl _)
  · intro p hp hI
    exact absurd (Heap.lt_size (N p hp).1) ((List.mem_singleton.mp hI) ▸ Nat.lt_irrefl _)
  · rintro i v m₁ nx h tk own hi ⟨n, u, hn, rfl⟩ _ _ ⟨rfl, hJ⟩ F₁ N₁
    refine wpAny_mono (turn i n u m₁ h tk own (by simpa using hn) hJ F₁ N₁) (fun f s₃ p => ?_) fun _ _ e => e
    cases f with
    | ret v => exact p
    | brk => exact p
    | next =>
      obtain ⟨h', tk', m', rfl, F', N', hJ'⟩ := p
      exact ⟨h', tk', m', nx ++ own, nx, rfl, F', N', fun p hp => List.mem_append_left _ hp, fun p hp => List.mem_append_right _ hp, rfl, rfl, hJ'⟩
    | cont =>
      obtain ⟨h', tk', m', rfl, F', N', hJ'⟩ := p
      exact ⟨h', tk', m', nx ++ own, nx, rfl, F', N', fun p hp => List.mem_append_left _ hp, fun p hp => List.mem_append_right _ hp, rfl, rfl, hJ'⟩
  · rintro m₁ nx h tk ⟨rfl, hJ⟩ F₁ N₁
    exact done m₁ h tk hJ F₁ N₁
end
end Mine
end
section
open PySem PySem.W PyProof.Rows
set_option maxRecDepth 100000
set_option maxHeartbeats 2000000
namespace Mine
theorem wpAny_cutJ {M : Model} {A : Around} {E : Value → Shared → Prop} {s : Shared} {env : Env} (k : Nat) {body : List Stmt} {Q : Flow → Shared → Prop} (P : Flow → Shared → Prop) (hP : ∀ f s', P f s' → f = .next)
   (h1 : wpAny M A (execs (body.take k) env) P E s) (h2 : ∀ s', P .next s' → wpAny M A (execs (body.drop k) env) Q E s') : wpAny M A (execs body env) Q E s := by
  rw [← List.take_append_drop k body, execs_split]
  refine wpAny_bind (wpAny_mono h1 (fun f s' h' => ?_) fun _ _ x => x)
  obtain rfl := hP f s' h'
  exact h2 s' h'
/-- the field without blanks and without its sign -/
def coreOf (fld : PySem.Str) : PySem.Str :=
  if (Txt.slice (Txt.stripChars fld (Str.ofString " ")) none (some 1) == Str.ofString "-") = true ∨ (Txt.slice (Txt.stripChars fld (Str.ofString " ")) none (some 1) == Str.ofString "+") = true then Txt.slice (Txt.stripChars fld (Str.ofString " ")) (some 1) none else Txt.stripChars fld (Str.ofString " ")
def minusOf (fld : PySem.Str) : Bool := Txt.slice (Txt.stripChars fld (Str.ofString " ")) none (some 1) == Str.ofString "-"
abbrev bodyMap (m : PySem.Str → Option Value) (b : PySem.Str) (tb : Tok) (mi : Bool) (tn : Tok) : PySem.Str → Option Value :=
  fun y => if y = Str.ofString "number" then some (.int 0 tn) else if y = Str.ofString "body" then some (.str b tb) else if y = Str.ofString "minus" then some (.bool mi) else m y
def At3 (fld : PySem.Str) (s : Shared) (g : Heap) (L : Addr) (m : PySem.Str → Option Value) (news : List (Addr × Obj)) (f : Flow) (s' : Shared) : Prop :=
  f = .next ∧ ∃ h tk tb tn, s' = { s with heap := h, toks := tk } ∧ Fr g L h (bodyMap m (coreOf fld) tb (minusOf fld) tn) ∧ News g L h news
theorem fr_body {g h : Heap} {L : Addr} {m m0 : PySem.Str → Option Value} {b : PySem.Str} {tb tn : Tok} {mi : Bool} (F : Fr g L h m) (h0 : m (Str.ofString "number") = some (.int 0 tn)) (h1 : m (Str.ofString "body") = some (.str b tb)) (h2 : m (Str.ofString "minus") = some (.bool mi)) (h3 : ∀ y, y ≠ Str.ofString "number" → y ≠ Str.ofString "body" → y ≠ Str.ofString "minus" → m y = m0 y) :
    Fr g L h (bodyMap m0 b tb mi tn) := by
  have e : m = bodyMap m0 b tb mi tn := by
    funext y
    unfold bodyMap
    by_cases q0 : y = Str.ofString "number"
    · rw [if_pos q0, q0, h0]
    rw [if_neg q0]
    by_cases q1 : y = Str.ofString "body"
    · rw [if_pos q1, q1, h1]
    · rw [if_neg q1]
      by_cases q2 : y = Str.ofString "minus"
      · rw [if_pos q2, q2, h2]
      · rw [if_neg q2, h3 y q0 q1 q2]
  rw [← e]; exact F
theorem at3_of {fld : PySem.Str} {s : Shared} {g h : Heap} {L : Addr} {m m0 : PySem.Str → Option Value} {news : List (Addr × Obj)} {b : PySem.Str} {tb tn tk : Tok} {mi : Bool} (F : Fr g L h m) (N : News g L h news) (h0 : m (Str.ofString "number") = some (.int 0 tn)) (h1 : m (Str.ofString "body") = some (.str b tb)) (hb : b = coreOf fld) (h2 : m (Str.ofString "minus") = some (.bool mi)) (hm : mi = minusOf fld)
    (h3 : ∀ y, y ≠ Str.ofString "number" → y ≠ Str.ofString "body" → y ≠ Str.ofString "minus" → m y = m0 y) : At3 fld s g L m0 news .next { s with heap := h, toks := tk } := by
  subst hb hm
  exact ⟨rfl, h, tk, tb, tn, rfl, fr_body F h0 h1 h2 h3, N⟩
theorem coreOf_len (fld : PySem.Str) : (coreOf fld).length ≤ fld.length := by
  unfold coreOf
  have h := len_stripChars fld (Str.ofString " ")
  split
  · exact Nat.le_trans (Txt.slice_le _ _ _) h
  · exact h
theorem core_minus {fld : PySem.Str} (h : (Txt.slice (Txt.stripChars fld (Str.ofString " ")) none (some 1) == Str.ofString "-") = true) : Txt.slice (Txt.stripChars fld (Str.ofString " ")) (some 1) none = coreOf fld := by
  unfold coreOf; rw [if_pos (.inl h)]
theorem core_plus {fld : PySem.Str} (h : (Txt.slice (Txt.stripChars fld (Str.ofString " ")) none (some 1) == Str.ofString "+") = true) : Txt.slice (Txt.stripChars fld (Str.ofString " ")) (some 1) none = coreOf fld := by
  unfold coreOf; rw [if_pos (.inr h)]
theorem core_none {fld : PySem.Str} (h1 : (Txt.slice (Txt.stripChars fld (Str.ofString " ")) none (some 1) == Str.ofString "-") = false) (h2 : (Txt.slice (Txt.stripChars fld (Str.ofString " ")) none (some 1) == Str.ofString "+") = false) : Txt.stripChars fld (Str.ofString " ") = coreOf fld := by
  unfold coreOf; rw [if_neg (by rw [h1, h2]; decide)]
def digitStep (n : Int) (c : Nat) : Option Int := if 48 ≤ c ∧ c ≤ 57 then some (10 * n + ((c : Int) - 48)) else none
def digitsV : List Nat → Int → Option Int
  | [], n => some n
  | c :: r, n => (digitStep n c).bind (digitsV r)
def partsV : List PySem.Str → Int → Option Int
  | [], n => some n
  | p :: r, n => if p.length = 0 then none else (digitsV p.cps.toList n).bind (partsV r)
/-- _law_number's answer -/
def numAns (fld : PySem.Str) : Option Int := (partsV (Txt.split (coreOf fld) (Str.ofString "_")) 0).map fun n => if minusOf fld = true then -n else n
abbrev numMap (m : PySem.Str → Option Value) (n : Int) (t : Tok) (u1 u2 : Option Value) : PySem.Str → Option Value :=
  fun y => if y = Str.ofString "number" then some (.int n t) else if y = Str.ofString "c" then u1 else if y = Str.ofString "part" then u2 else m y
abbrev digMap (m : PySem.Str → Option Value) (n : Int) (t : Tok) (u1 : Option Value) : PySem.Str → Option Value :=
  fun y => if y = Str.ofString "number" then some (.int n t) else if y = Str.ofString "c" then u1 else m y
theorem numMap_of {m m0 : PySem.Str → Option Value} {n : Int} {t : Tok} (h : m (Str.ofString "number") = some (.int n t)) (h0 : ∀ y, y ≠ Str.ofString "number" → y ≠ Str.ofString "c" → y ≠ Str.ofString "part" → m y = m0 y) : m = numMap m0 n t (m (Str.ofString "c")) (m (Str.ofString "part")) := by
  funext y
  unfold numMap
  by_cases q0 : y = Str.ofString "number"
  · rw [if_pos q0, q0, h]
  rw [if_neg q0]
  by_cases q1 : y = Str.ofString "c"
  · rw [if_pos q1, q1]
  rw [if_neg q1]
  by_cases q2 : y = Str.ofString "part"
  · rw [if_pos q2, q2]
  rw [if_neg q2, h0 y q0 q1 q2]
theorem digMap_of {m m0 : PySem.Str → Option Value} {n : Int} {t : Tok} (h : m (Str.ofString "number") = some (.int n t)) (h0 : ∀ y, y ≠ Str.ofString "number" → y ≠ Str.ofString "c" → m y = m0 y) : m = digMap m0 n t (m (Str.ofString "c")) := by
  funext y
  unfold digMap
  by_cases q0 : y = Str.ofString "number"
  · rw [if_pos q0, q0, h]
  rw [if_neg q0]
  by_cases q1 : y = Str.ofString "c"
  · rw [if_pos q1, q1]
  rw [if_neg q1, h0 y q0 q1]
def NumJ (ps : List PySem.Str) (m0 : PySem.Str → Option Value) (i : Nat) (m : PySem.Str → Option Value) : Prop :=
  ∃ n t u1 u2, m = numMap m0 n t u1 u2 ∧ partsV ps 0 = partsV (ps.drop i) n
def DigJ (cs : List Nat) (n0 : Int) (m0 : PySem.Str → Option Value) (i : Nat) (m : PySem.Str → Option Value) : Prop :=
  ∃ n t u1, m = digMap m0 n t u1 ∧ digitsV cs n0 = digitsV (cs.drop i) n
theorem digits_next {cs : List Nat} {i c : Nat} {n : Int} (h : cs[i]? = some c) (hd : 48 ≤ c ∧ c ≤ 57) : digitsV (cs.drop i) n = digitsV (cs.drop (i + 1)) (10 * n + ((c : Int) - 48)) := by
  have e : cs.drop i = c :: cs.drop (i + 1) := by
    obtain ⟨hl, he⟩ := List.getElem?_eq_some_iff.mp h
    rw [List.drop_eq_getElem_cons hl, he]
  rw [e]
  show (digitStep n c).bind _ = _
  unfold digitStep
  rw [if_pos hd]; rfl
theorem digits_none {cs : List Nat} {i c : Nat} {n : Int} (h : cs[i]? = some c) (hd : ¬ (48 ≤ c ∧ c ≤ 57)) : digitsV (cs.drop i) n = none := by
  have e : cs.drop i = c :: cs.drop (i + 1) := by
    obtain ⟨hl, he⟩ := List.getElem?_eq_some_iff.mp h
    rw [List.drop_eq_getElem_cons hl, he]
  rw [e]
  show (digitStep n c).bind _ = _
  unfold digitStep
  rw [if_neg hd]; rfl
theorem parts_next {ps : List PySem.Str} {i : Nat} {y : PySem.Str} {n n' : Int} (h : ps[i]? = some y) (h0 : (y == Str.ofString "") = false) (hd : digitsV y.cps.toList n = some n') : partsV (ps.drop i) n = partsV (ps.drop (i + 1)) n' := by
  have e : ps.drop i = y :: ps.drop (i + 1) := by
    obtain ⟨hl, he⟩ := List.getElem?_eq_some_iff.mp h
    rw [List.drop_eq_getElem_cons hl, he]
  rw [e]
  show (if y.length = 0 then none else (digitsV y.cps.toList n).bind _) = _
  rw [if_neg, hd]
  · rfl
  · intro hz
    have : y = Str.ofString "" := PySem.Str.ext' (Array.eq_empty_of_size_eq_zero hz)
    rw [this] at h0
    exact absurd h0 (by decide)
theorem parts_none {ps : List PySem.Str} {i : Nat} {y : PySem.Str} {n : Int} (h : ps[i]? = some y) (hd : (y == Str.ofString "") = true ∨ digitsV y.cps.toList n = none) : partsV (ps.drop i) n = none := by
  have e : ps.drop i = y :: ps.drop (i + 1) := by
    obtain ⟨hl, he⟩ := List.getElem?_eq_some_iff.mp h
    rw [List.drop_eq_getElem_cons hl, he]
  rw [e]
  show (if y.length = 0 then none else (digitsV y.cps.toList n).bind _) = _
  split
  · rfl
  · rename_i hz
    rcases hd with h | h
    · rw [eq_of_beq h] at hz
      exact absurd rfl hz
    · rw [h]; rfl
/-- the ten figures -/
theorem fig_in (c : Nat) : (Builtin.Str.occurrences (Str.ofString "0123456789") ⟨#[c]⟩ 0 (Str.ofString "0123456789").length 1).isEmpty = !decide (48 ≤ c ∧ c ≤ 57) := by
  have h := StrLaws.found_one (Str.ofString "0123456789") c
  have e : (c ∈ (Str.ofString "0123456789").cps.toList) ↔ (48 ≤ c ∧ c ≤ 57) := by
    rw [show (Str.ofString "0123456789").cps.toList = [48, 49, 50, 51, 52, 53, 54, 55, 56, 57] from by decide +kernel]
    simp only [List.mem_cons, List.not_mem_nil, or_false]
    omega
  rw [decide_eq_decide.mpr e] at h
  rw [← h, Bool.not_not]
theorem fig_at {c : Nat} (h : 48 ≤ c ∧ c ≤ 57) : Txt.find (Str.ofString "0123456789") ⟨#[c]⟩ = (c : Int) - 48 := by
  obtain ⟨h1, h2⟩ := h
  have hc : c = 48 ∨ c = 49 ∨ c = 50 ∨ c = 51 ∨ c = 52 ∨ c = 53 ∨ c = 54 ∨ c = 55 ∨ c = 56 ∨ c = 57 := by omega
  rcases hc with rfl | rfl | rfl | rfl | rfl | rfl | rfl | rfl | rfl | rfl <;> decide +kernel
def NumAt (r : Value) : Option Int → Prop
  | none => r = .none
  | some n => ∃ t, r = .int n t
theorem numAt_none {fld bd : PySem.Str} (hb : coreOf fld = bd) (h : partsV (Txt.split bd (Str.ofString "_")) 0 = none) : NumAt .none (numAns fld) := by
  unfold numAns; rw [hb, h]; rfl
theorem numAt_some {fld bd : PySem.Str} {mi : Bool} {n k : Int} {t : Tok} (hb : coreOf fld = bd) (hm : minusOf fld = mi) (h : partsV (Txt.split bd (Str.ofString "_")) 0 = some n) (hk : (if mi = true then -n else n) = k) : NumAt (.int k t) (numAns fld) := by
  unfold numAns; rw [hb, hm, h]
  exact ⟨t, by rw [← hk]⟩
def StopHere (P : Prop) : Prop := P
theorem stop_here {P : Prop} (h : StopHere P) : P := h
local macro_rules | `(tactic| walk_at "exec For Name Name cons nil") => `(tactic| (k_here; refine stop_here ?_))
theorem num : ∀ (w : World) (mean : ExcName → Option Value) (mg mb : Str → Option Value) (news : List (Addr × Obj)) (fld : Str) (t1 : Tok)
   (dp un : Nat) (gd : Option (List Code)) (cn : Str) (cs : Scope) (a : Addr) (ccd : Value) (cl : List (Str × Addr)) (outer : List Env) (A₀ : Around) (base h₀ : Heap) (L : Addr) (m : Str → Option Value) (s : Shared) (Q E : Value → Shared → Prop)
   (B : Below A₀ base outer h₀) (F : Fr h₀ L s.heap m) (X : (Mine.hd.heap_39 w.params).In h₀) (N : News h₀ L s.heap news) (T : Top Mine.hd.view_39 (looseW Mine.hd.view_39 []) mean mg mb h₀) (hk : cs.kind = .function)
   (hdp : dp + 1 < recursionLimit) (hun : un + 8 < cLine) (hlen : fld.length ≤ 100)
   (hret : ∀ r h' tk', Fr h₀ L h' m → News h₀ L h' news → NumAt r (numAns fld) → Q r { s with heap := h', toks := tk' }),
   wpAny (model Challenge.rw_dz0032_01.row.prog w) (ktrTop dp un gd cn cs L a ccd cl outer) (call (.ref 65) [.str fld t1]) Q E s := by
  w_on
  k_fill
  intro w mean mg mb news fld t1 dp un gd cn cs a ccd cl outer A₀ base h₀ L m s Q E B F X N T hk hdp hun hlen hret
  refine wpAny_call ?_
  refine' code_def ?k1 ?k2 ?k3 ?k4 ?k5 ?kA ?kF ?kK ?k6 ?k7 ?k8 ?k9 ?kB ?_ ?c2 ?c3 ?c4 ?c5
  (case kA => exact rfl)
  (case kF => exact rfl)
  (case kK => assumption)
  (case k1 => k_asm)
  (case k2 => k_asm)
  (case k3 => k_asm)
  (case k4 => k_asm)
  (case k5 => k_asm)
  (case k6 => k_is)
  (case k7 => k_is)
  (case k8 => ktr_room)
  (case k9 => exact BindsTo.of_eq rfl)
  (case c5 => decide)
  (case kB => exact locs rfl)
  (case c2 => exact rfl)
  (case c3 => exact rfl)
  (case c4 => exact rfl)
  intro g1 L1 h1 FG1 F1 N1 B1 X1 T1
  dsimp only
  k_fold
  refine wpAny_cutJ 4 (At3 fld s g1 L1 (fun y => ([(Str.ofString "field", Value.str fld t1)] : List (Str × Value)).lookup y) news) (fun _ _ x => x.1) ?_ ?_
  · simp only [List.take_succ_cons, List.take_zero]
    k_steps
    all_goals (
      refine' at3_of ?aF ?aN ?a0 ?a1 ?ab ?a2 ?am ?a3
      (case aF => assumption)
      (case aN => assumption)
      (case a0 => exact rfl)
      (case a1 => exact rfl)
      (case a2 => exact rfl)
      (case am => exact rfl)
      (case a3 => (intro y q0 q1 q2; simp only [if_neg q0, if_neg q1, if_neg q2]; rfl))
      (case ab => first | exact core_minus (by assumption) | exact core_plus (by assumption) | exact core_none (by assumption) (by assumption)))
  · intro s9 h9
    obtain ⟨_, h9, tk9, tb9, tn9, rfl, F9, N9⟩ := h9
    have hoff9 : ∀ p ∈ news, p.1 ≠ h9.objs.size := fun p hp => Nat.ne_of_lt (Heap.lt_size (N9 p hp).1)
    have hc9 := Nat.le_trans (coreOf_len fld) hlen
    generalize hbd : coreOf fld = bd at F9 hc9
    generalize hmi : minusOf fld = mi at F9
    simp only [List.drop_succ_cons, List.drop_zero]
    k_steps
    (rename Heap.IsList _ _ (strValues _).toArray => hl9)
    (rename List.map _ _ = Txt.split _ _ => he9)
    (rename News g1 L1 _ _ => N8)
    (rename Fr g1 L1 _ _ => F8)
    refine iter_strs (NumJ (Txt.split bd (Str.ofString "_")) (bodyMap (fun y => ([(Str.ofString "field", Value.str fld t1)] : List (Str × Value)).lookup y) bd tb9 mi tn9)) rfl hl9 F8 N8 hoff9 ?_ ?_ ?_
    · exact ⟨0, tn9, _, _, numMap_of rfl (fun _ _ _ _ => rfl), rfl⟩
    · rintro i y t m₁ h tk own hy ⟨n, tn, u1, u2, rfl, hJ⟩ F7 N7
      rw [he9] at hy
      k_steps
      · dsimp only [TurnJ]
        k_steps
        (rename News h₀ L _ _ => kN9)
        exact hret _ _ _ (by assumption) (cb_drop kN9 (by kcj_all)) (numAt_none hbd (hJ.trans (parts_none hy (.inl (by assumption)))))
      · unfold StopHere
        (rename (y == Str.ofString "") = false => hy0)
        (rename Fr g1 L1 _ _ => F6)
        (rename News g1 L1 _ _ => N6)
        refine For_invVF F6 rfl rfl ?_
        refine ld F6 rfl ?_
        refine iter_signs (DigJ y.cps.toList n _) rfl F6 N6 ⟨n, tn, _, digMap_of rfl (fun _ _ _ => rfl), rfl⟩ ?_ ?_
        · rintro j c tc m₂ h2 tk2 own2 hc ⟨n2, tn2, u3, rfl, hJ2⟩ F5 N5
          by_cases hd : 48 ≤ c ∧ c ≤ 57
          · have f1 := fig_in c
            rw [decide_eq_true hd] at f1
            have f2 := fig_at hd
            k_steps
            · exfalso; omega
            · exact ⟨_, _, _, rfl, by assumption, by assumption, _, _, _, digMap_of rfl (fun y q0 q1 => by simp only [if_neg q0, if_neg q1]), by rw [f2]; exact hJ2.trans (digits_next hc hd)⟩
          · have f1 := fig_in c
            rw [decide_eq_false hd] at f1
            k_steps
            · dsimp only [TurnJ]
              k_steps
              (rename News h₀ L _ _ => kN9)
              exact hret _ _ _ (by assumption) (cb_drop kN9 (by kcj_all)) (numAt_none hbd (hJ.trans (parts_none hy (.inr (hJ2.trans (digits_none hc hd))))))
            · exfalso; simp_all
            · exfalso; simp_all
        · rintro m₂ h2 tk2 ⟨n2, tn2, u3, rfl, hJ2⟩ F5 N5
          have hJ3 : digitsV y.cps.toList n = some n2 := by
            rw [hJ2, List.drop_of_length_le (by show y.cps.toList.length ≤ y.cps.size; simp)]
            rfl
          k_steps
          exact ⟨_, _, _, rfl, by assumption, by assumption, _, _, _, _, numMap_of rfl (fun y q0 q1 q2 => by simp only [if_neg q0, if_neg q1, if_neg q2]), hJ.trans (parts_next hy hy0 hJ3)⟩
    · rintro m₁ h tk ⟨n, tn, u1, u2, rfl, hJ⟩ F7 N7
      have hJ3 : partsV (Txt.split bd (Str.ofString "_")) 0 = some n := by
        rw [hJ, List.drop_of_length_le (by rw [← he9, List.length_map]; exact Nat.le_refl _)]
        rfl
      k_steps
      all_goals (
        (rename News h₀ L _ _ => kN9)
        (rename mi = _ => hmi9)
        exact hret _ _ _ (by assumption) (cb_drop kN9 (by kcj_all)) (numAt_some hbd hmi hJ3 (by rw [hmi9]; rfl)))
end Mine
end
section
open PySem PySem.W PyProof.Rows
namespace Mine
open PySem.Calls PySem.Spec
def TurnJN (h₀ : Heap) (L : Addr) (J : (PySem.Str → Option Value) → List (Addr × Obj) → Prop) (adr : List Addr) (own : List (Addr × Obj)) (s : Shared) (Q : Flow → Shared → Prop) (f : Flow) (s₃ : Shared) : Prop :=
  match f with
  | .ret v => Q (.ret v) s₃
  | .brk => Q .next s₃
  | _ => ∃ h' tk' m' nx, s₃ = { s with heap := h', toks := tk' } ∧ Fr h₀ L h' m' ∧ News h₀ L h' (nx ++ own) ∧ nx.map (·.1) = adr ∧ J m' nx
section
variable {prog : Program} {w : World} {A : Around} {E : Value → Shared → Prop} {s : Shared} {env : Env} {h₀ : Heap} {x : PySem.Str} {body : List Stmt} {Q : Flow → Shared → Prop}
theorem iter_signsN {xt : PySem.Str} {tx : Tok} {m₀ : PySem.Str → Option Value} {news : List (Addr × Obj)} (J : Nat → (PySem.Str → Option Value) → List (Addr × Obj) → Prop)
    (hh : A.handled = none) (F : Fr h₀ env.locals s.heap m₀) (N : News h₀ env.locals s.heap news) (hj : J 0 m₀ news)
    (turn : ∀ i c t m₁ nx h tk own, xt.cps.toList[i]? = some c → OwnOff own (news.map (·.1)) → J i m₁ nx → Fr h₀ env.locals h (fun z => if z = x then some (.str ⟨#[c]⟩ t) else m₁ z) → News h₀ env.locals h (nx ++ own) →
      wpAny (model prog w) A (execs body env) (TurnJN h₀ env.locals (J (i + 1)) (news.map (·.1)) own { s with heap := h, toks := tk } Q) E { s with heap := h, toks := tk })
    (done : ∀ m₁ nx h tk, J xt.length m₁ nx → Fr h₀ env.locals h m₁ → News h₀ env.locals h nx → Q .next { s with heap := h, toks := tk }) :
    wpAny (model prog w) A (pyIter (.str xt tx)) (fun it s₂ => LoopAtV prog w A h₀ env x body Q E it s₂) E s := by
  refine wpAny_pyIter_str fun o St hW hst => ?_
  have W := hW A hh
  refine loop_invN (fun i m nx => J i m nx) W ?_ ?_ ?_ ?_ hst (F.push _) (fun p hp => ⟨Heap.get?_push_of_some _ (N p hp).1, (N p hp).2⟩) hj ?_ ?_
  · intro hm
    exact absurd F.ns.lt ((List.mem_singleton.mp hm) ▸ Nat.lt_irrefl _)
  · intro b' hb
    rw [List.mem_singleton.mp hb]
    exact next_is_new F
  · intro p hp hI
    exact absurd (Heap.lt_size (N p hp).1) ((List.mem_singleton.mp hI) ▸ Nat.lt_irrefl _)
  · intro p hp hI
    exact absurd (Heap.lt_size (N p hp).1) ((List.mem_singleton.mp hI) ▸ Nat.lt_irrefl _)
  · rintro i v m₁ nx h tk own hi ⟨n, u, hn, rfl⟩ _ hoff hJ F₁ N₁
    refine wpAny_mono (turn i n u m₁ nx h tk own (by simpa using hn) hoff hJ F₁ N₁) (fun f s₃ p => ?_) fun _ _ e => e
    cases f with
    | ret v => exact p
    | brk => exact p
    | next =>
      obtain ⟨h', tk', m', ny, rfl, F', N', ha, hJ'⟩ := p
      exact ⟨h', tk', m', ny ++ own, ny, rfl, F', N', fun p hp => List.mem_append_left _ hp, fun p hp => List.mem_append_right _ hp, ha, hJ'⟩
    | cont =>
      obtain ⟨h', tk', m', ny, rfl, F', N', ha, hJ'⟩ := p
      exact ⟨h', tk', m', ny ++ own, ny, rfl, F', N', fun p hp => List.mem_append_left _ hp, fun p hp => List.mem_append_right _ hp, ha, hJ'⟩
  · rintro m₁ nx h tk hJ F₁ N₁
    exact done m₁ nx h tk hJ F₁ N₁
end
/-- the scan of _law_due -/
def scanStep (p : Int × PySem.Str) (c : Nat) : Int × PySem.Str :=
  if p.1 = 0 ∧ c = 40 then (1, p.2) else if p.1 = 1 ∧ c = 41 then (2, p.2) else if p.1 = 1 then (1, p.2 ++ ⟨#[c]⟩) else p
def scan (cs : List Nat) : Int × PySem.Str := cs.foldl scanStep (0, Str.ofString "")
theorem scan_next {cs : List Nat} {i c : Nat} (h : cs[i]? = some c) : scan (cs.take (i + 1)) = scanStep (scan (cs.take i)) c := by
  unfold scan
  rw [List.take_add_one, h, Option.toList_some, List.foldl_append]
  rfl
end Mine
end
section
open PySem PySem.W PyProof.Rows
set_option maxRecDepth 100000
set_option maxHeartbeats 2000000
namespace Mine
theorem allNe {q d : Nat} {news : List (Addr × Obj)} (h : q < d ∧ AllLt d news) : ∀ p ∈ news, p.1 ≠ d + 1 := by
  intro p hp
  have := ktn_ltOf h.2 p hp
  exact Nat.ne_of_lt (Nat.lt_succ_of_lt this)
local macro_rules | `(tactic| k_all) => `(tactic| first | assumption | exact allNe (by assumption))
local macro_rules | `(tactic| walk_at "exec For Name Name cons nil") => `(tactic| (k_here; refine stop_here ?_))
abbrev stMap (m : PySem.Str → Option Value) (st : Int) (t : Tok) (u : Option Value) : PySem.Str → Option Value :=
  fun y => if y = Str.ofString "state" then some (.int st t) else if y = Str.ofString "c" then u else m y
theorem stMap_of {m m0 : PySem.Str → Option Value} {n : Int} {t : Tok} (h : m (Str.ofString "state") = some (.int n t)) (h0 : ∀ y, y ≠ Str.ofString "state" → y ≠ Str.ofString "c" → m y = m0 y) : m = stMap m0 n t (m (Str.ofString "c")) := by
  funext y
  unfold stMap
  by_cases q0 : y = Str.ofString "state"
  · rw [if_pos q0, q0, h]
  rw [if_neg q0]
  by_cases q1 : y = Str.ofString "c"
  · rw [if_pos q1, q1]
  rw [if_neg q1, h0 y q0 q1]
def ScanJ (cs : List Nat) (m0 : PySem.Str → Option Value) (c : Addr) (rest : List (Addr × Obj)) (i : Nat) (m : PySem.Str → Option Value) (nx : List (Addr × Obj)) : Prop :=
  ∃ st t ins o ti u, m = stMap m0 st t u ∧ nx = (c, o) :: rest ∧ o.data = .cell (some (.str ins ti)) ∧ scan (cs.take i) = (st, ins) ∧ ins.length ≤ i
theorem scan_end {cs : List Nat} {m0 m' : PySem.Str → Option Value} {g h' : Heap} {L c : Addr} {q : Addr × Obj} {news own : List (Addr × Obj)} {i : Nat} {s s₃ : Shared} {Q : Flow → Shared → Prop} {o : Obj} {st : Int} {t tk' : Tok} {u : Option Value} {ins : PySem.Str} {ti : Tok}
    (F : Fr g L h' m') (N : News g L h' ((c, o) :: q :: (news ++ own))) (hs3 : s₃ = { s with heap := h', toks := tk' }) (hm : m' = stMap m0 st t u) (hd : o.data = .cell (some (.str ins ti))) (hs : scan (cs.take (i + 1)) = (st, ins)) (hl : ins.length ≤ i + 1) :
    TurnJN g L (ScanJ cs m0 c (q :: news) (i + 1)) (c :: q.1 :: news.map (·.1)) own s Q .next s₃ :=
  ⟨h', tk', m', (c, o) :: q :: news, hs3, F, N, rfl, st, t, ins, o, ti, u, hm, rfl, hd, hs, hl⟩
/-- the marks of _law_due -/
def markStep (ins : PySem.Str) (l : List Int) (k : Int) : List Int := if (Txt.item ins k == Txt.item ins 0) = true then l ++ [k] else l
def marks (ins : PySem.Str) : List Int := (rangeKs 0 ((ins.length : Int) - 0).toNat).foldl (markStep ins) []
theorem mark_grows (ins : PySem.Str) : KPfGrows (markStep ins) := by
  intro l k
  unfold markStep
  split
  · simp
  · omega
/-- what _law_due reckons -/
def quoted (f : PySem.Str) : PySem.Str := Str.ofString "invalid literal for int() with base 10: '" ++ f ++ Str.ofString "'"
def fieldOf (ins : PySem.Str) : PySem.Str := Txt.slice ins (some ((marks ins).getD (Int.toNat 2) 0 + 1)) (some ((marks ins).getD (Int.toNat 3) 0))
def insideAns (resp ins : PySem.Str) : Ans :=
  if ((marks ins).length : Int) ≠ 4 then .proto resp
  else if (marks ins).getD (Int.toNat 3) 0 ≠ (ins.length : Int) - 1 then .proto resp
  else match numAns (fieldOf ins) with
    | none => .number (quoted (fieldOf ins))
    | some n => .told n
def dueAns (resp : PySem.Str) : Ans :=
  if Txt.startswith resp (Str.ofString "229") = false then .reply resp
  else if (scan resp.cps.toList).1 ≠ 2 then .proto resp
  else insideAns resp (scan resp.cps.toList).2
section
variable {resp ins : PySem.Str} {st : Int}
theorem due_1 (h : Txt.startswith resp (Str.ofString "229") = false) : dueAns resp = .reply resp := by
  unfold dueAns; rw [if_pos h]
theorem due_2 (h : Txt.startswith resp (Str.ofString "229") = true) (hs : scan resp.cps.toList = (st, ins)) (h2 : st ≠ 2) : dueAns resp = .proto resp := by
  unfold dueAns; rw [if_neg (by rw [h]; decide), hs, if_pos h2]
theorem due_in (h : Txt.startswith resp (Str.ofString "229") = true) (hs : scan resp.cps.toList = (st, ins)) (h2 : st = 2) : dueAns resp = insideAns resp ins := by
  unfold dueAns; rw [if_neg (by rw [h]; decide), hs, if_neg (by simp [h2])]
theorem due_3 (e : dueAns resp = insideAns resp ins) (h3 : ((marks ins).length : Int) ≠ 4) : dueAns resp = .proto resp := by
  rw [e]; unfold insideAns; rw [if_pos h3]
theorem due_4 (e : dueAns resp = insideAns resp ins) (h3 : ((marks ins).length : Int) = 4) (h4 : (marks ins).getD (Int.toNat 3) 0 ≠ (ins.length : Int) - 1) : dueAns resp = .proto resp := by
  rw [e]; unfold insideAns; rw [if_neg (not_not_intro h3), if_pos h4]
theorem due_5 {n : Int} (e : dueAns resp = insideAns resp ins) (h3 : ((marks ins).length : Int) = 4) (h4 : (marks ins).getD (Int.toNat 3) 0 = (ins.length : Int) - 1) (h5 : numAns (fieldOf ins) = some n) : dueAns resp = .told n := by
  rw [e]; unfold insideAns; rw [if_neg (not_not_intro h3), if_neg (not_not_intro h4), h5]
theorem due_6 (e : dueAns resp = insideAns resp ins) (h3 : ((marks ins).length : Int) = 4) (h4 : (marks ins).getD (Int.toNat 3) 0 = (ins.length : Int) - 1) (h5 : numAns (fieldOf ins) = none) : dueAns resp = .number (quoted (fieldOf ins)) := by
  rw [e]; unfold insideAns; rw [if_neg (not_not_intro h3), if_neg (not_not_intro h4), h5]
end
theorem fr_field {g h : Heap} {L D : Addr} {m : PySem.Str → Option Value} {t : Tok} {x : PySem.Str} (fd : PySem.Str) (e : x = fd) (F : Fr g L h (fun y => if y = Str.ofString "field" then some (.str x t) else if y = Str.ofString "marks" then some (.ref D) else m y)) :
    Fr g L h (fun y => if y = Str.ofString "field" then some (.str fd t) else if y = Str.ofString "marks" then some (.ref D) else m y) := by
  subst e; exact F
theorem sign_eq (c d : Nat) : ((⟨#[c]⟩ : PySem.Str) == ⟨#[d]⟩) = decide (c = d) := by
  by_cases h : c = d
  · subst h; simp
  · rw [decide_eq_false h]
    exact beq_eq_false_iff_ne.mpr fun e => h (by injection e with e; injection e with e; injection e)
theorem open_is : Str.ofString "(" = ⟨#[40]⟩ := by decide +kernel
theorem shut_is : Str.ofString ")" = ⟨#[41]⟩ := by decide +kernel
section
variable {st : Int} {ins : PySem.Str} {c : Nat}
theorem scan_a (h0 : st = 0) (h1 : ((⟨#[c]⟩ : PySem.Str) == Str.ofString "(") = true) : scanStep (st, ins) c = (1, ins) := by
  rw [open_is, sign_eq, decide_eq_true_eq] at h1
  exact if_pos ⟨h0, h1⟩
theorem scan_b (h0 : st = 1) (h1 : ((⟨#[c]⟩ : PySem.Str) == Str.ofString ")") = true) : scanStep (st, ins) c = (2, ins) := by
  rw [shut_is, sign_eq, decide_eq_true_eq] at h1
  exact (if_neg (by rintro ⟨e, _⟩; have e' : st = 0 := e; omega)).trans (if_pos ⟨h0, h1⟩)
theorem scan_c (h0 : st = 1) (h1 : ((⟨#[c]⟩ : PySem.Str) == Str.ofString ")") = false) : scanStep (st, ins) c = (st, ins ++ ⟨#[c]⟩) := by
  rw [shut_is, sign_eq, decide_eq_false_iff_not] at h1
  subst h0
  exact (if_neg (by rintro ⟨e, _⟩; cases e)).trans ((if_neg (by rintro ⟨_, e⟩; exact h1 e)).trans (if_pos rfl))
theorem scan_d (h0 : st = 0) (h1 : ((⟨#[c]⟩ : PySem.Str) == Str.ofString "(") = false) : scanStep (st, ins) c = (st, ins) := by
  rw [open_is, sign_eq, decide_eq_false_iff_not] at h1
  subst h0
  exact (if_neg (by rintro ⟨_, e⟩; exact h1 e)).trans ((if_neg (by rintro ⟨e, _⟩; cases e)).trans (if_neg (by intro e; cases e)))
theorem scan_e (h0 : st ≠ 0) (h1 : st ≠ 1) : scanStep (st, ins) c = (st, ins) :=
  (if_neg (fun e => h0 e.1)).trans ((if_neg (fun e => h1 e.1)).trans (if_neg h1))
end
local macro_rules | `(tactic| walk_at "call ref") => `(tactic| (k_here; (show wpAny _ _ (call (Value.ref 65) _) _ _ _); refine stop_here ?_))
local macro_rules | `(tactic| walk_at "CompSrcT") => `(tactic| (k_here; refine stop_here ?_))
theorem due : ∀ (w : World) (mean : ExcName → Option Value) (mg mb : Str → Option Value) (news : List (Addr × Obj)) (resp host : Str) (t1 t2 t3 : Tok) (q : Addr) (n : Nat)
   (a : Addr) (ccd : Value) (h₀ : Heap) (L : Addr) (m : Str → Option Value) (s : Shared) (Q E : Value → Shared → Prop)
   (B : Below callerA h₀ [] h₀) (F : Fr h₀ L s.heap m) (X : (Mine.hd.heap_39 w.params).In h₀) (N : News h₀ L s.heap ((q, tup2 host t2 t3 n) :: news)) (T : Top Mine.hd.view_39 (looseW Mine.hd.view_39 []) mean mg mb h₀)
   (hlen : resp.length ≤ 100)
   (hret : ∀ r h' tk', Fr h₀ L h' m → News h₀ L h' ((q, tup2 host t2 t3 n) :: news) → AnsAt host h₀ L h' r (dueAns resp) → Q r { s with heap := h', toks := tk' }),
   wpAny (model Challenge.rw_dz0032_01.row.prog w) (callerA.deeper (envOf (Str.ofString "law") lawSc L a ccd)) (call (.ref 70) [.str resp t1, .ref q]) Q E s := by
  w_on
  k_fill
  intro w mean mg mb news resp host t1 t2 t3 q n a ccd h₀ L m s Q E B F X N T hlen hret
  refine wpAny_call ?_
  refine' code_defC ?k1 ?k2 ?k3 ?k4 ?k5 ?kA ?kF ?kK ?k6 ?k7 ?k8 ?k9 ?kB ?kD ?_ ?c2 ?c3 ?c4
  (case kA => exact rfl)
  (case kF => exact rfl)
  (case kK => exact rfl)
  (case k1 => k_asm)
  (case k2 => k_asm)
  (case k3 => k_asm)
  (case k4 => k_asm)
  (case k5 => k_asm)
  (case k6 => k_is)
  (case k7 => k_is)
  (case k8 => k_room)
  (case k9 => exact BindsTo.of_eq rfl)
  (case kB => exact rfl)
  (case kD => decide +kernel)
  (case c2 => exact rfl)
  (case c3 => exact rfl)
  (case c4 => exact rfl)
  intro g1 L1 h1 tk1 cells1 FG1 F1 N1 Y1 B1 X1 T1 l1
  k_lt l1
  k_cells Y1
  simp only [List.cons_append, List.nil_append] at N1
  dsimp only
  show wpAny _ _ (execs _ _) _ _ _
  k_fold
  k_steps
  · unfold StopHere
    (rename Fr g1 L1 _ _ => F6)
    (rename News g1 L1 _ _ => N6)
    (rename Obj.data _ = Data.cell (some (Value.str _ _)) => hd6)
    refine For_invVF F6 rfl rfl ?_
    refine nameX_L F6 rfl ?_
    refine iter_signsN (ScanJ resp.cps.toList _ (L1 + 1) ((q, tup2 host t2 t3 n) :: news)) rfl F6 N6 ⟨0, _, Str.ofString "", _, _, _, stMap_of rfl (fun _ _ _ => rfl), rfl, hd6, rfl, Nat.zero_le _⟩ ?_ ?_
    · rintro i c tc m₁ nx h2 tk2 own2 hc hoff ⟨st, tst, ins, o1, ti, u1, rfl, rfl, hd5, hsc, hln⟩ F5 N5
      have hne : ∀ p ∈ news ++ own2, p.1 ≠ L1 + 1 := by
        intro p hp
        rcases List.mem_append.mp hp with hp | hp
        · exact allNe l1 p hp
        · exact hoff p hp _ (.head _)
      have hi : i < 100 := Nat.lt_of_lt_of_le (by have := (List.getElem?_eq_some_iff.mp hc).1; rw [Array.length_toList] at this; exact this) hlen
      simp only [List.cons_append] at N5
      k_steps
      all_goals first
        | (exfalso; omega)
        | ((rename Fr g1 _ _ _ => F4); (rename News g1 _ _ _ => N4); (rename Obj.data _ = Data.cell (some (Value.str _ _)) => hd4)
           refine' scan_end F4 N4 rfl ?g1 hd4 ?g4 ?g5
           (case g1 => exact stMap_of rfl (fun y q0 q1 => by simp only [if_neg q0, if_neg q1]))
           (case g4 => (rw [scan_next hc, hsc]; first | exact scan_a (by assumption) (by assumption) | exact scan_b (by assumption) (by assumption) | exact scan_c (by assumption) (by assumption) | exact scan_d (by assumption) (by assumption) | exact scan_e (by assumption) (by assumption)))
           (case g5 => first | omega | (rw [PySem.Str.length_append]; exact Nat.succ_le_succ hln)))
    · rintro m₁ nx h2 tk2 ⟨st, tst, ins, o1, ti, u1, rfl, rfl, hd5, hsc, hln⟩ F5 N5
      rw [List.take_of_length_le (by show resp.cps.toList.length ≤ resp.cps.size; simp)] at hsc
      have hl5 : ins.length ≤ 100 := Nat.le_trans hln hlen
      k_steps
      · (rename News h₀ L _ _ => kN9)
        exact hret _ _ _ (by assumption) (cb_drop kN9 (by kcj_all)) (ansProto kN9 (due_2 (by assumption) hsc (by assumption)))
      · unfold StopHere
        have hin := due_in (by assumption) hsc (by assumption)
        refine LCt.CompSrcT.range rfl (by assumption) (by assumption) (by assumption) (small_one (by omega) (by omega) (by omega) (by omega)) (rangeSize_nat _ _) (by rw [PySem.sizeLine_eq]; omega) ?_
        intro g3
        refine' kci_range (markStep ins) (fun k t I oI C oC D m2 ys l h tk E' hlo hhi hI hC hx F' N' off ne mk => ?_) ?_ (mark_grows ins)
        · have hk3 : k < (ins.length : Int) := by omega
          k_steps
          all_goals first
            | exact LCg.CompEnd.intro (by assumption) (by assumption) ((L1 + 1, o1) :: (q, tup2 host t2 t3 n) :: news) (fun p hp => hp) off trivial ⟨rfl, k, _, rfl, if_pos (by assumption)⟩
            | exact LCg.CompEnd.intro (by assumption) (by assumption) ((L1 + 1, o1) :: (q, tup2 host t2 t3 n) :: news) (fun p hp => hp) off trivial ⟨rfl, if_neg (by rw [‹(Txt.item ins k == Txt.item ins 0) = false›]; decide)⟩
        · unfold KPfDone
          intro ys9 hI9 hn9
          replace hI9 : IntsAre ys9 (marks ins) := hI9
          have hml := hI9.length
          k_steps
          · (rename News h₀ L _ _ => kN9)
            exact hret _ _ _ (by assumption) (cb_drop kN9 (by kcj_all)) (ansProto kN9 (due_3 hin (by assumption)))
          · (rename News h₀ L _ _ => kN9)
            exact hret _ _ _ (by assumption) (cb_drop kN9 (by kcj_all)) (ansProto kN9 (due_4 hin (by assumption) (by assumption)))
          · unfold StopHere
            (rename ((marks ins).length : Int) = 4 => h39)
            (rename (marks ins).getD (Int.toNat 3) 0 = (ins.length : Int) - 1 => h49)
            refine' num w mean mg mb _ _ _ _ _ _ _ _ _ _ _ _ _ _ _ _ _ _ _ _ ?k1 ?k2 ?k3 ?k4 ?k5 ?kK ?kd ?ku ?kl ?kR
            (case k1 => k_asm)
            (case k2 => k_asm)
            (case k3 => k_asm)
            (case k4 => k_asm)
            (case k5 => k_asm)
            (case kK => exact rfl)
            (case kd => ktr_room)
            (case ku => ktr_units)
            (case kl => omega)
            intro r9 h9 tk9 F9 N9 ho9
            rcases hna : numAns (fieldOf ins) with _ | n9
            · have e9 := due_6 hin h39 h49 hna
              rw [show numAns (Txt.slice ins (some ((marks ins).getD (Int.toNat 2) 0 + 1)) (some ((marks ins).getD (Int.toNat 3) 0))) = none from hna] at ho9
              obtain rfl : r9 = .none := ho9
              have hfl : (fieldOf ins).length ≤ 100 := Nat.le_trans (Txt.slice_le _ _ _) hl5
              have hw1 : (Str.ofString "invalid literal for int() with base 10: '").length = 41 := by decide +kernel
              have hw2 : (Str.ofString "'").length = 1 := by decide +kernel
              replace F9 := fr_field (fieldOf ins) rfl F9
              generalize fieldOf ins = fd at F9 hfl e9
              clear hna h39 h49 hI9 hml hin
              k_steps
              (rename News h₀ L _ _ => kN9)
              exact hret _ _ _ (by assumption) (cb_drop kN9 (by kcj_all)) (ansNumber kN9 e9)
            · have e9 := due_5 hin h39 h49 hna
              rw [show numAns (Txt.slice ins (some ((marks ins).getD (Int.toNat 2) 0 + 1)) (some ((marks ins).getD (Int.toNat 3) 0))) = some n9 from hna] at ho9
              obtain ⟨t9, rfl⟩ : ∃ t, r9 = .int n9 t := ho9
              replace F9 := fr_field (fieldOf ins) rfl F9
              generalize fieldOf ins = fd at F9
              clear hna h39 h49 hI9 hml hin
              k_steps
              (rename News h₀ L _ _ => kN9)
              exact hret _ _ _ (by assumption) (cb_drop kN9 (by kcj_all)) (ansTold kN9 e9)
  · (rename News h₀ L _ _ => kN9)
    exact hret _ _ _ (by assumption) (cb_drop kN9 (by kcj_all)) (ansReply kN9 (due_1 (by assumption)))
end Mine
end
section
open PySem PySem.W PyProof.Rows PySem.Builtin PySem.Builtin.Str
namespace Mine
/-- the signs that the law's replies are made of (and some more): plain, printed as they stand between single quotes -/
def okSign (c : Nat) : Bool := decide (32 ≤ c) && decide (c < 127) && decide (c ≠ 39) && decide (c ≠ 92)
def Good (x : PySem.Str) : Prop := ∀ c ∈ x.cps.toList, okSign c = true
theorem Good.append {x y : PySem.Str} (hx : Good x) (hy : Good y) : Good (x ++ y) := by
  intro c hc
  rw [PySem.Str.cps_append, Array.toList_append] at hc
  rcases List.mem_append.mp hc with h | h
  · exact hx c h
  · exact hy c h
theorem Good.slice {x : PySem.Str} (hx : Good x) (l u : Option Int) : Good (Txt.slice x l u) := by
  unfold Txt.slice
  split
  · exact hx
  · intro c hc
    simp only [List.mem_filterMap] at hc
    obtain ⟨i, _, hi⟩ := hc
    exact hx c (by have := Array.mem_of_getElem? hi; simpa using this)
theorem Good.item {x : PySem.Str} (hx : Good x) {i : Int} (h0 : 0 ≤ i) (h1 : i < x.length) : Good (Txt.item x i) := by
  intro c hc
  obtain ⟨n, hn⟩ := StrLaws.some_at h0 h1
  rw [PyProof.Rows.item_meets h0 hn] at hc
  have e : c = n := by simpa using hc
  subst e
  exact hx c (by have := Array.mem_of_getElem? hn; simpa using this)
theorem good_foldl (x : PySem.Str) (hx : Good x) : ∀ (k : Nat) (acc : Array Nat), (∀ c ∈ acc.toList, okSign c = true) → ∀ c ∈ ((List.replicate k x.cps).foldl (· ++ ·) acc).toList, okSign c = true
  | 0, acc, h => h
  | k + 1, acc, h => good_foldl x hx k (acc ++ x.cps) fun c hc => by
    rw [Array.toList_append] at hc
    rcases List.mem_append.mp hc with h' | h'
    · exact h c h'
    · exact hx c h'
theorem Good.mul {x : PySem.Str} (hx : Good x) (k : Int) : Good (Txt.mul x k) := by
  unfold Txt.mul
  split
  · intro c hc; cases hc
  · split
    · exact hx
    · exact good_foldl x hx k.toNat #[] (fun c hc => nomatch hc)
theorem good_join (l : List PySem.Str) (h : ∀ y ∈ l, Good y) : Good (Txt.join (Str.ofString "") l) := by
  show Good (glued _ l)
  rw [StrLaws.glued_eq_join]
  induction l with
  | nil => intro c hc; cases hc
  | cons a r ih =>
    cases r with
    | nil => exact h a (.head _)
    | cons b r =>
      show Good (a ++ Str.ofString "" ++ PySem.Str.join (Str.ofString "") (b :: r))
      exact ((h a (.head _)).append (fun c hc => by cases hc)).append (ih fun y hy => h y (.tail _ hy))
theorem good_num {n : Int} (h0 : 0 ≤ n) : Good (Str.ofString (toString n)) := by
  obtain ⟨m, rfl⟩ := Int.eq_ofNat_of_zero_le h0
  intro c hc
  rw [KIN.signs_num] at hc
  obtain ⟨ch, hch, e⟩ := List.mem_map.mp hc
  have r := digit_range (Nat.isDigit_of_mem_toDigits (by decide) (by decide) hch)
  unfold okSign
  simp only [Bool.and_eq_true, decide_eq_true_eq]
  omega
theorem good_lit {s : String} (h : (Str.ofString s).cps.toList.all okSign = true) : Good (Str.ofString s) := fun c hc => List.all_eq_true.mp h c hc
theorem join_len (l : List PySem.Str) (h : ∀ y ∈ l, y.length = 1) : (Txt.join (Str.ofString "") l).length = l.length := by
  show (glued _ l).length = _
  rw [StrLaws.glued_eq_join]
  induction l with
  | nil => rfl
  | cons a r ih =>
    cases r with
    | nil => exact h a (.head _)
    | cons b r =>
      show (a ++ Str.ofString "" ++ PySem.Str.join (Str.ofString "") (b :: r)).length = _
      rw [PySem.Str.length_append, PySem.Str.length_append, ih fun y hy => h y (.tail _ hy), h a (.head _)]
      show 1 + 0 + (b :: r).length = (a :: b :: r).length
      simp only [List.length_cons]; omega
theorem sum_ones {α : Type} (l : List α) (f : α → PySem.Str) (h : ∀ a, (f a).length = 1) : ((l.map f).map (·.length)).sum = l.length := by
  induction l with
  | nil => rfl
  | cons a r ih => simp only [List.map_cons, List.sum_cons, List.length_cons, h, ih]; omega
abbrev alpha : PySem.Str := Str.ofString "0123456789|(!) _-+x1"
def tailOf (ns : List Int) : PySem.Str := Txt.join (Str.ofString "") (ns.map fun k => Txt.item alpha (Int.fmod k 20))
theorem tail_len (ns : List Int) : (tailOf ns).length = ns.length := by
  unfold tailOf
  rw [join_len _ (fun y hy => by obtain ⟨k, _, rfl⟩ := List.mem_map.mp hy; rfl), List.length_map]
theorem tail_good (ns : List Int) : Good (tailOf ns) := by
  refine good_join _ fun y hy => ?_
  obtain ⟨k, _, rfl⟩ := List.mem_map.mp hy
  refine Good.item (good_lit (by decide +kernel)) (fmod_lo _ (by decide)) ?_
  rw [show alpha.length = 20 from by decide +kernel]
  exact fmod_hi _ (by decide)
end Mine
namespace Mine
def markOf (t : Int) : PySem.Str := Txt.item (Str.ofString "|!x1(") (Int.fmod t 5)
def rightOf (t : Int) : PySem.Str := Str.ofString "229 On (" ++ Txt.mul (markOf t) 3 ++ Str.ofString (toString (Int.fmod t 65536)) ++ markOf t ++ Str.ofString ")"
theorem mark_good (t : Int) : Good (markOf t) := by
  refine Good.item (good_lit (by decide +kernel)) (fmod_lo _ (by decide)) ?_
  rw [show (Str.ofString "|!x1(").length = 5 from by decide +kernel]
  exact fmod_hi _ (by decide)
theorem mark_len (t : Int) : (markOf t).length = 1 := rfl
theorem mul3_len (x : PySem.Str) (h : x.length = 1) : (Txt.mul x 3).length = 3 := by
  have e := len_mul x 3
  rw [if_neg (by decide), h] at e
  omega
theorem right_good (t : Int) : Good (rightOf t) :=
  (((Good.append (Good.append (good_lit (by decide +kernel)) ((mark_good t).mul 3)) (good_num (fmod_lo _ (by decide)))).append (mark_good t)).append (good_lit (by decide +kernel)))
theorem right_len (t : Int) : 13 ≤ (rightOf t).length ∧ (rightOf t).length ≤ 30 := by
  have h1 : (Str.ofString "229 On (").length = 8 := by decide +kernel
  have h2 : (Str.ofString ")").length = 1 := by decide +kernel
  have h3 := mul3_len _ (mark_len t)
  have h4 := mark_len t
  have h5 : (Str.ofString (toString (Int.fmod t 65536))).length ≤ 10 := KT.len_num (fmod_lo _ (by decide)) (Int.lt_trans (fmod_hi _ (by decide)) (by decide))
  unfold rightOf
  simp only [PySem.Str.length_append, h1, h2, h3, h4]
  omega
end Mine
namespace Mine
theorem replies_good {tl rt mk : PySem.Str} {pl : Int} (ht : tl.length ≤ 40) (hg : Good tl) (hrl : 13 ≤ rt.length ∧ rt.length ≤ 30) (hrg : Good rt) (hml : mk.length = 1) (hmg : Good mk) :
    ∀ y ∈ [Str.ofString "229 " ++ tl, Str.ofString "229 (" ++ tl ++ Str.ofString ")", Str.ofString "229 (" ++ Txt.mul mk 3 ++ tl ++ mk ++ Str.ofString ")", rt ++ tl,
      Txt.slice rt none (some pl) ++ Txt.item (tl ++ Str.ofString "|") 0 ++ Txt.slice rt (some (pl + 1)) none, tl ++ rt, Txt.slice rt none (some pl)], Good y ∧ y.length ≤ 100 := by
  have hb1 : (Str.ofString "229 ").length = 4 := by decide +kernel
  have hb2 : (Str.ofString "229 (").length = 5 := by decide +kernel
  have hb3 : (Str.ofString ")").length = 1 := by decide +kernel
  have hb4 : (Str.ofString "|").length = 1 := by decide +kernel
  have hb5 := mul3_len mk hml
  have g1 : Good (Str.ofString "229 ") := good_lit (by decide +kernel)
  have g2 : Good (Str.ofString "229 (") := good_lit (by decide +kernel)
  have g3 : Good (Str.ofString ")") := good_lit (by decide +kernel)
  have g4 : Good (Str.ofString "|") := good_lit (by decide +kernel)
  have l1 := Txt.slice_le rt none (some pl)
  have l2 := Txt.slice_le rt (some (pl + 1)) none
  have l3 : (Txt.item (tl ++ Str.ofString "|") 0).length = 1 := rfl
  have g5 : Good (Txt.item (tl ++ Str.ofString "|") 0) := Good.item (hg.append g4) (by decide) (by rw [PySem.Str.length_append, hb4]; omega)
  intro y hy
  simp only [List.mem_cons, List.not_mem_nil, or_false] at hy
  rcases hy with rfl | rfl | rfl | rfl | rfl | rfl | rfl
  · exact ⟨g1.append hg, by simp only [PySem.Str.length_append]; omega⟩
  · exact ⟨(g2.append hg).append g3, by simp only [PySem.Str.length_append]; omega⟩
  · exact ⟨(((g2.append (hmg.mul 3)).append hg).append hmg).append g3, by simp only [PySem.Str.length_append]; omega⟩
  · exact ⟨hrg.append hg, by simp only [PySem.Str.length_append]; omega⟩
  · exact ⟨((hrg.slice _ _).append g5).append (hrg.slice _ _), by simp only [PySem.Str.length_append]; omega⟩
  · exact ⟨hg.append hrg, by simp only [PySem.Str.length_append]; omega⟩
  · exact ⟨hrg.slice _ _, by omega⟩
end Mine
end
section
open PySem PySem.W PyProof.Rows
set_option maxRecDepth 100000
set_option maxHeartbeats 2000000
namespace Mine
theorem allNe' {q d : Nat} {news : List (Addr × Obj)} (h : q < d ∧ AllLt d news) : ∀ p ∈ news, p.1 ≠ d + 1 := by
  intro p hp
  have := ktn_ltOf h.2 p hp
  exact Nat.ne_of_lt (Nat.lt_succ_of_lt this)
def StopAt (P : Prop) : Prop := P
theorem stop_at {P : Prop} (h : StopAt P) : P := h
local macro_rules | `(tactic| k_all) => `(tactic| first | assumption | exact allNe' (by assumption))
local macro_rules | `(tactic| walk_at "CompSrc") => `(tactic| (k_here; refine stop_at ?_))
theorem fr_right {g h : Heap} {L : Addr} {m : PySem.Str → Option Value} {t t' : Tok} {x x' : PySem.Str} (mk rt : PySem.Str) (e : x = mk) (e' : x' = rt) (F : Fr g L h (fun y => if y = Str.ofString "right" then some (.str x' t') else if y = Str.ofString "mark" then some (.str x t) else m y)) :
    Fr g L h (fun y => if y = Str.ofString "right" then some (.str rt t') else if y = Str.ofString "mark" then some (.str mk t) else m y) := by
  subst e e'; exact F
theorem replies : ∀ (w : World) (mean : ExcName → Option Value) (mg mb : Str → Option Value) (news : List (Addr × Obj)) (vs : List Value) (ns : List Int) (sc : Addr) (n : Nat)
   (a : Addr) (ccd : Value) (h₀ : Heap) (L : Addr) (m : Str → Option Value) (s : Shared) (Q E : Value → Shared → Prop)
   (B : Below callerA h₀ [] h₀) (F : Fr h₀ L s.heap m) (X : (Mine.hd.heap_39 w.params).In h₀) (N : News h₀ L s.heap ((sc, W.listOf vs.toArray n) :: news)) (T : Top Mine.hd.view_39 (looseW Mine.hd.view_39 []) mean mg mb h₀)
   (hI : IntsAre vs ns) (hlen : ns.length ≤ 40)
   (hret : ∀ r h' tk' (items : List (Str × Tok)), Fr h₀ L h' m → News h₀ L h' ((r, W.listOf (strValues items).toArray 0) :: (sc, W.listOf vs.toArray n) :: news) → (∀ y ∈ items.map (·.1), Good y ∧ y.length ≤ 100) → Q (.ref r) { s with heap := h', toks := tk' }),
   wpAny (model Challenge.rw_dz0032_01.row.prog w) (callerA.deeper (envOf (Str.ofString "law") lawSc L a ccd)) (call (.ref 82) [.ref sc]) Q E s := by
  w_on
  k_fill
  intro w mean mg mb news vs ns sc n a ccd h₀ L m s Q E B F X N T hI hlen hret
  refine wpAny_call ?_
  refine' code_defC ?k1 ?k2 ?k3 ?k4 ?k5 ?kA ?kF ?kK ?k6 ?k7 ?k8 ?k9 ?kB ?kD ?_ ?c2 ?c3 ?c4
  (case kA => exact rfl)
  (case kF => exact rfl)
  (case kK => exact rfl)
  (case k1 => k_asm)
  (case k2 => k_asm)
  (case k3 => k_asm)
  (case k4 => k_asm)
  (case k5 => k_asm)
  (case k6 => k_is)
  (case k7 => k_is)
  (case k8 => k_room)
  (case k9 => exact BindsTo.of_eq rfl)
  (case kB => exact rfl)
  (case kD => decide +kernel)
  (case c2 => exact rfl)
  (case c3 => exact rfl)
  (case c4 => exact rfl)
  intro g1 L1 h1 tk1 cells1 FG1 F1 N1 Y1 B1 X1 T1 l1
  k_lt l1
  k_cells Y1
  simp only [List.cons_append, List.nil_append] at N1
  dsimp only
  show wpAny _ _ (execs _ _) _ _ _
  k_fold
  k_steps
  unfold StopAt
  (rename Fr g1 L1 _ _ => F6)
  (rename News g1 L1 _ _ => N6)
  (rename Obj.data _ = Data.cell (some (Value.str _ _)) => hd6)
  have hvl : vs.length = ns.length := hI.length
  refine Or.inl ⟨sc, vs.toArray, _, rfl, rfl, F6, N6, .inr ⟨_, .tail _ (.head _), rfl, n, rfl⟩, by rw [List.size_toArray, hvl, PySem.sizeLine_eq]; omega, ?_⟩
  rintro s9 ⟨g9, rfl⟩
  refine kct_list (fun k => Txt.item alpha (Int.fmod k 20)) hI ?_ ?_
  · intro k t I oI C oC D m2 ys h tk E' hk hC hx F' N' off ne mk
    k_steps
    exact LCg.CompEnd.intro (by assumption) (by assumption) ((L1 + 1, _) :: (sc, W.listOf vs.toArray n) :: news) (fun p hp => hp) off (.inr ⟨_, .tail _ (.head _), rfl, n, rfl⟩) ⟨rfl, _, rfl⟩
  · unfold KPfDone
    intro ys9 hca9 hl9
    k_steps
    (rename News g1 L1 _ _ => N4)
    refine join_list (News.isList N4 (.head _)) (CarriedAll.strsOf hca9) (by rw [sum_ones ns _ (fun _ => rfl), List.length_map]; show ns.length + ns.length * 0 ≤ 16777216; omega) ?_
    intro t9 k9
    have ht9 : (tailOf ns).length ≤ 40 := by rw [tail_len]; exact hlen
    have hg9 := tail_good ns
    show wpAny _ _ (storeName _ _ (Value.str (tailOf ns) t9)) _ _ _
    generalize tailOf ns = tl at ht9 hg9 ⊢
    clear hca9 hl9
    k_steps
    have hrl := right_len ns.sum
    have hrg := right_good ns.sum
    have hml := mark_len ns.sum
    have hmg := mark_good ns.sum
    (rename Fr g1 L1 _ _ => F3)
    replace F3 := fr_right (markOf ns.sum) (rightOf ns.sum) rfl rfl F3
    show wpAny _ _ (call (Value.builtin "len") [Value.str (rightOf ns.sum) _]) _ _ _
    generalize rightOf ns.sum = rt at F3 hrl hrg ⊢
    generalize markOf ns.sum = mk at F3 hml hmg ⊢
    have hb1 : (Str.ofString "229 ").length = 4 := by decide +kernel
    have hb2 : (Str.ofString "229 (").length = 5 := by decide +kernel
    have hb3 : (Str.ofString ")").length = 1 := by decide +kernel
    have hb4 : (Str.ofString "|").length = 1 := by decide +kernel
    have hb5 := mul3_len mk hml
    refine SBL.len (by omega) ?_
    k_steps
    (rename News h₀ L _ _ => kN9)
    exact hret _ _ _ [(_, _), (_, _), (_, _), (_, _), (_, _), (_, _), (_, _)] (by assumption) (cb_drop kN9 (by kcj_all)) (replies_good ht9 hg9 hrl hrg hml hmg)
end Mine
end
section
open PySem PySem.W PyProof.Rows PySem.Builtin PySem.Builtin.Str
namespace Mine
open PySem.NumText
theorem ok_of {c : Nat} (h : okSign c = true) : 32 ≤ c ∧ c < 127 ∧ c ≠ 39 ∧ c ≠ 92 := by
  unfold okSign at h
  simp only [Bool.and_eq_true, decide_eq_true_eq] at h
  omega
theorem good_text {x : PySem.Str} (h : Good x) : numTextOf x = x.cps.toList ∧ numSeenOf x = x.cps.toList := by
  have e1 : numTextOf x = x.cps.toList := by
    refine if_pos ?_
    rw [← Array.all_toList, List.all_eq_true]
    intro c hc
    have := ok_of (h c hc)
    exact decide_eq_true (by omega)
  refine ⟨e1, ?_⟩
  show (numTextOf x).takeWhile _ = _
  rw [e1]
  refine takeWhile_all fun c hc => ?_
  have := ok_of (h c hc)
  exact bne_iff_ne.mpr (by omega)
theorem intText_good {x : PySem.Str} (h : Good x) (hl : x.length ≤ 100) : PySem.intText? x = (digits? 10 (core x.cps.toList)).map (worth (sign (x.cps.toList.dropWhile blank)).1) := by
  obtain ⟨e1, e2⟩ := good_text h
  unfold PySem.intText?
  rw [e1, e2, if_pos (beq_self_eq_true _)]
  cases hd : digits? 10 (core x.cps.toList) with
  | none => rfl
  | some ds =>
    have h1 := digits_size hd
    have h2 := core_length x.cps.toList
    have h3 : x.cps.toList.length = x.length := Array.length_toList
    exact if_pos (by omega)
/-- the digits' value, sign by sign -/
def val : List Nat → Bool → Int → Option Int
  | [], b, n => if b then some n else none
  | c :: r, b, n => if c = 95 then (if b then val r false n else none) else (digitStep n c).bind (val r true)
def worthN (ds : Array Nat) : Int := ((ds.foldl (fun acc d => acc * 10 + d) 0 : Nat) : Int)
theorem step_other {ds : Array Nat} {b : Bool} {c : Nat} (h : c ≠ 95) (h2 : ¬ (48 ≤ c ∧ c ≤ 57)) : step 10 (ds, b) c = none := by
  unfold NumText.step
  rw [if_neg (by rw [beq_iff_eq]; exact h)]
  unfold digit?
  rw [if_neg (by simp only [Bool.and_eq_true, decide_eq_true_eq]; exact h2)]
  split
  · rename_i d hd
    refine if_neg ?_
    split at hd
    · rename_i h3
      simp only [Bool.and_eq_true, decide_eq_true_eq] at h3
      cases hd; omega
    · split at hd
      · rename_i h3
        simp only [Bool.and_eq_true, decide_eq_true_eq] at h3
        cases hd; omega
      · cases hd
  · rfl
theorem val_fold : ∀ (cs : List Nat) (ds : Array Nat) (b : Bool), ((cs.foldlM (step 10) (ds, b)).bind fun p => if p.2 then some p.1 else none).map worthN = val cs b (worthN ds)
  | [], ds, b => by cases b <;> rfl
  | c :: r, ds, b => by
    rw [List.foldlM_cons]
    unfold val
    by_cases h : c = 95
    · subst h
      rw [if_pos rfl]
      cases b with
      | false => rfl
      | true =>
        show (((List.foldlM (step 10) (ds, false) r)).bind _).map worthN = _
        rw [val_fold r ds false]; rfl
    · rw [if_neg h]
      by_cases hd : 48 ≤ c ∧ c ≤ 57
      · rw [step_digit hd]
        show (((List.foldlM (step 10) (ds.push (c - 48), true) r)).bind _).map worthN = _
        rw [val_fold r _ true]
        unfold digitStep
        rw [if_pos hd]
        show _ = val r true _
        congr 1
        unfold worthN
        rw [Array.foldl_push]
        omega
      · rw [step_other h hd]
        unfold digitStep
        rw [if_neg hd]; rfl
theorem val_digits (cs : List Nat) : (digits? 10 cs).map worthN = val cs false 0 := val_fold cs #[] false
theorem val_run : ∀ (p : List Nat) (rest : List Nat) (b : Bool) (n : Int), 95 ∉ p → p ≠ [] → val (p ++ rest) b n = (digitsV p n).bind (val rest true)
  | [], _, _, _, _, h => absurd rfl h
  | c :: r, rest, b, n, h, _ => by
    have hc : c ≠ 95 := fun e => h (by rw [e]; exact .head _)
    have hr : 95 ∉ r := fun e => h (.tail _ e)
    rw [List.cons_append]
    unfold val digitsV
    rw [if_neg hc]
    cases hs : digitStep n c with
    | none => rfl
    | some m =>
      show val (r ++ rest) true m = (digitsV r m).bind _
      cases r with
      | nil => rfl
      | cons d r => exact val_run (d :: r) rest true m hr (by simp)
theorem val_parts : ∀ (ps : List PySem.Str) (n : Int), ps ≠ [] → (∀ p ∈ ps, 95 ∉ p.cps.toList) → val (PySem.Str.join ⟨#[95]⟩ ps).cps.toList false n = partsV ps n
  | [], _, h, _ => absurd rfl h
  | [p], n, _, h => by
    show val p.cps.toList false n = partsV [p] n
    unfold partsV
    by_cases hp : p.length = 0
    · rw [if_pos hp]
      have e : p.cps.toList = [] := List.length_eq_zero_iff.mp (by rw [Array.length_toList]; exact hp)
      rw [e]; rfl
    · rw [if_neg hp]
      have e : p.cps.toList ≠ [] := fun e => hp (by have := congrArg List.length e; rw [Array.length_toList] at this; exact this)
      have := val_run p.cps.toList [] false n (h p (.head _)) e
      rw [List.append_nil] at this
      rw [this]
      cases digitsV p.cps.toList n <;> rfl
  | p :: q :: r, n, _, h => by
    have e : (PySem.Str.join ⟨#[95]⟩ (p :: q :: r)).cps.toList = p.cps.toList ++ 95 :: (PySem.Str.join ⟨#[95]⟩ (q :: r)).cps.toList := by
      show (p ++ ⟨#[95]⟩ ++ PySem.Str.join ⟨#[95]⟩ (q :: r)).cps.toList = _
      rw [PySem.Str.cps_append, PySem.Str.cps_append, Array.toList_append, Array.toList_append, List.append_assoc]
      rfl
    rw [e]
    rw [partsV]
    by_cases hp : p.length = 0
    · rw [if_pos hp]
      have e : p.cps.toList = [] := List.length_eq_zero_iff.mp (by rw [Array.length_toList]; exact hp)
      rw [e]; rfl
    · rw [if_neg hp]
      have e : p.cps.toList ≠ [] := fun e => hp (by have := congrArg List.length e; rw [Array.length_toList] at this; exact this)
      rw [val_run p.cps.toList _ false n (h p (.head _)) e]
      cases digitsV p.cps.toList n with
      | none => rfl
      | some m =>
        show val (95 :: _) true m = partsV (q :: r) m
        rw [← val_parts (q :: r) m (by simp) (fun p hp => h p (.tail _ hp))]
        rfl
theorem under_is : Str.ofString "_" = ⟨#[95]⟩ := by decide +kernel
theorem split_ne (x y : PySem.Str) : Txt.split x y ≠ [] := by
  unfold Txt.split
  split
  · simp
  · split
    · simp
    · rw [StrLaws.partsBetween_eq]
      obtain ⟨p, r, e⟩ := StrLaws.partsFrom_ne x y.length 0 (occurrences x y 0 x.length (x.length + 1))
      rw [e]; simp
theorem parts_val (x : PySem.Str) : partsV (Txt.split x (Str.ofString "_")) 0 = val x.cps.toList false 0 := by
  rw [under_is, ← val_parts _ _ (split_ne _ _) (StrLaws.split_free x 95), StrLaws.join_split]
/-- both sides' blanks -/
theorem strip_list (x : PySem.Str) (g : Nat → Bool) : (Txt.stripBy g true true x).cps.toList = ((x.cps.toList.dropWhile g).reverse.dropWhile g).reverse := by
  have tw : ∀ (l : List Nat), l.drop (l.takeWhile g).length = l.dropWhile g := by
    intro l
    induction l with
    | nil => rfl
    | cons a l ih =>
      rw [List.takeWhile_cons, List.dropWhile_cons]
      split
      · exact ih
      · rfl
  have tk : ∀ (l : List Nat), l.take (l.length - (l.reverse.takeWhile g).length) = (l.reverse.dropWhile g).reverse := by
    intro l
    rw [← tw l.reverse, List.reverse_drop, List.reverse_reverse, List.length_reverse]
  rw [PySem.W.stripBy_eq]
  show (strSub x (x.cps.toList.takeWhile g).length (x.length - ((x.cps.toList.drop (x.cps.toList.takeWhile g).length).reverse.takeWhile g).length)).cps.toList = _
  rw [StrLaws.strSub_toList, tw]
  have hx : x.length = x.cps.toList.length := Array.length_toList.symm
  have hlen : (x.cps.toList.dropWhile g).length = x.cps.toList.length - (x.cps.toList.takeWhile g).length := by
    rw [← tw, List.length_drop]
  have hle : (x.cps.toList.takeWhile g).length ≤ x.cps.toList.length := len_takeWhile g _
  rw [hx, ← tk, hlen]
  congr 1
  omega
theorem drop_congr {g f : Nat → Bool} : ∀ (l : List Nat), (∀ c ∈ l, g c = f c) → l.dropWhile g = l.dropWhile f
  | [], _ => rfl
  | c :: r, h => by
    rw [List.dropWhile_cons, List.dropWhile_cons, h c (.head _), drop_congr r fun d hd => h d (.tail _ hd)]
theorem blank_good {c : Nat} (h : okSign c = true) : (Str.ofString " ").cps.contains c = blank c := by
  have := ok_of h
  have e : (Str.ofString " ").cps = #[32] := by decide +kernel
  rw [e]
  unfold blank
  rw [decide_eq_false (show ¬ c ≤ 13 by omega), Bool.and_false, Bool.or_false]
  rw [Bool.eq_iff_iff]
  simp
def rtrim (l : List Nat) : List Nat := (l.reverse.dropWhile blank).reverse
theorem strip_good {x : PySem.Str} (h : Good x) : (Txt.stripChars x (Str.ofString " ")).cps.toList = rtrim (x.cps.toList.dropWhile blank) := by
  unfold Txt.stripChars
  rw [strip_list, drop_congr (f := blank) x.cps.toList (fun c hc => blank_good (h c hc))]
  unfold rtrim
  rw [drop_congr (f := blank) _ fun c hc => blank_good (h c ((List.dropWhile_sublist _).subset (List.mem_reverse.mp hc)))]
theorem rtrim_cons {c : Nat} {r : List Nat} (h : blank c = false) : rtrim (c :: r) = c :: rtrim r := by
  unfold rtrim
  rw [List.reverse_cons]
  have : ∀ l : List Nat, (l ++ [c]).dropWhile blank = l.dropWhile blank ++ [c] := by
    intro l
    induction l with
    | nil => show [c].dropWhile blank = [c]; rw [List.dropWhile_cons, h]; rfl
    | cons a l ih =>
      rw [List.cons_append, List.dropWhile_cons, List.dropWhile_cons]
      split
      · exact ih
      · rfl
  rw [this, List.reverse_append]; rfl
theorem drop_head {l : List Nat} {c : Nat} {r : List Nat} (h : l.dropWhile blank = c :: r) : blank c = false := by
  induction l with
  | nil => cases h
  | cons a l ih =>
    rw [List.dropWhile_cons] at h
    split at h
    · exact ih h
    · rename_i hb
      cases h
      simpa using hb
theorem slice_to1 {x : PySem.Str} {c : Nat} {r : List Nat} (h : x.cps.toList = c :: r) : Txt.slice x none (some 1) = ⟨#[c]⟩ := by
  have hl : (1 : Int) ≤ x.cps.toList.length := by rw [h]; simp only [List.length_cons]; omega
  have := StrLaws.sliceText_to (x := x) (j := 1) ⟨by decide, hl⟩
  refine Eq.trans this ?_
  rw [h]; rfl
theorem slice_from1 {x : PySem.Str} {c : Nat} {r : List Nat} (h : x.cps.toList = c :: r) : (Txt.slice x (some 1) none).cps.toList = r := by
  have hl : (1 : Int) ≤ x.cps.toList.length := by rw [h]; simp only [List.length_cons]; omega
  have := StrLaws.sliceText_from (x := x) (i := 1) ⟨by decide, hl⟩
  have e : Txt.slice x (some 1) none = _ := this
  rw [e, h]
  show List.take _ (List.drop 1 (c :: r)) = r
  rw [List.drop_succ_cons, List.drop_zero]
  exact List.take_of_length_le (by simp only [List.length_cons]; omega)
theorem minus_is : Str.ofString "-" = ⟨#[45]⟩ := by decide +kernel
theorem plus_is : Str.ofString "+" = ⟨#[43]⟩ := by decide +kernel
theorem core_is {x : PySem.Str} (h : Good x) : (coreOf x).cps.toList = core x.cps.toList ∧ (minusOf x = (sign (x.cps.toList.dropWhile blank)).1) := by
  have hs := strip_good h
  unfold coreOf minusOf core
  generalize Txt.stripChars x (Str.ofString " ") = b at hs ⊢
  cases hu : x.cps.toList.dropWhile blank with
  | nil =>
    rw [hu] at hs
    have hb : b = ⟨#[]⟩ := by
      have : b.cps.toList = [] := hs
      cases b with | mk a => cases a with | mk l => cases this; rfl
    subst hb
    rw [if_neg (by decide +kernel)]
    exact ⟨rfl, by decide +kernel⟩
  | cons c r =>
    have hc := drop_head hu
    rw [hu, rtrim_cons hc] at hs
    rw [slice_to1 hs, minus_is, plus_is, sign_eq, sign_eq]
    by_cases h1 : c = 45
    · subst h1
      rw [if_pos (.inl (by decide))]
      exact ⟨slice_from1 hs, rfl⟩
    · by_cases h2 : c = 43
      · subst h2
        rw [if_pos (.inr (by decide))]
        exact ⟨slice_from1 hs, rfl⟩
      · rw [if_neg (by simp [h1, h2]), sign_of h1 h2]
        refine ⟨hs.trans ?_, decide_eq_false h1⟩
        show _ = rtrim (c :: r)
        rw [rtrim_cons hc]
/-- _law_number answers as int -/
theorem num_int {x : PySem.Str} (h : Good x) (hl : x.length ≤ 100) : PySem.intText? x = numAns x := by
  obtain ⟨e1, e2⟩ := core_is h
  rw [intText_good h hl]
  unfold numAns
  rw [parts_val, e1, ← val_digits, e2, Option.map_map]
  congr 1
theorem printable {c : Nat} (h : okSign c = true) : reprChar 39 c = [c] := by
  have := ok_of h
  have hp : ∀ c, c < 127 → 32 ≤ c → Unicode.isPrintable c = true := by decide +kernel
  unfold reprChar
  rw [if_neg (by simp only [Bool.or_eq_true, beq_iff_eq]; omega), if_neg (by rw [beq_iff_eq]; omega), if_neg (by rw [beq_iff_eq]; omega), if_neg (by rw [beq_iff_eq]; omega), if_pos (hp c this.2.1 this.1)]
theorem repr_fold : ∀ (l : List Nat) (acc : Array Nat), (∀ c ∈ l, okSign c = true) → l.foldl (fun out c => out ++ (reprChar 39 c).toArray) acc = acc ++ l.toArray
  | [], acc, _ => by simp
  | c :: r, acc, h => by
    rw [List.foldl_cons, printable (h c (.head _)), repr_fold r _ fun d hd => h d (.tail _ hd), Array.append_assoc]
    simp
theorem repr_good {x : PySem.Str} (h : Good x) : PySem.reprText x = Str.ofString "'" ++ x ++ Str.ofString "'" := by
  have hq : reprQuote x = 39 := by
    unfold reprQuote
    rw [if_neg]
    intro e
    have e1 := (Bool.and_eq_true_iff.mp e).1
    have := h 39 (by simpa using e1)
    exact absurd this (by decide)
  have e : Str.ofString "'" = ⟨#[39]⟩ := by decide +kernel
  unfold reprText
  rw [hq, e, ← Array.foldl_toList, repr_fold _ _ h]
  rfl
theorem refusal_good {x : PySem.Str} (h : Good x) (hl : x.length ≤ 100) : refusal x = quoted x := by
  have e1 : Str.ofString "invalid literal for int() with base 10: '" = Str.ofString "invalid literal for int() with base 10: " ++ Str.ofString "'" := by decide +kernel
  have e2 : (⟨(PySem.reprText x).cps.extract 0 200⟩ : PySem.Str) = PySem.reprText x := by
    have hs : (PySem.reprText x).cps.size ≤ 200 := by
      rw [repr_good h]
      show (Str.ofString "'" ++ x ++ Str.ofString "'").length ≤ 200
      rw [PySem.Str.length_append, PySem.Str.length_append, show (Str.ofString "'").length = 1 from by decide +kernel]
      omega
    rw [show (PySem.reprText x).cps.extract 0 200 = (PySem.reprText x).cps from Array.extract_eq_self_of_le hs]
  unfold refusal quoted
  rw [e2, repr_good h, e1, PySem.Str.append_assoc, PySem.Str.append_assoc, PySem.Str.append_assoc]
end Mine
end
section
open PySem PySem.W PyProof.Rows PySem.Builtin PySem.Builtin.Str
namespace Mine
theorem len_list (x : PySem.Str) : x.cps.toList.length = x.length := Array.length_toList
theorem from_nat (n k : Nat) : fromIndex n (k : Int) = k := by
  unfold fromIndex
  rw [if_neg (by omega)]
  omega
theorem find3_list (x : PySem.Str) (c k : Nat) : (Txt.find3 x ⟨#[c]⟩ (k : Int) = -1 ∧ c ∉ x.cps.toList.drop k) ∨
    ∃ pre post, x.cps.toList.drop k = pre ++ c :: post ∧ c ∉ pre ∧ Txt.find3 x ⟨#[c]⟩ (k : Int) = ((k + pre.length : Nat) : Int) := by
  have nm : ∀ (m : Nat), (∀ v, k ≤ v → v < m → x.cps.getD v 0 ≠ c) → c ∉ (x.cps.toList.drop k).take (m - k) := by
    intro m hn hm
    obtain ⟨i, hi, he⟩ := List.mem_iff_getElem.mp hm
    have hi' : i < m - k := by rw [List.length_take] at hi; omega
    rw [List.getElem_take, List.getElem_drop] at he
    refine hn (k + i) (by omega) (by omega) (StrLaws.getD_of_getElem? ?_)
    rw [← he]
    exact List.getElem?_eq_getElem _
  rcases StrLaws.find3_spec x c (k : Int) with ⟨h0, hn⟩ | ⟨m, h0, hlo, hm, hc, hn⟩
  · rw [from_nat] at hn
    refine .inl ⟨h0, fun h => nm x.length hn ?_⟩
    rw [List.take_of_length_le (by rw [List.length_drop, len_list]; omega)]
    exact h
  · rw [from_nat] at hlo hn
    have hmc := StrLaws.getElem?_of_getD hm hc
    have hml : m < x.cps.toList.length := by rw [len_list]; exact hm
    refine .inr ⟨(x.cps.toList.drop k).take (m - k), x.cps.toList.drop (m + 1), ?_, nm m hn, ?_⟩
    · have e := List.take_append_drop (m - k) (x.cps.toList.drop k)
      rw [List.drop_drop, show k + (m - k) = m by omega, List.drop_eq_getElem_cons hml] at e
      rw [List.getElem?_eq_getElem hml] at hmc
      rw [Option.some.inj hmc] at e
      exact e.symm
    · rw [h0, List.length_take, List.length_drop]
      congr 1
      omega
theorem find_zero (x y : PySem.Str) : Txt.find x y = Txt.find3 x y ((0 : Nat) : Int) := by
  unfold Txt.find Txt.find3
  rw [from_nat]
  cases occurrences x y 0 x.length 1 <;> rfl
theorem find_list (x : PySem.Str) (c : Nat) : (Txt.find x ⟨#[c]⟩ = -1 ∧ c ∉ x.cps.toList) ∨
    ∃ pre post, x.cps.toList = pre ++ c :: post ∧ c ∉ pre ∧ Txt.find x ⟨#[c]⟩ = (pre.length : Int) := by
  rw [find_zero]
  rcases find3_list x c 0 with h | ⟨pre, post, h1, h2, h3⟩
  · exact .inl h
  · exact .inr ⟨pre, post, h1, h2, by rw [h3, Nat.zero_add]⟩
theorem plain_b1 (y : PySem.Str) : Txt.find y (Str.ofString "(") < (y.length : Int) := by
  rw [open_is]
  rcases find_list y 40 with ⟨h, _⟩ | ⟨pre, post, h1, _, h⟩
  · omega
  · have := congrArg List.length h1
    rw [len_list, List.length_append, List.length_cons] at this
    omega
theorem plain_b2 (y : PySem.Str) (i : Int) : Txt.find3 y (Str.ofString ")") i < (y.length : Int) := by
  rw [shut_is]
  rcases StrLaws.find3_spec y 41 i with ⟨h0, _⟩ | ⟨m, h0, _, hm, _⟩ <;> omega
theorem plain_b3 (y : PySem.Str) (i : Int) (h0 : 0 ≤ i) (h : 0 ≤ Txt.find3 y (Str.ofString ")") (i + 1)) : i + 1 ≤ Txt.find3 y (Str.ofString ")") (i + 1) := by
  rw [shut_is] at *
  rcases StrLaws.find3_spec y 41 (i + 1) with ⟨h1, _⟩ | ⟨m, h1, hlo, _⟩
  · omega
  · obtain ⟨k, e⟩ := Int.eq_ofNat_of_zero_le (show 0 ≤ i + 1 by omega)
    rw [e] at hlo h1 ⊢
    rw [from_nat] at hlo
    omega
theorem join_cons (d : Nat) (p q : PySem.Str) (r : List PySem.Str) : (PySem.Str.join ⟨#[d]⟩ (p :: q :: r)).cps.toList = p.cps.toList ++ d :: (PySem.Str.join ⟨#[d]⟩ (q :: r)).cps.toList := by
  show (p ++ ⟨#[d]⟩ ++ PySem.Str.join ⟨#[d]⟩ (q :: r)).cps.toList = _
  rw [PySem.Str.cps_append, PySem.Str.cps_append, Array.toList_append, Array.toList_append, List.append_assoc]
  rfl
theorem join_mem (d : Nat) : ∀ (ps : List PySem.Str) (p : PySem.Str), p ∈ ps → (∀ c ∈ p.cps.toList, c ∈ (PySem.Str.join ⟨#[d]⟩ ps).cps.toList) ∧ p.cps.toList.length ≤ (PySem.Str.join ⟨#[d]⟩ ps).cps.toList.length
  | [], _, h => nomatch h
  | [q], p, h => by
    rw [List.mem_singleton.mp h]
    exact ⟨fun c hc => hc, Nat.le_refl _⟩
  | q :: q' :: r, p, h => by
    rw [join_cons]
    rcases List.mem_cons.mp h with rfl | h
    · exact ⟨fun c hc => List.mem_append_left _ hc, by rw [List.length_append]; omega⟩
    · obtain ⟨h1, h2⟩ := join_mem d (q' :: r) p h
      exact ⟨fun c hc => List.mem_append_right _ (.tail _ (h1 c hc)), by rw [List.length_append, List.length_cons]; omega⟩
theorem part_good {x : PySem.Str} {d : Nat} (hg : Good x) : ∀ p ∈ Txt.split x ⟨#[d]⟩, Good p ∧ p.length ≤ x.length := by
  intro p hp
  obtain ⟨h1, h2⟩ := join_mem d _ p hp
  rw [StrLaws.join_split] at h1 h2
  rw [len_list, len_list] at h2
  exact ⟨fun c hc => hg c (h1 c hc), h2⟩
theorem plain_part {y : PySem.Str} (hg : Good y) (hl : y.length ≤ 100) : ∀ z ∈ Txt.split (Txt.slice y (some (Txt.find y (Str.ofString "(") + 1)) (some (Txt.find3 y (Str.ofString ")") (Txt.find y (Str.ofString "(") + 1)))) (Txt.item y (Txt.find y (Str.ofString "(") + 1)), z.length ≤ 640 ∧ (numSeenOf z).length = (numTextOf z).length ∧ (PySem.reprText z).length ≤ sizeLine := by
  intro z hz
  obtain ⟨h1, h2⟩ := part_good (hg.slice _ _) z hz
  have h3 := Txt.slice_le y (some (Txt.find y (Str.ofString "(") + 1)) (some (Txt.find3 y (Str.ofString ")") (Txt.find y (Str.ofString "(") + 1)))
  obtain ⟨e1, e2⟩ := good_text h1
  refine ⟨by omega, by rw [e1, e2], ?_⟩
  have h4 := StrLaws.reprText_len z (fun c hc => by have := ok_of (h1 c hc); omega)
  rw [sizeLine_eq]
  omega
/-- the scan -/
theorem scan_out : ∀ (pre : List Nat) (e : PySem.Str), 40 ∉ pre → pre.foldl scanStep (0, e) = (0, e)
  | [], _, _ => rfl
  | c :: r, e, h => by
    have hc : c ≠ 40 := fun q => h (by rw [q]; exact .head _)
    rw [List.foldl_cons]
    have : scanStep (0, e) c = (0, e) := by
      unfold scanStep
      rw [if_neg (by simp [hc]), if_neg (by simp), if_neg (by simp)]
    rw [this]
    exact scan_out r e fun q => h (.tail _ q)
theorem scan_in : ∀ (mid : List Nat) (e : PySem.Str), 41 ∉ mid → mid.foldl scanStep (1, e) = (1, e ++ ⟨mid.toArray⟩)
  | [], e, _ => by
    show ((1 : Int), e) = (1, e ++ ⟨#[]⟩)
    have : e ++ (⟨#[]⟩ : PySem.Str) = e := PySem.Str.append_empty e
    rw [this]
  | c :: r, e, h => by
    have hc : c ≠ 41 := fun q => h (by rw [q]; exact .head _)
    rw [List.foldl_cons]
    have : scanStep (1, e) c = (1, e ++ ⟨#[c]⟩) := by
      unfold scanStep
      rw [if_neg (by simp), if_neg (by simp [hc]), if_pos rfl]
    rw [this, scan_in r _ fun q => h (.tail _ q), PySem.Str.append_assoc]
    have e2 : (⟨#[c]⟩ : PySem.Str) ++ ⟨r.toArray⟩ = ⟨(c :: r).toArray⟩ := by
      apply PySem.Str.ext'
      rw [PySem.Str.cps_append]
      simp
    rw [e2]
theorem scan_two : ∀ (post : List Nat) (e : PySem.Str), post.foldl scanStep (2, e) = (2, e)
  | [], _ => rfl
  | c :: r, e => by
    rw [List.foldl_cons]
    have : scanStep (2, e) c = (2, e) := by
      unfold scanStep
      rw [if_neg (by simp), if_neg (by simp), if_neg (by simp)]
    rw [this]
    exact scan_two r e
theorem empty_app (x : PySem.Str) : Str.ofString "" ++ x = x := PySem.Str.empty_append x
theorem scan_0 {cs : List Nat} (h : 40 ∉ cs) : scan cs = (0, Str.ofString "") := scan_out cs _ h
theorem scan_1 {pre rest : List Nat} (h : 40 ∉ pre) (h' : 41 ∉ rest) : scan (pre ++ 40 :: rest) = (1, ⟨rest.toArray⟩) := by
  unfold scan
  rw [List.foldl_append, scan_out pre _ h, List.foldl_cons]
  show rest.foldl scanStep (1, Str.ofString "") = _
  rw [scan_in rest _ h', empty_app]
theorem scan_2 {pre mid post : List Nat} (h : 40 ∉ pre) (h' : 41 ∉ mid) : scan (pre ++ 40 :: (mid ++ 41 :: post)) = (2, ⟨mid.toArray⟩) := by
  unfold scan
  rw [List.foldl_append, scan_out pre _ h, List.foldl_cons]
  show (mid ++ 41 :: post).foldl scanStep (1, Str.ofString "") = _
  rw [List.foldl_append, scan_in mid _ h', empty_app, List.foldl_cons]
  exact scan_two post _
/-- the marks -/
def posOf (d : Nat) : Nat → List Nat → List Int
  | _, [] => []
  | o, c :: r => if c = d then (o : Int) :: posOf d (o + 1) r else posOf d (o + 1) r
theorem item_at {x : PySem.Str} {j c : Nat} (h : x.cps.toList[j]? = some c) : Txt.item x (j : Int) = ⟨#[c]⟩ := by
  refine PyProof.Rows.item_meets (by omega) ?_
  rw [Int.toNat_natCast]
  simpa using h
theorem marks_run {x : PySem.Str} {d : Nat} (h0 : x.cps.toList[0]? = some d) : ∀ (r : List Nat) (j : Nat) (acc : List Int), x.cps.toList.drop j = r → ((List.range' j r.length).map fun (i : Nat) => (0 : Int) + (i : Int)).foldl (markStep x) acc = acc ++ posOf d j r
  | [], j, acc, _ => by simp [posOf]
  | c :: r, j, acc, h => by
    have hc : x.cps.toList[j]? = some c := by
      have := congrArg (·[0]?) h
      simpa using this
    have hr : x.cps.toList.drop (j + 1) = r := by
      have := congrArg (List.drop 1) h
      rw [List.drop_drop] at this
      simpa using this
    rw [List.length_cons, List.range'_succ, List.map_cons, List.foldl_cons]
    have e0 := item_at h0
    have e1 := item_at hc
    have step : markStep x acc (0 + (j : Int)) = if c = d then acc ++ [(j : Int)] else acc := by
      unfold markStep
      rw [Int.zero_add, e1]
      rw [show Txt.item x 0 = ⟨#[d]⟩ from e0, sign_eq]
      simp only [decide_eq_true_eq]
    rw [step]
    unfold posOf
    split
    · rw [marks_run h0 r (j + 1) _ hr, List.append_assoc]; rfl
    · exact marks_run h0 r (j + 1) _ hr
theorem marks_pos {mid : List Nat} {d : Nat} {m : List Nat} (h : mid = d :: m) : marks ⟨mid.toArray⟩ = posOf d 0 mid := by
  unfold marks rangeKs
  have hl : (((⟨mid.toArray⟩ : PySem.Str).length : Int) - 0).toNat = mid.length := by
    show ((mid.toArray.size : Int) - 0).toNat = _
    rw [List.size_toArray]; omega
  rw [hl, List.range_eq_range']
  have := marks_run (x := ⟨mid.toArray⟩) (d := d) (by rw [h]; rfl) mid 0 [] rfl
  rw [this, List.nil_append]
theorem pos_free {d : Nat} : ∀ (p : List Nat) (o : Nat), d ∉ p → posOf d o p = []
  | [], _, _ => rfl
  | c :: r, o, h => by
    unfold posOf
    rw [if_neg (fun e => h (by rw [e]; exact .head _)), pos_free r _ fun q => h (.tail _ q)]
theorem pos_at {d : Nat} : ∀ (p q : List Nat) (o : Nat), d ∉ p → posOf d o (p ++ d :: q) = ((o + p.length : Nat) : Int) :: posOf d (o + p.length + 1) q
  | [], q, o, _ => by
    rw [List.nil_append, posOf, if_pos rfl]; rfl
  | c :: r, q, o, h => by
    rw [List.cons_append, posOf]
    rw [if_neg (fun e => h (by rw [e]; exact .head _)), pos_at r q (o + 1) fun q => h (.tail _ q), List.length_cons]
    rw [show o + 1 + r.length = o + (r.length + 1) by omega]
theorem pos_join {d : Nat} : ∀ (ps : List PySem.Str) (o : Nat), ps ≠ [] → (∀ p ∈ ps, d ∉ p.cps.toList) → (posOf d o (PySem.Str.join ⟨#[d]⟩ ps).cps.toList).length + 1 = ps.length
  | [], _, h, _ => absurd rfl h
  | [p], o, _, h => by
    show (posOf d o p.cps.toList).length + 1 = 1
    rw [pos_free _ _ (h p (.head _))]; rfl
  | p :: q :: r, o, _, h => by
    rw [join_cons, pos_at _ _ _ (h p (.head _)), List.length_cons, pos_join (q :: r) _ (by simp) fun p hp => h p (.tail _ hp)]
    simp
theorem sub_list (l : List Nat) (a b : Nat) (hab : a ≤ b) (hb : b ≤ l.length) : Txt.slice ⟨l.toArray⟩ (some (a : Int)) (some (b : Int)) = ⟨((l.drop a).take (b - a)).toArray⟩ :=
  StrLaws.sliceText_nat (x := ⟨l.toArray⟩) hab (by show b ≤ l.toArray.size; rw [List.size_toArray]; exact hb)
theorem mid_of {A p B l : List Nat} {a b : Nat} (e : A ++ (p ++ B) = l) (ha : a = A.length) (hb : b - a = p.length) : (l.drop a).take (b - a) = p := by
  subst e ha
  rw [hb, List.drop_left, List.take_left]
theorem last_of {A p : List Nat} {e d : Nat} (h : (A ++ p).getLast? = some e) (hp : p ≠ []) (hd : d ∉ p) : e ≠ d := by
  rw [List.getLast?_append, List.getLast?_eq_some_getLast hp, Option.some_or] at h
  intro q
  exact hd (by rw [← q, ← Option.some.inj h]; exact List.getLast_mem hp)
theorem inside_law {y : PySem.Str} {mid : List Nat} {d e : Nat} {m : List Nat} (hd : mid = d :: m) (he : mid.getLast? = some e) (hg : Good ⟨mid.toArray⟩) (hl : mid.length ≤ 100) :
    (if ((⟨#[d]⟩ : PySem.Str) != ⟨#[e]⟩) = true then Ans.proto y else match Txt.split ⟨mid.toArray⟩ ⟨#[d]⟩ with
      | [_, _, _, f, _] => (match PySem.intText? f with
        | some n => .told n
        | none => .number (refusal f))
      | _ => .proto y) = insideAns y ⟨mid.toArray⟩ := by
  have hj : (PySem.Str.join ⟨#[d]⟩ (Txt.split ⟨mid.toArray⟩ ⟨#[d]⟩)).cps.toList = mid := by rw [StrLaws.join_split]
  have hf := StrLaws.split_free ⟨mid.toArray⟩ d
  have hne := split_ne ⟨mid.toArray⟩ ⟨#[d]⟩
  have hpg := part_good (d := d) hg
  have hm := marks_pos hd
  generalize Txt.split ⟨mid.toArray⟩ ⟨#[d]⟩ = P at hj hf hne hpg ⊢
  have hcount := pos_join P 0 hne hf
  rw [hj, ← hm] at hcount
  unfold insideAns
  by_cases h5 : P.length = 5
  · match P, h5 with
    | [p0, p1, p2, p3, p4], _ =>
      rw [join_cons, join_cons, join_cons, join_cons] at hj
      have hj : p0.cps.toList ++ d :: (p1.cps.toList ++ d :: (p2.cps.toList ++ d :: (p3.cps.toList ++ d :: p4.cps.toList))) = mid := hj
      have f0 := hf p0 (by simp)
      have f1 := hf p1 (by simp)
      have f2 := hf p2 (by simp)
      have f3 := hf p3 (by simp)
      have f4 := hf p4 (by simp)
      rw [← hj, pos_at _ _ _ f0, pos_at _ _ _ f1, pos_at _ _ _ f2, pos_at _ _ _ f3, pos_free _ _ f4, hj] at hm
      have hlen := congrArg List.length hj
      simp only [List.length_append, List.length_cons] at hlen
      have hL : ((⟨mid.toArray⟩ : PySem.Str).length : Int) = (mid.length : Int) := by
        show ((mid.toArray.size : Nat) : Int) = _
        rw [List.size_toArray]
      obtain ⟨g3, l3⟩ := hpg p3 (by simp)
      have l3 : p3.length ≤ 100 := by
        have : (⟨mid.toArray⟩ : PySem.Str).length = mid.length := List.size_toArray ..
        omega
      by_cases h4 : p4.cps.toList = []
      · have hed : e = d := by
          rw [← hj, h4] at he
          simp only [List.getLast?_append, List.getLast?_cons] at he
          simpa using he.symm
        have hlast : (marks ⟨mid.toArray⟩).getD (Int.toNat 3) 0 = ((⟨mid.toArray⟩ : PySem.Str).length : Int) - 1 := by
          rw [hm, hL]
          show ((_ : Nat) : Int) = _
          rw [h4] at hlen
          simp only [List.length_nil] at hlen
          omega
        have hfield : fieldOf ⟨mid.toArray⟩ = p3 := by
          unfold fieldOf
          rw [hm]
          show Txt.slice _ (some (((_ : Nat) : Int) + 1)) (some ((_ : Nat) : Int)) = _
          rw [show ∀ k : Nat, (k : Int) + 1 = ((k + 1 : Nat) : Int) from fun k => by omega, sub_list mid _ _ (by omega) (by omega)]
          rw [mid_of (A := p0.cps.toList ++ d :: (p1.cps.toList ++ d :: (p2.cps.toList ++ [d]))) (p := p3.cps.toList) (B := d :: p4.cps.toList) (by rw [← hj]; simp) (by simp only [List.length_append, List.length_cons, List.length_nil]; omega) (by rw [len_list]; rw [len_list]; omega)]
        rw [if_neg (by rw [hed]; simp), if_neg (by omega), if_neg (fun q => q hlast), hfield, ← num_int g3 l3]
        show (match PySem.intText? p3 with
          | some n => Ans.told n
          | none => .number (refusal p3)) = _
        cases PySem.intText? p3 with
        | some n => rfl
        | none => exact congrArg Ans.number (refusal_good g3 l3)
      · have hed : e ≠ d := by
          refine last_of (A := p0.cps.toList ++ d :: (p1.cps.toList ++ d :: (p2.cps.toList ++ d :: (p3.cps.toList ++ [d])))) (p := p4.cps.toList) ?_ h4 f4
          rw [← he, ← hj]
          simp
        rw [if_pos (by rw [bne_iff_ne]; intro q; exact hed (by injection q with q; injection q with q; injection q with q q'; exact q.symm)), if_neg (by omega), if_pos]
        rw [hm, hL]
        show ¬ ((_ : Nat) : Int) = _
        have : 0 < p4.cps.toList.length := List.length_pos_iff.mpr h4
        omega
  · rw [if_pos (show ¬ ((marks ⟨mid.toArray⟩).length : Int) = 4 by omega)]
    split
    · rfl
    · split
      · exact absurd rfl h5
      · rfl
end Mine
end
section
open PySem PySem.W PyProof.Rows PySem.Builtin PySem.Builtin.Str
namespace Mine
theorem starts_is (y : PySem.Str) : (Txt.slice y none (some 3) != Str.ofString "229") = !Txt.startswith y (Str.ofString "229") := by
  have e : Str.ofString "229" = ⟨#[50, 50, 57]⟩ := by decide +kernel
  rw [e]
  unfold Txt.startswith
  rw [StrLaws.subAt_eq]
  by_cases h : 3 ≤ y.length
  · have h3 : (3 : Int) ≤ y.cps.toList.length := by rw [len_list]; omega
    have hs : Txt.slice y none (some 3) = ⟨((y.cps.toList.drop 0).take 3).toArray⟩ := StrLaws.sliceText_to (x := y) (j := 3) ⟨by decide, h3⟩
    rw [hs]
    have hd : decide (0 + (⟨#[50, 50, 57]⟩ : PySem.Str).length ≤ y.length) = true := decide_eq_true (show 0 + 3 ≤ y.length by omega)
    rw [hd, Bool.true_and]
    show (!((⟨((y.cps.toList.drop 0).take 3).toArray⟩ : PySem.Str) == ⟨#[50, 50, 57]⟩)) = !((y.cps.toList.drop 0).take 3 == [50, 50, 57])
    congr 1
    generalize (y.cps.toList.drop 0).take 3 = l
    by_cases q : l = [50, 50, 57]
    · subst q; simp
    · rw [beq_eq_false_iff_ne.mpr q]
      refine beq_eq_false_iff_ne.mpr fun r => q ?_
      injection r with r
      injection r
  · have hd : decide (0 + (⟨#[50, 50, 57]⟩ : PySem.Str).length ≤ y.length) = false := decide_eq_false (show ¬ 0 + 3 ≤ y.length by omega)
    rw [hd, Bool.false_and]
    show (_ != _) = true
    rw [bne_iff_ne]
    intro q
    have h1 := Txt.slice_le y none (some 3)
    rw [q] at h1
    exact h h1
theorem last_at {A : List Nat} {d : Nat} {m B : List Nat} {c : Nat} : (A ++ c :: (d :: m) ++ B)[A.length + (d :: m).length]? = (d :: m).getLast? := by
  rw [List.append_assoc, List.getElem?_append_right (by omega), Nat.add_sub_cancel_left]
  rw [List.cons_append, List.length_cons, List.getElem?_cons_succ]
  rw [List.getElem?_append_left (by simp), List.getLast?_eq_getElem?]
  rfl
theorem plain_law {y : PySem.Str} (hg : Good y) (hl : y.length ≤ 100) : toldAns y = dueAns y := by
  have hs := starts_is y
  cases hw : Txt.startswith y (Str.ofString "229") with
  | false =>
    rw [hw] at hs
    rw [told_1 hs, due_1 hw]
  | true =>
    rw [hw] at hs
    rcases find_list y 40 with ⟨h1, hn⟩ | ⟨pre, rest, hy, hn, h1⟩
    · rw [← open_is] at h1
      rw [told_2 hs (by omega), due_2 hw (scan_0 hn) (by decide)]
    · rw [← open_is] at h1
      have hdrop : y.cps.toList.drop (pre.length + 1) = rest := by
        rw [hy, ← List.drop_drop, List.drop_left, List.drop_succ_cons, List.drop_zero]
      have hi : Txt.find y (Str.ofString "(") + 1 = ((pre.length + 1 : Nat) : Int) := by rw [h1]; omega
      rcases find3_list y 41 (pre.length + 1) with ⟨h2, hn2⟩ | ⟨mid, post, hm, hn2, h2⟩
      · rw [← shut_is, ← hi] at h2
        rw [hdrop] at hn2
        have hsc : scan y.cps.toList = (1, ⟨rest.toArray⟩) := by rw [hy]; exact scan_1 hn hn2
        rw [told_3 hs (by omega) (by omega), due_2 hw hsc (by decide)]
      · rw [← shut_is] at h2
        rw [hdrop] at hm
        have hy2 : y.cps.toList = pre ++ 40 :: (mid ++ 41 :: post) := by rw [hy, hm]
        have hlen := congrArg List.length hy2
        rw [len_list, List.length_append, List.length_cons, List.length_append, List.length_cons] at hlen
        have hsc : scan y.cps.toList = (2, ⟨mid.toArray⟩) := by rw [hy2]; exact scan_2 hn hn2
        rw [due_in hw hsc rfl]
        unfold toldAns
        rw [if_neg (by rw [hs]; decide), if_neg (by omega), hi, h2, if_neg (by omega)]
        have hsl : Txt.slice y (some ((pre.length + 1 : Nat) : Int)) (some ((pre.length + 1 + mid.length : Nat) : Int)) = ⟨mid.toArray⟩ := by
          have := StrLaws.sliceText_nat y (a := pre.length + 1) (b := pre.length + 1 + mid.length) (by omega) (by omega)
          refine Eq.trans this ?_
          rw [hdrop, hm, show pre.length + 1 + mid.length - (pre.length + 1) = mid.length by omega, List.take_left]
        have hj : ((pre.length + 1 + mid.length : Nat) : Int) - 1 = ((pre.length + mid.length : Nat) : Int) := by omega
        rw [hsl, hj]
        cases mid with
        | nil =>
          have e1 : Txt.item y ((pre.length + 1 : Nat) : Int) = ⟨#[41]⟩ := item_at (by rw [hy2]; simp)
          have e2 : Txt.item y ((pre.length + ([] : List Nat).length : Nat) : Int) = ⟨#[40]⟩ := item_at (by rw [hy2]; simp)
          rw [e1, e2, if_pos (by decide)]
          rfl
        | cons d m =>
          have hgl : ∃ e, (d :: m).getLast? = some e := ⟨_, List.getLast?_eq_some_getLast (by simp)⟩
          obtain ⟨e, he⟩ := hgl
          have e1 : Txt.item y ((pre.length + 1 : Nat) : Int) = ⟨#[d]⟩ := item_at (by rw [hy2]; simp)
          have e2 : Txt.item y ((pre.length + (d :: m).length : Nat) : Int) = ⟨#[e]⟩ := item_at (by
            rw [hy2, ← he, ← last_at (A := pre) (c := 40) (B := 41 :: post)]
            simp)
          rw [e1, e2]
          refine inside_law rfl he ?_ (by omega)
          intro c hc
          exact hg c (by rw [hy2]; exact List.mem_append_right _ (.tail _ (List.mem_append_left _ hc)))
end Mine
end
section
open PySem PySem.W PyProof.Rows
set_option maxRecDepth 100000
set_option maxHeartbeats 4000000
namespace Mine
open PySem.Calls PySem.Spec
section
variable {prog : Program} {w : World} {A : Around} {R : Result → Shared → Prop} {s : Shared} {K : Frag}
  {p : Program} {loose : List PySem.Str} {mean : ExcName → Option Value} {mg mb : PySem.Str → Option Value}
  {name qual : PySem.Str} {params : Arguments} {body : List Stmt} {scope : Scope} {dV kV doc pm cdv ct oc : Value} {an od : Option Addr} {osl : Array (Option Value)} {f : Addr} {args : Args} {binds : List (PySem.Str × Value)}
/-- entering the law itself -/
theorem enterTop (X : K.In s.heap) (T : Top p loose mean mg mb s.heap)
    (ho : K.lookup f = some ⟨oc, od, .func (fnOf name qual params body scope dV kV doc pm an cdv ct), osl⟩) (hcd : codeIn K cdv qual = true) (hroom : A.depth < recursionLimit)
    (hbind : BindsTo s (fnOf name qual params body scope dV kV doc pm an cdv ct) args binds) (hloc : ∀ y ∈ binds, scope.names.lookup y.1 = some .local)
    (h : ∀ h₁, Fr s.heap s.heap.objs.size h₁ (fun y => binds.reverse.lookup y) →
      wpC (model prog w) (A.deeper (envOf qual scope s.heap.objs.size f cdv)) (execs body (envOf qual scope s.heap.objs.size f cdv))
        (fun fl s' => R (.ok (.ret (match fl with | .ret v => v | _ => .none))) s') (fun _ _ => False) { s with heap := h₁, toks := s.toks + binds.length })
    (hco : scope.isCoroutine = false) (hgen : scope.isGenerator = false) (hk : scope.kind = .function)
    (hcell : ∀ x ∈ scope.names, x.2 ≠ .cell) : codeC (model prog w) A (.call (.ref f) args) R s := by
  refine codeC_call_def (fd := fnOf name qual params body scope dV kV doc pm an cdv ct) (body := body) (binds := binds) hroom (X _ _ ho) rfl T.nolimit (codeRec_of X hcd) rfl hbind hcell hloc (fun h₁ hns hk₁ => ?_) hco hgen hk
  exact wpC_mono (h h₁ ⟨hns, hk₁, Nat.le_refl _⟩) (fun _ _ x => x) fun _ _ x => x.elim
end
theorem AnsAt.led {host : PySem.Str} {h₀ h : Heap} {L : Addr} {r : Value} {a : Ans} (x : AnsAt host h₀ L h r a) : ∃ led, News h₀ L h led ∧ ∀ h', News h₀ L h' led → AnsAt host h₀ L h' r a := by
  cases a with
  | reply y => obtain ⟨l, t, t', n, e, N⟩ := x; exact ⟨_, N, fun h' N' => ⟨l, t, t', n, e, N'⟩⟩
  | proto y => obtain ⟨l, t, t', n, e, N⟩ := x; exact ⟨_, N, fun h' N' => ⟨l, t, t', n, e, N'⟩⟩
  | number y => obtain ⟨l, t, t', n, e, N⟩ := x; exact ⟨_, N, fun h' N' => ⟨l, t, t', n, e, N'⟩⟩
  | told p => obtain ⟨l, u, t, t', t'', n, n', e, N⟩ := x; exact ⟨_, N, fun h' N' => ⟨l, u, t, t', t'', n, n', e, N'⟩⟩
def ansData (host : PySem.Str) : Ans → PyData
  | .reply x => .list [.str (Str.ofString "reply"), .str x]
  | .proto x => .list [.str (Str.ofString "proto"), .str x]
  | .number x => .list [.str (Str.ofString "number"), .str x]
  | .told p => .list [.str (Str.ofString "told"), .tuple [.str host, .int p]]
theorem good_ok {x : PySem.Str} (h : Good x) : PyData.strOk x = true := by
  unfold PyData.strOk
  rw [← Array.all_toList, List.all_eq_true]
  intro c hc
  have := h c hc
  unfold okSign at this
  simp only [Bool.and_eq_true, decide_eq_true_eq] at this
  exact decide_eq_true (by omega)
theorem ok_append {x y : PySem.Str} (hx : PyData.strOk x = true) (hy : PyData.strOk y = true) : PyData.strOk (x ++ y) = true := by
  unfold PyData.strOk at *
  rw [PySem.Str.cps_append, Array.all_append, hx, hy]; rfl
theorem scan_good : ∀ (cs : List Nat) (p : Int × PySem.Str), (∀ c ∈ cs, okSign c = true) → Good p.2 → Good (cs.foldl scanStep p).2
  | [], _, _, h => h
  | c :: r, p, hc, h => by
    refine scan_good r _ (fun d hd => hc d (.tail _ hd)) ?_
    unfold scanStep
    split
    · exact h
    · split
      · exact h
      · split
        · exact h.append fun d hd => by
            have e : d = c := by simpa using hd
            rw [e]; exact hc c (.head _)
        · exact h
def ansOk : Ans → Prop
  | .reply x => PyData.strOk x = true
  | .proto x => PyData.strOk x = true
  | .number x => PyData.strOk x = true
  | .told _ => True
theorem due_ok {y : PySem.Str} (h : Good y) : ansOk (dueAns y) := by
  have hs : Good (scan y.cps.toList).2 := scan_good _ _ h (fun c hc => by cases hc)
  unfold dueAns
  split
  · exact good_ok h
  · split
    · exact good_ok h
    · unfold insideAns
      split
      · exact good_ok h
      · split
        · exact good_ok h
        · split
          · show PyData.strOk (quoted _) = true
            exact ok_append (ok_append (by decide +kernel) (good_ok (hs.slice _ _))) (by decide +kernel)
          · trivial
theorem ans_reads {host : PySem.Str} {h₀ h : Heap} {L : Addr} {r : Value} {a : Ans} (x : AnsAt host h₀ L h r a) : ∃ l as, r = .ref l ∧ Reads h (.ref l) (ansData host a) as := by
  cases a with
  | reply y => obtain ⟨l, t, t', n, e, N⟩ := x; exact ⟨l, _, e, reads_list_at (N _ (.head _)).1 rfl rfl (.cons (.str _ _) (.cons (.str _ _) .nil))⟩
  | proto y => obtain ⟨l, t, t', n, e, N⟩ := x; exact ⟨l, _, e, reads_list_at (N _ (.head _)).1 rfl rfl (.cons (.str _ _) (.cons (.str _ _) .nil))⟩
  | number y => obtain ⟨l, t, t', n, e, N⟩ := x; exact ⟨l, _, e, reads_list_at (N _ (.head _)).1 rfl rfl (.cons (.str _ _) (.cons (.str _ _) .nil))⟩
  | told p => obtain ⟨l, u, t, t', t'', n, n', e, N⟩ := x; exact ⟨l, _, e, reads_list_at (N _ (.head _)).1 rfl rfl (.cons (.str _ _) (.cons (reads_tuple_at (N _ (.tail _ (.head _))).1 rfl rfl (.cons (.str _ _) (.cons (.int _ _) .nil))) .nil))⟩
theorem ans_ne {prog : Program} {w : World} {A : Around} {E Q : Value → Shared → Prop} {s : Shared} {host : PySem.Str} {h₀ : Heap} {L : Addr} {r r' : Value} {a : Ans} (x : AnsAt host h₀ L s.heap r a) (x' : AnsAt host h₀ L s.heap r' a) (hu : A.units + 64 < cLine) (hho : Good host) (hok : ansOk a) (h : Q (.bool false) s) :
    wpAny (model prog w) A (compareOp .NotEq r r') Q E s := by
  obtain ⟨l, as, rfl, R⟩ := ans_reads x
  obtain ⟨l', as', rfl, R'⟩ := ans_reads x'
  have hs : SeqAt.shaped (ansData host a) = true := by
    have g1 : PyData.strOk (Str.ofString "reply") = true := by decide +kernel
    have g2 : PyData.strOk (Str.ofString "proto") = true := by decide +kernel
    have g3 : PyData.strOk (Str.ofString "number") = true := by decide +kernel
    have g4 : PyData.strOk (Str.ofString "told") = true := by decide +kernel
    have g5 := good_ok hho
    cases a <;> simp [ansData, SeqAt.shaped, PyData.canLay0, PyData.canLayAll0, PyData.depth, PyData.depthAll, g1, g2, g3, g4, g5]
    all_goals exact hok
  have he : PyData.eqv (ansData host a) (ansData host a) = true := by cases a <;> simp [ansData, PyData.eqv, PyData.eqvAll]
  exact ne_dataH R R' hs hs hu (by rw [he]; exact h)
theorem mg_law {K : Frag} {h : Heap} {mg : PySem.Str → Option Value} {fa : Addr} {v : Value} {nm : PySem.Str} (X : K.In h) (G : h.Ns mainGlobals mg) (e : nsIn K mainGlobals nm = some (some v)) (hm : mg nm = some (.ref fa)) : v = .ref fa := by
  have := mg_of X G e
  rw [hm] at this
  exact (Option.some.inj this).symm
def StopCall (P : Prop) : Prop := P
theorem swap2 {h₀ h : Heap} {L : Addr} {a b : Addr × Obj} (N : News h₀ L h [a, b]) : News h₀ L h [b, a] := fun p hp => N p (by simp only [List.mem_cons, List.not_mem_nil, or_false] at hp ⊢; exact hp.symm)
theorem rot4 {h₀ h : Heap} {L : Addr} {a b c d : Addr × Obj} (N : News h₀ L h [a, b, c, d]) : News h₀ L h [d, a, b, c] := fun p hp => N p (by simp only [List.mem_cons, List.not_mem_nil, or_false] at hp ⊢; rcases hp with h | h | h | h <;> simp [h])
theorem unrot4 {h₀ h : Heap} {L : Addr} {a b c d : Addr × Obj} (N : News h₀ L h [d, a, b, c]) : News h₀ L h [a, b, c, d] := fun p hp => N p (by simp only [List.mem_cons, List.not_mem_nil, or_false] at hp ⊢; rcases hp with h | h | h | h <;> simp [h])
theorem gen_tup {h₀ h : Heap} {L D : Addr} {host : PySem.Str} {t2 t3 : Tok} {n : Nat} {p : Addr × Obj} (N : News h₀ L h [(D, tup2 host t2 t3 n), p]) : ∃ t2 t3, News h₀ L h [(D, tup2 host t2 t3 n), p] := ⟨_, _, N⟩
theorem nBoth {h₀ h : Heap} {L : Addr} {l l' : List (Addr × Obj)} (N : News h₀ L h l) (N' : News h₀ L h l') : News h₀ L h (l ++ l') := fun p hp => (List.mem_append.mp hp).elim (N p) (N' p)
theorem nLeft {h₀ h : Heap} {L : Addr} {l l' : List (Addr × Obj)} (N : News h₀ L h (l ++ l')) : News h₀ L h l := fun p hp => N p (List.mem_append_left _ hp)
theorem nRight {h₀ h : Heap} {L : Addr} {l l' : List (Addr × Obj)} (N : News h₀ L h (l ++ l')) : News h₀ L h l' := fun p hp => N p (List.mem_append_right _ hp)
theorem join4 {h₀ h : Heap} {L : Addr} {a b c d : Addr × Obj} {l : List (Addr × Obj)} (N : News h₀ L h [a, b, c, d]) (N' : News h₀ L h l) : News h₀ L h (a :: b :: c :: d :: l) := nBoth N N'
theorem left4 {h₀ h : Heap} {L : Addr} {a b c d : Addr × Obj} {l : List (Addr × Obj)} (N : News h₀ L h (a :: b :: c :: d :: l)) : News h₀ L h [a, b, c, d] := nLeft (l := [a, b, c, d]) N
theorem right4 {h₀ h : Heap} {L : Addr} {a b c d : Addr × Obj} {l : List (Addr × Obj)} (N : News h₀ L h (a :: b :: c :: d :: l)) : News h₀ L h l := nRight (l := [a, b, c, d]) N
theorem strs_mem {items : List (PySem.Str × Tok)} {v : Value} (h : v ∈ strValues items) : ∃ y t, v = .str y t ∧ y ∈ items.map (·.1) := by
  unfold strValues at h
  obtain ⟨p, hp, rfl⟩ := List.mem_map.mp h
  exact ⟨p.1, p.2, rfl, List.mem_map.mpr ⟨p, hp, rfl⟩⟩
theorem stop_call {P : Prop} (h : StopCall P) : P := h
local macro_rules | `(tactic| walk_at "call ref") => `(tactic| (k_here; refine stop_call ?_))
theorem main : PySem.Challenge.rw_dz0032_01.Holds := hd (by
  w_on
  k_fill
  intro w s₀ s₁ mg mb G Y fa o pm cd doc dV kV ho hd hcd hD hmg hg args vals as hpre hlay hrd hwl hlo
  have KX := kIn_of Y
  refine Ground.open G ?_
  intro T B D TE TW
  obtain rfl : fa = 89 := by
    have := mg_law KX T.g (by k_is) hmg
    exact (Value.ref.inj this).symm
  clear hd hcd hD hmg ho
  wrow_args hpre hlay hrd hwl hlo
  have K0 := below_caller s₁.heap
  refine wpC_call ?_
  refine' enterTop ?k3 ?k5 ?k6 ?k7 ?k8 ?k9 ?kB ?_ ?c2 ?c3 ?c4 ?c5
  (case k3 => exact KX)
  (case k5 => exact T)
  (case k6 => k_is)
  (case k7 => k_is)
  (case k8 => k_room)
  (case k9 => exact BindsTo.of_eq rfl)
  (case kB => exact locs rfl)
  (case c2 => exact rfl)
  (case c3 => exact rfl)
  (case c4 => exact rfl)
  (case c5 => decide)
  intro h1 F1
  have N1 : News s₁.heap s₁.heap.objs.size h1 [] := News.nil
  dsimp only
  refine wpC_cut 2 ?_
  simp only [List.take_succ_cons, List.take_zero, List.drop_succ_cons, List.drop_zero]
  k_steps
  show wpC _ _ (execs _ _) _ _ _
  (rename Fr s₁.heap _ _ _ => F2)
  (rename News s₁.heap _ _ _ => N2)
  obtain ⟨tA, tB, N2⟩ := gen_tup N2
  refine wpC_consZ (For_listC (h₀ := s₁.heap) rfl rfl rfl ?_)
  k_steps
  unfold StopCall
  (rename IntsAre _ (List.take _ _) => hI9)
  (rename (List.take _ _).length = min _ _ => hC9)
  refine replies w _ mg mb [_] _ _ _ _ _ _ _ _ _ _ _ _ K0 F2 KX (swap2 N2) T hI9 (by rw [hC9]; omega) ?_
  intro r9 h3 tk3 items F3 N3 hgood
  refine ⟨r9, strValues items, [_, _, _], _, _, rfl, News.isList N3 (.head _), F3, N3, .head _, ?turn, ?done⟩
  case done =>
    intro u h4 tk4 F4 N4
    k_steps
    dsimp only
    refine GoodW.toG ?_
    wrow_close
  case turn =>
    intro v h4 tk4 I oI hv hoff F4 N4
    obtain ⟨y, t9, rfl, hy⟩ := strs_mem hv
    obtain ⟨hg9, hl9⟩ := hgood y hy
    refine wpC_consZ (wpC_If_cmp ?_)
    refine wpC_Call (K := Mine.hd.heap_39 w.params) ?_
    k_steps
    refine told w _ mg mb [_, _, _] y _ _ _ _ _ _ _ _ _ _ _ _ _ _ K0 F4 KX (rot4 N4) T hl9 (plain_b1 y) (plain_b2 y _) (plain_b3 y _) (plain_part hg9 hl9) ?_
    intro r5 h5 tk5 F5 N5 A5
    k_steps
    unfold StopCall
    obtain ⟨led5, M5, back5⟩ := A5.led
    refine due w _ mg mb (_ :: _ :: _ :: led5) y _ _ _ _ _ _ _ _ _ _ _ _ _ _ K0 F5 KX (join4 N5 M5) T hl9 ?_
    intro r6 h6 tk6 F6 N6 A6
    have A7 := back5 h6 (right4 N6)
    have N7 := left4 N6
    rw [plain_law hg9 hl9] at A7
    clear back5 N6 M5 A5 N5 F5 N4 F4 N3 F3 N2 F2
    have hok := due_ok hg9
    generalize dueAns y = ans at A6 A7 hok
    refine ans_ne A7 A6 (by units_room) (Good.append (good_lit (by decide +kernel)) (good_num (fmod_lo _ (by decide)))) hok ?_
    k_steps
    all_goals first | exact F6 | exact unrot4 N7)
end Mine
end
theorem PySem.Challenge.cw_dz0032_01_holds : PySem.Challenge.rw_dz0032_01.Holds :=
  Mine.main
