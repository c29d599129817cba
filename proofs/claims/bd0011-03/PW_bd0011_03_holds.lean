import PyProof.Rows.All
import Wide.All
import OpenK.AllK
import Wide.FinOn
import PySem.Challenge.RW_bd0011_03
set_option maxRecDepth 100000
set_option maxHeartbeats 0
set_option linter.unusedVariables false
set_option Elab.async false
set_option pp.deepTerms false
set_option pp.deepTerms.threshold 6
section
open PySem PySem.W PySem.Calls PyProof.Rows
namespace MineP
def badIds : List String := "bytearray.__contains__" :: "bytearray.__mod__" :: "bytearray.__rmod__" :: "_struct.pack_into.held" :: "bytearray.find.held" :: Builtin.Bytes.decodersThatHold
def okC : Code → Bool
  | .builtin id _ => !badIds.contains id
  | _ => true
def CleanL (l : List (Code × Pos)) : Prop := ∀ x ∈ l, okC x.1 = true
def CleanB (g : Bool) (l : List (Code × Pos)) : Prop := g = true → CleanL l
def CleanC (g : Bool) (Γ : Ctx) : Prop := g = true → okC Γ.code = true ∧ CleanL Γ.below
theorem CleanC.enter {g : Bool} {Γ : Ctx} (h : CleanC g Γ) (c : Code) (hd : Option Value) (p : Pos) : CleanB g (Γ.enter c hd p).below := fun hg x hx => by
  rcases List.mem_cons.mp hx with rfl | hx
  · exact (h hg).1
  · exact (h hg).2 x hx
def wpP (g : Bool) {α : Type} (M : Model) (A : Around) (t : Sem α) (Q : α → Shared → Prop) (E : Value → Shared → Prop) (s : Shared) : Prop :=
  ∀ Γ p, CleanC g Γ → Γ.In A → Sem.wp M Γ t (fun a _ s' => Q a s') (fun e _ s' => E e s') p s
def codeP (g : Bool) (M : Model) (A : Around) (c : Code) (R : Result → Shared → Prop) (s : Shared) : Prop :=
  ∀ Γ p, Γ.code = c → CleanB g Γ.below → Γ.Below A → wpCode M Γ R p s
section
variable {g : Bool} {α β : Type} {M : Model} {A : Around} {E : Value → Shared → Prop} {s : Shared}
theorem p_any {t : Sem α} {Q : α → Shared → Prop} (h : wpAny M A t Q E s) : wpP g M A t Q E s := fun Γ p _ hΓ => h Γ p hΓ
theorem g_code {c : Code} {R : Result → Shared → Prop} (h : codeP false M A c R s) : codeAny M A c R s := fun Γ p hc hΓ => h Γ p hc (fun x => (nomatch x)) hΓ
theorem p_codeAny {c : Code} {R : Result → Shared → Prop} (h : codeAny M A c R s) : codeP g M A c R s := fun Γ p hc _ hΓ => h Γ p hc hΓ
theorem p_pure {a : α} {Q : α → Shared → Prop} (h : Q a s) : wpP g M A (pure a) Q E s := fun _ _ _ _ => h
theorem p_mono {t : Sem α} {Q Q' : α → Shared → Prop} {E' : Value → Shared → Prop} (h : wpP g M A t Q E s)
    (hQ : ∀ a s, Q a s → Q' a s) (hE : ∀ e s, E e s → E' e s) : wpP g M A t Q' E' s :=
  fun Γ p hc hΓ => Sem.wp_mono M Γ t (fun a _ s => hQ a s) (fun e _ s => hE e s) p s (h Γ p hc hΓ)
theorem p_bind {m : Sem α} {f : α → Sem β} {Q : β → Shared → Prop} (h : wpP g M A m (fun a s' => wpP g M A (f a) Q E s') E s) :
    wpP g M A (m >>= f) Q E s := fun Γ p hc hΓ => by
  rw [Sem.wp_bind']
  exact Sem.wp_mono M Γ m (fun a p' s' h' => h' Γ p' hc hΓ) (fun _ _ _ h' => h') p s (h Γ p hc hΓ)
theorem p_leaf {m : Sem α} {f : α → Sem β} {Q : β → Shared → Prop} (h : wpAny M A m (fun a s' => wpP g M A (f a) Q E s') E s) :
    wpP g M A (m >>= f) Q E s := p_bind (p_any h)
theorem p_of_eq {t : Sem α} {a : α} {Q : α → Shared → Prop} (e : t = pure a) (h : Q a s) : wpP g M A t Q E s := e ▸ p_pure h
theorem p_onRaise {m : Sem α} {k : Value → Sem Unit} {Q : α → Shared → Prop}
    (h : wpP g M A m Q (fun e s' => wpP g M A (k e) (fun _ s'' => E e s'') E s') s) : wpP g M A (m.onRaise k) Q E s := fun Γ p hc hΓ => by
  rw [Sem.wp_onRaise]
  exact Sem.wp_mono M Γ m (fun _ _ _ h' => h') (fun e p' s' h' => h' Γ p' hc hΓ) p s (h Γ p hc hΓ)
theorem p_attempt {m : Sem α} {Q : Except Value α → Shared → Prop} (h : wpP g M A m (fun a => Q (.ok a)) (fun e => Q (.error e)) s) :
    wpP g M A m.attempt Q E s := fun Γ p hc hΓ => by rw [Sem.wp_attempt]; exact h Γ p hc hΓ
theorem p_holding {vs : List Value} {m : Sem α} {Q : α → Shared → Prop} (h : wpP g M A m Q E s) : wpP g M A (holding vs m) Q E s :=
  fun Γ p hc hΓ => by rw [Sem.wp_holding]; exact h Γ p hc hΓ
theorem p_operate {vs : List Value} {m : Sem Value} {Q : Value → Shared → Prop} (h : wpP g M A m Q E s) : wpP g M A (operate vs m) Q E s :=
  fun Γ p hc hΓ => by rw [Sem.wp_operate]; exact h Γ p hc hΓ
theorem p_standAt {pos : Pos} {Q : Unit → Shared → Prop} (h : Q () s) : wpP g M A (standAt pos) Q E s := fun _ _ _ _ => h
theorem p_point {Q : Unit → Shared → Prop} (h : Q () s) : wpP g M A point Q E s := fun _ _ _ _ => h
theorem p_rule {tag : String} {Q : Unit → Shared → Prop} (h : Q () s) : wpP g M A (rule tag) Q E s := fun _ _ _ _ => h
theorem p_stackAny {f : Code × Pos → Bool} {Q : Bool → Shared → Prop} (hf : ∀ c p, okC c = true → f (c, p) = false) (h : Q false s) : wpP true M A (do return (← stack).any f) Q E s := fun Γ p hc _ => by
  show Q (((Γ.code, p) :: Γ.below).any f) s
  have e : ((Γ.code, p) :: Γ.below).any f = false := by
    rw [List.any_eq_false]
    rintro ⟨c, q⟩ hx
    rcases List.mem_cons.mp hx with e | hx
    · cases e; rw [hf _ _ (hc rfl).1]; exact Bool.false_ne_true
    · rw [hf _ _ ((hc rfl).2 _ hx)]; exact Bool.false_ne_true
  rw [e]; exact h
theorem p_run {c : Code} {h : Option Value} {Q : Flow → Shared → Prop}
    (hc : codeP g M (A.mark h) c (fun r s' => match r with | .ok f => Q f s' | .error e => E e s') s) (hnb : h ≠ some byPass := by intro x; cases x) :
    wpP g M A (run c h) Q E s :=
  fun Γ p hcl hΓ => by rw [Sem.wp_run]; exact hc _ p rfl (hcl.enter c h p) (hΓ.enter c h p hnb)
theorem p_runOwn {c : Code} {h : Option Value} {env : Env} {Q : Flow → Shared → Prop}
    (hc : codeP g M (A.mark h) c (fun r s' => match r with | .ok f => Q f s' | .error e => cameBackBy M A env E e s') s) (hnb : h ≠ some byPass := by intro x; cases x) :
    wpP g M A (runOwn c env h) Q E s := by
  unfold runOwn
  exact p_onRaise (p_mono (p_run hc hnb) (fun _ _ h => h) fun _ _ h => p_any h)
theorem p_runValue {c : Code} {Q : Value → Shared → Prop}
    (hc : codeP g M A c (fun r s' => match r with | .ok (.ret v) => Q v s' | .ok _ => False | .error e => E e s') s) :
    wpP g M A (runValue c) Q E s := fun Γ p hcl hΓ => by rw [Sem.wp_runValue]; exact hc _ p rfl (hcl.enter c none p) (hΓ.enter c none p (by intro x; cases x))
theorem p_call {f : Value} {pos : List Value} {kw : List (Str × Value)} {Q : Value → Shared → Prop}
    (hc : codeP g M A (.call f ⟨pos, kw⟩) (fun r s' => match r with | .ok (.ret v) => Q v s' | .ok _ => False | .error e => E e s') s) :
    wpP g M A (call f pos kw) Q E s := p_runValue hc
theorem p_codeMono {c : Code} {R R' : Result → Shared → Prop} (h : codeP g M A c R s) (hR : ∀ r s, R r s → R' r s) : codeP g M A c R' s :=
  fun Γ p hc hl hΓ => wpCode_mono hR (h Γ p hc hl hΓ)
theorem p_tree {c : Code} {R : Result → Shared → Prop} (ok : okC c = true)
    (h : wpP g M (A.under c) (M.den c) (fun fin s' => match fin with | .done f => R (.ok f) s' | .again c' => c'.quiet = true ∧ codeP g M A c' R s')
      (fun e s' => R (.error e) s') s) : codeP g M A c R s := fun Γ p hc hl hΓ => by
  rw [wpCode_iff_wp, hc]
  refine Sem.wp_mono M Γ _ (fun fin p' s' h' => ?_) (fun _ _ _ h' => h') p s (h Γ p (fun hg => ⟨hc ▸ ok, hl hg⟩) (hc ▸ hΓ.in))
  cases fin with
  | done f => exact h'
  | again c' => exact ⟨h'.1, h'.2 (Γ.goto c') p' rfl hl (hΓ.goto c')⟩
theorem p_execs_nil {env : Env} {Q : Flow → Shared → Prop} (h : Q .next s) : wpP g M A (execs [] env) Q E s := fun _ _ _ _ => h
theorem p_execs {env : Env} {st : Stmt} {rest : List Stmt} {Q : Flow → Shared → Prop}
    (h : wpP g M A (exec st env) (fun f s' => match f with | .next => wpP g M A (execs rest env) Q E s' | f => Q f s') E s) :
    wpP g M A (execs (st :: rest) env) Q E s := by
  rw [execs_cons]
  refine p_bind (p_mono h (fun f s' h' => ?_) fun _ _ h' => h')
  cases f <;> first | exact h' | exact p_pure h'
theorem p_stmt {env : Env} {st : Stmt} {rest : List Stmt} {Q : Flow → Shared → Prop}
    (h : wpAny M A (exec st env) (fun f s' => match f with | .next => wpP g M A (execs rest env) Q E s' | f => Q f s') E s) :
    wpP g M A (execs (st :: rest) env) Q E s := p_execs (p_any h)
theorem p_if {env : Env} {test : Expr} {body orelse : List Stmt} {pos : Pos} {Q : Flow → Shared → Prop}
    (h : wpP g M A (isTrue test env (eval test env)) (fun b s₂ => if b then wpP g M A (execs body env) Q E s₂ else wpP g M A (execs orelse env) Q E s₂) E s) :
    wpP g M A (exec (.If test body orelse pos) env) Q E s := by
  rw [exec_If]
  refine p_bind (p_standAt (p_bind (p_mono h (fun b s₂ h₂ => ?_) fun _ _ h' => h')))
  cases b <;> exact h₂
theorem p_assign {env : Env} {x : Str} {pos' pos : Pos} {value : Expr} {Q : Flow → Shared → Prop}
    (h : wpP g M A (eval value env) (fun v s₁ => wpP g M A (storeName env x v) (fun _ => Q .next) E s₁) E s)
    (hs : swapsWith value (some (.Name x pos')) pos.line env = pure false := by rfl) :
    wpP g M A (exec (.Assign [.Name x pos'] value pos) env) Q E s := fun Γ p hc hΓ => by
  simp only [exec_Assign_Name env x pos' value pos hs, Sem.wp_bind', Sem.wp_cmd_standAt, Sem.wp_bindName, Sem.wp_pure']
  exact Sem.wp_mono M Γ _ (fun v _ s₁ h₁ => h₁ Γ _ hc hΓ) (fun _ _ _ h' => h') _ _ (h Γ _ hc hΓ)
theorem p_aug {env : Env} {x : Str} {op : Operator} {pos' pos : Pos} {value : Expr} {Q : Flow → Shared → Prop}
    (h : wpP g M A (loadName env x) (fun old s₁ => wpP g M A (eval value env) (fun v s₂ => wpP g M A (inplaceOp op old v)
      (fun r s₃ => wpP g M A (storeName env x r) (fun _ => Q .next) E s₃) E s₂) E s₁) E s) :
    wpP g M A (exec (.AugAssign (.Name x pos') op value pos) env) Q E s := fun Γ p hc hΓ => by
  simp only [exec_AugAssign_Name, Sem.wp_bind', Sem.wp_holding, Sem.wp_cmd_standAt, Sem.wp_operate, Sem.wp_bindName, Sem.wp_pure']
  exact Sem.wp_mono M Γ _ (fun old p₁ s₁ h₁ => Sem.wp_mono M Γ _ (fun v _ s₂ h₂ => Sem.wp_mono M Γ _ (fun r _ s₃ h₃ => h₃ Γ _ hc hΓ)
    (fun _ _ _ h' => h') _ _ (h₂ Γ _ hc hΓ)) (fun _ _ _ h' => h') _ _ (h₁ Γ p₁ hc hΓ)) (fun _ _ _ h' => h') _ _ (h Γ _ hc hΓ)
theorem p_ret {env : Env} {e : Expr} {pos : Pos} {Q : Flow → Shared → Prop} (h : wpP g M A (eval e env) (fun v => Q (.ret v)) E s) :
    wpP g M A (exec (.Return (some e) pos) env) Q E s := by
  rw [exec_Return_some]
  exact p_bind (p_standAt (p_bind (p_mono h (fun v s h => p_pure h) fun _ _ h => h)))
theorem p_expr {env : Env} {e : Expr} {pos : Pos} {Q : Flow → Shared → Prop} (h : wpP g M A (eval e env) (fun v s' => (∀ a, v ≠ .ref a) ∧ Q .next s') E s)
    (hi : interactive env = false := by rfl) (hs : swapsWith e none pos.line env = pure false := by rfl) :
    wpP g M A (exec (.Expr e pos) env) Q E s := by
  rw [exec_Expr env e pos hi hs]
  refine p_bind (p_standAt (p_bind (p_mono h (fun v s' h' => ?_) fun _ _ x => x)))
  rw [dropValue_plain h'.1]
  exact p_pure h'.2
theorem p_for {env : Env} {target iter : Expr} {body orelse : List Stmt} {pos : Pos} {Q : Flow → Shared → Prop}
    (h : wpP g M A (eval iter env) (fun x s₁ => wpP g M A (foldedSetIterable iter env x) (fun x s₁ => wpP g M A (pyIter x) (fun it s₂ =>
      codeP g M (A.mark none) (.forLoop target it body orelse env) (fun r s' => match r with | .ok f => Q f s' | .error e => cameBackBy M A env E e s') s₂) E s₁) E s₁) E s) :
    wpP g M A (exec (.For target iter body orelse pos) env) Q E s := by
  rw [exec_For]
  exact p_bind (p_standAt (p_bind (p_mono h (fun x s₁ h₁ => p_bind (p_mono h₁ (fun x s₁ h₁ => p_bind (p_standAt (p_bind (p_holding (p_mono h₁ (fun it s₂ h₂ => p_runOwn h₂) fun _ _ h => h))))) fun _ _ h => h)) fun _ _ h => h)))
theorem p_evalBin {env : Env} {op : Operator} {l r : Expr} {pos : Pos} {Q : Value → Shared → Prop}
    (h : wpP g M A (eval l env) (fun a s₁ => wpP g M A (eval r env) (fun b s₂ => wpP g M A (binaryOp op a b) Q E s₂) E s₁) E s) :
    wpP g M A (eval (.BinOp l op r pos) env) Q E s := by
  rw [eval_BinOp]
  exact p_bind (p_mono h (fun a s₁ h₁ => p_bind (p_holding (p_mono h₁ (fun b s₂ h₂ => p_bind (p_standAt (p_operate h₂))) fun _ _ h => h))) fun _ _ h => h)
theorem p_isTrueCmp {env : Env} {op : CmpOp} {l r : Expr} {pos : Pos} {whole : Sem Value} {Q : Bool → Shared → Prop}
    (h : wpP g M A (eval l env) (fun a s₁ => wpP g M A (eval r env) (fun b s₂ => wpP g M A (compareOp op a b) (fun c s₃ => wpP g M A (truthy c) Q E s₃) E s₂) E s₁) E s)
    (hm : behindInMarks op r = false := by with_unfolding_all rfl) : wpP g M A (isTrue (.Compare l [op] [r] pos) env whole) Q E s := by
  rw [isTrue_Compare1, markedBehindIn_of_false hm]
  exact p_bind (p_mono h (fun a s₁ h₁ => p_bind (p_holding (p_mono h₁ (fun b s₂ h₂ => p_bind (p_standAt (p_bind (p_operate (p_mono h₂ (fun c s₃ h₃ => p_holding h₃) fun _ _ h => h))))) fun _ _ h => h))) fun _ _ h => h)
theorem p_evalCmp {env : Env} {op : CmpOp} {l r : Expr} {pos : Pos} {Q : Value → Shared → Prop}
    (h : wpP g M A (eval l env) (fun a s₁ => wpP g M A (eval r env) (fun b s₂ => wpP g M A (compareOp op a b) Q E s₂) E s₁) E s)
    (hm : behindInMarks op r = false := by with_unfolding_all rfl) : wpP g M A (eval (.Compare l [op] [r] pos) env) Q E s := by
  rw [eval_Compare1, markedBehindIn_of_false hm]
  exact p_bind (p_mono h (fun a s₁ h₁ => p_bind (p_holding (p_mono h₁ (fun b s₂ h₂ => p_bind (p_standAt (p_operate h₂))) fun _ _ h => h))) fun _ _ h => h)
end
section
variable {g : Bool} {prog : Program} {w : World} {A : Around} {E : Value → Shared → Prop} {R : Result → Shared → Prop} {s : Shared}
theorem p_func {body : List Stmt} {env : Env}
    (h : wpP g (model prog w) (A.deeper env) (execs body env) (fun f s' => R (.ok (.ret (match f with | .ret v => v | _ => .none))) s')
      (fun e s' => wpAny (model prog w) (A.deeper env) (leaving env e) (fun _ s'' => R (.error e) s'') (fun e' s'' => R (.error e') s'') s') s) :
    codeP g (model prog w) A (.func body env) R s := by
  refine p_tree rfl ?_
  show wpP g _ (A.deeper env) (do point; match ← (execs body env).onRaise (leaving env) with | .ret v => ret v | _ => ret .none) _ _ s
  refine p_bind (p_point (p_bind (p_onRaise (p_mono h (fun f s' h' => ?_) fun _ _ h' => p_any h'))))
  cases f <;> exact p_pure h'
theorem p_callFunction {a : Addr} {args : Args} {o : Obj} {fd : FuncData} {body : List Stmt} (hroom : A.depth < recursionLimit)
    (ho : s.heap.get? a = some o)
    (hd' : o.data = .func fd) (hco : fd.scope.isCoroutine = false) (hgen : fd.scope.isGenerator = false) (hbody : fd.body = .stmts body) (hcd : s.heap.CodeRec fd.code fd.qualname)
    (h : wpAny (model prog w) A.in1 (bindArgs fd args) (fun binds s₁ =>
      wpAny (model prog w) A.in1 (newFunctionEnv fd.scope fd.globals fd.closure binds (fd.qualname ++ ".<locals>.") (some a) fd.code none fd.builtins)
        (fun env s₂ => s₂.heap.NoLimit ∧ codeP g (model prog w) A (.func body env) R s₂) (fun e s' => R (.error e) s') s₁) (fun e s' => R (.error e) s') s) :
    codeP g (model prog w) A (.call (.ref a) args) R s := by
  refine p_tree rfl (p_any ?_)
  show wpAny _ A.in1 (callAny (.ref a) args) _ _ s
  simp only [callAny]
  refine wpAny_bind (wpAny_load ho ?_)
  obtain ⟨c, oc, vs, tq, hc, hoc, hdc, hq⟩ := hcd
  simp only [hd', callFunction, hco, hgen, hbody, hc]
  rw [hc] at h
  refine wpAny_bind (m := field (.ref c) 1) (wpAny_field hoc hdc hq (wpAny_bind (wpAny_pure ?_)))
  exact wpAny_bind (wpAny_mono h (fun binds s₁ h₁ => wpAny_bind (wpAny_mono h₁ (fun env s₂ h₂ => wpAny_bind (wpAny_enterFrame h₂.1 hroom
    (wpAny_pure (And.intro rfl h₂.2)))) fun _ _ h' => h')) fun _ _ h' => h')
theorem p_callDef {a : Addr} {o : Obj} {fd : FuncData} {body : List Stmt} {args : Args} {binds : List (Str × Value)}
    (hroom : A.depth < recursionLimit) (ho : s.heap.get? a = some o) (hdata : o.data = .func fd) (hlim : s.heap.NoLimit) (hcd : s.heap.CodeRec fd.code fd.qualname)
    (hbody : fd.body = .stmts body) (hbind : BindsTo s fd args binds)
    (hcell : ∀ x ∈ fd.scope.names, x.2 ≠ .cell) (hloc : ∀ x ∈ binds, fd.scope.names.lookup x.1 = some .local)
    (h : ∀ h₀, h₀.Ns s.heap.objs.size (fun x => binds.reverse.lookup x) → (∀ b o, s.heap.get? b = some o → h₀.get? b = some o) →
      wpP g (model prog w) (A.deeper (callEnv fd s.heap.objs.size a)) (execs body (callEnv fd s.heap.objs.size a)) (fun f s' => R (.ok (.ret (match f with | .ret v => v | _ => .none))) s')
        (fun e s' => wpAny (model prog w) (A.deeper (callEnv fd s.heap.objs.size a)) (leaving (callEnv fd s.heap.objs.size a) e) (fun _ s'' => R (.error e) s'') (fun e' s'' => R (.error e') s'') s')
        { s with heap := h₀, toks := s.toks + binds.length })
    (hco : fd.scope.isCoroutine = false := by rfl) (hgen : fd.scope.isGenerator = false := by rfl) (hk : fd.scope.kind = .function := by rfl) :
    codeP g (model prog w) A (.call (.ref a) args) R s := by
  refine p_callFunction hroom ho hdata hco hgen hbody hcd (hbind _ _ _ _ ?_)
  refine wpAny_newFunctionEnv hcell hloc (fun h₀ hns₀ hsb₀ => ⟨hlim.fresh _ hsb₀, p_func (h h₀ hns₀ fun b o e => ?_)⟩) hk
  exact hsb₀.extBut b o (Nat.ne_of_lt (Heap.lt_size e)) (Heap.get?_push_of_some _ e)
end
section
variable {g : Bool} {prog : Program} {w : World} {A A₀ : Around} {s : Shared} {K : Frag} {L : Addr} {h₀ base : Heap} {m mg mb : Str → Option Value} {news : List (Addr × Obj)} {p : Program} {loose : List Str} {mean : ExcName → Option Value}
theorem p_def {env : Env} {outer : List Env} {R : Result → Shared → Prop} {name qual : Str} {params : Arguments} {body : List Stmt} {scope : Scope} {dV kV doc pm cdv ct oc : Value} {an od : Option Addr} {osl : Array (Option Value)} {f : Addr} {args : Args} {binds : List (Str × Value)}
    (B : Below A₀ base outer h₀) (F : Fr h₀ L s.heap m) (X₀ : K.In h₀) (N : News h₀ L s.heap news) (T : Top p loose mean mg mb h₀) (hA : A.frames = some (env :: outer)) (hf : env.frame = some L) (hke : env.scope.kind = .function)
    (ho : K.lookup f = some ⟨oc, od, .func (fnOf name qual params body scope dV kV doc pm an cdv ct), osl⟩) (hcd : codeIn K cdv qual = true) (hroom : A.depth < recursionLimit)
    (hbind : BindsTo s (fnOf name qual params body scope dV kV doc pm an cdv ct) args binds) (hloc : ∀ y ∈ binds, scope.names.lookup y.1 = some .local)
    (h : ∀ gd L' h₁, Fr h₀ L gd m → Fr gd L' h₁ (fun y => binds.reverse.lookup y) → News gd L' h₁ news → Below A base (env :: outer) gd → K.In gd → Top p loose mean mg mb gd →
      wpP g (model prog w) (A.deeper (envOf qual scope L' f cdv)) (execs body (envOf qual scope L' f cdv))
        (fun fl s' => LeaveK h₀ L m gd R (match fl with | .ret v => v | _ => .none) s')
        (fun e s' => wpAny (model prog w) (A.deeper (envOf qual scope L' f cdv)) (leaving (envOf qual scope L' f cdv) e) (fun _ s'' => R (.error e) s'') (fun e' s'' => R (.error e') s'') s')
        { s with heap := h₁, toks := s.toks + binds.length })
    (hco : scope.isCoroutine = false) (hgen : scope.isGenerator = false) (hk : scope.kind = .function)
    (hcell : ∀ x ∈ scope.names, x.2 ≠ .cell) : codeP g (model prog w) A (.call (.ref f) args) R s := by
  obtain ⟨FG, BG, st, lv⟩ := groundX (R := R) B F N hA hf hke
  refine p_callDef (fd := fnOf name qual params body scope dV kV doc pm an cdv ct) (body := body) (binds := binds) hroom ((X₀.keeps F.keep) _ _ ho) rfl (T.nolimit.keeps F.keep) (codeRec_of (X₀.keeps F.keep) hcd) rfl hbind hcell hloc (fun h₁ hns hk₁ => ?_) hco hgen hk
  exact p_mono (h _ s.heap.objs.size h₁ FG ⟨hns, fun b o e => hk₁ b o (of_hideAll _ e), Nat.le_of_eq (hideAll_size _ _)⟩
    (fun p hp => ⟨hk₁ _ _ (N p hp).1, Nat.ne_of_lt (Heap.lt_size (N p hp).1), hideAll_none _ (List.mem_map_of_mem hp)⟩) BG (X₀.keeps st) (T.keeps st)) (fun fl s' hl => lv _ _ hl) fun _ _ y => y
end
end MineP
end
section
open PySem PySem.W PySem.Calls PyProof.Rows
namespace MineP
theorem ok_caller : okC (.builtin "claim.caller" {}) = true := by
  show (!(badIds.contains "claim.caller")) = true
  decide +kernel
theorem clean0 : CleanC true ⟨.builtin "claim.caller" {}, none, none, [], none⟩ := fun _ => ⟨ok_caller, fun x hx => nomatch hx⟩
theorem clean_ends {prog : Program} {w : World} {t : Sem Fin} {s : Shared} {R : Result → Shared → Prop} (hz : s.asleep)
    (h : wpP true (model prog w) callerA t (fun fin s' => ∃ f, fin = .done f ∧ (R (.ok f) s' ∧ AllBare s'.gens)) (fun e s' => R (.error e) s' ∧ AllBare s'.gens) s) :
    ∃ n r s' s'', runN (denote table) prog w n s ⟨t, .builtin "claim.caller" {}, default, []⟩ = .halted (outcomeOf r) s' ∧
      schedN (denote table) prog w n (.single s ⟨t, .builtin "claim.caller" {}, default, []⟩) = .halted (outcomeOf r) s' ∧ s'.forget = s''.forget ∧ R r s'' := by
  have h' := h _ (default : Pos) clean0 caller_in
  obtain ⟨n, r, s₁, s₂, hs, hn, hfo, hR⟩ := wp_halts_full (M := model prog w) (R := R) (t := t) hz
    (Sem.wp_mono (model prog w) _ t (fun fin p' s' z => by
      obtain ⟨f, rfl, z1, z2⟩ := z
      exact ⟨z1, leftWithCleanup_false_of_bare z2⟩) (fun e p' s' z => ⟨z.1, leftWithCleanup_false_of_bare z.2⟩) default s h')
  exact ⟨n, r, s₂, s₁, hn, hs, hfo, hR⟩
abbrev WalkP (q : Program) (loose : List Str) (XP : (Str → Option Value) → Heap → Prop) (YP : World → Heap → Prop) (r : RowW) (d : DefRec) (kwd : List (Str × Expr)) (run : Value → List Value → Sem Value) : Prop :=
  ∀ (w : World) (s₀ s₁ : Shared) (mg mb : Str → Option Value), Ground q loose r.records XP w s₀ mg mb s₁.heap → YP w s₁.heap → ∀ (a : Addr) (o : Obj) (pm cd doc dV kV : Value), s₁.heap.get? a = some o →
    o.data = .func { docDef d.name d.params d.body d.scope pm cd doc with defaults := dV, kwdefaults := kV } → s₁.heap.CodeRec cd d.name → Dflts mg s₁.heap d.params kwd dV kV → mg d.name = some (.ref a) → s₁.gens = #[] →
    ∀ (args : List WData) (vals : List Value) (as : List Addr), r.claim.pre args = true → WData.layableAll args = true → ReadsAllW r.records (classAt s₀.heap) s₁.heap vals args as → WellAll w.params s₁.heap vals args → (∀ a ∈ as, (a == sysModules) = false) →
      wpP true (model r.prog w) callerA (run (.ref a) vals) (fun v s' => GoodWG r.claim (classAt s₀.heap) (ExcName.means s₀.heap) args s₁ (.ok (.ret v)) s')
        (fun e s' => GoodWG r.claim (classAt s₀.heap) (ExcName.means s₀.heap) args s₁ (.error e) s') s₁
theorem open_clean {r : OpenRow} {q : Program} {loose : List Str} {Xt : Shared → Bool} {XP : (Str → Option Value) → Heap → Prop} {α : Type} {Yf : Shared → α} {Ya : World → α} {YP : World → Heap → Prop} {d : DefRec} {kwd : List (Str × Expr)} {N : Nat}
    (left : LeftO r.prog q loose Xt Yf Ya N) (hY : ∀ w s, Yf s = Ya w → YP w s.heap) (hYk : ∀ w h h', YP w h → (∀ b o, h.get? b = some o → h'.get? b = some o) → YP w h')
    (hX : ∀ s, Xt s = true → XP (s.heap.nsMap mainGlobals) s.heap) (hXk : ∀ mg h h', XP mg h → (∀ b o, h.get? b = some o → h'.get? b = some o) → XP mg h')
    (hdef : defOf q r.name = some (d, kwd)) (hp : r.prog.theDef r.name = some (d.params, d.body, d.scope)) (hk : kwWritten? d.params.kwonlyargs d.params.kw_defaults = some kwd) (hRf : ∀ s, Xt s = true → RecFacts r.records s.heap) (hwr : (!r.writes || r.records.isEmpty) = true)
    (k1 : r.wellSaid = true) (ok : (chainsOk q && opensWell r.prog && (frees r.toRowW && r.within.isEmpty)) = true) (hb : r.prog.bare) (hw : r.toRowW.promised)
    (walk : WalkP q loose XP YP r.toRowW d kwd fun f vs => PySem.call f vs) : r.Holds := by
  obtain ⟨ok1, ok2⟩ := Bool.and_eq_true_iff.mp ok
  obtain ⟨hch, ow⟩ := Bool.and_eq_true_iff.mp ok1
  obtain ⟨fr, wi⟩ := Bool.and_eq_true_iff.mp ok2
  obtain ⟨hsame, hu, ha, hap, hm⟩ := frees_parts fr
  have B := fun w => left.behind (XP := fun mg h => XP mg h ∧ RecFacts r.records h) (fun s hs => ⟨hX s hs, hRf s hs⟩) hch w
  refine ⟨k1, hw, ⟨hb, ow, by show r.makers.map _ = []; rw [hm]; rfl⟩, hw.witness, fun w => ⟨(B w).1, fun s' hs' => ?_⟩⟩
  obtain ⟨s₀, f0, g0, s, T, hz, hg, hm', G1, y⟩ := (B w).2 s' hs'
  have G0 : Ground q loose [] XP w s (s.heap.nsMap mainGlobals) (s.heap.nsMap builtinsNs) s.heap := ⟨G1.T, G1.B, G1.D, G1.TE, G1.TD, G1.W, G1.X.1, G1.cls, G1.has, G1.apart, G1.once, G1.K⟩
  have RF := G1.X.2
  have hg' : s.gens = #[] := Array.eq_empty_of_size_eq_zero (beq_iff_eq.mp hg)
  have G := RF.ground G0
  refine ⟨s₀, f0, g0, s, T, fun n hn => ?_, RF.1, RF.2.1, fun args hpre hlay ord hord => ?_⟩
  · obtain rfl : n = r.name := by split at hn <;> simp_all
    exact pinned_of_view hm' G0 hdef hp hk
  obtain ⟨⟨vs, s₁⟩, hlaid⟩ := Option.isSome_iff_exists.mp (layAllW_isSome (P := w.params) (ord := ord) G.has args r.args s (pre_splitW hpre).1)
  have keeps := layAllW_keeps _ _ _ hlaid
  have hal := layAllW_rest _ _ _ hlaid
  obtain ⟨as, hrd, hin, hold⟩ := reads_layAllW hord _ _ _ hlaid hlay s₁.heap (fun _ _ e => e)
  have L : Laid r.records w s s₁ args vs as := ⟨⟨ord, hord, hlaid⟩, hrd, hin, hold, keeps, hal.1.trans hg', hal.2.2.1⟩
  have G₁ := G.keeps hXk keeps
  obtain ⟨a, o, pm, cd, doc, dV, kV, q1, q2, q3, q4, q5⟩ := G₁.fn hdef
  have hwi : r.toRowW.claim.within = [] := List.isEmpty_iff.mp wi
  have big := walk w s s₁ _ _ G₁ (hYk _ _ _ (hY w s y) keeps) a o pm cd doc dV kV q2 q3 q4 q5 (defOf_name hdef ▸ q1) L.gens args vs as hpre hlay L.reads L.well (L.low G.low)
  have fin := fun (res : Result) (s₂ : Shared) (g : GoodWG r.toRowW.claim (classAt s.heap) (ExcName.means s.heap) args s₁ res s₂) => (show (r.toRowW.claim.Ends s args vs s₁ res s₂ ∧ s₂.os = s.os ∧ (r.writes = true → namesKept r.prog r.keeps s.heap s₂.heap ∧ ∀ x ∈ r.records, ∀ a, classAt s.heap x.1 = some a → recordClass s₂.heap a x.1 (x.2.map (·.1)) = true)) ∧ AllBare s₂.gens from by
    have z := g.laid (c := r.toRowW.claim) hsame hwi (ident_freeW hu ha hap) L
    exact ⟨⟨z.1, z.2.1, fun k => ⟨namesKept_of T hm' r.keeps keeps g.2.1.old, noTable hwr k⟩⟩, z.2.2⟩)
  obtain ⟨k, res, t1, t2, hrun, hsched, hfo, hcase, hos, hkp⟩ := clean_ends (prog := r.prog) (w := w) (s := s₁)
    (t := do match ← nsGet mainNs r.name with | some f => do ret (← PySem.call f vs) | none => unsupported "claim.caller:no-such-global")
    (R := fun res s₂ => r.toRowW.claim.Ends s args vs s₁ res s₂ ∧ s₂.os = s.os ∧ (r.writes = true → namesKept r.prog r.keeps s.heap s₂.heap ∧ ∀ x ∈ r.records, ∀ a, classAt s.heap x.1 = some a → recordClass s₂.heap a x.1 (x.2.map (·.1)) = true))
    (Shared.asleep_of_life hal.2.2.2 hz)
    (p_leaf (wpAny_nsGet G₁.T.g (by rw [q1]; exact p_bind (p_mono big (fun v s₂ g => p_pure ⟨_, rfl, fin _ s₂ g⟩) fun e s₂ g => fin _ s₂ g))))
  obtain ⟨eh, _, _, eo, _⟩ := Shared.forget_eq hfo
  have hcase' := hcase.congr eh
  rw [← eh] at hkp
  rw [← eo] at hos
  have hlife : t1.heap.life = s.heap.life := (runN_life _ _ _ hrun).trans hal.2.2.2
  refine ⟨vs, s₁, hlaid, k, _, t1, hsched, ?_, (fun _ i x hx => by rw [hg'] at hx; simp at hx), hkp, by rw [hlife], Shared.rest_eq hos⟩
  rcases hcase' with ⟨v, rfl, d1, d2, d3, d4, d5⟩ | ⟨e, ob, cls, rfl, d1, d2, d3, d4, d5⟩
  · exact .inl ⟨v, rfl, d1, d2, d3, fun b o y _ => d4 b o y, d5⟩
  · exact .inr ⟨e, ob, cls, rfl, d1, d2, d3, d4, fun b o y _ => d5 b o y⟩
end MineP
end
section
open PySem PySem.W PySem.Calls PySem.Spec PyProof.Rows PySem.Builtin
namespace Mine
abbrev baO (b : Array UInt8) : Obj := { cls := .type "bytearray", data := .bytearray b 0 }
theorem slot_ba_get : Slot "bytearray" "__getitem__" "bytearray.__getitem__" :=
  .of (owner := "bytearray") (n := "__getitem__") (by rw [typeLookup_type, builtinLookup_eq_fast]; kernel_rfl) (by decide +kernel) (by decide +kernel) (by decide +kernel)
    (by first | exact .inl (by decide +kernel) | exact .inr (by decide +kernel)) (by rw [isSubtype_type]; kernel_rfl)
theorem slot_ba_set : Slot "bytearray" "__setitem__" "bytearray.__setitem__" :=
  .of (owner := "bytearray") (n := "__setitem__") (by rw [typeLookup_type, builtinLookup_eq_fast]; kernel_rfl) (by decide +kernel) (by decide +kernel) (by decide +kernel)
    (by first | exact .inl (by decide +kernel) | exact .inr (by decide +kernel)) (by rw [isSubtype_type]; kernel_rfl)
theorem slot_ba_len : Slot "bytearray" "__len__" "bytearray.__len__" :=
  .of (owner := "bytearray") (n := "__len__") (by rw [typeLookup_type, builtinLookup_eq_fast]; kernel_rfl) (by decide +kernel) (by decide +kernel) (by decide +kernel)
    (by first | exact .inl (by decide +kernel) | exact .inr (by decide +kernel)) (by rw [isSubtype_type]; kernel_rfl)
theorem entry_ba_get : entryFor table "bytearray.__getitem__" = some Builtin.«bytearray.__getitem__» := by first | exact entryFor_of_tree (by kernel_rfl) | exact entryFor_of_fast (by kernel_rfl)
theorem entry_ba_set : entryFor table "bytearray.__setitem__" = some Builtin.«bytearray.__setitem__» := by first | exact entryFor_of_tree (by kernel_rfl) | exact entryFor_of_fast (by kernel_rfl)
theorem entry_ba_len : entryFor table "bytearray.__len__" = some Builtin.«bytearray.__len__» := by first | exact entryFor_of_tree (by kernel_rfl) | exact entryFor_of_fast (by kernel_rfl)
theorem args_ba_get (a b : Value) : argsOk "bytearray.__getitem__" ⟨[a, b], []⟩ := by unfold argsOk; kernel_rfl
theorem args_ba_set (a b c : Value) : argsOk "bytearray.__setitem__" ⟨[a, b, c], []⟩ := by unfold argsOk; kernel_rfl
theorem args_ba_len (a : Value) : argsOk "bytearray.__len__" ⟨[a], []⟩ := by unfold argsOk; kernel_rfl
section
variable {prog : Program} {w : World} {M : Model} {A : Around} {E : Value → Shared → Prop} {s : Shared}
theorem ba_type {a : Addr} {b : Array UInt8} (h : s.heap.get? a = some (baO b)) : s.TypeIs (.ref a) "bytearray" := ⟨_, h, rfl⟩
theorem ba_payload {a : Addr} {b : Array UInt8} {Q : Array UInt8 → Shared → Prop} (h : s.heap.get? a = some (baO b)) (q : Q b s) : wpAny M A (Bytes.payload (.ref a)) Q E s := by
  show wpAny M A (Bytes.payload? (.ref a) >>= fun r => _) Q E s
  refine wpAny_bind ?_
  show wpAny M A (load a >>= fun r => _) _ E s
  exact wpAny_bind (wpAny_load h (wpAny_pure (wpAny_pure q)))
theorem ba_len_b {a : Addr} {b : Array UInt8} {Q : Value → Shared → Prop} (h : s.heap.get? a = some (baO b)) (q : Q (.int b.size s.toks) { s with toks := s.toks + 1 }) :
    wpAny (model prog w) A (call (.builtin "bytearray.__len__") [.ref a]) Q E s := by
  refine wpAny_call_entry slot_ba_len (ba_type h) entry_ba_len ?_ (args_ba_len _)
  show wpAny _ _ (slotArgs "__len__" 0 ⟨[.ref a], []⟩ >>= fun r => _) _ _ s
  refine wpAny_bind (wpAny_of_eq (a := (.ref a, [])) rfl ?_)
  show wpAny _ _ (Bytes.payload (.ref a) >>= fun b => retInt b.size) _ _ s
  refine wpAny_bind (ba_payload h ?_)
  exact wpAny_bind (wpAny_mkInt (wpAny_pure ⟨_, rfl, q⟩))
theorem ba_len {a : Addr} {b : Array UInt8} {Q : Value → Shared → Prop} (h : s.heap.get? a = some (baO b)) (hz : b.size ≤ 16777216) (q : ∀ t k, Q (.int b.size t) { s with toks := k }) :
    wpAny (model prog w) A (call (.builtin "len") [.ref a]) Q E s := by
  refine Calls.call_function_entry kind_len plain_len entry_len (args_len1 _) ?_
  unfold Builtin.«len»
  refine wpAny_bind (m := oneArg "len" _) (wpAny_pure ?_)
  refine wpAny_bind (m := callSpecial? (.ref a) (Str.ofString "__len__")) (wpAny_callSpecial?_slot (name := Str.ofString "__len__") (ba_type h) slot_ba_len (ba_len_b h ?_))
  refine wpAny_bind (wpAny_holding (wpAny_pure ?_))
  refine wpAny_bind (wpAny_letGo ?_)
  show wpAny _ _ (if (b.size : Int) < 0 then _ else _) _ _ _
  rw [if_neg (by omega)]
  show wpAny _ _ (if (b.size : Int) ≥ 2 ^ 63 then _ else _) _ _ _
  rw [if_neg (by omega)]
  exact wpAny_bind (wpAny_mkInt (wpAny_pure ⟨_, rfl, q _ _⟩))
theorem ba_cut {a sl : Addr} {b : Array UInt8} {l u : Value} {lo hi : Option Int} {Q : Value → Shared → Prop} (hl : IsPart l lo) (hu : IsPart u hi) (h : s.heap.get? a = some (baO b)) (hs : s.heap.IsSliceOf sl l u .none) (hz : (KBy.picked b lo hi).size ≤ 16777216)
    (q : ∀ k, Q (.ref s.heap.objs.size) { s with heap := s.heap.push (baO (KBy.picked b lo hi)), toks := k }) :
    wpAny (model prog w) A (getItem (.ref a) (.ref sl)) Q E s := by
  refine wpAny_getItem_slot (ba_type h) (by decide) slot_ba_get (wpAny_call_entry slot_ba_get (ba_type h) entry_ba_get ?_ (args_ba_get _ _))
  obtain ⟨o, ho, hc, hd⟩ := hs
  have hT : s.TypeIs (.ref sl) "slice" := ⟨o, ho, hc⟩
  show wpAny _ _ (slotArgs "__getitem__" 1 ⟨[.ref a, .ref sl], []⟩ >>= fun r => _) _ _ s
  refine wpAny_bind (wpAny_of_eq (a := (.ref a, [.ref sl])) rfl ?_)
  show wpAny _ _ (Bytes.subscript? (.ref sl) >>= fun r => _) _ _ s
  refine wpAny_bind ?_
  unfold Bytes.subscript?
  refine wpAny_bind (wpAny_specialOf hT slice_no_index (wpAny_pure ?_))
  refine wpAny_bind (wpAny_typeOf hT ?_)
  show wpAny _ _ (Bytes.sliceParts (.ref sl) >>= fun r => _) _ _ s
  refine wpAny_bind ?_
  unfold Bytes.sliceParts
  refine wpAny_bind (wpAny_field (x := .none) ho hd rfl ?_)
  kby_none
  refine wpAny_ite (KBy.ite_no (show ¬ ((Value.none == rawInt 0) = true) from Bool.false_ne_true) ?_)
  refine wpAny_bind (wpAny_field (x := l) ho hd rfl ?_)
  have go : ∀ A', wpAny (model prog w) A' (sliceIndices (rawPart lo) (rawPart hi) (rawPart none) b.size) (fun r s' => r = sliceBounds lo hi none b.size ∧ s' = s) (fun _ _ => False) s := fun A' =>
    wpAny_of_eq (sliceIndices_raw lo hi none b.size (fun e => nomatch e)) ⟨rfl, rfl⟩
  have hz' : sizeOk (.bytearray (KBy.picked b lo hi) 0) := by show (KBy.picked b lo hi).size ≤ sizeLine; rw [sizeLine_eq]; exact hz
  cases hl <;> cases hu <;> (first
    | (kby_none; (refine wpAny_bind (wpAny_field (x := .none) ho hd rfl ?_)); kby_none)
    | (kby_none; (refine wpAny_bind (wpAny_field (x := .int _ _) ho hd rfl ?_)); kby_int)
    | (kby_int; (refine wpAny_bind (wpAny_field (x := .none) ho hd rfl ?_)); kby_none)
    | (kby_int; (refine wpAny_bind (wpAny_field (x := .int _ _) ho hd rfl ?_)); kby_int)) <;> refine wpAny_pure ?_
  all_goals
    refine wpAny_bind (ba_payload h ?_)
    refine wpAny_bind (wpAny_mono (go _) (fun r s' hr => ?_) fun _ _ e => e.elim)
    obtain ⟨hr1, hr2⟩ := hr
    subst hr1 hr2
    refine wpAny_bind ?_
    unfold Bytes.newBytearray
    exact wpAny_newObj_type (wpAny_pure ⟨_, rfl, q _⟩) hz'
end
end Mine
end
section
open PySem PySem.W PySem.Calls PyProof.Rows Mine
namespace MineP
theorem okC_bi {id : String} (args : Args) (h : badIds.contains id = false) : okC (.builtin id args) = true := by
  show (!(badIds.contains id)) = true
  rw [h]; rfl
section
variable {g : Bool} {prog : Program} {w : World} {A : Around} {E : Value → Shared → Prop} {R : Result → Shared → Prop} {s : Shared}
theorem p_codeBuiltin {id : String} {args : Args} {b : Builtin} (ok : okC (.builtin id args) = true) (hb : entryFor table id = some b)
    (h : wpP g (model prog w) (A.under (.builtin id args)) (b args)
      (fun fin s' => match fin with | .done f => R (.ok f) s' | .again c' => c'.quiet = true ∧ codeP g (model prog w) A c' R s') (fun e s' => R (.error e) s') s) :
    codeP g (model prog w) A (.builtin id args) R s := by
  refine p_tree ok ?_
  show wpP g _ _ (match entryFor table id with | some b => b args | none => unsupported ((withoutEnding? id "#data").getD id)) _ _ s
  rw [hb]; exact h
theorem p_codeCallBuiltin {id : String} {args : Args} {b : Builtin} (ok : okC (.builtin id args) = true) (hq : plainId id = true) (hb : entryFor table id = some b)
    (h : wpAny (model prog w) A.in1 (checkBuiltinCall id args) (fun _ s₁ => wpP g (model prog w) A.in1 (b args)
      (fun fin s' => match fin with | .done f => R (.ok f) s' | .again c' => c'.quiet = true ∧ codeP g (model prog w) A c' R s') (fun e s' => R (.error e) s') s₁)
      (fun e s' => R (.error e) s') s) : codeP g (model prog w) A (.call (.builtin id) args) R s := by
  refine p_tree rfl (p_any ?_)
  show wpAny _ A.in1 (do checkBuiltinCall id args; again (.builtin id args)) _ _ s
  refine wpAny_bind (wpAny_mono h (fun _ s₁ h₁ => wpAny_pure (And.intro (plainId_quiet hq args) (p_codeBuiltin ok hb ?_))) fun _ _ h' => h')
  rw [Around.under_plainId hq args]; exact h₁
theorem p_callEntry {T : String} {name : Str} {id : String} {b : Builtin} {self : Value} {rest : List Value} {Q : Value → Shared → Prop} (ok : okC (.builtin id ⟨self :: rest, []⟩) = true) (h : Slot T name id) (hT : s.TypeIs self T)
    (hb : entryFor table id = some b)
    (hc : wpP g (model prog w) A.in1 (b ⟨self :: rest, []⟩) (fun fin s' => ∃ v, fin = .done (.ret v) ∧ Q v s') E s)
    (ha : argsOk id ⟨self :: rest, []⟩ := by rfl) :
    wpP g (model prog w) A (call (.builtin id) (self :: rest)) Q E s := by
  refine p_call (p_codeCallBuiltin ok h.plain hb (h.check _ _ _ _ _ _ _ _ hT ha (p_mono hc (fun fin s' h' => ?_) fun _ _ h' => h')))
  obtain ⟨v, rfl, hv⟩ := h'; exact hv
theorem p_callSpecial {M : Model} {self : Value} {T : String} {name : Str} {id : String} {args : List Value} {kw : List (Str × Value)}
    {Q : Option Value → Shared → Prop} (hT : s.TypeIs self T) (h : Slot T name id)
    (hc : wpP g M A (call (.builtin id) (self :: args) kw) (fun v => Q (some v)) E s) : wpP g M A (callSpecial? self name args kw) Q E s := by
  simp only [callSpecial?]
  refine p_leaf (wpAny_specialOf hT h.lookup ?_)
  simp only [h.bind]
  exact p_holding (p_bind (p_pure (p_bind (p_mono hc (fun v s' h' => p_pure h') fun _ _ h' => h'))))
theorem p_ifF {α : Type} {M : Model} {c : Bool} {a b : Sem α} {Q : α → Shared → Prop} (hc : c = false) (h : wpP g M A b Q E s) : wpP g M A (if c = true then a else b) Q E s := by
  subst hc; exact h
theorem p_ifT {α : Type} {M : Model} {c : Bool} {a b : Sem α} {Q : α → Shared → Prop} (hc : c = true) (h : wpP g M A a Q E s) : wpP g M A (if c = true then a else b) Q E s := by
  subst hc; exact h
theorem p_typeCall {T newId initId : String} {args : List Value} {Q Q₁ : Value → Shared → Prop} (ft : TypeCalled T newId initId)
    (hct : checkTypeCall T ⟨args, []⟩ = pure ())
    (hnew : codeAny (model prog w) A.in1 (.call (.builtin newId) ⟨.type T :: args, []⟩) (wants Q₁ E) s)
    (hnext : ∀ obj s₁, Q₁ obj s₁ → s₁.TypeIs obj T ∧
      wpP g (model prog w) A.in1 (call (.builtin initId) (obj :: args)) (fun r s₂ => r = .none ∧ Q obj s₂) E s₁) :
    wpP g (model prog w) A (call (.type T) args) Q E s := by
  obtain ⟨c, tl, hmro⟩ := ft.mro
  have hmade := ft.made
  have hsub := ft.sub
  refine p_call (p_tree rfl (p_any ?_))
  show wpAny _ _ (callAny (.type T) _) _ _ _
  refine wpAny_pure ⟨Code.quiet_builtin _ (by decide +kernel), p_codeBuiltin (okC_bi _ (by decide +kernel)) F.entry_type_call ?_⟩
  rw [Around.under_plain (weight_type_call_type T args []) rfl]
  have h1 := ft.notType
  have h2 := ft.canCreate
  unfold Builtin.«type.__call__»
  dsimp only
  simp only [h1, h2, hct, hmro, hmade, Bool.false_eq_true, if_false, List.isEmpty_cons, pure_bind]
  refine p_bind (p_holding (p_call (p_codeAny (codeAny_mono hnew fun r s₁ hr => ?_))))
  cases r with
  | error e => exact hr
  | ok fl =>
    cases fl with
    | ret obj =>
      obtain ⟨hT, hi⟩ := hnext _ _ hr
      refine p_leaf (wpAny_isInstance hT hsub ?_)
      refine p_ifF rfl ?_
      refine p_bind (p_holding (p_callSpecial hT ft.init (p_mono hi (fun v s' h' => ?_) fun _ _ h' => h')))
      obtain ⟨rfl, hq⟩ := h'
      exact p_pure hq
    | _ => exact hr.elim
end
theorem ba_mro : mroOf (.type "bytearray") = pure [.type "bytearray", .type "object"] := by rw [mroOf_type]; kernel_rfl
theorem ba_lookup_new : typeLookup (.type "bytearray") "__new__" = pure (some (.builtin "bytearray.__new__")) := by rw [typeLookup_type, builtinLookup_eq_fast]; kernel_rfl
theorem ba_slot_init : Slot "bytearray" "__init__" "bytearray.__init__" :=
  .of (owner := "bytearray") (n := "__init__") (by rw [typeLookup_type, builtinLookup_eq_fast]; kernel_rfl) (by decide +kernel) (by decide +kernel) (by decide +kernel)
    (by first | exact .inl (by decide +kernel) | exact .inr (by decide +kernel)) (by rw [isSubtype_type]; kernel_rfl)
theorem ba_called : TypeCalled "bytearray" "bytearray.__new__" "bytearray.__init__" :=
  ⟨by decide +kernel, by decide +kernel, ⟨_, _, ba_mro⟩, madeBy_type ba_mro ba_lookup_new (by decide +kernel), by decide +kernel, by rw [isSubtype_type]; kernel_rfl, ba_slot_init⟩
theorem ba_typeCall0 : checkTypeCall "bytearray" ⟨[], []⟩ = pure () := by kernel_rfl
theorem ba_typeCall1 (a : Value) : checkTypeCall "bytearray" ⟨[a], []⟩ = pure () := by kernel_rfl
theorem ba_newCall0 : checkBuiltinCall "bytearray.__new__" ⟨[.type "bytearray"], []⟩ = pure () := by kernel_rfl
theorem ba_newCall1 (a : Value) : checkBuiltinCall "bytearray.__new__" ⟨[.type "bytearray", a], []⟩ = pure () := by kernel_rfl
theorem entry_ba_new : entryFor table "bytearray.__new__" = some Builtin.«list.__new__» := entryFor_alias (id' := "list.__new__") (by rw [fastTable_eq_tree]; kernel_rfl) (by decide +kernel) (by decide +kernel) (by rw [fastTable_eq_tree]; kernel_rfl)
theorem entry_ba_init : entryFor table "bytearray.__init__" = some Builtin.«bytearray.__init__» := by first | exact entryFor_of_tree (by kernel_rfl) | exact entryFor_of_fast (by kernel_rfl)
theorem plain_ba_new : plainId "bytearray.__new__" = true := by decide +kernel
theorem args_ba_init0 (a : Value) : argsOk "bytearray.__init__" ⟨[a], []⟩ := by unfold argsOk; kernel_rfl
theorem args_ba_init1 (a b : Value) : argsOk "bytearray.__init__" ⟨[a, b], []⟩ := by unfold argsOk; kernel_rfl
theorem owner_ba_new : ("bytearray.__new__".splitOn ".__new__").headD "" = "bytearray" := by simp +decide [String.splitOn, String.splitOnAux]
theorem sub_ba_self : isSubtype (.type "bytearray") (.type "bytearray") = pure true := by rw [isSubtype_type]; kernel_rfl
section
variable {g : Bool} {prog : Program} {w : World} {A : Around} {E : Value → Shared → Prop} {R : Result → Shared → Prop} {s : Shared}
theorem code_ba_new0 {Q₁ : Value → Shared → Prop}
    (h : Q₁ (.ref s.heap.objs.size) { s with heap := s.heap.push (baO #[]) }) :
    codeAny (model prog w) A (.call (.builtin "bytearray.__new__") ⟨[.type "bytearray"], []⟩) (wants Q₁ E) s := by
  refine codeAny_of_tree ?_
  show wpAny _ A.in1 (do checkBuiltinCall "bytearray.__new__" ⟨[.type "bytearray"], []⟩; again (.builtin "bytearray.__new__" ⟨[.type "bytearray"], []⟩)) _ _ s
  refine wpAny_bind (wpAny_of_eq ba_newCall0 (wpAny_pure ⟨plainId_quiet plain_ba_new _, codeAny_builtin_stack entry_ba_new rfl fun p st => ?_⟩))
  rw [Around.under_plainId plain_ba_new _]
  have hsub := sub_ba_self
  have hown := owner_ba_new
  obtain ⟨hp, g, d, tk, os⟩ := s
  simp only [hown]
  wp_walk
  exact h
theorem code_ba_new1 (a : Value) {Q₁ : Value → Shared → Prop}
    (h : Q₁ (.ref s.heap.objs.size) { s with heap := s.heap.push (baO #[]) }) :
    codeAny (model prog w) A (.call (.builtin "bytearray.__new__") ⟨[.type "bytearray", a], []⟩) (wants Q₁ E) s := by
  refine codeAny_of_tree ?_
  show wpAny _ A.in1 (do checkBuiltinCall "bytearray.__new__" ⟨[.type "bytearray", a], []⟩; again (.builtin "bytearray.__new__" ⟨[.type "bytearray", a], []⟩)) _ _ s
  refine wpAny_bind (wpAny_of_eq (ba_newCall1 a) (wpAny_pure ⟨plainId_quiet plain_ba_new _, codeAny_builtin_stack entry_ba_new rfl fun p st => ?_⟩))
  rw [Around.under_plainId plain_ba_new _]
  have hsub := sub_ba_self
  have hown := owner_ba_new
  obtain ⟨hp, g, d, tk, os⟩ := s
  simp only [hown]
  wp_walk
  exact h
end
end MineP
end
section
open PySem PySem.W PySem.Calls PyProof.Rows PySem.Builtin Mine
namespace MineP
theorem ba_look_release : typeLookup (.type "bytearray") "__release_buffer__" = pure (some (.builtin "bytearray.__release_buffer__")) := by rw [typeLookup_type, builtinLookup_eq_fast]; kernel_rfl
theorem ba_look_buffer : typeLookup (.type "bytearray") "__buffer__" = pure (some (.builtin "bytearray.__buffer__")) := by rw [typeLookup_type, builtinLookup_eq_fast]; kernel_rfl
theorem ba_no_bytes : typeLookup (.type "bytearray") "__bytes__" = pure none := by rw [typeLookup_type, builtinLookup_eq_fast]; kernel_rfl
theorem ba_no_index : typeLookup (.type "bytearray") "__index__" = pure none := by rw [typeLookup_type, builtinLookup_eq_fast]; kernel_rfl
theorem by_no_index : typeLookup (.type "bytes") "__index__" = pure none := by rw [typeLookup_type, builtinLookup_eq_fast]; kernel_rfl
theorem by_no_int : typeLookup (.type "bytes") "__int__" = pure none := by rw [typeLookup_type, builtinLookup_eq_fast]; kernel_rfl
theorem by_no_float : typeLookup (.type "bytes") "__float__" = pure none := by rw [typeLookup_type, builtinLookup_eq_fast]; kernel_rfl
theorem by_no_complex : isSubtype (.type "bytes") (.type "complex") = pure false := by rw [isSubtype_type]; kernel_rfl
theorem by_no_ba : isSubtype (.type "bytes") (.type "bytearray") = pure false := by rw [isSubtype_type]; kernel_rfl
section
variable {M : Model} {A : Around} {E : Value → Shared → Prop} {s : Shared} {a : Addr} {b : Array UInt8}
theorem ba_isInst {Q : Bool → Shared → Prop} (h : s.heap.get? a = some (baO b)) (q : Q true s) : ∀ x : String, x = "bytearray" → wpAny M A (isInstance (.ref a) (.type x)) Q E s := by
  intro x hx
  rw [hx]
  exact wpAny_isInstance (ba_type h) sub_ba_self q
theorem ba_slotIsOwn {n : String} {i : String} {Q : Bool → Shared → Prop} (h : s.heap.get? a = some (baO b)) (hl : typeLookup (.type "bytearray") (n : PySem.Str) = pure (some (.builtin i)))
    (he : i.endsWith ("." ++ n) = true) (hd : (i.dropRight (n.length + 1)) = "bytearray") (q : Q true s) : wpAny M A (Bytes.slotIsOwn (.ref a) n) Q E s := by
  unfold Bytes.slotIsOwn
  refine wpAny_bind (wpAny_specialOf (ba_type h) hl ?_)
  show wpAny M A (if (!(i.endsWith ("." ++ n))) = true then _ else _) _ _ _
  rw [he]
  exact ba_isInst h q _ hd
theorem ba_ownRelease {Q : Bool → Shared → Prop} (h : s.heap.get? a = some (baO b)) (q : Q false s) : wpAny M A (Bytes.ownRelease (.ref a)) Q E s := by
  unfold Bytes.ownRelease
  exact wpAny_bind (ba_slotIsOwn h ba_look_release (by decide +kernel) (by decide +kernel) (wpAny_pure q))
theorem ba_buffer {id : String} {f : Bool} {Q : Option (Array UInt8) → Shared → Prop} (h : s.heap.get? a = some (baO b)) (q : Q (some b) s) : wpAny M A (Bytes.buffer? id (.ref a) f) Q E s := by
  unfold Bytes.buffer?
  refine wpAny_bind (wpAny_specialOf (ba_type h) ba_look_buffer ?_)
  refine wpAny_bind (ba_slotIsOwn h ba_look_buffer (by decide +kernel) (by decide +kernel) ?_)
  refine wpAny_bind (wpAny_specialOf (ba_type h) ba_look_buffer ?_)
  refine wpAny_bind (ba_ownRelease h ?_)
  exact wpAny_bind (ba_payload h (wpAny_pure q))
theorem ba_write {f : Array UInt8 → Array UInt8} {Q : Unit → Shared → Prop} (h : s.heap.get? a = some (baO b)) (hz : (f b).size ≤ 16777216)
    (q : ∀ h', h'.get? a = some (baO (f b)) → (∀ c o, c ≠ a → s.heap.get? c = some o → h'.get? c = some o) → h'.objs.size = s.heap.objs.size → Q () { s with heap := h' }) : wpAny M A (Bytes.write (.ref a) f) Q E s := by
  show wpAny M A (updateBytearray a f) Q E s
  unfold updateBytearray
  refine wpAny_bind (wpAny_load h ?_)
  show wpAny _ _ (update a (Obj.mapBytearray f) >>= fun _ => lookBehind a) _ _ _
  refine wpAny_bind (wpAny_update h ?_)
  have hS₂ : (s.heap.update a (Obj.mapBytearray f)).get? a = some (baO (f b)) := Heap.get?_update_self (Obj.mapBytearray f) h rfl
  refine wpAny_lookBehind hS₂ ?_ ?_
  · show (if (f b).size > sizeLine then some "bytearray:memory" else none) = none
    rw [if_neg]
    rw [sizeLine_eq]; omega
  · exact q _ hS₂ (fun c o hc e => (Heap.get?_update_other _ _ (Ne.symm hc)).trans e) (Heap.size_after_update ..)
theorem exported_hf (v : Value) : ∀ c p, okC c = true → (fun x : Code × Pos => match x with
    | (.builtin "bytearray.__contains__" ⟨v' :: _, _⟩, _) | (.builtin "bytearray.__mod__" ⟨v' :: _, _⟩, _)
    | (.builtin "bytearray.__rmod__" ⟨_ :: v' :: _, _⟩, _) | (.builtin "_struct.pack_into.held" ⟨v' :: _, _⟩, _) => Bytes.sameRef v' v
    | (.builtin "bytearray.find.held" ⟨_ :: _ :: held, _⟩, _) => held.any (Bytes.sameRef v)
    | (.builtin i ⟨v' :: _, _⟩, _) => Bytes.sameRef v' v && Bytes.decodersThatHold.contains i
    | _ => false) (c, p) = false := by
  intro c p ok
  cases c with
  | builtin i args =>
    have hb : badIds.contains i = false := by
      have : (!(badIds.contains i)) = true := ok
      simpa using this
    have h1 : i ≠ "bytearray.__contains__" := fun e => by rw [e] at hb; exact absurd hb (by decide +kernel)
    have h2 : i ≠ "bytearray.__mod__" := fun e => by rw [e] at hb; exact absurd hb (by decide +kernel)
    have h3 : i ≠ "bytearray.__rmod__" := fun e => by rw [e] at hb; exact absurd hb (by decide +kernel)
    have h4 : i ≠ "_struct.pack_into.held" := fun e => by rw [e] at hb; exact absurd hb (by decide +kernel)
    have h5 : i ≠ "bytearray.find.held" := fun e => by rw [e] at hb; exact absurd hb (by decide +kernel)
    have h6 : Bytes.decodersThatHold.contains i = false := by
      unfold badIds at hb
      simp only [List.contains_cons, Bool.or_eq_false_iff] at hb
      exact hb.2.2.2.2.2
    dsimp only
    split <;> simp_all
  | _ => rfl
theorem p_exported {v : Value} {Q : Bool → Shared → Prop} (h : Q false s) : wpP true M A (Bytes.exported v) Q E s := p_stackAny (exported_hf v) h
theorem ba_exportsOf {Q : Nat → Shared → Prop} (h : s.heap.get? a = some (baO b)) (q : Q 0 s) : wpAny M A (Bytes.exportsOf (.ref a)) Q E s := by
  show wpAny M A (load a >>= fun r => _) Q E s
  exact wpAny_bind (wpAny_load h (wpAny_pure q))
theorem p_checkResize {Q : Unit → Shared → Prop} (h : s.heap.get? a = some (baO b)) (q : Q () s) : wpP true M A (Bytes.checkResize (.ref a)) Q E s := by
  unfold Bytes.checkResize
  refine p_bind ?_
  show wpP true M A (Bytes.exported (.ref a) >>= fun b => _) _ _ _
  refine p_bind (p_exported ?_)
  refine p_bind (p_any (ba_exportsOf h ?_))
  exact p_pure (p_pure q)
end
theorem ba_bind0 : Bytes.bindOptional "bytearray.__init__" "bytearray" ["source", "encoding", "errors"] [] [] = pure [none, none, none] := by kernel_rfl
theorem ba_bind1 (v : Value) : Bytes.bindOptional "bytearray.__init__" "bytearray" ["source", "encoding", "errors"] [v] [] = pure [some v, none, none] := by kernel_rfl
section
variable {prog : Program} {w : World} {A : Around} {E : Value → Shared → Prop} {s : Shared} {a : Addr} {b c : Array UInt8} {t : Tok}
theorem p_baInit0 {Q : Value → Shared → Prop} (h : s.heap.get? a = some (baO b))
    (q : ∀ h', h'.get? a = some (baO #[]) → (∀ c o, c ≠ a → s.heap.get? c = some o → h'.get? c = some o) → h'.objs.size = s.heap.objs.size → Q .none { s with heap := h' }) :
    wpP true (model prog w) A (call (.builtin "bytearray.__init__") [.ref a]) Q E s := by
  refine p_callEntry (okC_bi _ (by decide +kernel)) ba_slot_init (ba_type h) entry_ba_init ?_ (args_ba_init0 _)
  unfold Builtin.«bytearray.__init__»
  refine p_leaf (ba_ownRelease h ?_)
  refine p_ifF rfl ?_
  refine p_leaf (wpAny_of_eq ba_bind0 ?_)
  refine p_leaf (wpAny_of_eq (a := ()) rfl ?_)
  refine p_leaf (wpAny_of_eq (a := ()) rfl ?_)
  refine p_bind ?_
  show wpP true _ _ (Bytes.exported (.ref a) >>= fun b => _) _ _ _
  refine p_bind (p_exported ?_)
  refine p_bind (p_any (ba_exportsOf h ?_))
  refine p_pure ?_
  refine p_ifF (by simp) ?_
  refine p_leaf (ba_write h (by simp) fun h' e k z => ?_)
  dsimp only
  refine p_leaf (wpAny_of_eq (a := ()) rfl ?_)
  exact p_pure ⟨_, rfl, q h' e k z⟩
theorem p_baInit1 {Q : Value → Shared → Prop} (h : s.heap.get? a = some (baO b)) (hz : c.size ≤ 16777216)
    (q : ∀ h', h'.get? a = some (baO c) → (∀ x o, x ≠ a → s.heap.get? x = some o → h'.get? x = some o) → h'.objs.size = s.heap.objs.size → Q .none { s with heap := h' }) :
    wpP true (model prog w) A (call (.builtin "bytearray.__init__") [.ref a, .bytes c t]) Q E s := by
  refine p_callEntry (okC_bi _ (by decide +kernel)) ba_slot_init (ba_type h) entry_ba_init ?_ (args_ba_init1 _ _)
  unfold Builtin.«bytearray.__init__»
  refine p_leaf (ba_ownRelease h ?_)
  refine p_ifF rfl ?_
  refine p_leaf (wpAny_of_eq (ba_bind1 _) ?_)
  refine p_leaf (wpAny_of_eq (a := ()) rfl ?_)
  refine p_leaf (wpAny_of_eq (a := ()) rfl ?_)
  refine p_bind ?_
  show wpP true _ _ (Bytes.exported (.ref a) >>= fun b => _) _ _ _
  refine p_bind (p_exported ?_)
  refine p_bind (p_any (ba_exportsOf h ?_))
  refine p_pure ?_
  refine p_ifF (by simp) ?_
  refine p_leaf (ba_write h (by simp) fun h₁ e₁ k₁ z₁ => ?_)
  dsimp only
  refine p_leaf (wpAny_of_eq (a := none) rfl ?_)
  refine p_ifF rfl ?_
  refine p_leaf (wpAny_of_eq (a := ()) rfl ?_)
  refine p_leaf (wpAny_specialOf (T := "bytes") (typeIs_bytes _ _ _) by_no_index ?_)
  refine p_ifF rfl ?_
  refine p_leaf (wpAny_of_eq KBy.buffer_eq ?_)
  refine p_leaf (wpAny_rule ?_)
  refine p_leaf (ba_write e₁ hz fun h₂ e₂ k₂ z₂ => ?_)
  exact p_pure ⟨_, rfl, q h₂ e₂ (fun x o hx e => k₂ x o hx (k₁ x o hx e)) (z₂.trans z₁)⟩
theorem p_ba0 {Q : Value → Shared → Prop}
    (q : ∀ h', h'.get? s.heap.objs.size = some (baO #[]) → (∀ x o, s.heap.get? x = some o → h'.get? x = some o) → h'.objs.size = s.heap.objs.size + 1 → Q (.ref s.heap.objs.size) { s with heap := h' }) :
    wpP true (model prog w) A (call (.type "bytearray") []) Q E s := by
  refine p_typeCall (Q₁ := fun obj s₁ => obj = .ref s.heap.objs.size ∧ s₁ = { s with heap := s.heap.push (baO #[]) }) ba_called ba_typeCall0 (code_ba_new0 ⟨rfl, rfl⟩) fun obj s₁ hh => ?_
  obtain ⟨rfl, rfl⟩ := hh
  have e : (s.heap.push (baO #[])).get? s.heap.objs.size = some (baO #[]) := Heap.get?_push_size _ rfl
  refine ⟨⟨_, e, rfl⟩, p_baInit0 e fun h' e' k' z' => ⟨rfl, q h' e' (fun x o ex => k' x o (Nat.ne_of_lt (Heap.lt_size ex)) (Heap.get?_push_of_some _ ex)) (z'.trans (Heap.size_push _ _))⟩⟩
theorem p_ba1 {Q : Value → Shared → Prop} (hz : c.size ≤ 16777216)
    (q : ∀ h', h'.get? s.heap.objs.size = some (baO c) → (∀ x o, s.heap.get? x = some o → h'.get? x = some o) → h'.objs.size = s.heap.objs.size + 1 → Q (.ref s.heap.objs.size) { s with heap := h' }) :
    wpP true (model prog w) A (call (.type "bytearray") [.bytes c t]) Q E s := by
  refine p_typeCall (Q₁ := fun obj s₁ => obj = .ref s.heap.objs.size ∧ s₁ = { s with heap := s.heap.push (baO #[]) }) ba_called (ba_typeCall1 _) (code_ba_new1 _ ⟨rfl, rfl⟩) fun obj s₁ hh => ?_
  obtain ⟨rfl, rfl⟩ := hh
  have e : (s.heap.push (baO #[])).get? s.heap.objs.size = some (baO #[]) := Heap.get?_push_size _ rfl
  refine ⟨⟨_, e, rfl⟩, p_baInit1 e hz fun h' e' k' z' => ⟨rfl, q h' e' (fun x o ex => k' x o (Nat.ne_of_lt (Heap.lt_size ex)) (Heap.get?_push_of_some _ ex)) (z'.trans (Heap.size_push _ _))⟩⟩
theorem ba_sliceParts {sl : Addr} {x y : Int} {tx ty : Tok} {Q : Value × Value × Value → Shared → Prop} (hs : s.heap.IsSliceOf sl (.int x tx) (.int y ty) .none)
    (q : Q (rawPart (some x), rawPart (some y), rawPart none) s) : wpAny (model prog w) A (Bytes.sliceParts (.ref sl)) Q E s := by
  obtain ⟨o, ho, hc, hd⟩ := hs
  unfold Bytes.sliceParts
  refine wpAny_bind (wpAny_field (x := .none) ho hd rfl ?_)
  kby_none
  refine wpAny_ite (KBy.ite_no (show ¬ ((Value.none == rawInt 0) = true) from Bool.false_ne_true) ?_)
  refine wpAny_bind (wpAny_field (x := .int x tx) ho hd rfl ?_)
  kby_int; (refine wpAny_bind (wpAny_field (x := .int _ _) ho hd rfl ?_)); kby_int
  exact wpAny_pure q
theorem bounds_end (n m : Nat) : sliceBounds (some (n : Int)) (some ((n + m : Nat) : Int)) none n = ((n : Int), (n : Int), 1) := by
  unfold sliceBounds
  simp
  omega
theorem p_baSet {sl : Addr} {x y : Int} {tx ty : Tok} {Q : Unit → Shared → Prop} (h : s.heap.get? a = some (baO b)) (hs : s.heap.IsSliceOf sl (.int x tx) (.int y ty) .none)
    (hx : x = b.size) (hy : y = (b.size + c.size : Nat)) (hz : b.size + c.size ≤ 16777216)
    (q : ∀ h', h'.get? a = some (baO (b ++ c)) → (∀ z o, z ≠ a → s.heap.get? z = some o → h'.get? z = some o) → Q () { s with heap := h' }) :
    wpP true (model prog w) A (setItem (.ref a) (.ref sl) (.bytes c t)) Q E s := by
  subst hx hy
  unfold setItem
  refine p_holding (p_leaf (wpAny_sequenceKey (ba_type h) (by decide) ?_))
  have hT : s.TypeIs (.ref sl) "slice" := by obtain ⟨o, ho, hc, _⟩ := hs; exact ⟨o, ho, hc⟩
  refine p_bind (p_callSpecial (name := PySem.Str.ofString "__setitem__") (ba_type h) slot_ba_set (p_callEntry (okC_bi _ (by decide +kernel)) slot_ba_set (ba_type h) entry_ba_set ?_ (args_ba_set _ _ _)))
  unfold Builtin.«bytearray.__setitem__»
  refine p_ifF rfl ?_
  dsimp only
  refine p_leaf ?_
  unfold Bytes.subscript?
  refine wpAny_bind (wpAny_specialOf hT slice_no_index (wpAny_pure ?_))
  refine p_leaf (wpAny_typeOf hT ?_)
  refine p_ifF (by decide) ?_
  refine p_leaf (ba_sliceParts hs ?_)
  refine p_ifF rfl ?_
  refine p_leaf (wpAny_isInstance (T := "bytes") (typeIs_bytes s c t) by_no_ba ?_)
  refine p_ifT rfl ?_
  have en : isInstance (.bytes c t) (.type "complex") = pure false := by
    have e : isInstance (.bytes c t) (.type "complex") = isSubtype (.type "bytes") (.type "complex") := rfl
    rw [e, by_no_complex]
  have n1 : specialOf (.bytes c t) (PySem.Str.ofString "__index__") = pure none := KBy.special_eq by_no_index
  have n2 : specialOf (.bytes c t) (PySem.Str.ofString "__int__") = pure none := KBy.special_eq by_no_int
  have n3 : specialOf (.bytes c t) (PySem.Str.ofString "__float__") = pure none := KBy.special_eq by_no_float
  refine p_leaf (wpAny_of_eq (a := false) (by rw [n1, n2, n3, en]; rfl) ?_)
  refine p_leaf (wpAny_of_eq (a := none) rfl ?_)
  refine p_ifF rfl ?_
  refine p_leaf (wpAny_rule ?_)
  refine p_bind (p_ba1 (by omega) fun h₁ e₁ k₁ z₁ => ?_)
  have hs₁ : h₁.IsSliceOf sl (.int (b.size : Int) tx) (.int ((b.size + c.size : Nat) : Int) ty) .none := by
    obtain ⟨o, ho, r⟩ := hs
    exact ⟨o, k₁ _ _ ho, r⟩
  have ha₁ := k₁ _ _ h
  refine p_leaf (wpAny_holding (ba_sliceParts (s := { s with heap := h₁ }) hs₁ ?_))
  refine p_leaf (ba_payload (s := { s with heap := h₁ }) e₁ ?_)
  refine p_leaf (ba_payload (s := { s with heap := h₁ }) ha₁ ?_)
  refine p_leaf (wpAny_of_eq (sliceIndices_raw (some (b.size : Int)) (some ((b.size + c.size : Nat) : Int)) none b.size (fun e => nomatch e)) ?_)
  rw [bounds_end]
  refine p_ifT rfl ?_
  refine p_leaf (wpAny_rule ?_)
  have fin : wpP true (model prog w) A.in1 (do
      Bytes.write (.ref a) fun b' => b'.extract 0 (b.size : Int).toNat ++ c ++ b'.extract (max (b.size : Int) (b.size : Int)).toNat b'.size
      return ← ret .none) (fun fin s' => ∃ v, fin = .done (.ret v) ∧ wpP true (model prog w) A (match some v with
        | some _ => pure ()
        | none => do
          if (← specialOf (.ref a) "__delitem__").isSome then rule "setitem.delitem-only"; raiseError "AttributeError" "__setitem__"
          let _ ← takenAsIndex (.ref a) (.ref sl)
          rule "setitem.unsupported"
          raiseError "TypeError" s!"'{← PySem.typeNameOf (.ref a)}' object does not support item assignment") Q E s') E { s with heap := h₁ } := by
    have eb : ∀ b' : Array UInt8, b' = b → b'.extract 0 (b.size : Int).toNat ++ c ++ b'.extract (max (b.size : Int) (b.size : Int)).toNat b'.size = b ++ c := by
      intro b' hb
      subst hb
      simp
    refine p_leaf (ba_write (s := { s with heap := h₁ }) (f := fun b' => b'.extract 0 (b.size : Int).toNat ++ c ++ b'.extract (max (b.size : Int) (b.size : Int)).toNat b'.size) ha₁ (by rw [eb b rfl, Array.size_append]; exact hz) fun h₂ e₂ k₂ z₂ => ?_)
    rw [eb b rfl] at e₂
    exact p_pure ⟨_, rfl, p_pure (q h₂ e₂ fun z o hz e => k₂ z o hz (k₁ z o e))⟩
  split
  · exact p_bind (p_checkResize (s := { s with heap := h₁ }) ha₁ fin)
  · exact fin
end
end MineP
end
section
open PySem PySem.W PySem.Calls PyProof.Rows Mine
namespace MineP
section
variable {g : Bool} {M : Model} {A : Around} {E : Value → Shared → Prop} {s : Shared} {env : Env}
theorem p_tail {t : Sem Value} {Q : Value → Shared → Prop} (ht : wpP g M A t Q E s) : wpP g M A (t >>= fun r => holding [r] point >>= fun _ => pure r) Q E s :=
  p_bind (p_mono ht (fun r s₂ hr => p_bind (p_holding (p_point (p_pure hr)))) fun _ _ x => x)
theorem p_marked {mk f : Value} {pos : List Value} {kw : List (Str × Value)} {Q : Value → Shared → Prop} (h : wpP g M A (call f pos kw) Q E s) : wpP g M A (callMarked mk f pos kw) Q E s := fun Γ p hc hΓ => by
  unfold callMarked; rw [Sem.wp_keep]; exact h Γ p hc hΓ
theorem p_callWith {P : Heap → Prop} {pos : Pos} {f : Value} {first : List Value} {args : List (Bool × Sem Value)} {keywords : List (Option Str × Sem Value)} {Q : Value → Shared → Prop}
    (hk : ∀ h, P h → ∃ k, (k = Keeper.frame ∨ k = Keeper.machine ∨ k = Keeper.boundFrame) ∧ Looks M h (keeperOf f) k)
    (h : wpP g M A (evalArgs f true args keywords) (fun a s₁ => P s₁.heap ∧ wpP g M A (call f (first ++ a.pos) a.kw) Q E s₁) E s) : wpP g M A (callWith pos f first args keywords) Q E s := by
  unfold callWith
  refine p_bind (p_holding (p_mono h (fun a s₁ h₁ => p_bind (p_standAt ?_)) fun _ _ x => x))
  obtain ⟨k, hk', L⟩ := hk _ h₁.1
  refine p_leaf (L.here ?_)
  cases hs : (args.any (·.1) || keywords.any (·.1.isNone)) <;> rcases hk' with rfl | rfl | rfl <;> dsimp only <;>
    first
      | exact p_tail h₁.2
      | exact p_tail (p_marked h₁.2)
      | exact p_tail (p_operate h₁.2)
      | (split <;> first | exact p_tail h₁.2 | exact p_tail (p_marked h₁.2))
theorem p_callWith_K0 {K : Frag} {pos : Pos} {f : Value} {first : List Value} {Q : Value → Shared → Prop} (X : K.In s.heap) (hk : keepIn K f = true)
    (h : wpP g M A (call f (first ++ [])) Q E s) : wpP g M A (callWith pos f first (backTo pos (starEach [] env)) []) Q E s :=
  p_callWith (keeps_K hk) (p_any (evalArgs_nil3 ⟨X, h⟩))
theorem p_spliced1 {x : Sem Value} {Q : List Value → Shared → Prop} (h : wpP g M A x (fun v s' => Q [v] s') E s) : wpP g M A (spliced [(false, x)]) Q E s := by
  rw [spliced]
  refine p_bind (p_mono h (fun v s' hv => ?_) fun _ _ h => h)
  refine p_bind (p_pure ?_)
  refine p_bind (p_holding ?_)
  rw [spliced]
  exact p_pure (p_pure hv)
theorem p_evalArgs1 {f : Value} {x : Sem Value} {Q : Args → Shared → Prop}
    (h : wpP g M A (spliced [(false, x)]) (fun vs s' => Q ⟨vs, []⟩ s') E s) : wpP g M A (evalArgs f true [(false, x)] []) Q E s := by
  unfold evalArgs
  show wpP g M A (spliced [(false, x)] >>= _) Q E s
  refine p_bind (p_mono h (fun vs s' h' => ?_) fun _ _ x => x)
  refine p_holding ?_
  exact p_bind (p_pure (p_bind (p_pure (p_pure h'))))
theorem p_callWithB1 {pos : Pos} {f : Value} {e : Expr} {Q : Value → Shared → Prop} (hk : ∀ a, f ≠ .ref a)
    (h : wpP g M A (eval e env) (fun v s₁ => wpP g M A (call f [v]) Q E s₁) E s)
    (he : starEach [e] env = [(false, eval e env)] := by rfl) :
    wpP g M A (callWith pos f [] (backTo pos (starEach [e] env)) []) Q E s := by
  rw [he]
  refine p_callWith (P := fun _ => True) (fun h _ => ⟨.machine, .inr (.inl rfl), ?_⟩) (p_evalArgs1 (p_spliced1 ?_))
  · refine Looks.of_pure ?_
    cases f <;> first | rfl | exact absurd rfl (hk _)
  · exact p_mono h (fun v s' hv => ⟨trivial, hv⟩) fun _ _ h => h
theorem p_meth {o : Expr} {name : Str} {apos pos : Pos} {args : List Expr} {pl : Sem Bool} {Q : Value → Shared → Prop}
    (h : wpAny M A (eval o env) (fun ov s₁ => wpAny M A (getMethod ov name pl) (fun fx s₂ => wpP g M A (callWith pos fx.1 fx.2 (backTo pos (starEach args env)) []) Q E s₂) E s₁) E s)
    (he : eval (.Call (.Attribute o name apos) args [] pos) env = (do
      let ov ← eval o env
      standAt apos.atName
      let (f, first) ← holding [ov] (getMethod ov name pl)
      callWith pos f first (backTo pos (starEach args env)) []) := by rfl) :
    wpP g M A (eval (.Call (.Attribute o name apos) args [] pos) env) Q E s := by
  rw [he]
  refine p_leaf (wpAny_mono h (fun ov s₁ h₁ => p_bind (p_standAt (p_bind (p_holding (p_any (wpAny_mono h₁ (fun fx s₂ h₂ => ?_) fun _ _ x => x)))))) fun _ _ x => x)
  exact h₂
theorem p_fn {func : Expr} {args : List Expr} {pos : Pos} {Q : Value → Shared → Prop}
    (h : wpAny M A (eval func env) (fun f s₁ => wpP g M A (callWith pos f [] (backTo pos (starEach args env)) []) Q E s₁) E s)
    (he : eval (.Call func args [] pos) env = (do callWith pos (← eval func env) [] (backTo pos (starEach args env)) (backToKw pos (keywordEach [] env))) := by rfl) :
    wpP g M A (eval (.Call func args [] pos) env) Q E s := by
  rw [he]; exact p_bind (p_any h)
theorem p_isTrueAttr {o : Expr} {name : Str} {apos : Pos} {Q : Bool → Shared → Prop}
    (h : wpP g M A (eval (.Attribute o name apos) env) (fun v s₁ => wpP g M A (truthy v) Q E s₁) E s) : wpP g M A (isTrue (.Attribute o name apos) env (eval (.Attribute o name apos) env)) Q E s := by
  show wpP g M A (eval (.Attribute o name apos) env >>= fun v => standAt _ >>= fun _ => holding [v] (truthy v)) Q E s
  exact p_bind (p_mono h (fun v s₁ h₁ => p_bind (p_standAt (p_holding h₁))) fun _ _ h => h)
theorem p_attr {x : Str} {px : Pos} {name : Str} {apos : Pos} {Q : Value → Shared → Prop}
    (h : wpAny M A (eval (.Name x px) env) (fun ov s₁ => wpP g M A (getAttr ov name true) Q E s₁) E s) : wpP g M A (eval (.Attribute (.Name x px) name apos) env) Q E s := by
  show wpP g M A (eval (.Name x px) env >>= fun o => standAt apos.atName >>= fun _ => holding [o] (getAttr o name true) >>= fun r => pure () >>= fun _ => pure r) Q E s
  exact p_leaf (wpAny_mono h (fun ov s₁ h₁ => p_bind (p_standAt (p_bind (p_holding (p_mono h₁ (fun r s₂ h₂ => p_bind (p_pure (p_pure h₂))) fun _ _ h => h))))) fun _ _ h => h)
theorem p_not {e : Expr} {pos : Pos} {Q : Value → Shared → Prop}
    (h : wpP g M A (eval e env) (fun v s₁ => wpP g M A (unaryOp .Not v) Q E s₁) E s) : wpP g M A (eval (.UnaryOp .Not e pos) env) Q E s := by
  rw [arm_eval_UnaryOp]
  exact p_bind (p_mono h (fun v s₁ h₁ => p_bind (p_standAt (p_holding h₁))) fun _ _ h => h)
theorem p_assignAttr {o value : Expr} {attr : Str} {pos' pos : Pos} {Q : Flow → Shared → Prop}
    (h : wpP g M A (eval value env) (fun v s₁ => wpAny M A (eval o env) (fun ov s₂ => wpAny M A (setAttr ov attr v) (fun _ => Q .next) E s₂) E s₁) E s)
    (hs : swapsWith value (some (.Attribute o attr pos')) pos.line env = pure false := by rfl) :
    wpP g M A (exec (.Assign [.Attribute o attr pos'] value pos) env) Q E s := fun Γ p hc hΓ => by
  simp only [plainObj_exec_Assign_Attribute o attr pos' value pos hs, assign_Attribute, Sem.wp_bind', Sem.wp_holding, Sem.wp_cmd_standAt, Sem.wp_release, Sem.wp_pure']
  exact Sem.wp_mono M Γ _ (fun v p₁ s₁ h₁ => Sem.wp_mono M Γ _ (fun ov _ s₂ h₂ => h₂ Γ _ hΓ) (fun _ _ _ h' => h') _ _ (h₁ Γ p₁ hΓ)) (fun _ _ _ h' => h') _ _ (h Γ _ hc hΓ)
theorem p_ifexp {test body orelse : Expr} {pos : Pos} {Q : Value → Shared → Prop}
    (h : wpP g M A (isTrue test env (eval test env)) (fun b s₁ => if b then wpP g M A (eval body env) Q E s₁ else wpP g M A (eval orelse env) Q E s₁) E s) :
    wpP g M A (eval (.IfExp test body orelse pos) env) Q E s := by
  rw [arm_eval_IfExp]
  refine p_bind (p_mono h (fun b s₁ h₁ => ?_) fun _ _ h => h)
  cases b <;> exact h₁
theorem p_callWithT0 {T : String} {pos : Pos} {Q : Value → Shared → Prop} (h : wpP g M A (call (.type T) []) Q E s) : wpP g M A (callWith pos (.type T) [] (backTo pos (starEach [] env)) []) Q E s :=
  p_callWith (P := fun _ => True) (fun h _ => ⟨.machine, .inr (.inl rfl), Looks.of_pure rfl⟩) (p_any (evalArgs_nil3 ⟨trivial, h⟩))
theorem p_callWithT1 {T : String} {pos : Pos} {e : Expr} {Q : Value → Shared → Prop}
    (h : wpAny M A (eval e env) (fun v s₁ => wpP g M A (call (.type T) [v]) Q E s₁) E s)
    (he : starEach [e] env = [(false, eval e env)] := by rfl) : wpP g M A (callWith pos (.type T) [] (backTo pos (starEach [e] env)) []) Q E s :=
  p_callWithB1 (fun _ => nofun) (p_any h) he
theorem p_assignSub {o i value : Expr} {pos' pos : Pos} {Q : Flow → Shared → Prop}
    (h : wpAny M A (eval value env) (fun v s₁ => wpAny M A (eval o env) (fun ov s₂ => wpAny M A (eval i env) (fun iv s₃ =>
      wpP g M A (setItem ov iv v) (fun _ => Q .next) E s₃) E s₂) E s₁) E s)
    (hs : swapsWith value (some (.Subscript o i pos')) pos.line env = pure false := by rfl) :
    wpP g M A (exec (.Assign [.Subscript o i pos'] value pos) env) Q E s := fun Γ p hc hΓ => by
  simp only [exec_Assign_Subscript o i pos' value pos hs, assign_Subscript, Sem.wp_bind', Sem.wp_holding, Sem.wp_cmd_standAt, Sem.wp_release, Sem.wp_pure']
  exact Sem.wp_mono M Γ _ (fun v p₁ s₁ h₁ => Sem.wp_mono M Γ _ (fun ov p₂ s₂ h₂ => Sem.wp_mono M Γ _ (fun iv _ s₃ h₃ => h₃ Γ _ hc hΓ)
    (fun _ _ _ h' => h') _ _ (h₂ Γ p₂ hΓ)) (fun _ _ _ h' => h') _ _ (h₁ Γ p₁ hΓ)) (fun _ _ _ h' => h') _ _ (h Γ _ hΓ)
end
section
variable {prog : Program} {w : World} {A : Around} {E : Value → Shared → Prop} {s : Shared} {h₀ : Heap} {L : Addr} {m : Str → Option Value} {news news' : List (Addr × Obj)}
theorem upd_FN {h h' : Heap} {a : Addr} {o o' : Obj} (F : Fr h₀ L h m) (N : News h₀ L h news) (U : Upd a o o' news news')
    (e : h'.get? a = some o') (k : ∀ z x, z ≠ a → h.get? z = some x → h'.get? z = some x) : Fr h₀ L h' m ∧ News h₀ L h' news' := by
  obtain ⟨pre, post, rfl, rfl, h1, h2⟩ := U.split
  have hm := N (a, o) (List.mem_append_right _ (.head _))
  obtain ⟨oL, es, ep, hL, r⟩ := F.ns
  refine ⟨⟨⟨oL, es, ep, k _ _ (Ne.symm hm.2.1) hL, r⟩, fun b x q => k _ _ (fun q' => ?_) (F.keep b x q), F.above⟩, fun p hp => ?_⟩
  · rw [q', hm.2.2] at q; cases q
  · rcases List.mem_append.mp hp with hp | hp
    · have := N p (List.mem_append_left _ hp)
      exact ⟨k _ _ (h1 p hp) this.1, this.2⟩
    · rcases List.mem_cons.mp hp with rfl | hp
      · exact ⟨e, hm.2⟩
      · have := N p (List.mem_append_right _ (.tail _ hp))
        exact ⟨k _ _ (h2 p hp) this.1, this.2⟩
theorem keep_F {h h' : Heap} (k : ∀ b o, h.get? b = some o → h'.get? b = some o) (F : Fr h₀ L h m) : Fr h₀ L h' m := by
  obtain ⟨oL, es, ep, hL, r⟩ := F.ns
  exact ⟨⟨oL, es, ep, k _ _ hL, r⟩, fun b x q => k _ _ (F.keep b x q), F.above⟩
theorem keep_N {h h' : Heap} {o : Obj} (k : ∀ b o, h.get? b = some o → h'.get? b = some o) (F : Fr h₀ L h m) (N : News h₀ L h news) (e : h'.get? h.objs.size = some o) : News h₀ L h' ((h.objs.size, o) :: news) := fun p hp => by
  obtain ⟨oL, es, ep, hL, r⟩ := F.ns
  rcases List.mem_cons.mp hp with rfl | hp
  · refine ⟨e, fun q => Nat.lt_irrefl _ (show h.objs.size < h.objs.size from ?_), ?_⟩
    · have := Heap.lt_size hL
      rw [← (show h.objs.size = L from q)] at this
      exact this
    · cases q : h₀.get? h.objs.size with
      | none => rfl
      | some o' => exact absurd (Heap.lt_size (F.keep _ _ q)) (Nat.lt_irrefl _)
  · exact ⟨k _ _ (N p hp).1, (N p hp).2⟩
theorem p_baSet_K {a : Addr} {b c : Array UInt8} {x y : Int} {tx ty t : Tok} {h₁ : Heap} {tk : Nat} {Q : Unit → Shared → Prop} (F : Fr h₀ L h₁ m) (N : News h₀ L h₁ news)
    (ma : (a, baO b) ∈ news) (U : Upd a (baO b) (baO (b ++ c)) news news')
    (hx : x = b.size) (hy : y = b.size + c.size) (hz : b.size + c.size ≤ 16777216)
    (h : ∀ h', Fr h₀ L h' m → News h₀ L h' news' → Q () { s with heap := h', toks := tk }) :
    wpP true (model prog w) A (setItem (.ref a) (.ref h₁.objs.size) (.bytes c t)) Q E { s with heap := h₁.push { cls := .type "slice", data := .fields #[.int x tx, .int y ty, .none] }, toks := tk } := by
  have F1 := F.push { cls := .type "slice", data := .fields #[.int x tx, .int y ty, .none] }
  have N1 : News h₀ L (h₁.push { cls := .type "slice", data := .fields #[.int x tx, .int y ty, .none] }) news := fun p hp => ⟨Heap.get?_push_of_some _ (N p hp).1, (N p hp).2⟩
  refine p_baSet (s := { s with heap := h₁.push { cls := .type "slice", data := .fields #[.int x tx, .int y ty, .none] }, toks := tk }) (N1 _ ma).1 (Heap.IsSliceOf.new h₁ _ _ _) hx (by rw [hy]; omega) hz fun h' e k => ?_
  obtain ⟨F', N'⟩ := upd_FN F1 N1 U e k
  exact h h' F' N'
theorem p_ba0K {Q : Value → Shared → Prop} (F : Fr h₀ L s.heap m) (N : News h₀ L s.heap news)
    (h : ∀ b h', Fr h₀ L h' m → News h₀ L h' ((b, baO #[]) :: news) → (∀ p ∈ news, p.1 < b) → Q (.ref b) { s with heap := h' }) : wpP true (model prog w) A (call (.type "bytearray") []) Q E s := by
  refine p_ba0 fun h' e k z => h _ h' (keep_F k F) (keep_N k F N e) fun p hp => Heap.lt_size (N p hp).1
theorem p_ba1K {c : Array UInt8} {t : Tok} {Q : Value → Shared → Prop} (F : Fr h₀ L s.heap m) (N : News h₀ L s.heap news) (hz : c.size ≤ 16777216)
    (h : ∀ b h', Fr h₀ L h' m → News h₀ L h' ((b, baO c) :: news) → (∀ p ∈ news, p.1 < b) → Q (.ref b) { s with heap := h' }) : wpP true (model prog w) A (call (.type "bytearray") [.bytes c t]) Q E s := by
  refine p_ba1 hz fun h' e k z => h _ h' (keep_F k F) (keep_N k F N e) fun p hp => Heap.lt_size (N p hp).1
end
end MineP
end
section
open PySem PySem.W PySem.Calls PyProof.Rows Mine
namespace MineP
theorem news_one {h₀ h : Heap} {L a : Addr} {o o' : Obj} {news : List (Addr × Obj)} (N : News h₀ L h news) (h1 : (a, o) ∈ news) (h2 : (a, o') ∈ news) : o = o' :=
  Option.some.inj ((N _ h1).1.symm.trans (N _ h2).1)
theorem news_ne {h₀ h : Heap} {L a b : Addr} {o o' : Obj} {news : List (Addr × Obj)} (N : News h₀ L h news) (h1 : (a, o) ∈ news) (h2 : (b, o') ∈ news) (d : o ≠ o') : @Ne Nat a b := fun e => d (news_one N h1 ((show a = b from e) ▸ h2))
theorem news_sub {h₀ h : Heap} {L : Addr} {n n' : List (Addr × Obj)} (N : News h₀ L h n) (k : ∀ p ∈ n', p ∈ n) : News h₀ L h n' := fun p hp => N p (k p hp)
theorem drop1 {h₀ h : Heap} {L : Addr} {q : Addr × Obj} {n : List (Addr × Obj)} (N : News h₀ L h (q :: n)) : News h₀ L h n := fun p hp => N p (.tail _ hp)
theorem drop22 {h₀ h : Heap} {L : Addr} {q r u v : Addr × Obj} {n : List (Addr × Obj)} (N : News h₀ L h (q :: r :: u :: v :: n)) : News h₀ L h (q :: r :: n) := fun p hp => by
  rcases List.mem_cons.mp hp with rfl | hp
  · exact N _ (.head _)
  · rcases List.mem_cons.mp hp with rfl | hp
    · exact N _ (.tail _ (.head _))
    · exact N _ (.tail _ (.tail _ (.tail _ (.tail _ hp))))
theorem upd_mem {a : Addr} {o o' : Obj} {n n' : List (Addr × Obj)} (U : Upd a o o' n n') : (a, o) ∈ n := by
  obtain ⟨pre, post, rfl, _, _⟩ := U.split
  exact List.mem_append_right _ (.head _)
theorem upd_or {a : Addr} {o o' : Obj} {n n' : List (Addr × Obj)} (U : Upd a o o' n n') : ∀ p ∈ n', p = (a, o') ∨ (p ∈ n ∧ p.1 ≠ a) := by
  obtain ⟨pre, post, rfl, rfl, h1, h2⟩ := U.split
  intro p hp
  rcases List.mem_append.mp hp with hp | hp
  · exact .inr ⟨List.mem_append_left _ hp, h1 p hp⟩
  · rcases List.mem_cons.mp hp with rfl | hp
    · exact .inl rfl
    · exact .inr ⟨List.mem_append_right _ (.tail _ hp), h2 p hp⟩
def offA (a : Addr) (n : List (Addr × Obj)) : List (Addr × Obj) := n.filter fun p => decide (p.1 ≠ a)
theorem mem_offA {a : Addr} {n : List (Addr × Obj)} {p : Addr × Obj} : p ∈ offA a n ↔ p ∈ n ∧ p.1 ≠ a := by
  unfold offA; rw [List.mem_filter]; simp
theorem turn1 {h₀ h : Heap} {L a : Addr} {o : Obj} {news : List (Addr × Obj)} (N : News h₀ L h news) (m : (a, o) ∈ news) : News h₀ L h ((a, o) :: offA a news) := fun p hp => by
  rcases List.mem_cons.mp hp with rfl | hp
  · exact N _ m
  · exact N _ (mem_offA.mp hp).1
theorem off1 {a : Addr} {n : List (Addr × Obj)} : ∀ p ∈ offA a n, p.1 ≠ a := fun p hp => (mem_offA.mp hp).2
theorem back1 {h₀ h : Heap} {L a : Addr} {o o' : Obj} {news news' : List (Addr × Obj)} (U : Upd a o o' news news') (N : News h₀ L h ((a, o') :: offA a news)) : News h₀ L h news' := fun p hp => by
  rcases upd_or U p hp with rfl | ⟨hp, hne⟩
  · exact N _ (.head _)
  · exact N _ (.tail _ (mem_offA.mpr ⟨hp, hne⟩))
theorem in1 {a : Addr} {n : List (Addr × Obj)} {p : Addr × Obj} (h : p ∈ n) (ha : p.1 ≠ a) : p ∈ offA a n := mem_offA.mpr ⟨h, ha⟩
end MineP
end
section
open PySem PySem.W PySem.Calls PyProof.Rows PySem.Builtin Mine MineP
namespace MineP
theorem cls_ne {o o' : Obj} (h : o.cls ≠ o'.cls) : o ≠ o' := fun e => h (congrArg Obj.cls e)
theorem picked_nat (b : Array UInt8) (x y : Nat) (h1 : x ≤ y) (h2 : y ≤ b.size) : KBy.picked b (some (x : Int)) (some (y : Int)) = b.extract x y := by
  rw [KBc.picked_eq]
  have e1 : clipAt b.size (x : Int) = x := by unfold clipAt; omega
  have e2 : clipAt b.size (y : Int) = y := by unfold clipAt; omega
  simp only [Option.elim, e1, e2]
  apply Array.ext'
  simp [List.take_drop]
section
variable {prog : Program} {w : World} {A : Around} {E : Value → Shared → Prop} {s : Shared} {h₀ : Heap} {L : Addr} {m : PySem.Str → Option Value} {news news' : List (Addr × Obj)}
theorem tail_ref {value slice : PySem.Expr} {o i : Value} {Q : Value → Shared → Prop} {T id : String} (hl : typeLookup (.type T) "__getitem__" = pure (some (.builtin id))) (hT : s.TypeIs o T)
    (hs : subscripted slice false o i = operate [i, o] (getItem o i))
    (hg : wpAny (model prog w) A (getItem o i) Q E s) : wpAny (model prog w) A (subscriptTail value slice o i) Q E s := by
  unfold subscriptTail
  refine wpAny_bind ?_
  rw [getitemInPython_of_ne hT.not_modules]
  refine wpAny_bind (wpAny_specialOf hT hl ?_)
  have fin : wpAny (model prog w) A (subscripted slice false o i) (fun r s₃ => wpAny (model prog w) A (letTemporaryGo value o r >>= fun _ => pure r) Q E s₃) E s := by
    rw [hs]
    exact wpAny_operating (wpAny_mono hg (fun r s₃ h₃ => wpAny_bind (wpAny_letTemporaryGo (wpAny_pure h₃))) fun _ _ x => x)
  first
    | exact wpAny_pure (wpAny_bind fin)
    | exact wpAny_bind (wpAny_pure (wpAny_bind fin))
    | exact wpAny_bind fin
theorem ba_cut_K {a : Addr} {b : Array UInt8} {x y : Int} {tx ty : Tok} {h₁ : Heap} {tk : Nat} {value slice : PySem.Expr} {Q : Value → Shared → Prop} (F : Fr h₀ L h₁ m) (N : News h₀ L h₁ news)
    (ma : (a, baO b) ∈ news) (h0 : 0 ≤ x) (h1 : x ≤ y) (h2 : y ≤ b.size) (hz : b.size ≤ 16777216)
    (h : ∀ d h' tk', Fr h₀ L h' m → News h₀ L h' ((d, baO (b.extract x.toNat y.toNat)) :: news) → (∀ p ∈ news, p.1 < d) → Q (.ref d) { s with heap := h', toks := tk' })
    (hs : ∀ i, subscripted slice false (.ref a) i = operate [i, .ref a] (getItem (.ref a) i) := by intro _; with_unfolding_all rfl) :
    wpAny (model prog w) A (subscriptTail value slice (.ref a) (.ref h₁.objs.size)) Q E { s with heap := h₁.push { cls := .type "slice", data := .fields #[.int x tx, .int y ty, .none] }, toks := tk } := by
  have F1 := F.push { cls := .type "slice", data := .fields #[.int x tx, .int y ty, .none] }
  have N1 : News h₀ L (h₁.push { cls := .type "slice", data := .fields #[.int x tx, .int y ty, .none] }) news := fun p hp => ⟨Heap.get?_push_of_some _ (N p hp).1, (N p hp).2⟩
  have ex : x = (x.toNat : Int) := by omega
  have ey : y = (y.toNat : Int) := by omega
  have ep : KBy.picked b (some x) (some y) = b.extract x.toNat y.toNat := by
    have := picked_nat b x.toNat y.toNat (by omega) (by omega)
    rw [← ex, ← ey] at this
    exact this
  refine tail_ref slot_ba_get.lookup (ba_type (s := { s with heap := h₁.push { cls := .type "slice", data := .fields #[.int x tx, .int y ty, .none] }, toks := tk }) (N1 _ ma).1) (hs _) ?_
  refine ba_cut (s := { s with heap := h₁.push { cls := .type "slice", data := .fields #[.int x tx, .int y ty, .none] }, toks := tk }) (IsPart.int x tx) (IsPart.int y ty) (N1 _ ma).1 (Heap.IsSliceOf.new h₁ _ _ _) ?_ fun k => ?_
  · rw [ep, Array.size_extract]; omega
  · rw [ep]
    refine h _ _ _ (F1.push _) (N1.push F1 _) fun p hp => Heap.lt_size (N1 p hp).1
theorem ba_new {a : Addr} {b : Array UInt8} {Q : Value → Shared → Prop} (h : s.heap.get? a = some (baO b)) (hz : b.size ≤ 16777216)
    (hQ : ∀ t k, Q (.bytes b t) { s with toks := k }) :
    codeAny (model prog w) A (.call (.builtin "bytes.__new__") ⟨[.type "bytes", .ref a], []⟩) (wants Q E) s := by
  refine codeAny_of_tree ?_
  show wpAny _ A.in1 (do checkBuiltinCall "bytes.__new__" ⟨[.type "bytes", .ref a], []⟩; again (.builtin "bytes.__new__" ⟨[.type "bytes", .ref a], []⟩)) _ _ s
  refine wpAny_bind (wpAny_of_eq (PySem.F.bm_newCall _) (wpAny_pure ⟨plainId_quiet PySem.F.bm_plain _, codeAny_builtin PySem.F.bm_entry ?_⟩))
  rw [Around.under_plainId PySem.F.bm_plain _]
  have hT := ba_type h
  unfold Builtin.«bytes.__new__»
  refine wpAny_bind (wpAny_of_eq (a := true) rfl ?_)
  refine bm_if_false rfl ?_
  refine wpAny_bind (wpAny_of_eq PySem.F.bm_sub ?_)
  refine bm_if_false rfl ?_
  refine wpAny_bind (wpAny_of_eq (PySem.F.bm_bind _) ?_)
  refine wpAny_bind (wpAny_of_eq (a := ()) rfl ?_)
  refine wpAny_bind (wpAny_of_eq (a := ()) rfl ?_)
  refine bm_if_false rfl ?_
  refine wpAny_bind (wpAny_specialOf hT ba_no_bytes ?_)
  refine wpAny_bind (wpAny_bind ?_)
  show wpAny _ _ (load a >>= _) _ _ _
  refine wpAny_bind (wpAny_load h ?_)
  refine wpAny_pure (wpAny_pure ?_)
  refine bm_if_false rfl ?_
  refine wpAny_bind (wpAny_specialOf hT ba_no_index ?_)
  refine bm_if_true rfl ?_
  first
    | show wpAny _ _ (Builtin.Bytes.buffer? "bytes.__new__" (.ref a) true >>= _) _ _ _
    | (refine wpAny_bind ?_; show wpAny _ _ (Builtin.Bytes.buffer? "bytes.__new__" (.ref a) true >>= _) _ _ _)
  refine wpAny_bind (ba_buffer h ?_)
  refine wpAny_bind (wpAny_rule ?_)
  refine wpAny_bind (wpAny_mkBytes ?_ (by rw [sizeLine_eq]; exact hz))
  show wpAny _ _ (if (Value.type "bytes" == Value.type "bytes") = true then _ else _) _ _ _
  refine bm_if_true (by decide) ?_
  first
    | exact wpAny_pure (hQ _ _)
    | exact wpAny_bind (wpAny_pure (wpAny_pure (hQ _ _)))
theorem bytes_ba {a : Addr} {b : Array UInt8} {Q : Value → Shared → Prop} (h : s.heap.get? a = some (baO b)) (hz : b.size ≤ 16777216)
    (hQ : ∀ t k, Q (.bytes b t) { s with toks := k }) : wpAny (model prog w) A (call (.type "bytes") [.ref a]) Q E s := by
  refine callType_codes (Q₁ := fun obj s₁ => s₁.TypeIs obj "bytes" ∧ Q obj s₁) PySem.F.bm_called (PySem.F.bm_typeCall _) PySem.F.entry_object_init
    (ba_new h hz fun t k => ⟨PySem.W.typeIs_bytes _ _ _, hQ t k⟩) fun obj s₁ h₁ => ?_
  exact ⟨h₁.1, PySem.F.args_object_init_2 obj _, object_init_meets PySem.F.bm_called.init.lookup PySem.F.bm_called.made (by decide) prog w A.in1 _ s₁ ⟨h₁.1, rfl, h₁.2⟩⟩
end
end MineP
end
section
open PySem PySem.W PySem.Calls PyProof.Rows Mine
namespace MineP
structure MakesOwn (M : Model) (h : Heap) (C fN fI : Addr) : Prop where
  obj : ∃ oc od cd sl, h.get? C = some ⟨oc, od, .cls cd, sl⟩ ∧ cd.abstract = false ∧ cd.hasDel = false
  mro : ∃ c l, Looks M h (mroOf (.ref C)) (c :: l)
  made : Looks M h (Bind.madeBy (.ref C)) none
  base : Looks M h (Bind.staticBase (.ref C)) (.type "object")
  mo : Looks M h (Bind.madeBy (.type "object")) (some "object.__new__")
  here : Looks M h (Bind.madeHere "object.__new__" (.ref C)) ()
  self : Looks M h (isSubtype (.ref C) (.ref C)) true
  top : Looks M h (isSubtype (.ref C) (.type "object")) true
  call : Looks M h (specialOf (.ref C) "__call__") (some (.builtin "type.__call__"))
  typ : Looks M h (isInstance (.ref C) (.type "type")) true
  isTy : Looks M h (isType (.ref C)) true
  nw : ∀ (A : Around) (Q : Value → Shared → Prop) (E : Value → Shared → Prop) (s : Shared), (∀ b o, h.get? b = some o → s.heap.get? b = some o) → Q (.ref fN) { s with toks := s.toks + 1 } → wpAny M A (getAttr (.ref C) "__new__") Q E s
  init : Looks M h (typeLookup (.ref C) "__init__") (some (.ref fI))
  bnd : ∀ self, Looks M h (bindSpecial (.ref fI) self) (.ref fI, [self])
theorem cls_sm0 {prog : Program} {w : World} {A : Around} {E : Value → Shared → Prop} {s : Shared} {K : Frag} {C : Addr} {name : Str} {mc : Value} {p : Addr} {f : Value} {rest : List Value} {expr : Bool} {Q : Value → Shared → Prop} (X : K.In s.heap) (hr : readsIn K C mc = true)
    (e : findCls K (.ref C) mc name = some (.get (.builtin "staticmethod.__get__") (.ref p) .none (.ref C))) (hp : recIn K p "staticmethod" = some (f :: rest)) (hv : handedIn f = true)
    (h : Q f { s with toks := s.toks + 1 }) : wpAny (model prog w) A (getAttr (.ref C) name expr) Q E s :=
  cls_bind X hr e (wpAny_call (sm_get (s := { s with toks := s.toks + 1 }) X hp (handed_on hv h)))
section
variable {prog : Program} {w : World} {A : Around} {C fN fI : Addr} {R : Result → Shared → Prop} {h : Heap} {g : Array GenState} {d : Drawn} {t : Nat} {os : OsState}
theorem new_own (Y : MakesOwn (model prog w) h C fN fI)
    (hq : R (.ok (.ret (.ref (h.objs.size + 1)))) ⟨(h.push emptyDict).push (instObj C h.objs.size), g, d, t, os⟩) :
    codeAny (model prog w) A (.call (.builtin "object.__new__") ⟨[.ref C], []⟩) R ⟨h, g, d, t, os⟩ := by
  obtain ⟨⟨oc, od, cd, sl, hC, e1, e2⟩, mro, made, base, mo, here, self, top, call, typ, isTy, nw, init, bnd⟩ := Y
  have F := PySem.F.objNew
  refine codeAny_call_builtin_code (Code.quiet_builtin _ F.quiet) ?_
  simp only [checkBuiltinCall, F.kind, F.split, F.row]
  have args : Bind.checkArgs "object.__new__" ⟨.hand, "object.__new__", "__new__", .cls, []⟩ ⟨[.ref C], []⟩ = pure () := by kernel_rfl
  rw [args]
  repeat (first | simp only [bne_self_eq_false, Bool.false_eq_true, if_false] | lk)
  refine codeAny_builtin F.entry ?_
  unfold Builtin.«object.__new__»
  have fin : ∀ A', wpAny (model prog w) A' (do
      let d ← if typeHasDict (.ref C) then some <$> alloc { cls := .type "dict", data := .dict #[] } else pure none
      ret (← newObj (.ref C) .plain d)) (fun fin s' => match fin with | .done f => R (.ok f) s' | .again c' => c'.quiet = true ∧ codeAny (model prog w) A c' R s') (fun e s' => R (.error e) s') ⟨h, g, d, t, os⟩ := by
    intro A'
    show wpAny _ _ ((alloc emptyDict >>= fun x => pure (some x)) >>= _) _ _ _
    refine wpAny_bind (wpAny_bind (wpAny_alloc (wpAny_pure (wpAny_bind ?_))))
    show wpAny _ _ (newObjAsIs _ _ _) _ _ _
    unfold newObjAsIs classHasDel
    refine wpAny_bind (wpAny_alloc (wpAny_bind (wpAny_bind (wpAny_load (Heap.get?_push_of_some _ (Heap.get?_push_of_some _ hC)) (wpAny_pure ?_)))))
    rw [e2]
    refine wpAny_pure (wpAny_pure ?_)
    show R _ _
    rw [Heap.size_push]
    exact hq
  repeat (first | simp only [e1, Bool.false_eq_true, if_false] | exact fin _ | lk)
theorem p_makeOwn {rest : List Value} (Y : MakesOwn (model prog w) h C fN fI)
    (hN : wpAny (model prog w) (A.under (.builtin "type.__call__" ⟨.ref C :: rest, []⟩)) (call (.ref fN) (.ref C :: rest)) (fun v s₁ => ∃ x dx, v = .ref x ∧ MakesOwn (model prog w) s₁.heap C fN fI ∧ s₁.heap.get? x = some (instObj C dx) ∧
      codeP true (model prog w) (A.under (.builtin "type.__call__" ⟨.ref C :: rest, []⟩)) (.call (.ref fI) ⟨.ref x :: rest, []⟩) (InitBack x R) s₁) (fun e s' => R (.error e) s') ⟨h, g, d, t + 1, os⟩) :
    codeP true (model prog w) A (.call (.ref C) ⟨rest, []⟩) R ⟨h, g, d, t, os⟩ := by
  have Y' := Y
  obtain ⟨⟨oc, od, cd, sl, hC, e1, e2⟩, ⟨c, l, mro⟩, made, base, mo, here, self, top, call, typ, isTy, nw, init, bnd⟩ := Y
  refine p_tree rfl (p_any ?_)
  show wpAny _ _ (callAny (.ref C) _) _ _ _
  refine nd_load hC ?_
  show wpAny _ _ (callAny.viaDunder (.ref C) _) _ _ _
  unfold callAny.viaDunder
  refine wpAny_bind (call.at ?_)
  dsimp only
  rw [tc_bind]
  refine wpAny_bind (wpAny_pure (wpAny_bind (wpAny_pure ?_)))
  refine wpAny_pure (a := Fin.again (.call (.builtin "type.__call__") ⟨.ref C :: rest, []⟩)) (And.intro rfl ?_)
  refine p_tree rfl (p_any ?_)
  show wpAny _ A.in1 (do checkBuiltinCall "type.__call__" ⟨.ref C :: rest, []⟩; again (.builtin "type.__call__" ⟨.ref C :: rest, []⟩)) _ _ _
  refine wpAny_bind (check_slot tc_kind tc_split typ (tc_args _ _ _) (wpAny_pure (And.intro (Code.quiet_builtin _ (by decide +kernel)) (p_codeBuiltin (okC_bi _ (by decide +kernel)) entry_typeCall ?_))))
  unfold Builtin.«type.__call__»
  refine p_ifF rfl ?_
  refine p_leaf (mro.at ?_)
  refine p_ifF rfl ?_
  refine p_leaf (made.at ?_)
  refine p_leaf (nw _ _ _ _ (fun _ _ e => e) ?_)
  refine p_leaf (wpAny_holding (wpAny_mono hN (fun v s₁ z => ?_) fun _ _ e => e))
  obtain ⟨x, dx, rfl, Y₁, hx, z⟩ := z
  have t1 : Looks (model prog w) s₁.heap (typeOf (.ref x)) (.ref C) := (Looks.ld hx).andThen .now
  refine p_leaf ?_
  unfold isInstance
  refine wpAny_bind (t1.here (Y₁.self.here ?_))
  refine p_ifF rfl ?_
  refine p_bind (p_holding ?_)
  unfold callSpecial? specialOf
  refine p_bind (p_any (wpAny_bind (t1.here (Y₁.init.here ?_))))
  refine p_holding (p_leaf ((Y₁.bnd _).here ?_))
  refine p_bind (p_call (p_codeMono z fun r s' q => ?_))
  rcases r with e | (v | _ | _ | _) <;> first | exact q | exact q.elim | skip
  obtain ⟨rfl, q⟩ := q
  exact p_pure (p_pure q)
end
end MineP
end
section
open PySem PySem.W PySem.Calls PyProof.Rows Mine
namespace MineP
section
variable {G : Bool} {prog : Program} {w : World} {A A₀ : Around} {s : Shared} {K : Frag} {L : Addr} {h₀ base : Heap} {m mg mb : Str → Option Value} {news : List (Addr × Obj)} {p : Program} {loose : List Str} {mean : ExcName → Option Value}
theorem p_both0 {env : Env} {outer : List Env} {R : Result → Shared → Prop} {name qual x1 x2 x3 : Str} {params : Arguments} {body : List Stmt} {scope : Scope} {dV kV doc pm cdv ct oc v : Value} {an od : Option Addr} {osl : Array (Option Value)} {f : Addr} {vs : List Value}
    (B : Below A₀ base outer h₀) (F : Fr h₀ L s.heap m) (X₀ : K.In h₀) (N : News h₀ L s.heap news) (T : Top p loose mean mg mb h₀) (hA : A.frames = some (env :: outer)) (hf : env.frame = some L) (hke : env.scope.kind = .function)
    (ho : K.lookup f = some ⟨oc, od, .func (fnOf name qual params body scope dV kV doc pm an cdv ct), osl⟩) (hcd : codeIn K cdv qual = true) (hroom : A.depth < recursionLimit)
    (hb : bindArgs (fnOf name qual params body scope dV kV doc pm an cdv ct) ⟨v :: vs, []⟩ = (newTuple vs >>= fun T => alloc (dictOf [] 0) >>= fun D => pure [(x1, v), (x2, T), (x3, .ref D)]))
    (hv : vs.length ≤ sizeLine) (hloc : ∀ T D, ∀ y ∈ [(x1, v), (x2, T), (x3, .ref D)], scope.names.lookup y.1 = some .local)
    (h : ∀ C D gd L' h₁ tk, (∀ p ∈ news, p.1 < C) → C < D → (D == sysModules) = false → Fr h₀ L gd m → Fr gd L' h₁ (fun y => [(x1, v), (x2, Value.ref C), (x3, Value.ref D)].reverse.lookup y) →
      News gd L' h₁ ((D, dictOf [] 0) :: (C, ({ cls := .type "tuple", data := .seq vs.toArray } : Obj)) :: news) → Below A base (env :: outer) gd → K.In gd → Top p loose mean mg mb gd →
      wpP G (model prog w) (A.deeper (envOf qual scope L' f cdv)) (execs body (envOf qual scope L' f cdv))
        (fun fl s' => LeaveK h₀ L m gd R (match fl with | .ret v => v | _ => .none) s')
        (fun e s' => wpAny (model prog w) (A.deeper (envOf qual scope L' f cdv)) (leaving (envOf qual scope L' f cdv) e) (fun _ s'' => R (.error e) s'') (fun e' s'' => R (.error e') s'') s')
        { s with heap := h₁, toks := tk })
    (hco : scope.isCoroutine = false) (hgen : scope.isGenerator = false) (hk : scope.kind = .function)
    (hcell : ∀ x ∈ scope.names, x.2 ≠ .cell) : codeP G (model prog w) A (.call (.ref f) ⟨v :: vs, []⟩) R s := by
  refine p_callFunction (fd := fnOf name qual params body scope dV kV doc pm an cdv ct) (body := body) hroom ((X₀.keeps F.keep) _ _ ho) rfl hco hgen rfl (codeRec_of (X₀.keeps F.keep) hcd) ?_
  rw [hb]
  refine wpAny_bind ?_
  show wpAny _ _ (newTuple vs) _ _ _
  refine newTuple_N (hsz := hv) F N fun h1 F1 N1 => ?_
  refine wpAny_bind (wpAny_alloc (wpAny_pure ?_))
  have l1 : ∀ p ∈ news, p.1 < s.heap.objs.size := fun p hp => Heap.lt_size (N p hp).1
  have l2 : s.heap.objs.size < h1.objs.size := Heap.lt_size (N1 _ (.head _)).1
  have F2 := F1.push (dictOf [] 0)
  have N2 := N1.push F1 (dictOf [] 0)
  obtain ⟨FG, BG, st, lv⟩ := groundX (R := R) (s := { s with heap := h1.push (dictOf [] 0) }) B F2 N2 hA hf hke
  refine wpAny_newFunctionEnv (s := { s with heap := h1.push (dictOf [] 0) }) hcell (hloc _ _) (fun h₂ hns hsb => ⟨(T.nolimit.keeps F2.keep).fresh _ hsb, p_func ?_⟩) hk
  have hk₁ : ∀ b o, (h1.push (dictOf [] 0)).get? b = some o → h₂.get? b = some o := fun b o e => hsb.extBut b o (Nat.ne_of_lt (Heap.lt_size e)) (Heap.get?_push_of_some _ e)
  refine p_mono (h s.heap.objs.size h1.objs.size _ (h1.push (dictOf [] 0)).objs.size h₂ _ l1 l2 (F1.notModules (modules_low T.nolimit)) FG ⟨hns, fun b o e => hk₁ b o (of_hideAll _ e), Nat.le_of_eq (hideAll_size _ _)⟩
    (fun p hp => ⟨hk₁ _ _ (N2 p hp).1, Nat.ne_of_lt (Heap.lt_size (N2 p hp).1), hideAll_none _ (List.mem_map_of_mem hp)⟩) BG (X₀.keeps st) (T.keeps st)) (fun fl s' hl => lv _ _ hl) fun _ _ y => y
end
end MineP
end
section
open PySem PySem.W PySem.Calls PyProof.Rows Mine
namespace MineP
section
variable {G : Bool} {prog : Program} {w : World} {A : Around} {E : Value → Shared → Prop} {s : Shared} {env : Env}
theorem mark_none (A : Around) : A.mark none = A := by
  obtain ⟨h, d, f, g, u⟩ := A
  cases h <;> rfl
theorem p_while0 {test : Expr} {body : List Stmt} {pos : Pos} {Q : Flow → Shared → Prop}
    (h : wpAny (model prog w) A (isTrue test env (eval test env)) (fun b s₂ => b = false ∧ Q .next s₂) (fun _ _ => False) s) : wpP G (model prog w) A (exec (.While test body [] pos) env) Q E s := by
  refine p_any (wpAny_While (codeAny_whileLoop (fun _ s' => s' = s) (fun n s' hs => ?_) 0 rfl))
  subst hs
  refine wpAny_mono h (fun b s₂ z => ?_) fun _ _ e => e.elim
  obtain ⟨rfl, z⟩ := z
  exact wpAny_execs_nil z
theorem len1 {c : UInt8} {t : Tok} {Q : Value → Shared → Prop} (q : ∀ t k, Q (.int 1 t) { s with toks := k }) : wpAny (model prog w) A (call (.builtin "len") [.bytes [c].toArray t]) Q E s :=
  len_bytes (by show 1 ≤ _; decide) (q _ _)
theorem item1 {c : UInt8} {t ui : Tok} {value slice : Expr} {Q : Value → Shared → Prop} (q : ∀ t k, Q (.int c.toNat t) { s with toks := k })
    (hs : subscripted slice false (.bytes [c].toArray t) (.int 0 ui) = operate [.bytes [c].toArray t, .int 0 ui] (getItem (.bytes [c].toArray t) (.int 0 ui)) := by with_unfolding_all rfl)
    (ht : ∀ r, letTemporaryGo value (.bytes [c].toArray t) r = pure () := by intro _; with_unfolding_all rfl) : wpAny (model prog w) A (subscriptTail value slice (.bytes [c].toArray t) (.int 0 ui)) Q E s :=
  KBy.item_N (by show 1 ≤ _; decide) (by decide) (by show (0 : Int) < 1; decide) (q _ _) hs ht
end
end MineP
end
section
open PySem PySem.W PySem.Calls PyProof.Rows Mine
namespace MineP
def wantsR (Q E : Value → Shared → Prop) (r : Result) (s' : Shared) : Prop := match r with
  | .ok (.ret v) => Q v s'
  | .ok _ => False
  | .error e => E e s'
theorem sub_dict_self : isSubtype (.type "dict") (.type "dict") = pure true := by rw [isSubtype_type]; kernel_rfl
theorem look_dict_iter : typeLookup (.type "dict") "__iter__" = pure (some (.builtin "dict.__iter__")) := by rw [typeLookup_type, builtinLookup_eq_fast]; kernel_rfl
section
variable {prog : Program} {w : World} {A : Around} {E : Value → Shared → Prop} {s : Shared} {h₀ : Heap} {L : Addr} {m : Str → Option Value} {news : List (Addr × Obj)}
theorem merge0 {d D : Addr} {Q : Unit → Shared → Prop} (hd : s.heap.get? d = some (dictOf [] 0)) (hD : s.heap.get? D = some (dictOf [] 0)) (hs : (D == sysModules) = false) (q : Q () s) : wpAny (model prog w) A (mergeMapping d (.ref D) true) Q E s := by
  have hT : s.TypeIs (.ref D) "dict" := ⟨_, hD, rfl⟩
  unfold mergeMapping
  refine wpAny_bind (wpAny_isInstance hT sub_dict_self ?_)
  refine bm_if_true rfl ?_
  refine wpAny_bind (wpAny_specialOf hT look_dict_iter ?_)
  refine wpAny_bind (wpAny_pure ?_)
  rw [show (some (Value.builtin "dict.__iter__") == some (Value.builtin "dict.__iter__")) = true from by decide]
  dsimp only
  refine bm_if_false hs ?_
  refine wpAny_bind (wpAny_dictEntries hd rfl ?_)
  refine bm_if_true rfl ?_
  refine wpAny_bind (wpAny_dictEntries hD rfl ?_)
  refine wpAny_bind (wpAny_of_eq (a := PUnit.unit) rfl ?_)
  refine wpAny_bind (wpAny_dictEntries hD rfl ?_)
  refine wpAny_bind (wpAny_dictEpoch hD rfl ?_)
  exact wpAny_of_eq (a := ()) rfl q
theorem merged0 {f : Value} {xk : Sem Value} {D : Addr} {Q : Addr → Shared → Prop} (hs : (D == sysModules) = false)
    (hk : wpAny (model prog w) A xk (fun v s' => v = .ref D ∧ s'.heap.get? D = some (dictOf [] 0) ∧ s'.heap.get? s.heap.objs.size = some (dictOf [] 0) ∧ Q s.heap.objs.size s') E { s with heap := s.heap.push (dictOf [] 0) }) : wpAny (model prog w) A (mergedKeywords f [(none, xk)]) Q E s := by
  unfold mergedKeywords
  refine wpAny_bind (wpAny_alloc ?_)
  refine wpAny_bind (wpAny_holding ?_)
  refine wpAny_bind ?_
  rw [List.forIn_cons]
  refine wpAny_bind ?_
  refine wpAny_bind (wpAny_of_eq (a := ()) rfl ?_)
  refine wpAny_bind (wpAny_mono hk (fun v s' z => ?_) fun _ _ e => e)
  obtain ⟨rfl, e1, e2, q⟩ := z
  refine wpAny_bind (wpAny_onRaise (wpAny_holding (wpAny_tryCatch (wpAny_onRaise (merge0 e2 e1 hs ?_)))))
  refine wpAny_pure ?_
  dsimp only
  rw [List.forIn_nil]
  refine wpAny_pure ?_
  exact wpAny_of_eq (a := ()) rfl (wpAny_pure q)
theorem keysIn0 {f : Value} {d : Addr} {Q : List (Str × Value) → Shared → Prop} (hd : s.heap.get? d = some (dictOf [] 0)) (q : Q [] s) : wpAny (model prog w) A (keywordsIn f d) Q E s := by
  unfold keywordsIn
  refine wpAny_bind (wpAny_dictEntries hd rfl ?_)
  exact wpAny_of_eq (a := []) rfl q
theorem starKw {f : Value} {x1 x2 xk : Sem Value} {pos : Pos} {Q : Args → Shared → Prop} {v : Value} {T D : Addr} (F : Fr h₀ L s.heap m) (N : News h₀ L s.heap news)
    (hT : (T, ({ cls := .type "tuple", data := .seq #[] } : Obj)) ∈ news) (hD : (D, dictOf [] 0) ∈ news) (hs : (D == sysModules) = false)
    (h1 : ∀ (E : Value → Shared → Prop) (R : Value → Shared → Prop), R v s → wpAny (model prog w) A x1 R E s)
    (h2 : ∀ (E : Value → Shared → Prop) (R : Value → Shared → Prop), R (.ref T) s → wpAny (model prog w) A x2 R E s)
    (h3 : ∀ (s' : Shared) (E : Value → Shared → Prop) (R : Value → Shared → Prop), Fr h₀ L s'.heap m → R (.ref D) s' → wpAny (model prog w) A xk R E s')
    (h : ∀ h', Fr h₀ L h' m → News h₀ L h' news → Q ⟨[v], []⟩ { s with heap := h' }) :
    wpAny (model prog w) A (evalArgs f true [(false, x1), (true, (do let v ← x2; standAt pos; pure v))] [(none, (do let v ← xk; standAt pos; pure v))]) Q E s := by
  unfold evalArgs
  refine wpAny_bind ?_
  rw [spliced]
  refine wpAny_bind (h1 _ _ ?_)
  refine wpAny_bind (wpAny_pure ?_)
  refine wpAny_bind (wpAny_holding ?_)
  refine ks_spliced ?_
  refine h2 _ _ ?_
  refine star_seq (its := #[]) (ws := []) F N hT rfl rfl (.inr rfl) rfl (by simp) fun h1' F1 N1 => ?_
  rw [spliced]
  refine wpAny_pure (wpAny_pure ?_)
  refine wpAny_bind (wpAny_pure ?_)
  refine wpAny_holding ?_
  refine bm_if_false rfl ?_
  have F2 := F1.push (dictOf [] 0)
  have N2 := N1.push F1 (dictOf [] 0)
  refine wpAny_bind (merged0 hs ?_)
  refine wpAny_bind (h3 _ _ _ F2 (wpAny_bind (wpAny_standAt (wpAny_pure ⟨rfl, (N2 _ (.tail _ hD)).1, (N2 _ (.head _)).1, ?_⟩))))
  refine wpAny_bind (wpAny_pure ?_)
  refine wpAny_bind (wpAny_holding (keysIn0 (s := { s with heap := h1'.push (dictOf [] 0) }) (N2 _ (.head _)).1 ?_))
  exact wpAny_pure (h _ F2 (drop1 N2))
theorem p_callR {G : Bool} {M : Model} {f : Value} {pos : List Value} {Q : Value → Shared → Prop} (h : codeP G M A (.call f ⟨pos, []⟩) (wantsR Q E) s) : wpP G M A (call f pos) Q E s := p_call h
theorem p_methodCall {G : Bool} {q : Addr} {f self : Value} {args : Args} {R : Result → Shared → Prop} (hq : s.heap.get? q = some (methodObj f self))
    (h : codeP G (model prog w) A (.call f ⟨self :: args.pos, args.kw⟩) R s) : codeP G (model prog w) A (.call (.ref q) args) R s := by
  obtain ⟨hh, g, dr, t, os⟩ := s
  dsimp only at hq
  refine p_tree rfl (p_any ?_)
  show wpAny _ _ (callAny (.ref q) _) _ _ _
  refine nd_load hq ?_
  cases f <;> exact wpAny_pure ⟨rfl, h⟩
theorem p_methS {G : Bool} {env : Env} {o : Expr} {name : Str} {apos pos : Pos} {args : List Expr} {kws : List Keyword} {Q : Value → Shared → Prop}
    (h : wpAny (model prog w) A (eval o env) (fun ov s₁ => wpAny (model prog w) A (getAttr ov name true) (fun fv s₂ => wpP G (model prog w) A (callWith pos fv [] (backTo pos (starEach args env)) (backToKw pos (keywordEach kws env))) Q E s₂) E s₁) E s)
    (he : eval (.Call (.Attribute o name apos) args kws pos) env = (do
      let ov ← eval o env
      standAt apos.atName
      let (f, first) ← holding [ov] (do pure (← getAttr ov name true, []))
      let callPos ← pure pos
      callWith callPos f first (backTo pos (starEach args env)) (backToKw pos (keywordEach kws env))) := by rfl) :
    wpP G (model prog w) A (eval (.Call (.Attribute o name apos) args kws pos) env) Q E s := by
  rw [he]
  refine p_leaf (wpAny_mono h (fun ov s₁ h₁ => p_bind (p_standAt (p_bind (p_holding (p_any (wpAny_bind (wpAny_mono h₁ (fun fx s₂ h₂ => wpAny_pure ?_) fun _ _ x => x))))))) fun _ _ x => x)
  exact p_bind (p_pure h₂)
theorem p_callWithS {G : Bool} {K : Frag} {cn : Str} {cs : Scope} {a : Addr} {ccd : Value} {x1 x2 x3 : Str} {px1 px2 px3 psx pkx pos : Pos} {q f T D : Addr} {self v : Value} {Q : Value → Shared → Prop} (F : Fr h₀ L s.heap m) (N : News h₀ L s.heap news) (X : K.In h₀)
    (hq : (q, methodObj (.ref f) self) ∈ news) (hf : fnIn K f = true) (hT : (T, ({ cls := .type "tuple", data := .seq #[] } : Obj)) ∈ news) (hD : (D, dictOf [] 0) ∈ news) (hs : (D == sysModules) = false)
    (m1 : m x1 = some v) (m2 : m x2 = some (.ref T)) (m3 : m x3 = some (.ref D))
    (h : ∀ h', Fr h₀ L h' m → News h₀ L h' news → codeP G (model prog w) A (.call (.ref f) ⟨[self, v], []⟩) (wantsR Q E) { s with heap := h' })
    (hk : cs.kind = .function := by rfl) (hl1 : (envOf cn cs L a ccd).kindOf x1 = some .local := by rfl) (hl2 : (envOf cn cs L a ccd).kindOf x2 = some .local := by rfl) (hl3 : (envOf cn cs L a ccd).kindOf x3 = some .local := by rfl)
    (hd1 : (x1 == ("__debug__" : Str)) = false := by decide) (hd2 : (x2 == ("__debug__" : Str)) = false := by decide) (hd3 : (x3 == ("__debug__" : Str)) = false := by decide) :
    wpP G (model prog w) A (callWith pos (.ref q) [] (backTo pos (starEach [.Name x1 px1, .Starred (.Name x2 px2) psx] (envOf cn cs L a ccd))) (backToKw pos (keywordEach [⟨none, .Name x3 px3, pkx⟩] (envOf cn cs L a ccd)))) Q E s := by
  refine p_callWith (P := MethP K q f self) (keeps_M hf) (p_any ?_)
  refine starKw (v := v) F N hT hD hs (fun _ _ r => ld F m1 r hk hl1 hd1) (fun _ _ r => ld F m2 r hk hl2 hd2) (fun _ _ _ F' r => ld F' m3 r hk hl3 hd3) fun h' F' N' => ⟨⟨(N' _ hq).1, X.keeps F'.keep⟩, ?_⟩
  exact p_call (p_methodCall (s := { s with heap := h' }) (N' _ hq).1 (h h' F' N'))
end
end MineP
end
section
open PySem PySem.W PySem.Calls PyProof.Rows Mine
namespace MineP
def leB (k : Nat) (x : Int) : Array UInt8 := ((KTBy.little k x).map fun n => n.toNat.toUInt8).toArray
theorem leB_size (k : Nat) (x : Int) : (leB k x).size = k := by unfold leB; rw [List.size_toArray, List.length_map, KTBy.little_length]
theorem of_bInts {b : Array UInt8} {l : List Int} (h : KBw.bInts b = l) : b = (l.map fun n => n.toNat.toUInt8).toArray := by
  subst h
  apply Array.ext'
  unfold KBw.bInts
  rw [List.map_map]
  have e : ((fun n : Int => n.toNat.toUInt8) ∘ fun c : UInt8 => (c.toNat : Int)) = id := by
    funext c
    show ((c.toNat : Int)).toNat.toUInt8 = c
    rw [Int.toNat_natCast]
    exact UInt8.ofNat_toNat
  rw [e, List.map_id]
section
variable {prog : Program} {w : World} {A : Around} {E : Value → Shared → Prop} {s : Shared} {x : Int} {k : Nat} {t u v : Tok}
theorem to_le {Q : Value → Shared → Prop} (hk : k ≤ 8) (h0 : 0 ≤ x) (h1 : x < (256 : Int) ^ k) (h : ∀ t' k', Q (.bytes (leB k x) t') { s with toks := k' }) :
    wpAny (model prog w) A (call (.builtin "int.to_bytes") [.int x t, .int (k : Int) u, .str (PySem.Str.ofString "little") v]) Q E s :=
  KTBy.to_little hk rfl h0 h1 fun b t' k' e _ => by
    rw [of_bInts e]
    exact h t' k'
end
end MineP
end
section
open PySem PySem.W PySem.Calls PyProof.Rows Mine
namespace MineP
theorem room1 {dp k a b r : Nat} (h : dp + b < r) (e : Nat.ble (k + a) b = true) : dp + k + a < r := by
  have := Nat.le_of_ble_eq_true e
  omega
end MineP
end
section
open PySem PySem.W PySem.Calls PyProof.Rows Mine
namespace MineP
def NA : List Addr → Prop
  | [] => True
  | a :: r => (∀ b ∈ r, b ≠ a) ∧ NA r
def ND (n : List (Addr × Obj)) : Prop := NA (n.map Prod.fst)
def LtA (d : Addr) (as : List Addr) : Prop := ∀ a ∈ as, a < d
section
variable {a b d x I : Addr} {o o' c c' : Obj} {q : Addr × Obj} {n n' n1 n2 : List (Addr × Obj)}
theorem nd_nil : ND [] := trivial
theorem nd_cons (h : ∀ p ∈ n, p.1 ≠ q.1) (nd : ND n) : ND (q :: n) := ⟨fun b hb => by
  obtain ⟨p, hp, rfl⟩ := List.mem_map.mp hb
  exact h p hp, nd⟩
theorem nd_tail (nd : ND (q :: n)) : ND n := nd.2
theorem nd_head (nd : ND (q :: n)) : ∀ p ∈ n, p.1 ≠ q.1 := fun p hp => nd.1 _ (List.mem_map_of_mem hp)
theorem nd_map (e : n.map Prod.fst = n'.map Prod.fst) (nd : ND n) : ND n' := by
  unfold ND at nd ⊢
  rw [← e]; exact nd
theorem ltA_of (h : ∀ p ∈ n, p.1 < d) : LtA d (n.map Prod.fst) := fun z hz => by
  obtain ⟨p, hp, rfl⟩ := List.mem_map.mp hz
  exact h p hp
theorem LtA.all (h : LtA d (n.map Prod.fst)) : ∀ p ∈ n, p.1 < d := fun p hp => h _ (List.mem_map_of_mem hp)
theorem nd_push (l : LtA d (n.map Prod.fst)) (nd : ND n) : ND ((d, o) :: n) := nd_cons (fun p hp => Nat.ne_of_lt (l.all p hp)) nd
theorem updH (nd : ND ((a, o) :: n)) : Upd a o o' ((a, o) :: n) ((a, o') :: n) := .head (nd_head nd)
theorem updT (nd : ND (q :: n)) (u : Upd a o o' n n') : Upd a o o' (q :: n) (q :: n') := .tail (fun e => nd_head nd _ (upd_mem u) e.symm) u
theorem upd_nd (nd : ND n) (k : ND n → Upd a o o' n n') : Upd a o o' n n' := k nd
theorem nd_upd (nd : ND n) (u : Upd a o o' n n') : ND n' := by
  obtain ⟨pre, post, rfl, rfl, _, _⟩ := u.split
  exact nd_map (by simp) nd
theorem nd_off (nd : ND n) : ND (offA a n) := by
  induction n with
  | nil => trivial
  | cons z n ih =>
    unfold offA
    by_cases e : z.1 = a
    · rw [List.filter_cons_of_neg (by simp [e])]; exact ih nd.2
    · rw [List.filter_cons_of_pos (by simp [e])]
      exact nd_cons (fun p hp => nd_head nd p (mem_offA.mp hp).1) (ih nd.2)
theorem nd_turn1 (nd : ND n) : ND ((a, o) :: offA a n) := nd_cons off1 (nd_off nd)
end
end MineP
end
section
open PySem PySem.W PySem.Calls PyProof.Rows Mine
namespace MineP
section
variable {g : Bool} {prog : Program} {w : World} {A : Around} {E : Value → Shared → Prop} {s : Shared} {env : Env} {h₀ : Heap} {Q : Flow → Shared → Prop}
theorem p_execsNil {M : Model} {R : Flow → Shared → Prop} (h : R .next s) : wpP g M A (execs [] env) R E s := fun _ _ _ _ => h
theorem p_forLoop {R : Result → Shared → Prop} {target : Expr} {it : Value} {body : List Stmt} (I : Nat → Shared → Prop)
    (turn : ∀ n s, I n s → wpAny (model prog w) A (pyNext it) (fun r s₁ => match r with
      | none => R (.ok .next) s₁
      | some v => wpAny (model prog w) A (letOwnedTupleGo target it v) (fun _ s₁' => wpAny (model prog w) A (assign target env v) (fun _ s₂ =>
          wpP g (model prog w) A (execs body env) (fun f s₃ => match f with
            | .ret v => R (.ok (.ret v)) s₃
            | .brk => R (.ok .next) s₃
            | _ => ∃ m, m < n ∧ I m s₃) (fun _ _ => False) s₂) (fun _ _ => False) s₁') (fun _ _ => False) s₁) (fun _ _ => False) s)
    (n : Nat) (h : I n s) : codeP g (model prog w) A (.forLoop target it body [] env) R s := by
  induction n using Nat.strongRecOn generalizing s with
  | ind n ih =>
    refine p_tree rfl ?_
    show wpP g _ A ((forTurn target it body [] env).onRaise (fun x => do noteFrame x env; theTreesLotGoes x)) _ _ s
    refine p_onRaise (p_mono (Q := fun fin s' => match fin with | .done f => R (.ok f) s' | .again c' => c'.quiet = true ∧ codeP g (model prog w) A c' R s') (E := fun _ _ => False) ?_ (fun _ _ x => x) fun _ _ x => x.elim)
    simp only [forTurn]
    refine p_bind (p_standAt (p_bind (p_onRaise (p_any (wpAny_mono (turn n s h) (fun r s₁ h₁ => ?_) fun _ _ x => x.elim)))))
    cases r with
    | none =>
      refine p_pure ⟨rfl, ?_⟩
      refine p_tree rfl ?_
      show wpP g _ _ (do return Fin.done (← (execs [] env).onRaise (fun x => do noteFrame x env; theTreesLotGoes x))) _ _ s₁
      exact p_bind (p_onRaise (p_execsNil (p_pure h₁)))
    | some v =>
      refine p_leaf (wpAny_mono h₁ (fun _ s₁' h₁' => ?_) fun _ _ x => x.elim)
      refine p_leaf (wpAny_mono h₁' (fun _ s₂ h₂ => ?_) fun _ _ x => x.elim)
      refine p_bind (p_mono h₂ (fun f s₃ h₃ => ?_) fun _ _ x => x.elim)
      cases f with
      | ret v => exact p_pure h₃
      | brk => exact p_pure h₃
      | next => obtain ⟨m, hm, hI⟩ := h₃; exact p_pure ⟨rfl, ih m hm hI⟩
      | cont => obtain ⟨m, hm, hI⟩ := h₃; exact p_pure ⟨rfl, ih m hm hI⟩
def LoopP (g : Bool) (prog : Program) (w : World) (A : Around) (env : Env) (target : Expr) (body : List Stmt) (Q : Flow → Shared → Prop) (E : Value → Shared → Prop) (it : Value) (s : Shared) : Prop :=
  codeP g (model prog w) (A.mark none) (.forLoop target it body [] env) (fun r s' => match r with | .ok f => Q f s' | .error e => cameBackBy (model prog w) A env E e s') s
theorem p_forN {target iter : Expr} {body : List Stmt} {pos : Pos}
    (h : wpP g (model prog w) A (eval iter env) (fun v s₁ => wpAny (model prog w) A (pyIter v) (fun it s₂ => LoopP g prog w A env target body Q E it s₂) E s₁) E s)
    (hs : ∀ v, foldedSetIterable iter env v = pure v := by intro _; rfl) : wpP g (model prog w) A (exec (.For target iter body [] pos) env) Q E s :=
  p_for (p_mono h (fun v s₁ h₁ => p_of_eq (hs v) (p_any h₁)) fun _ _ x => x)
def TurnEnd (h₀ : Heap) (L : Addr) (J : (Str → Option Value) → List (Addr × Obj) → Prop) (I : Addr) (it : Obj) (Q : Flow → Shared → Prop) (s : Shared) (f : Flow) (s' : Shared) : Prop := match f with
  | .ret v => Q (.ret v) s'
  | .brk => Q .next s'
  | _ => ∃ h' tk' m' n', s' = { s with heap := h', toks := tk' } ∧ Fr h₀ L h' m' ∧ News h₀ L h' ((I, it) :: n') ∧ ND ((I, it) :: n') ∧ J m' n'
theorem iter_gen {L : Addr} {x : Str} {px : Pos} {body : List Stmt} {I : Addr} {n : Nat} {P : Nat → Value → Prop} {St : Nat → Heap → Prop} {need : List (Addr × Obj)} {fp : List Addr} {m₀ : Str → Option Value} {news : List (Addr × Obj)} {h₁ : Heap} {k₁ : Nat} (J : Nat → (Str → Option Value) → List (Addr × Obj) → Prop)
    (W : Walks prog w (A.mark none) I fp [I] n P St) (hfp : ∀ b ∈ fp, b = I ∨ ∃ o, (b, o) ∈ need) (has : ∀ i h, St i h → ∃ o, h.get? I = some o) (hop : ∀ v, letOwnedTupleGo (.Name x px) (.ref I) v = pure ())
    (hL : env.locals = L) (F : Fr h₀ L h₁ m₀) (N : News h₀ L h₁ news) (nd : ND news) (hI : ∀ p ∈ news, p.1 ≠ I) (hI0 : I ≠ L) (hIn : h₀.get? I = none) (st : St 0 h₁)
    (hx : env.kindOf x = some .local) (j0 : J 0 m₀ news) (keep : ∀ i m n, J i m n → ∀ p ∈ need, p ∈ n)
    (step : ∀ it i v m₁ n₁ h tk, i < n → P i v → J i m₁ n₁ → Fr h₀ L h (fun y => if y = x then some v else m₁ y) → News h₀ L h ((I, it) :: n₁) → ND ((I, it) :: n₁) →
      wpP g (model prog w) A (execs body env) (TurnEnd h₀ L (J (i + 1)) I it Q s) (fun _ _ => False) { s with heap := h, toks := tk })
    (fin : ∀ m₁ n₁ h tk, J n m₁ n₁ → Fr h₀ L h m₁ → News h₀ L h n₁ → ND n₁ → Q .next { s with heap := h, toks := tk })
    (hp : (env.scope.kind == .class || (env.scope.kind == .module && env.locals != env.globals)) = false) :
    LoopP g prog w A env (.Name x px) body Q E (.ref I) { s with heap := h₁, toks := k₁ } := by
  subst hL
  show codeP g (model prog w) (A.mark none) _ _ _
  refine p_forLoop (fun k s' => ∃ i h tk m₁ n₁, s' = { s with heap := h, toks := tk } ∧ k = n - i ∧ i ≤ n ∧ St i h ∧ Fr h₀ env.locals h m₁ ∧ News h₀ env.locals h n₁ ∧ ND n₁ ∧ (∀ p ∈ n₁, p.1 ≠ I) ∧ J i m₁ n₁) (fun k s' z => ?_) n
    ⟨0, h₁, k₁, m₀, news, rfl, by simp, by simp, st, F, N, nd, hI, j0⟩
  obtain ⟨i, h, tk, m₁, n₁, rfl, rfl, hi, hst, F₁, N₁, nd₁, o₁, j₁⟩ := z
  rcases Nat.lt_or_ge i n with hlt | hge
  · refine W.item i { s with heap := h, toks := tk } _ _ hlt hst fun v h' tk' hv st' k' => ?_
    obtain ⟨it, hito⟩ := has _ _ st'
    refine wpAny_of_eq (a := ()) (hop v) ?_
    have kk : ∀ z o, z ≠ I → h.get? z = some o → h'.get? z = some o := fun z o hz e => k' z o (fun q => hz (List.mem_singleton.mp q)) e
    have F2 : Fr h₀ env.locals h' m₁ := by
      obtain ⟨oL, es, ep, hL, r⟩ := F₁.ns
      exact ⟨⟨oL, es, ep, kk _ _ (Ne.symm hI0) hL, r⟩, fun z o q => kk _ _ (fun q' => by rw [q', hIn] at q; cases q) (F₁.keep _ _ q), F₁.above⟩
    refine wpAny_assign_Name (wpAny_storeName_local hx F2.ns (fun h₂ hn₂ hs₂ => ?_) hp)
    have k2 : ∀ z o, z ≠ env.locals → h'.get? z = some o → h₂.get? z = some o := fun z o hz e => hs₂.extBut z o hz e
    have F3 : Fr h₀ env.locals h₂ (fun y => if y = x then some v else m₁ y) := ⟨hn₂, fun z o q => k2 _ _ (fun q' => absurd (Heap.lt_size q) (by rw [q']; exact Nat.not_lt.mpr F₁.above)) (F2.keep _ _ q), F₁.above⟩
    have N3 : News h₀ env.locals h₂ ((I, it) :: n₁) := fun p hp => by
      rcases List.mem_cons.mp hp with rfl | hp
      · exact ⟨k2 _ _ hI0 hito, hI0, hIn⟩
      · exact ⟨k2 _ _ (N₁ p hp).2.1 (kk _ _ (o₁ p hp) (N₁ p hp).1), (N₁ p hp).2⟩
    rw [mark_none]
    refine p_mono (step it i v m₁ n₁ h₂ _ hlt hv j₁ F3 N3 (nd_cons o₁ nd₁)) (fun f s₃ h₃ => ?_) fun _ _ x => x
    have next : ∀ s₃, TurnEnd h₀ env.locals (J (i + 1)) I it Q s .next s₃ → ∃ m, m < n - i ∧ ∃ i h tk m₁ n₁, s₃ = { s with heap := h, toks := tk } ∧ m = n - i ∧ i ≤ n ∧ St i h ∧ Fr h₀ env.locals h m₁ ∧ News h₀ env.locals h n₁ ∧ ND n₁ ∧ (∀ p ∈ n₁, p.1 ≠ I) ∧ J i m₁ n₁ := by
      rintro _ ⟨h4, tk4, m4, n4, rfl, F4, N4, nd4, j4⟩
      refine ⟨n - (i + 1), by omega, i + 1, h4, tk4, m4, n4, rfl, rfl, hlt, W.frame _ _ _ st' fun b hb o e => ?_, F4, fun p hp => N4 p (.tail _ hp), nd_tail nd4, nd_head nd4, j4⟩
      rcases hfp b hb with rfl | ⟨o', hb'⟩
      · rw [hito] at e; cases e; exact (N4 _ (.head _)).1
      · have e1 := (N₁ _ (keep _ _ _ j₁ _ hb')).1
        have e2 := kk _ _ (o₁ _ (keep _ _ _ j₁ _ hb')) e1
        dsimp only at e2
        rw [e2] at e; cases e
        exact (N4 _ (.tail _ (keep _ _ _ j4 _ hb'))).1
    cases f with
    | ret v => exact h₃
    | brk => exact h₃
    | next => exact next s₃ h₃
    | cont => exact next s₃ h₃
  · obtain rfl : i = n := Nat.le_antisymm hi hge
    refine W.done { s with heap := h, toks := tk } _ _ hst fun h' tk' k' => ?_
    have kk : ∀ z o, z ≠ I → h.get? z = some o → h'.get? z = some o := fun z o hz e => k' z o (fun q => hz (List.mem_singleton.mp q)) e
    have F2 : Fr h₀ env.locals h' m₁ := by
      obtain ⟨oL, es, ep, hL, r⟩ := F₁.ns
      exact ⟨⟨oL, es, ep, kk _ _ (Ne.symm hI0) hL, r⟩, fun z o q => kk _ _ (fun q' => by rw [q', hIn] at q; cases q) (F₁.keep _ _ q), F₁.above⟩
    exact fin m₁ n₁ h' tk' j₁ F2 (fun p hp => ⟨kk _ _ (o₁ p hp) (N₁ p hp).1, (N₁ p hp).2⟩) nd₁
theorem iter_listP {L : Addr} {x : Str} {px : Pos} {body : List Stmt} {ax : Addr} {lo : Obj} {vs : List Value} {nn : Nat} {m₀ : Str → Option Value} {news : List (Addr × Obj)} (J : Nat → (Str → Option Value) → List (Addr × Obj) → Prop)
    (hL : env.locals = L) (hh : A.handled = none) (F : Fr h₀ L s.heap m₀) (N : News h₀ L s.heap news) (nd : ND news) (hm : (ax, lo) ∈ news) (hc : lo.cls = .type "list") (hd : lo.data = .seq vs.toArray nn)
    (hx : env.kindOf x = some .local) (j0 : J 0 m₀ news) (keep : ∀ i m n, J i m n → (ax, lo) ∈ n)
    (step : ∀ I it i v m₁ n₁ h tk, vs[i]? = some v → J i m₁ n₁ → Fr h₀ L h (fun y => if y = x then some v else m₁ y) → News h₀ L h ((I, it) :: n₁) → ND ((I, it) :: n₁) →
      wpP g (model prog w) A (execs body env) (TurnEnd h₀ L (J (i + 1)) I it Q s) (fun _ _ => False) { s with heap := h, toks := tk })
    (fin : ∀ m₁ n₁ h tk, J vs.length m₁ n₁ → Fr h₀ L h m₁ → News h₀ L h n₁ → ND n₁ → Q .next { s with heap := h, toks := tk })
    (hp : (env.scope.kind == .class || (env.scope.kind == .module && env.locals != env.globals)) = false) :
    wpAny (model prog w) A (pyIter (.ref ax)) (fun it s₂ => LoopP g prog w A env (.Name x px) body Q E it s₂) E s := by
  have hax := N _ hm
  have hl : s.heap.IsList ax vs.toArray := ⟨lo, hax.1, hc, nn, hd⟩
  have hne : ax ≠ s.heap.objs.size := Nat.ne_of_lt (Heap.lt_size hax.1)
  have hsz : vs.toArray.size = vs.length := by simp
  refine wpAny_pyIter_list hl ?_
  have W := Walks.list (prog := prog) (w := w) (A := A.mark none) (by rw [mark_none]; exact hh) s.heap.objs.size ax hne vs.toArray
  rw [hsz] at W
  exact iter_gen (need := [(ax, lo)]) (k₁ := s.toks) J W (fun b hb => by
      rcases List.mem_cons.mp hb with e | hb
      · exact .inl e
      · rcases List.mem_singleton.mp hb with rfl; exact .inr ⟨lo, .head _⟩) (fun i h z => z.1.imp fun o q => q.1) (fun v => rfl) hL (F.push _) (fun p hp => ⟨Heap.get?_push_of_some _ (N p hp).1, (N p hp).2⟩) nd
    (fun p hp => Nat.ne_of_lt (Heap.lt_size (N p hp).1)) (fun e => absurd F.ns.lt (e ▸ Nat.lt_irrefl _)) (next_is_new F) ⟨⟨_, Heap.get?_push_size _ rfl, rfl, rfl⟩, hl.at fun o e => Heap.get?_push_of_some _ e⟩ hx j0
    (fun i m n j p hp => by rcases List.mem_singleton.mp hp with rfl; exact keep i m n j) (fun it i v m₁ n₁ h tk hi hv j F' N' nd' => step _ it i v m₁ n₁ h tk (by simpa using hv) j F' N' nd') fin hp
theorem iter_rangeP {L : Addr} {x : Str} {px : Pos} {body : List Stmt} {r : Addr} {a₀ b₀ : Int} {t₀ u₀ v₀ : Tok} {n : Nat} {m₀ : Str → Option Value} {news : List (Addr × Obj)} (J : Nat → (Str → Option Value) → List (Addr × Obj) → Prop)
    (hL : env.locals = L) (hh : A.handled = none) (F : Fr h₀ L s.heap m₀) (N : News h₀ L s.heap news) (nd : ND news) (hr : IsRange s.heap r a₀ b₀ 1 t₀ u₀ v₀) (hsmall : Builtin.Range.small a₀ b₀ 1 = true) (hn : Builtin.Range.rangeSize a₀ b₀ 1 = (n : Int))
    (hx : env.kindOf x = some .local) (j0 : J 0 m₀ news)
    (step : ∀ I it i t m₁ n₁ h tk, i < n → J i m₁ n₁ → Fr h₀ L h (fun y => if y = x then some (.int (a₀ + (i : Int)) t) else m₁ y) → News h₀ L h ((I, it) :: n₁) → ND ((I, it) :: n₁) →
      wpP g (model prog w) A (execs body env) (TurnEnd h₀ L (J (i + 1)) I it Q s) (fun _ _ => False) { s with heap := h, toks := tk })
    (fin : ∀ m₁ n₁ h tk, J n m₁ n₁ → Fr h₀ L h m₁ → News h₀ L h n₁ → ND n₁ → Q .next { s with heap := h, toks := tk })
    (hp : (env.scope.kind == .class || (env.scope.kind == .module && env.locals != env.globals)) = false) :
    wpAny (model prog w) A (pyIter (.ref r)) (fun it s₂ => LoopP g prog w A env (.Name x px) body Q E it s₂) E s := by
  refine wpAny_pyIter_range hr hsmall ?_
  have W := (Walks.range (prog := prog) (w := w) (A := A.mark none) (by rw [mark_none]; exact hh) s.heap.objs.size a₀ 1 n)
  exact iter_gen (need := []) (k₁ := s.toks) J W (fun b hb => .inl (List.mem_singleton.mp hb)) (fun i h z => ⟨_, z⟩) (fun v => rfl) hL (F.push _) (fun p hp => ⟨Heap.get?_push_of_some _ (N p hp).1, (N p hp).2⟩) nd
    (fun p hp => Nat.ne_of_lt (Heap.lt_size (N p hp).1)) (fun e => absurd F.ns.lt (e ▸ Nat.lt_irrefl _)) (next_is_new F) (by show IsRangeIter _ _ _ _ _; rw [hn]; simpa using Heap.get?_push_size _ rfl) hx j0
    (fun i m n j p hp => nomatch hp) (fun it i v m₁ n₁ h tk hi hv j F' N' nd' => by
      obtain ⟨t, rfl⟩ := hv
      rw [Int.mul_one] at F'
      exact step _ it i t m₁ n₁ h tk hi j F' N' nd') fin hp
end
end MineP
end
section
open PySem PySem.W PySem.Calls PyProof.Rows Mine
namespace MineP
section
variable {prog : Program} {w : World} {A : Around} {E : Value → Shared → Prop} {s : Shared} {h₀ : Heap} {L : Addr} {m : Str → Option Value} {news : List (Addr × Obj)}
theorem lenV {ax : Addr} {vs : List Value} {nn : Nat} {Q : Value → Shared → Prop} (N : News h₀ L s.heap news) (hm : (ax, listOf vs.toArray nn) ∈ news) (hz : vs.length ≤ 16777216) (q : ∀ t k, Q (.int vs.length t) { s with toks := k }) :
    wpAny (model prog w) A (call (.builtin "len") [.ref ax]) Q E s := by
  refine Calls.call_len_list (News.isList N hm) (by rw [List.size_toArray]; omega) ?_
  have := q (s.toks + 1) (s.toks + 1 + 1)
  rw [List.size_toArray]; exact this
end
end MineP
end
section
open PySem PySem.W PySem.Calls PyProof.Rows Mine
namespace MineP
end MineP
end
section
open PySem PySem.W PySem.Calls PyProof.Rows Mine
open PySem.Builtin PySem.Builtin.ObjectAttr PySem.Builtin.Getset_descriptor
namespace MineP
section
variable {g : Bool} {prog : Program} {w : World} {A : Around} {E : Value → Shared → Prop} {R : Result → Shared → Prop} {s : Shared} {K : Frag} {p x C : Addr} {ox : Obj} {od : Option Obj} {name : PySem.Str} {expr : Bool} {Q : Value → Shared → Prop} {h₀ : Heap} {L : Addr} {m : PySem.Str → Option Value}
theorem p_runValueBi {id : String} {args : Args} {b : Builtin} (ok : okC (.builtin id args) = true) (hb : entryFor table id = some b)
    (h : wpP g (model prog w) (A.under (.builtin id args)) (b args) (fun fin s' => match fin with | .done (.ret v) => Q v s' | .again c' => c'.quiet = true ∧ codeP g (model prog w) A c' (wantsR Q E) s' | _ => False) (fun e s' => E e s') s) :
    wpP g (model prog w) A (runValue (.builtin id args)) Q E s := by
  refine p_runValue (p_codeBuiltin ok hb (p_mono h (fun fin s' z => ?_) fun _ _ z => z))
  rcases fin with (_ | _ | _ | _) | _ <;> exact z
theorem p_propGet {fget : Addr} {rest : List Value} {tp : Value} (X : K.In s.heap) (hp : recIn K p "property" = some (.ref fget :: rest))
    (h : codeP g (model prog w) A.in1 (.call (.ref fget) ⟨[.ref x], []⟩) R s) : codeP g (model prog w) A.in1 (.call (.builtin "property.__get__") ⟨[.ref p, .ref x, tp], []⟩) R s := by
  obtain ⟨d, sl, ho⟩ := rec_of X hp
  obtain ⟨hh, gg, dr, t, os⟩ := s
  refine p_codeCallBuiltin (okC_bi _ (by decide +kernel)) KF.slot_prop.plain KF.entry_prop (KF.slot_prop.check _ _ _ _ _ _ _ _ ⟨_, ho, rfl⟩ (KF.args_prop _ _ _) (p_any ?_))
  unfold Builtin.«property.__get__» descrGetArgs
  dsimp only at ho
  repeat lk
  exact ⟨rfl, h⟩
theorem p_getProp {od' : Obj} {p fget : Addr} {rest : List Value} (F : Fr h₀ L s.heap m) (X₀ : K.In h₀) (I : InstAt s.heap x ox C (some od')) (hg : plainGet K C name = true) (hh : hasDictIn K C = true)
    (ha : findIn K (.ref C) name = some (some (.ref p))) (hn : specialIn K (.ref p) "__get__" = some (some (.builtin "property.__get__"))) (ht : takesIn K (.ref p) = some true) (hp : recIn K p "property" = some (.ref fget :: rest))
    (h : codeP g (model prog w) A.in1 (.call (.ref fget) ⟨[.ref x], []⟩) (wantsR (fun v s' => handedOut v = pure v ∧ Q v s') (fun _ _ => False)) { s with toks := s.toks + 1 }) :
    wpP g (model prog w) A (getAttr (.ref x) name expr) Q E s := by
  have X := X₀.keeps F.keep
  have hga := (plainGet_of hg).1
  have hk := (plainGet_of hg).2
  have hf : findObj K C (some od') name = some (.bind (.builtin "property.__get__") (.ref p)) := findObj_data (by obtain ⟨cd, hc, _⟩ := any_some hh; rw [hc]; rfl) ha hn ht
  obtain ⟨hh', gg, d, t, os⟩ := s
  have L0 := I.type (M := model prog w)
  have L1 := looks_findIn (M := model prog w) X hga
  unfold getAttr getAttrBy
  have L2 := looks_find (M := model prog w) X I hf
  have L3 := looks_findIn (M := model prog w) X hk
  refine p_leaf (wpAny_mkText (p_holding ?_))
  refine p_leaf (L0.at ?_)
  refine p_leaf (L1.at ?_)
  show wpP g _ _ (getAttrEveryday _ _ _) _ _ _
  refine p_bind (p_onRaise (p_runValueBi (okC_bi _ (by decide +kernel)) PySem.F.plainObj_entry_getattr_hooked ?_))
  refine p_bind (p_pure (p_leaf (L0.at (p_leaf (L2.at (p_leaf (L3.at ?_)))))))
  show wpP g _ _ (holding [Value.ref p] (call (.builtin "property.__get__") [Value.ref p, .ref x, .ref C]) >>= ret) _ _ _
  refine p_bind (p_holding (p_callR ?_))
  refine p_codeMono (p_propGet X hp h) fun r s' z => ?_
  rcases r with e | (_ | _ | _ | v)
  · exact z.elim
  · exact z.elim
  · exact z.elim
  · exact z.elim
  · refine p_pure ?_
    show wpP g _ _ (handedOut v) _ _ _
    rw [z.1]; exact p_pure z.2
end
end MineP
end
section
open PySem PySem.W PySem.Calls PyProof.Rows Mine
namespace MineP
section
variable {prog : Program} {w : World} {A : Around} {E : Value → Shared → Prop} {s : Shared} {h₀ : Heap} {L : Addr} {m : Str → Option Value} {news : List (Addr × Obj)}
theorem slice_allV {l : Addr} {its : Array Value} {n : Nat} {h₁ : Heap} {tk : Nat} {value slice : Expr} {Q : Value → Shared → Prop} (F : Fr h₀ L h₁ m) (N : News h₀ L h₁ news) (hm : (l, listOf its n) ∈ news) (hz : its.size ≤ 16777216)
    (h : ∀ D h', Fr h₀ L h' m → News h₀ L h' ((D, listOf its 0) :: news) → (∀ p ∈ news, p.1 < D) → Q (.ref D) { s with heap := h', toks := tk })
    (hs : subscripted slice false (.ref l) (.ref h₁.objs.size) = operate [.ref h₁.objs.size, .ref l] (getItem (.ref l) (.ref h₁.objs.size)) := by with_unfolding_all rfl)
    (ht : ∀ r, letTemporaryGo value (.ref l) r = pure () := by intro _; with_unfolding_all rfl) :
    wpAny (model prog w) A (subscriptTail value slice (.ref l) (.ref h₁.objs.size)) Q E { s with heap := h₁.push { cls := .type "slice", data := .fields #[.none, .none, .none] }, toks := tk } := by
  refine slice_listK (s := { s with heap := h₁, toks := tk }) (News.isList N hm) .none .none ?_ hs ht (by rw [sizeLine_eq]; exact hz)
  rw [slicePick_all]
  refine h _ _ ((F.push _).push _) ?_ fun p hp => Nat.lt_succ_of_lt (Heap.lt_size (N p hp).1)
  have := (N.push F { cls := .type "slice", data := .fields #[.none, .none, .none] }).push (F.push _) (listOf its 0)
  rw [Heap.size_push] at this
  exact fun p hp => by
    rcases List.mem_cons.mp hp with rfl | hp
    · exact this _ (.head _)
    · exact this _ (.tail _ (.tail _ hp))
end
end MineP
end
section
open PySem PySem.W PySem.Calls PyProof.Rows Mine PySem.Builtin
namespace MineP
def numOf (l : List UInt8) : Nat := l.foldl (fun acc c => acc * 256 + c.toNat) 0
theorem numOf_lt (l : List UInt8) : numOf l < 256 ^ l.length := by
  have h := KFB.fold_lt l 0
  rw [Nat.zero_add, Nat.one_mul] at h
  exact h
theorem p2_256 (n : Nat) : 256 ^ n = 2 ^ (8 * n) := by
  rw [Nat.pow_mul]
def beB (k : Nat) (x : Int) : Array UInt8 := ((KTBy.little k x).reverse.map fun n => n.toNat.toUInt8).toArray
theorem beB_size (k : Nat) (x : Int) : (beB k x).size = k := by unfold beB; rw [List.size_toArray, List.length_map, List.length_reverse, KTBy.little_length]
theorem numOf_bits {l : List UInt8} (h : l.length ≤ 100000) : Int.intBits (numOf l : Nat) ≤ 800000 := by
  refine PySem.intBits_le_iff.mpr ?_
  have h1 := numOf_lt l
  rw [p2_256] at h1
  rw [Int.natAbs_natCast]
  exact Nat.lt_of_lt_of_le h1 (Nat.pow_le_pow_right (by decide) (by omega))
def hashN (l : List UInt8) : Int := (((numOf (1 :: l) : Nat) : Int) * ((numOf (1 :: l) : Nat) : Int) * 48181483302151357469556550866566148933).fmod ((2 : Int) ^ (255 : Int).toNat - 19)
theorem hashN_lo (l : List UInt8) : 0 ≤ hashN l := by
  unfold hashN
  rw [Int.fmod_eq_emod_of_nonneg _ (by decide)]
  exact Int.emod_nonneg _ (by decide)
theorem hashN_hi (l : List UInt8) : hashN l < (256 : Int) ^ 32 := by
  unfold hashN
  rw [Int.fmod_eq_emod_of_nonneg _ (by decide)]
  exact Int.lt_trans (Int.emod_lt_of_pos _ (by decide)) (by decide)
def hashB (b : Array UInt8) : Array UInt8 := beB 32 (hashN b.toList)
theorem hashB_size (b : Array UInt8) : (hashB b).size = 32 := beB_size _ _
section
variable {prog : Program} {w : World} {M : Model} {A : Around} {E : Value → Shared → Prop} {s : Shared} {h₀ : Heap} {L : Addr} {m : PySem.Str → Option Value} {news : List (Addr × Obj)}
theorem big_grown {n k : Nat} {Q : Value → Shared → Prop} (hn : n < 2 ^ k) (hk : k < 134217728) (h : Q (.int (n : Int) s.toks) { s with toks := s.toks + 1 }) : wpAny M A (mkIntGrown (n : Int)) Q E s := by
  unfold mkIntGrown
  have hl : ¬ ((n : Int).natAbs.log2 ≥ bitsLine) := by
    rw [Int.natAbs_natCast, show bitsLine = 134217728 from by first | rfl | decide]
    rcases Nat.eq_zero_or_pos n with rfl | hp
    · decide
    · have := (Nat.log2_lt (Nat.ne_of_gt hp)).mpr hn
      omega
  rw [if_neg hl]
  exact wpAny_mkInt h
theorem tree_bigL {b : Array UInt8} {t u : Tok} {P : PySem.Fin → Shared → Prop} (hl : b.size ≤ 100000) (h : P (.done (.ret (.int (numOf b.toList : Nat) s.toks))) { s with toks := s.toks + 1 }) :
    wpAny M A (Builtin.«int.from_bytes» ⟨[.type "int", .bytes b t, .str (PySem.Str.ofString "big") u], []⟩) P E s := by
  have hn : numOf b.toList < 2 ^ (8 * b.size) := by
    have := numOf_lt b.toList
    rw [Array.length_toList, p2_256] at this
    exact this
  unfold Builtin.«int.from_bytes»
  refine wpAny_bind (wpAny_of_eq (a := true) KFB.type_int (bm_if_false rfl (wpAny_bind (wpAny_of_eq (a := true) PySem.F.conv_sub_int (bm_if_false rfl ?_)))))
  refine wpAny_bind (wpAny_of_eq (a := [some (.bytes b t), some (.str (PySem.Str.ofString "big") u), none]) (by kernel_rfl) ?_)
  refine wpAny_bind (wpAny_of_eq (a := PySem.Str.ofString "big") (by kernel_rfl) (wpAny_bind (wpAny_of_eq (a := false) rfl (wpAny_bind (wpAny_of_eq (a := false) (by kernel_rfl) ?_)))))
  refine wpAny_bind (wpAny_of_eq (a := b) rfl ?_)
  show wpAny _ _ (mkIntGrown (b.toList.foldl (fun (acc : Int) (b : UInt8) => acc * 256 + (b.toNat : Int)) ((0 : Nat) : Int)) >>= fun v => _) _ _ _
  rw [KFB.foldI_eq]
  refine wpAny_bind (big_grown hn (by omega) (bm_if_true (by decide +kernel) ?_))
  exact wpAny_bind (wpAny_pure (wpAny_pure h))
theorem from_bigL {x : Addr} {b : Array UInt8} {t u : Tok} {Q : Value → Shared → Prop} (N : News h₀ L s.heap news) (hm : (x, KFB.bound) ∈ news) (hl : b.size ≤ 100000)
    (h : ∀ t' k, Q (.int (numOf b.toList : Nat) t') { s with toks := k }) : wpAny (model prog w) A (call (.ref x) [.bytes b t, .str (PySem.Str.ofString "big") u]) Q E s :=
  KFB.call_of (KFB.at_of N hm) (fun z => tree_bigL hl z) (h _ _)
theorem to_bigL {x : Int} {k : Nat} {t u v : Tok} {Q : Value → Shared → Prop} (hk : k ≤ 64) (h0 : 0 ≤ x) (h1 : x < (256 : Int) ^ k) (h : ∀ t' k', Q (.bytes (beB k x) t') { s with toks := k' }) :
    wpAny (model prog w) A (call (.builtin "int.to_bytes") [.int x t, .int (k : Int) u, .str (PySem.Str.ofString "big") v]) Q E s := by
  have hb : Int.intBits x ≤ 8 * k := KTBy.bits_le rfl h0 h1
  have e0 : (decide ((k : Int) < -(2 ^ 63 : Int)) || decide ((k : Int) ≥ 2 ^ 63)) = false := by
    rw [Bool.or_eq_false_iff]; exact ⟨decide_eq_false (by omega), decide_eq_false (by omega)⟩
  have e1 : (decide (x < 0) && !false) = false := by rw [decide_eq_false (show ¬ x < 0 by omega)]; rfl
  refine wpAny_call_entry KTBy.slot (typeIs_int s x t) KTBy.entry ?_ (KTBy.args _ _ _)
  show wpAny _ _ (Builtin.Int.intOfSelf (.int x t) >>= fun y => _) _ _ s
  refine wpAny_bind (wpAny_of_eq (a := x) rfl ?_)
  show wpAny _ _ (Builtin.Int.intBindNamed "to_bytes" ["length", "byteorder", "signed"] 0 2 [.int (k : Int) u, .str (PySem.Str.ofString "big") v] [] >>= fun l => _) _ _ s
  refine wpAny_bind (wpAny_of_eq (a := [some (.int (k : Int) u), some (.str (PySem.Str.ofString "big") v), none]) (by kernel_rfl) ?_)
  show wpAny _ _ (Builtin.Int.intIndex "int.to_bytes" (.int (k : Int) u) >>= fun n => _) _ _ s
  refine wpAny_bind (wpAny_of_eq (a := (k : Int)) rfl (bm_if_false e0 ?_))
  refine wpAny_bind (wpAny_of_eq (a := PySem.Str.ofString "big") (by kernel_rfl) (wpAny_bind (wpAny_of_eq (a := false) rfl (wpAny_bind (wpAny_of_eq (a := false) (by kernel_rfl) ?_)))))
  refine wpAny_ite_false (decide_eq_false (by omega)) (wpAny_ite_false (decide_eq_false (by omega)) (wpAny_ite_false (decide_eq_false (by rw [sizeLine_eq]; omega)) (bm_if_false e1 (bm_if_false ?_ ?_))))
  · show (_ && decide ((Int.intBits x : Int) > 8 * (k : Int))) = false
    rw [decide_eq_false (show ¬ ((Int.intBits x : Int) > 8 * (k : Int)) by omega), Bool.and_false]
  have hl : (KTBy.low x (k : Int).toNat).reverse.toArray = beB k x := by
    rw [Int.toNat_natCast]
    unfold beB
    have q := KTBy.low_ints (n := k) h0 h1
    rw [← KTBy.little_eq] at q
    rw [← q, ← List.map_reverse, List.map_map]
    congr 1
    symm
    have e : ((fun n : Int => n.toNat.toUInt8) ∘ fun c : UInt8 => (c.toNat : Int)) = _root_.id := by
      funext c
      show ((c.toNat : Int)).toNat.toUInt8 = c
      rw [Int.toNat_natCast]; exact UInt8.ofNat_toNat
    rw [e, List.map_id]
  refine wpAny_bind (wpAny_mkBytes (wpAny_pure ⟨_, rfl, ?_⟩) ?_)
  · show Q (.bytes (KTBy.low x (k : Int).toNat).reverse.toArray _) _
    rw [hl]; exact h _ _
  · show (List.reverse (KTBy.low x (k : Int).toNat)).length ≤ sizeLine
    rw [List.length_reverse, KTBy.low_length, Int.toNat_natCast, sizeLine_eq]; omega
theorem bits_mul {x y : Int} {a b : Nat} (hx : Int.intBits x ≤ a) (hy : Int.intBits y ≤ b) : Int.intBits (x * y) ≤ a + b := by
  refine PySem.intBits_le_iff.mpr ?_
  rw [Int.natAbs_mul, Nat.pow_add]
  exact Nat.mul_lt_mul'' (PySem.intBits_le_iff.mp hx) (PySem.intBits_le_iff.mp hy)
theorem mul_okL {x y : Int} {a b : Nat} (hx : Int.intBits x ≤ a) (hy : Int.intBits y ≤ b) (h : a + b ≤ 100000000) : IntMulOk x y := by
  unfold IntMulOk
  have e : Int.intTooBig (Int.intBits x + Int.intBits y) = false := by
    unfold Int.intTooBig
    rw [show bitsLine = 134217728 from by first | rfl | decide]
    exact decide_eq_false (by omega)
  rw [e, Bool.and_false]
  exact Bool.false_ne_true
theorem by_no_iadd : typeLookup (.type "bytes") (dunderI "add") = pure none := by rw [typeLookup_type, builtinLookup_eq_fast]; kernel_rfl
theorem iadd_bytes {b c : Array UInt8} {t u : Tok} {Q : Value → Shared → Prop} (hsz : b.size + c.size ≤ 16777216) (h : ∀ t' k, Q (.bytes (b ++ c) t') { s with toks := k }) : wpAny (model prog w) A (inplaceOp .Add (.bytes b t) (.bytes c u)) Q E s := by
  refine iconcat_gives (typeIs_bytes s b t) (typeIs_bytes s c u) by_no_iadd KBy.noFill_bytes_add KBy.seq_bytes_add FB.slot_bytes_add FB.entry_bytes_add (FB.args_bytes_add_2 _ _) (KBy.gives_bytes_add (KBy.tooLong_not hsz)) ?_
  cases hb : b.isEmpty
  · cases hc : c.isEmpty
    · exact ⟨by rw [Array.size_append, sizeLine_eq]; exact hsz, h _ _⟩
    · have e := Array.isEmpty_iff.1 hc
      have h' := h t s.toks
      subst e
      rw [Array.append_empty] at h'
      exact h'
  · have e := Array.isEmpty_iff.1 hb
    have h' := h u s.toks
    subst e
    rw [Array.empty_append] at h'
    exact h'
end
end MineP
end
section
open PySem PySem.W PySem.Calls PyProof.Rows Mine PySem.Builtin
namespace MineP
theorem rv_mro : mroOf (.type "reversed") = pure [.type "reversed", .type "object"] := by rw [mroOf_type]; kernel_rfl
theorem rv_lookup_new : typeLookup (.type "reversed") "__new__" = pure (some (.builtin "reversed.__new__")) := by rw [typeLookup_type, builtinLookup_eq_fast]; kernel_rfl
theorem rv_slot_init : Slot "reversed" "__init__" "object.__init__" :=
  .of (owner := "object") (n := "__init__") (by rw [typeLookup_type, builtinLookup_eq_fast]; kernel_rfl) (by decide +kernel) (by decide +kernel) (by decide +kernel)
    (by first | exact .inl (by decide +kernel) | exact .inr (by decide +kernel)) (by rw [isSubtype_type]; kernel_rfl)
theorem rv_called : TypeCalled "reversed" "reversed.__new__" "object.__init__" :=
  ⟨by decide +kernel, by decide +kernel, ⟨_, _, rv_mro⟩, madeBy_type rv_mro rv_lookup_new (by decide +kernel), by decide +kernel, by rw [isSubtype_type]; kernel_rfl, rv_slot_init⟩
theorem rv_typeCall (a : Value) : checkTypeCall "reversed" ⟨[a], []⟩ = pure () := by kernel_rfl
theorem rv_newCall (a : Value) : checkBuiltinCall "reversed.__new__" ⟨[.type "reversed", a], []⟩ = pure () := by kernel_rfl
theorem rv_plain : plainId "reversed.__new__" = true := by decide +kernel
theorem rv_entry : entryFor table "reversed.__new__" = some Builtin.«reversed.__new__» := by first | exact entryFor_of_fast (by kernel_rfl) | exact entryFor_of_tree (by kernel_rfl)
theorem rv_sub : isSubtype (.type "reversed") (.type "reversed") = pure true := by rw [isSubtype_type]; kernel_rfl
theorem rv_slot_iter : Slot "reversed" "__iter__" "reversed.__iter__" :=
  .of (owner := "reversed") (n := "__iter__") (by rw [typeLookup_type, builtinLookup_eq_fast]; kernel_rfl) (by decide +kernel) (by decide +kernel) (by decide +kernel)
    (by first | exact .inl (by decide +kernel) | exact .inr (by decide +kernel)) (by rw [isSubtype_type]; kernel_rfl)
theorem rv_slot_next : Slot "reversed" "__next__" "reversed.__next__" :=
  .of (owner := "reversed") (n := "__next__") (by rw [typeLookup_type, builtinLookup_eq_fast]; kernel_rfl) (by decide +kernel) (by decide +kernel) (by decide +kernel)
    (by first | exact .inl (by decide +kernel) | exact .inr (by decide +kernel)) (by rw [isSubtype_type]; kernel_rfl)
theorem rv_slot_hint : Slot "reversed" "__length_hint__" "reversed.__length_hint__" :=
  .of (owner := "reversed") (n := "__length_hint__") (by rw [typeLookup_type, builtinLookup_eq_fast]; kernel_rfl) (by decide +kernel) (by decide +kernel) (by decide +kernel)
    (by first | exact .inl (by decide +kernel) | exact .inr (by decide +kernel)) (by rw [isSubtype_type]; kernel_rfl)
theorem rv_entry_next : entryFor table "reversed.__next__" = some Builtin.«reversed.__next__» := by first | exact entryFor_of_fast (by kernel_rfl) | exact entryFor_of_tree (by kernel_rfl)
theorem rv_entry_hint : entryFor table "reversed.__length_hint__" = some Builtin.«reversed.__length_hint__» := by first | exact entryFor_of_fast (by kernel_rfl) | exact entryFor_of_tree (by kernel_rfl)
theorem rv_entry_iter : entryFor table "reversed.__iter__" = some Builtin.«dict_keyiterator.__iter__» :=
  entryFor_alias (id' := "dict_keyiterator.__iter__") (by kernel_rfl) (by first | rfl | decide +kernel | (unfold String.splitOn; simp +decide [String.splitOnAux])) (by decide +kernel) (by kernel_rfl)
theorem rv_args_iter (a : Value) : argsOk "reversed.__iter__" ⟨[a], []⟩ := by unfold argsOk; kernel_rfl
theorem rv_args_next (a : Value) : argsOk "reversed.__next__" ⟨[a], []⟩ := by unfold argsOk; kernel_rfl
theorem rv_args_hint (a : Value) : argsOk "reversed.__length_hint__" ⟨[a], []⟩ := by unfold argsOk; kernel_rfl
theorem rv_no_bytes : typeLookup (.type "reversed") "__bytes__" = pure none := by rw [typeLookup_type, builtinLookup_eq_fast]; kernel_rfl
theorem rv_no_index : typeLookup (.type "reversed") "__index__" = pure none := by rw [typeLookup_type, builtinLookup_eq_fast]; kernel_rfl
theorem rv_no_buffer : typeLookup (.type "reversed") "__buffer__" = pure none := by rw [typeLookup_type, builtinLookup_eq_fast]; kernel_rfl
theorem rv_no_len : typeLookup (.type "reversed") "__len__" = pure none := by rw [typeLookup_type, builtinLookup_eq_fast]; kernel_rfl
theorem by_no_rev : typeLookup (.type "bytes") "__reversed__" = pure none := by rw [typeLookup_type, builtinLookup_eq_fast]; kernel_rfl
theorem by_sub_dict : isSubtype (.type "bytes") (.type "dict") = pure false := by rw [isSubtype_type]; kernel_rfl
theorem rv_type_hint : typeOf (.builtin "reversed.__length_hint__") = pure (.type "method_descriptor") := by show builtinType _ = _; rw [builtinType_eq_fast]; kernel_rfl
abbrev rvO (b : Array UInt8) (t : Tok) (n : Int) : Obj := { cls := .type "reversed", data := .fields #[.bytes b t, rawInt n] }
section
variable {prog : Program} {w : World} {A : Around} {E : Value → Shared → Prop} {s : Shared}
theorem rv_type {a : Addr} {b : Array UInt8} {t : Tok} {n : Int} (h : s.heap.get? a = some (rvO b t n)) : s.TypeIs (.ref a) "reversed" := ⟨_, h, rfl⟩
theorem rv_new_b {b : Array UInt8} {t : Tok} {Q : Value → Shared → Prop} (hz : b.size ≤ 16777216) (hQ : ∀ k, Q (.ref s.heap.objs.size) { s with heap := s.heap.push (rvO b t (b.size - 1)), toks := k }) :
    codeAny (model prog w) A (.call (.builtin "reversed.__new__") ⟨[.type "reversed", .bytes b t], []⟩) (wants Q E) s := by
  refine codeAny_of_tree ?_
  show wpAny _ A.in1 (do checkBuiltinCall "reversed.__new__" ⟨[.type "reversed", .bytes b t], []⟩; again (.builtin "reversed.__new__" ⟨[.type "reversed", .bytes b t], []⟩)) _ _ s
  refine wpAny_bind (wpAny_of_eq (rv_newCall _) (wpAny_pure ⟨plainId_quiet rv_plain _, codeAny_builtin rv_entry ?_⟩))
  rw [Around.under_plainId rv_plain _]
  have hT : s.TypeIs (.bytes b t) "bytes" := PySem.W.typeIs_bytes _ _ _
  unfold Builtin.«reversed.__new__»
  refine wpAny_bind ?_
  unfold Builtin.SmallTypes.newClass
  refine wpAny_bind (wpAny_of_eq (a := true) rfl ?_)
  refine bm_if_false rfl ?_
  refine wpAny_bind (wpAny_of_eq rv_sub ?_)
  refine bm_if_false rfl ?_
  refine wpAny_pure ?_
  dsimp only
  refine wpAny_bind (wpAny_of_eq (a := ()) rfl ?_)
  refine wpAny_bind (wpAny_of_eq (a := ()) rfl ?_)
  refine wpAny_bind (wpAny_specialOf hT by_no_rev ?_)
  dsimp only
  refine wpAny_bind ?_
  show wpAny _ _ (isInstance (Value.bytes b t) (.type "dict") >>= _) _ _ _
  refine wpAny_bind (wpAny_isInstance hT by_sub_dict ?_)
  refine bm_if_false rfl ?_
  show wpAny _ _ (specialOf (Value.bytes b t) "__getitem__" >>= _) _ _ _
  refine wpAny_bind (wpAny_specialOf hT FB.slot_bytes_getitem.lookup ?_)
  dsimp only
  refine bm_if_true (by decide +kernel) ?_
  refine wpAny_pure ?_
  refine bm_if_false rfl ?_
  refine wpAny_bind (len_bytes (by omega) ?_)
  refine wpAny_bind (wpAny_of_eq (a := some (b.size : Int)) rfl ?_)
  dsimp only
  refine wpAny_bind ?_
  show wpAny _ _ (newObj (.type "reversed") (.fields #[.bytes b t, rawInt (b.size - 1)])) _ _ _
  refine wpAny_newObj_type ?_ (by size_fits)
  exact wpAny_pure (hQ _)
theorem rv_new {b : Array UInt8} {t : Tok} {Q : Value → Shared → Prop} (hz : b.size ≤ 16777216) (hQ : ∀ k, Q (.ref s.heap.objs.size) { s with heap := s.heap.push (rvO b t (b.size - 1)), toks := k }) :
    wpAny (model prog w) A (call (.type "reversed") [.bytes b t]) Q E s := by
  refine callType_codes (Q₁ := fun obj s₁ => s₁.TypeIs obj "reversed" ∧ Q obj s₁) rv_called (rv_typeCall _) PySem.F.entry_object_init
    (rv_new_b hz fun k => ⟨⟨_, Heap.get?_push_size _ rfl, rfl⟩, hQ k⟩) fun obj s₁ h₁ => ?_
  exact ⟨h₁.1, PySem.F.args_object_init_2 obj _, object_init_meets rv_called.init.lookup rv_called.made (by decide) prog w A.in1 _ s₁ ⟨h₁.1, rfl, h₁.2⟩⟩
theorem rv_iter {a : Addr} {b : Array UInt8} {t : Tok} {n : Int} {Q : Value → Shared → Prop} (h : s.heap.get? a = some (rvO b t n)) (hQ : Q (.ref a) s) : wpAny (model prog w) A (pyIter (.ref a)) Q E s := by
  refine wpAny_pyIter_slot (rv_type h) rv_slot_iter (wpAny_call_entry rv_slot_iter (rv_type h) rv_entry_iter ?_ (rv_args_iter _))
  show wpAny _ _ (ret (.ref a)) _ _ s
  exact wpAny_pure ⟨_, rfl, "reversed", _, rv_type h, rv_slot_next.lookup, hQ⟩
theorem rv_item {a : Addr} {b : Array UInt8} {t : Tok} {n : Nat} {Q : Option Value → Shared → Prop} (h : s.heap.get? a = some (rvO b t n)) (hn : n < b.size) (hz : b.size ≤ 16777216)
    (hQ : ∀ h' t' k, h'.get? a = some (rvO b t ((n : Int) - 1)) → Heap.SameBut a s.heap h' → Q (some (.int (b.toList.getD n 0).toNat t')) { s with heap := h', toks := k }) : wpAny (model prog w) A (pyNext (.ref a)) Q E s := by
  unfold pyNext
  refine wpAny_bind (wpAny_attempt (wpAny_callSpecial?_slot (name := Str.ofString "__next__") (rv_type h) rv_slot_next
    (wpAny_call_entry rv_slot_next (rv_type h) rv_entry_next ?_ (rv_args_next _))))
  show wpAny _ _ (field (.ref a) 0 >>= _) _ _ s
  refine wpAny_bind (wpAny_field h rfl (x := .bytes b t) rfl ?_)
  show wpAny _ _ (field (.ref a) 1 >>= _) _ _ s
  refine wpAny_bind (wpAny_field h rfl (x := rawInt n) rfl ?_)
  show wpAny _ _ (if (n : Int) < 0 then _ else _) _ _ s
  rw [if_neg (by omega)]
  refine wpAny_bind (wpAny_specialOf (PySem.W.typeIs_bytes _ _ _) FB.slot_bytes_getitem.lookup ?_)
  refine bm_if_false rfl ?_
  refine wpAny_bind (wpAny_mkInt ?_)
  refine wpAny_bind (wpAny_attempt ?_)
  obtain ⟨l⟩ := b
  refine getItem_bytes (l := l) (by have : l.length = (⟨l⟩ : Array UInt8).size := rfl; omega) (by omega) (by have : l.length = (⟨l⟩ : Array UInt8).size := rfl; omega) ?_
  dsimp only
  show wpAny _ _ (field (.ref a) 1 >>= _) _ _ _
  refine wpAny_bind (wpAny_field (show Heap.get? _ a = some (rvO ⟨l⟩ t n) from h) rfl (x := rawInt n) rfl ?_)
  show wpAny _ _ (setField (.ref a) 1 (rawInt ((n : Int) - 1)) >>= _) _ _ _
  refine wpAny_bind (wpAny_setField (show Heap.get? _ a = some (rvO ⟨l⟩ t n) from h) rfl (by simp) (wpAny_pure ⟨_, rfl, wpAny_pure (hQ _ _ _ ?_ (Heap.SameBut.update ..))⟩))
  exact Heap.get?_update_self _ (show Heap.get? _ a = some (rvO ⟨l⟩ t n) from h) rfl
theorem rv_end {a : Addr} {b : Array UInt8} {t : Tok} {Q : Option Value → Shared → Prop} (hh : A.handled = none) (h : s.heap.get? a = some (rvO b t (-1)))
    (hQ : ∀ h', Heap.ExtBut a s.heap h' → Q none { s with heap := h' }) : wpAny (model prog w) A (pyNext (.ref a)) Q E s := by
  unfold pyNext
  refine wpAny_bind (wpAny_attempt (wpAny_callSpecial?_slot (name := Str.ofString "__next__") (rv_type h) rv_slot_next
    (wpAny_call_entry rv_slot_next (rv_type h) rv_entry_next ?_ (rv_args_next _))))
  show wpAny _ _ (field (.ref a) 0 >>= _) _ _ s
  refine wpAny_bind (wpAny_field h rfl (x := .bytes b t) rfl ?_)
  show wpAny _ _ (field (.ref a) 1 >>= _) _ _ s
  refine wpAny_bind (wpAny_field h rfl (x := rawInt (-1)) rfl ?_)
  show wpAny _ _ (if (-1 : Int) < 0 then _ else _) _ _ s
  rw [if_pos (by omega)]
  refine wpAny_bind (wpAny_rule ?_)
  refine wpAny_bind ?_
  show wpAny _ _ (setField (.ref a) 1 (rawInt (-1)) >>= fun _ => setField (.ref a) 0 .none) _ _ _
  refine wpAny_bind (wpAny_setField h rfl (by simp) ?_)
  have h1 : (s.heap.update a fun o => o.mapFields fun vs => vs.setIfInBounds 1 (rawInt (-1))).get? a = some (rvO b t (-1)) := Heap.get?_update_self _ h rfl
  refine wpAny_setField h1 rfl (by simp) ?_
  refine wpAny_bind ?_
  show wpAny _ _ (newExc (.type "StopIteration") [] >>= _) _ _ _
  refine wpAny_bind ?_
  simp only [newExc, newTuple]
  refine wpAny_bind (wpAny_newObj_type ?_ (by size_fits))
  refine wpAny_bind (m := firstArgMember _ _) (wpAny_of_eq (a := Value.none) (by first | rfl | (simp only [firstArgMember]; rfl)) ?_)
  refine wpAny_newObj_type ?_ (by size_fits)
  simp only [raiseNew]
  refine wpAny_bind (wpAny_handled ?_)
  rw [show A.in1.handled = none from hh]
  refine wpAny_bind (wpAny_pure (wpAny_throw ?_))
  refine wpAny_bind (wpAny_isInstance (T := "StopIteration") (b := true) ⟨_, Heap.get?_push_size _ rfl, rfl⟩ isSubtype_stop ?_)
  exact wpAny_pure (hQ _ ((((Heap.SameBut.update ..).trans (Heap.SameBut.update ..)).extBut.push _).push _))
def rvA (b : Array UInt8) : Array UInt8 := b.toList.reverse.toArray
theorem rvA_size (b : Array UInt8) : (rvA b).size = b.size := by unfold rvA; simp
theorem rv_loop {R : Result → Shared → Prop} {b : Array UInt8} {t : Tok} {I S : Addr} (hh : A.handled = none) (hz : b.size ≤ 16777216) (hIS : I ≠ S) :
    ∀ (n : Nat) (s : Shared), n ≤ b.size → s.heap.get? I = some (rvO b t ((n : Int) - 1)) → s.heap.get? S = some (baO (b.toList.drop n).reverse.toArray) →
      (∀ h' t' k', (∀ z o, z ≠ I → z ≠ S → s.heap.get? z = some o → h'.get? z = some o) → R (.ok (.ret (.bytes (rvA b) t'))) { s with heap := h', toks := k' }) →
      codeAny (model prog w) A (.builtin "bytes.__new__.loop" ⟨[.type "bytes", .ref I, .ref S], []⟩) R s := by
  intro n
  induction n with
  | zero =>
    intro s hn hI hS hR
    refine codeAny_builtin PySem.F.bm_entry_loop ?_
    rw [Around.under_plainId PySem.F.bm_plain_loop _]
    show wpAny _ A.in1 (pyNext (.ref I) >>= _) _ _ s
    refine wpAny_bind (rv_end hh hI fun h' he => ?_)
    have hS' : h'.get? S = some (baO (b.toList.drop 0).reverse.toArray) := he S _ (Ne.symm hIS) hS
    refine wpAny_bind ?_
    unfold Builtin.Bytes.payload Builtin.Bytes.payload?
    refine wpAny_bind (wpAny_bind (wpAny_load hS' ?_))
    refine wpAny_pure (wpAny_pure ?_)
    rw [List.drop_zero]
    refine wpAny_bind (wpAny_mkBytes ?_ (by rw [sizeLine_eq]; simp; omega))
    show wpAny _ _ (if (Value.type "bytes" == Value.type "bytes") = true then _ else _) _ _ _
    refine bm_if_true (by decide) ?_
    first
      | exact wpAny_pure (hR h' _ _ fun z o hb _ e => he z o hb e)
      | exact wpAny_bind (wpAny_pure (wpAny_pure (hR h' _ _ fun z o hb _ e => he z o hb e)))
  | succ n ih =>
    intro s hn hI hS hR
    have hI' : s.heap.get? I = some (rvO b t n) := by rw [hI]; congr 2; simp
    refine codeAny_builtin PySem.F.bm_entry_loop ?_
    rw [Around.under_plainId PySem.F.bm_plain_loop _]
    show wpAny _ A.in1 (pyNext (.ref I) >>= _) _ _ s
    refine wpAny_bind (rv_item hI' (by omega) hz fun h' t' k hI2 hs => ?_)
    have hS' : h'.get? S = some (baO (b.toList.drop (n + 1)).reverse.toArray) := (hs.2 S (Ne.symm hIS)).trans hS
    have hc : (((b.toList.getD n 0).toNat : Int)) < 256 := by have := (b.toList.getD n 0).toNat_lt; omega
    refine wpAny_bind (wpAny_holding (wpAny_of_eq (rfl : asIndex (.int _ t') = pure _) ?_))
    refine wpAny_bind (wpAny_letGo ?_)
    refine bm_if_false (by simp only [Bool.or_eq_false_iff, decide_eq_false_iff_not]; omega) ?_
    refine wpAny_bind ?_
    show wpAny _ _ (updateBytearray S (·.push (((b.toList.getD n 0).toNat : Int)).toNat.toUInt8)) _ _ _
    unfold updateBytearray
    refine wpAny_bind (wpAny_load hS' ?_)
    show wpAny _ _ (update S (Obj.mapBytearray (·.push (((b.toList.getD n 0).toNat : Int)).toNat.toUInt8)) >>= fun _ => lookBehind S) _ _ _
    refine wpAny_bind (wpAny_update hS' ?_)
    have hS₂ : (h'.update S (Obj.mapBytearray (·.push (((b.toList.getD n 0).toNat : Int)).toNat.toUInt8))).get? S = some (baO (b.toList.drop n).reverse.toArray) := by
      have e1 : b.toList.drop n = b.toList.getD n 0 :: b.toList.drop (n + 1) := by
        rw [List.drop_eq_getElem_cons (show n < b.toList.length from hn)]
        congr 1
        rw [List.getD_eq_getElem?_getD, List.getElem?_eq_getElem (show n < b.toList.length from hn)]; rfl
      have e2 : (((b.toList.getD n 0).toNat : Int)).toNat.toUInt8 = b.toList.getD n 0 := by rw [Int.toNat_natCast]; exact UInt8.ofNat_toNat
      rw [e1, e2, List.reverse_cons]
      have := Heap.get?_update_self (Obj.mapBytearray (·.push (b.toList.getD n 0))) hS' rfl
      rw [this]
      simp [Obj.mapBytearray]
    refine wpAny_lookBehind hS₂ ?_ ?_
    · show (if ((b.toList.drop n).reverse.toArray).size > sizeLine then some "bytearray:memory" else none) = none
      rw [if_neg]
      rw [sizeLine_eq]; simp; omega
    · refine wpAny_pure ⟨plainId_quiet PySem.F.bm_plain_loop _, ih { s with heap := h'.update S (Obj.mapBytearray (·.push (((b.toList.getD n 0).toNat : Int)).toNat.toUInt8)), toks := k } (by omega) ?_ hS₂ fun h3 t3 k3 hk3 => ?_⟩
      · exact (Heap.get?_update_other _ _ (Ne.symm hIS)).trans hI2
      · exact hR h3 t3 k3 fun z o hbI hbS e => hk3 z o hbI hbS ((Heap.get?_update_other _ _ (Ne.symm hbS)).trans (hs.extBut z o hbI e))
theorem rv_hint {a : Addr} {b : Array UInt8} {t : Tok} {Q : Unit → Shared → Prop} (h : s.heap.get? a = some (rvO b t ((b.size : Int) - 1))) (hz : b.size ≤ 16777216) (hQ : ∀ k, Q () { s with toks := k }) : wpAny (model prog w) A (Builtin.Bytes.lengthHint "bytes.__new__" (.ref a)) Q E s := by
  have hT := rv_type h
  unfold Builtin.Bytes.lengthHint
  refine wpAny_bind (wpAny_specialOf hT rv_no_len ?_)
  dsimp only
  refine bm_if_false (by decide +kernel) ?_
  refine bm_if_false rfl ?_
  refine wpAny_bind (wpAny_specialOf hT rv_slot_hint.lookup ?_)
  dsimp only
  rw [show splitId "reversed.__length_hint__" = some ("reversed", "__length_hint__") from by decide +kernel]
  dsimp only
  refine wpAny_bind (wpAny_isInstance hT rv_sub ?_)
  refine bm_if_false rfl ?_
  refine bm_if_false (by decide +kernel) ?_
  refine wpAny_bind (wpAny_rule ?_)
  refine wpAny_bind ?_
  unfold bindSpecial
  refine wpAny_bind (wpAny_of_eq rv_type_hint ?_)
  refine bm_if_true (by decide +kernel) ?_
  refine wpAny_pure ?_
  refine wpAny_bind (wpAny_attempt (wpAny_call_entry rv_slot_hint hT rv_entry_hint ?_ (rv_args_hint _)))
  unfold Builtin.«reversed.__length_hint__»
  refine wpAny_bind (wpAny_of_eq (a := .ref a) rfl ?_)
  refine wpAny_bind (wpAny_field h rfl (x := .bytes b t) rfl ?_)
  refine bm_if_false rfl ?_
  refine wpAny_bind (len_bytes (by omega) ?_)
  refine wpAny_bind (wpAny_of_eq (a := some (b.size : Int)) rfl ?_)
  dsimp only
  refine wpAny_bind (wpAny_field (show Heap.get? _ a = some _ from h) rfl (x := rawInt ((b.size : Int) - 1)) rfl ?_)
  dsimp only [rawInt]
  rw [if_neg (by omega)]
  refine wpAny_bind (wpAny_mkInt (wpAny_pure ⟨_, rfl, ?_⟩))
  dsimp only
  refine wpAny_bind (wpAny_of_eq (a := some ((b.size : Int) - 1 + 1)) rfl ?_)
  dsimp only
  refine bm_if_false ?_ ?_
  · simp only [Bytes.fitsIndex, Bool.not_eq_false', Bool.and_eq_true, decide_eq_true_eq]; omega
  rw [if_neg (by omega)]
  refine bm_if_false ?_ (wpAny_pure (hQ _))
  simp only [Bytes.tooLong, decide_eq_false_iff_not]
  rw [sizeLine_eq]; omega
theorem rv_bytes_b {a : Addr} {b : Array UInt8} {t : Tok} {Q : Value → Shared → Prop} (hh : A.handled = none) (h : s.heap.get? a = some (rvO b t ((b.size : Int) - 1))) (hz : b.size ≤ 16777216)
    (hQ : ∀ h' t' k', (∀ z o, z ≠ a → s.heap.get? z = some o → h'.get? z = some o) → Q (.bytes (rvA b) t') { s with heap := h', toks := k' }) :
    codeAny (model prog w) A (.call (.builtin "bytes.__new__") ⟨[.type "bytes", .ref a], []⟩) (wants Q E) s := by
  refine codeAny_of_tree ?_
  show wpAny _ A.in1 (do checkBuiltinCall "bytes.__new__" ⟨[.type "bytes", .ref a], []⟩; again (.builtin "bytes.__new__" ⟨[.type "bytes", .ref a], []⟩)) _ _ s
  refine wpAny_bind (wpAny_of_eq (PySem.F.bm_newCall _) (wpAny_pure ⟨plainId_quiet PySem.F.bm_plain _, codeAny_builtin PySem.F.bm_entry ?_⟩))
  rw [Around.under_plainId PySem.F.bm_plain _]
  have hT := rv_type h
  unfold Builtin.«bytes.__new__»
  refine wpAny_bind (wpAny_of_eq (a := true) rfl ?_)
  refine bm_if_false rfl ?_
  refine wpAny_bind (wpAny_of_eq PySem.F.bm_sub ?_)
  refine bm_if_false rfl ?_
  refine wpAny_bind (wpAny_of_eq (PySem.F.bm_bind _) ?_)
  refine wpAny_bind (wpAny_of_eq (a := ()) rfl ?_)
  refine wpAny_bind (wpAny_of_eq (a := ()) rfl ?_)
  refine bm_if_false rfl ?_
  refine wpAny_bind (wpAny_specialOf hT rv_no_bytes ?_)
  refine wpAny_bind (wpAny_bind ?_)
  show wpAny _ _ (load a >>= _) _ _ _
  refine wpAny_bind (wpAny_load h ?_)
  refine wpAny_pure (wpAny_pure ?_)
  refine bm_if_false rfl ?_
  refine wpAny_bind (wpAny_specialOf hT rv_no_index ?_)
  refine bm_if_true rfl ?_
  first
    | show wpAny _ _ (Builtin.Bytes.buffer? "bytes.__new__" (.ref a) true >>= _) _ _ _
    | (refine wpAny_bind ?_; show wpAny _ _ (Builtin.Bytes.buffer? "bytes.__new__" (.ref a) true >>= _) _ _ _)
  refine wpAny_bind ?_
  unfold Builtin.Bytes.buffer?
  refine wpAny_bind (wpAny_specialOf hT rv_no_buffer ?_)
  refine wpAny_bind (wpAny_specialOf hT rv_no_buffer ?_)
  refine wpAny_pure ?_
  refine wpAny_bind (wpAny_tryCatch (rv_iter h ?_))
  refine wpAny_bind (wpAny_holding ?_)
  refine rv_hint h hz fun k => ?_
  refine wpAny_bind ?_
  unfold Builtin.Bytes.newBytearray
  refine wpAny_newObj_type ?_ (Nat.zero_le _)
  have hlt : a < s.heap.objs.size := Heap.lt_size h
  have main := rv_loop (prog := prog) (w := w) (A := A) (R := wants Q E) (b := b) (t := t) (I := a) (S := s.heap.objs.size) hh hz (Nat.ne_of_lt hlt) b.size { s with heap := s.heap.push (baO #[]), toks := k } (Nat.le_refl _)
    (Heap.get?_push_of_some _ h) (by rw [List.drop_eq_nil_of_le (show b.toList.length ≤ b.size from Nat.le_refl _)]; exact Heap.get?_push_size _ rfl) fun h' t' k' hk => hQ h' t' k' fun z o hz e => hk z o hz (Nat.ne_of_lt (Heap.lt_size e)) (Heap.get?_push_of_some _ e)
  first
    | exact wpAny_pure ⟨plainId_quiet PySem.F.bm_plain_loop _, main⟩
    | exact wpAny_pure (wpAny_pure ⟨plainId_quiet PySem.F.bm_plain_loop _, main⟩)
theorem rv_bytes {a : Addr} {b : Array UInt8} {t : Tok} {Q : Value → Shared → Prop} (hh : A.handled = none) (h : s.heap.get? a = some (rvO b t ((b.size : Int) - 1))) (hz : b.size ≤ 16777216)
    (hQ : ∀ h' t' k', (∀ z o, z ≠ a → s.heap.get? z = some o → h'.get? z = some o) → Q (.bytes (rvA b) t') { s with heap := h', toks := k' }) : wpAny (model prog w) A (call (.type "bytes") [.ref a]) Q E s := by
  refine callType_codes (Q₁ := fun obj s₁ => s₁.TypeIs obj "bytes" ∧ Q obj s₁) PySem.F.bm_called (PySem.F.bm_typeCall _) PySem.F.entry_object_init
    (rv_bytes_b hh h hz fun h' t' k' hk => ⟨PySem.W.typeIs_bytes _ _ _, hQ h' t' k' hk⟩) fun obj s₁ h₁ => ?_
  exact ⟨h₁.1, PySem.F.args_object_init_2 obj _, object_init_meets PySem.F.bm_called.init.lookup PySem.F.bm_called.made (by decide) prog w A.in1 _ s₁ ⟨h₁.1, rfl, h₁.2⟩⟩
end
section
variable {prog : Program} {w : World} {A : Around} {E : Value → Shared → Prop} {s : Shared} {h₀ : Heap} {L : Addr} {m : PySem.Str → Option Value} {news : List (Addr × Obj)}
theorem off_FN {h h' : Heap} {x : Addr} {o : Obj} (F : Fr h₀ L h m) (N : News h₀ L h ((x, o) :: news)) (o1 : ∀ p ∈ news, p.1 ≠ x) (k : ∀ z q, z ≠ x → h.get? z = some q → h'.get? z = some q) : Fr h₀ L h' m ∧ News h₀ L h' news := by
  have hm := N _ (.head _)
  obtain ⟨oL, es, ep, hL, r⟩ := F.ns
  refine ⟨⟨⟨oL, es, ep, k _ _ (Ne.symm hm.2.1) hL, r⟩, fun b y q => k _ _ (fun q' => ?_) (F.keep b y q), F.above⟩, fun p hp => ?_⟩
  · rw [q', hm.2.2] at q; cases q
  · have := N p (.tail _ hp)
    exact ⟨k _ _ (o1 p hp) this.1, this.2⟩
theorem rv_newK {b : Array UInt8} {t : Tok} {Q : Value → Shared → Prop} (F : Fr h₀ L s.heap m) (N : News h₀ L s.heap news) (hz : b.size ≤ 16777216)
    (h : ∀ x h' k, Fr h₀ L h' m → News h₀ L h' ((x, rvO b t ((b.size : Int) - 1)) :: news) → (∀ p ∈ news, p.1 < x) → Q (.ref x) { s with heap := h', toks := k }) : wpAny (model prog w) A (call (.type "reversed") [.bytes b t]) Q E s :=
  rv_new hz fun k => h _ _ k (F.push _) (N.push F _) fun p hp => Heap.lt_size (N p hp).1
theorem rv_bytesK {x : Addr} {b : Array UInt8} {t : Tok} {Q : Value → Shared → Prop} (hh : A.handled = none) (F : Fr h₀ L s.heap m) (N : News h₀ L s.heap ((x, rvO b t ((b.size : Int) - 1)) :: news)) (o1 : ∀ p ∈ news, p.1 < x) (hz : b.size ≤ 16777216)
    (h : ∀ t' h' k, Fr h₀ L h' m → News h₀ L h' news → Q (.bytes (rvA b) t') { s with heap := h', toks := k }) : wpAny (model prog w) A (call (.type "bytes") [.ref x]) Q E s :=
  rv_bytes hh (N _ (.head _)).1 hz fun h' t' k' hk => by
    obtain ⟨F', N'⟩ := off_FN F N (fun p hp => Nat.ne_of_lt (o1 p hp)) hk
    exact h t' h' k' F' N'
end
end MineP
end
section
open PySem PySem.W PySem.Calls PyProof.Rows Mine
namespace MineP
theorem value_snoc (l : List Int) (k : Int) : KFB.value (l ++ [k]) = KFB.value l * 256 + k := by
  unfold KFB.value
  rw [List.foldl_append]
  rfl
theorem value_little : ∀ (k : Nat) (x : Int), 0 ≤ x → x < (256 : Int) ^ k → KFB.value (KTBy.little k x).reverse = x
  | 0, x, h0, h1 => by
    have : x = 0 := by simp at h1; omega
    subst this; rfl
  | k + 1, x, h0, h1 => by
    show KFB.value (x % 256 :: KTBy.little k (x / 256)).reverse = x
    rw [List.reverse_cons, value_snoc, value_little k (x / 256) (by omega) (by rw [Int.pow_succ] at h1; omega)]
    omega
theorem leB_ints {k : Nat} {x : Int} : KBw.bInts (leB k x) = KTBy.little k x := by
  unfold leB KBw.bInts
  rw [List.map_map]
  have key : ∀ (n : Nat) (y : Int), (KTBy.little n y).map ((fun c : UInt8 => (c.toNat : Int)) ∘ fun n : Int => n.toNat.toUInt8) = KTBy.little n y := by
    intro n
    induction n with
    | zero => intro y; rfl
    | succ n ih =>
      intro y
      show _ :: _ = _ :: _
      rw [ih]
      congr 1
      show (((y % 256).toNat.toUInt8).toNat : Int) = y % 256
      have h : (y % 256).toNat < 256 := by omega
      have e : ((y % 256).toNat.toUInt8).toNat = (y % 256).toNat := by
        show (y % 256).toNat % 2 ^ 8 = _
        omega
      rw [e]; omega
  exact key k x
theorem rvA_rvA (b : Array UInt8) : rvA (rvA b) = b := by unfold rvA; simp
section
variable {prog : Program} {w : World} {M : Model} {A : Around} {E : Value → Shared → Prop} {s : Shared} {h₀ : Heap} {L : Addr} {m : PySem.Str → Option Value} {news : List (Addr × Obj)}
theorem from_le {x : Addr} {k : Nat} {v : Int} {t u : Tok} {Q : Value → Shared → Prop} (N : News h₀ L s.heap news) (hm : (x, KFB.bound) ∈ news) (hk : k ≤ 8) (h0 : 0 ≤ v) (h1 : v < (256 : Int) ^ k)
    (h : ∀ t' k', Q (.int v t') { s with toks := k' }) : wpAny (model prog w) A (call (.ref x) [.bytes (leB k v).toList.toArray t, .str (PySem.Str.ofString "little") u]) Q E s := by
  refine KFB.call_little N hm (b := leB k v) leB_ints (by rw [KTBy.little_length]; exact hk) fun t' k' => ?_
  rw [value_little k v h0 h1]
  exact h t' k'
end
end MineP
end
section
open PySem PySem.W PySem.Calls PyProof.Rows
namespace MineP
end MineP
end
section
open PySem PySem.W PySem.Calls PyProof.Rows Mine
namespace MineP
section
variable {a b d x I L : Addr} {o o' c c' : Obj} {q : Addr × Obj} {n n' m n1 n2 R : List (Addr × Obj)} {h₀ h : Heap}
theorem nd_perm (p : n.Perm n') (nd : ND n) : ND n' := by
  induction p with
  | nil => exact nd
  | cons z p ih =>
    refine nd_cons (fun y hy => nd_head nd y (p.mem_iff.mpr hy)) (ih (nd_tail nd))
  | swap z y l =>
    have h1 := nd_head nd
    have h2 := nd_head (nd_tail nd)
    refine nd_cons (fun r hr => ?_) (nd_cons (fun r hr => h1 r (.tail _ hr)) (nd_tail (nd_tail nd)))
    rcases List.mem_cons.mp hr with rfl | hr
    · exact fun e => h1 _ (.head _) e.symm
    · exact h2 r hr
  | trans _ _ i1 i2 => exact i2 (i1 nd)
theorem news_perm (p : n.Perm n') (N : News h₀ L h n) : News h₀ L h n' := fun y hy => N y (p.mem_iff.mpr hy)
end
end MineP
end
section
open PySem PySem.W PySem.Calls PyProof.Rows Mine
namespace MineP
abbrev Lg := List (Addr × Obj)
structure VP where
  P : Lg → Value → Prop
  mono : ∀ {N N' : Lg} {v : Value}, P N v → (∀ p ∈ N, p ∈ N') → P N' v
structure RP where
  P : Lg → Lg → Prop
  mono : ∀ {C N N' : Lg}, P C N → (∀ p ∈ N, p ∈ N') → P C N'
def IsVal (u : Value) : VP := ⟨fun _ v => v = u, fun h _ => h⟩
def IsInt (i : Int) : VP := ⟨fun _ v => ∃ t, v = .int i t, fun h _ => h⟩
def IsBytes (d : Array UInt8) : VP := ⟨fun _ v => ∃ t, v = .bytes d t, fun h _ => h⟩
def IsBool (b : Bool) : VP := IsVal (.bool b)
def IsNone : VP := IsVal .none
def RNil : RP := ⟨fun C _ => C = [], fun h _ => h⟩
structure LW where
  prog : Program
  w : World
  K : Frag
  D : Heap → Prop
structure FN where
  cn : Str
  cs : Scope
structure FC where
  dp : Nat
  un : Nat
  fa : Addr
  ccd : Value
  cl : List (Str × Addr)
  outer : List Env
  A₀ : Around
  base : Heap
  h₀ : Heap
  L : Addr
  p : Program
  loose : List Str
  mean : ExcName → Option Value
  mg : Str → Option Value
  mb : Str → Option Value
  s₀ : Shared
abbrev FC.A (c : FC) (F : FN) : Around := ktrTop c.dp c.un (some []) F.cn F.cs c.L c.fa c.ccd c.cl c.outer
abbrev FC.env (c : FC) (F : FN) : Env := envX F.cn F.cs c.L c.fa c.ccd c.cl
structure FC.Ok (X : LW) (c : FC) (F : FN) (a b : Nat) : Prop where
  D : X.D c.base
  B : Below c.A₀ c.base c.outer c.h₀
  X : X.K.In c.h₀
  T : Top c.p c.loose c.mean c.mg c.mb c.h₀
  hk : F.cs.kind = .function
  hd : c.dp + a < recursionLimit
  hu : c.un + b < cLine
theorem FC.Ok.le {X : LW} {c : FC} {F : FN} {a b a' b' : Nat} (h : c.Ok X F a b) (ea : Nat.ble a' a = true) (eb : Nat.ble b' b = true) : c.Ok X F a' b' :=
  ⟨h.D, h.B, h.X, h.T, h.hk, Nat.lt_of_le_of_lt (Nat.add_le_add_left (Nat.le_of_ble_eq_true ea) _) h.hd, Nat.lt_of_le_of_lt (Nat.add_le_add_left (Nat.le_of_ble_eq_true eb) _) h.hu⟩
abbrev VL := List (Str × VP)
abbrev TL := List (VP × Value)
def VOk (V : VL) (m : Str → Option Value) (N : Lg) : Prop := ∀ x P, V.lookup x = some P → ∃ v, m x = some v ∧ P.P N v
theorem VOk.mono {V : VL} {m : Str → Option Value} {N N' : Lg} (h : VOk V m N) (k : ∀ p ∈ N, p ∈ N') : VOk V m N' := fun x P e => by
  obtain ⟨v, q, r⟩ := h x P e
  exact ⟨v, q, P.mono r k⟩
def TOk (T : TL) (N : Lg) : Prop := ∀ z ∈ T, z.1.P N z.2
theorem TOk.mono {T : TL} {N N' : Lg} (h : TOk T N) (k : ∀ p ∈ N, p ∈ N') : TOk T N' := fun z hz => z.1.mono (h z hz) k
theorem TOk.cons {T : TL} {N : Lg} {P : VP} {v : Value} (p : P.P N v) (h : TOk T N) : TOk ((P, v) :: T) N := fun z hz => by
  rcases List.mem_cons.mp hz with rfl | hz
  · exact p
  · exact h z hz
theorem TOk.tail {T : TL} {N : Lg} {z : VP × Value} (h : TOk (z :: T) N) : TOk T N := fun y hy => h y (.tail _ hy)
theorem VOk.set {V : VL} {m : Str → Option Value} {N : Lg} {x : Str} {P : VP} {v : Value} (h : VOk V m N) (p : P.P N v) : VOk ((x, P) :: V) (fun y => if y = x then some v else m y) N := fun y P' e => by
  rw [List.lookup_cons] at e
  by_cases q : y = x
  · subst q
    rw [beq_self_eq_true] at e
    obtain rfl := Option.some.inj e
    exact ⟨v, if_pos rfl, p⟩
  · rw [beq_false_of_ne q] at e
    obtain ⟨u, e1, e2⟩ := h y P' e
    exact ⟨u, (if_neg q).trans e1, e2⟩
theorem VOk.nil {m : Str → Option Value} {N : Lg} : VOk [] m N := fun _ _ e => nomatch e
def St (c : FC) (V : VL) (T : TL) (R : RP) (s : Shared) : Prop :=
  ∃ h tk m C N, s = { c.s₀ with heap := h, toks := tk } ∧ Fr c.h₀ c.L h m ∧ VOk V m N ∧ TOk T N ∧ News c.h₀ c.L h (C ++ N) ∧ ND (C ++ N) ∧ R.P C N
theorem St.elim {c : FC} {V : VL} {T : TL} {R : RP} {s : Shared} {P : Shared → Prop} (st : St c V T R s)
    (k : ∀ h tk m C N, Fr c.h₀ c.L h m → VOk V m N → TOk T N → News c.h₀ c.L h (C ++ N) → ND (C ++ N) → R.P C N → P { c.s₀ with heap := h, toks := tk }) : P s := by
  obtain ⟨h, tk, m, C, N, rfl, F', hV, hT, hN, nd, r⟩ := st
  exact k h tk m C N F' hV hT hN nd r
theorem St.mk {c : FC} {V : VL} {T : TL} {R : RP} {h : Heap} {tk : Nat} {m : Str → Option Value} {C N : Lg} (F : Fr c.h₀ c.L h m) (hV : VOk V m N) (hT : TOk T N) (hN : News c.h₀ c.L h (C ++ N)) (nd : ND (C ++ N)) (r : R.P C N) : St c V T R { c.s₀ with heap := h, toks := tk } :=
  ⟨h, tk, m, C, N, rfl, F, hV, hT, hN, nd, r⟩
theorem St.drop {c : FC} {V : VL} {T : TL} {R : RP} {s : Shared} {z : VP × Value} (h : St c V (z :: T) R s) : St c V T R s := by
  apply h.elim; intro h tk m C N F hV hT hN nd r
  exact (St.mk (C := C) (N := N) F hV hT.tail hN nd r)
abbrev EC := Value → Shared → Prop
def EvE (X : LW) (F : FN) (c : FC) (ε : Env) (V : VL) (R : RP) (e : Expr) (P : VP) (R' : RP) : Prop :=
  ∀ (T : TL) (Q E : EC) (s : Shared), St c V T R s → (∀ v s', St c V ((P, v) :: T) R' s' → Q v s') → wpP true (model X.prog X.w) (c.A F) (eval e ε) Q E s
abbrev Ev (X : LW) (F : FN) (c : FC) (V : VL) (R : RP) (e : Expr) (P : VP) (R' : RP) : Prop := EvE X F c (c.env F) V R e P R'
def EvAE (X : LW) (F : FN) (c : FC) (ε : Env) (V : VL) (R : RP) (e : Expr) (P : VP) (R' : RP) : Prop :=
  ∀ (T : TL) (Q E : EC) (s : Shared), St c V T R s → (∀ v s', St c V ((P, v) :: T) R' s' → Q v s') → wpAny (model X.prog X.w) (c.A F) (eval e ε) Q E s
abbrev EvA (X : LW) (F : FN) (c : FC) (V : VL) (R : RP) (e : Expr) (P : VP) (R' : RP) : Prop := EvAE X F c (c.env F) V R e P R'
def ExsP (X : LW) (F : FN) (c : FC) (V : VL) (R : RP) (ss : List Stmt) (Po : TL → Value → Shared → Prop) : Prop :=
  ∀ (T : TL) (Q : Flow → Shared → Prop) (E : EC) (s : Shared), St c V T R s → (∀ v s', Po T v s' → Q (.ret v) s') → wpP true (model X.prog X.w) (c.A F) (execs ss (c.env F)) Q E s
def RunP (X : LW) (F : FN) (c : FC) (V : VL) (R : RP) (ss : List Stmt) (Po : TL → Value → Shared → Prop) : Prop :=
  ∀ (T : TL) (Q : Flow → Shared → Prop) (E : EC) (s : Shared), St c V T R s → (∀ v s', Po T v s' → Q (.ret v) s') → (∀ s', Po T .none s' → Q .next s') → wpP true (model X.prog X.w) (c.A F) (execs ss (c.env F)) Q E s
theorem ExsP.run {X : LW} {F : FN} {c : FC} {V : VL} {R : RP} {ss : List Stmt} {Po : TL → Value → Shared → Prop} (h : ExsP X F c V R ss Po) : RunP X F c V R ss Po := fun T Q E s st k _ => h T Q E s st k
abbrev Exs (X : LW) (F : FN) (c : FC) (V : VL) (R : RP) (ss : List Stmt) (P : VP) (R' : RP) : Prop := ExsP X F c V R ss fun T v s' => St c [] ((P, v) :: T) R' s'
def Con (X : LW) (f : Addr) (Ps : List VP) (R : RP) (P : VP) (R' : RP) (a b : Nat) : Prop :=
  ∀ (F : FN) (c : FC) (V : VL) (T : TL) (Q E : EC) (vs : List Value) (s : Shared), c.Ok X F a b → St c V (Ps.zip vs ++ T) R s → vs.length = Ps.length → (∀ v s', St c V ((P, v) :: T) R' s' → Q v s') →
    codeP true (model X.prog X.w) (c.A F) (.call (.ref f) ⟨vs, []⟩) (wantsR Q E) s
def ConXA {β : Type} (X : LW) (f : Addr) (mk : List Value → Args) (Ps : List VP) (R : RP) (P : β → VP) (R' : β → RP) (a b : Nat) : Prop :=
  ∀ (F : FN) (c : FC) (V : VL) (T : TL) (Q E : EC) (vs : List Value) (s : Shared), c.Ok X F a b → St c V (Ps.zip vs ++ T) R s → vs.length = Ps.length → (∀ y v s', St c V ((P y, v) :: T) (R' y) s' → Q v s') →
    codeP true (model X.prog X.w) (c.A F) (.call (.ref f) (mk vs)) (wantsR Q E) s
abbrev ConX {β : Type} (X : LW) (f : Addr) (Ps : List VP) (R : RP) (P : β → VP) (R' : β → RP) (a b : Nat) : Prop := ConXA X f (fun vs => ⟨vs, []⟩) Ps R P R' a b
theorem ConX.con {X : LW} {f : Addr} {Ps : List VP} {R R' : RP} {P : VP} {a b : Nat} (h : ConX (β := Unit) X f Ps R (fun _ => P) (fun _ => R') a b) : Con X f Ps R P R' a b :=
  fun F c V T Q E vs s C st hl k => h F c V T Q E vs s C st hl fun _ => k
def ConP (X : LW) (f : Addr) (Ps : List VP) (R : RP) (P : VP) (R' : RP) (a b : Nat) : Prop :=
  ∀ (F : FN) (c : FC) (V : VL) (T : TL) (Q E : EC) (vs : List Value) (s : Shared), c.Ok X F a b → St c V (Ps.zip vs ++ T) R s → vs.length = Ps.length → (∀ v s', St c V ((P, v) :: T) R' s' → Q v s') →
    wpP true (model X.prog X.w) (c.A F) (call (.ref f) vs) Q E s
theorem Con.p {X : LW} {f : Addr} {Ps : List VP} {R R' : RP} {P : VP} {a b : Nat} (h : Con X f Ps R P R' a b) : ConP X f Ps R P R' a b :=
  fun F c V T Q E vs s C st hl k => p_callR (h F c V T Q E vs s C st hl k)
section
variable {X : LW} {F : FN} {c : FC} {ε : Env} {V : VL} {R R1 R2 R' : RP} {e e1 e2 : Expr} {P P1 P2 : VP} {Po : TL → Value → Shared → Prop} {x : Str} {pos pos' : Pos} {a b : Nat}
theorem EvAE.ev (h : EvAE X F c ε V R e P R') : EvE X F c ε V R e P R' := fun T Q E s st k => p_any (h T Q E s st k)
theorem ev_name (C : c.Ok X F a b) (hv : V.lookup x = some P) (hx : (c.env F).kindOf x = some .local := by rfl) (hd : (x == ("__debug__" : Str)) = false := by decide) : EvA X F c V R (.Name x pos) P R := by
  intro T Q E s st k
  apply st.elim; intro h tk m Ck N Fr' hV hT hN nd r
  obtain ⟨v, hm, hp⟩ := hV x P hv
  exact nameX_L Fr' hm (k v _ (St.mk (C := Ck) (N := N) Fr' hV (hT.cons hp) hN nd r)) C.hk hx hd
theorem ev_int {i : Int} {k : Nat} : EvAE X F c ε V R (.Constant (.int i) k pos) (IsInt i) R := by
  intro T Q E s st k
  apply st.elim; intro h tk m Ck N Fr' hV hT hN nd r
  refine wpAny_Constant_int ?_
  exact k _ _ (St.mk (C := Ck) (N := N) Fr' hV (hT.cons ⟨_, rfl⟩) hN nd r)
theorem exs_assign {e : Expr} {rest : List Stmt} (C : c.Ok X F a b) (h : Ev X F c V R e P R1) (k : ExsP X F c ((x, P) :: V) R1 rest Po)
    (hx : (c.env F).kindOf x = some .local := by rfl) (hs : swapsWith e (some (.Name x pos')) pos.line (c.env F) = pure false := by rfl) :
    ExsP X F c V R (.Assign [.Name x pos'] e pos :: rest) Po := by
  intro T Q E s st kQ
  refine p_execs (p_assign (h T _ E s st fun v s' st' => ?_) hs)
  apply st'.elim; intro h tk m Ck N Fr' hV hT hN nd r
  refine p_any (storeX_L Fr' hN (fun h' F' N' => ?_) C.hk hx)
  exact k T Q E _ (St.mk (C := Ck) (N := N) F' (hV.set (hT _ (.head _))) hT.tail N' nd r) kQ
theorem exs_ret {rest : List Stmt} (h : Ev X F c V R e P R') : Exs X F c V R (.Return (some e) pos :: rest) P R' := by
  intro T Q E s st kQ
  refine p_execs (p_ret (h T _ E s st fun v s' st' => ?_))
  apply st'.elim; intro h tk m Ck N Fr' hV hT hN nd r
  exact kQ v _ (St.mk (C := Ck) (N := N) Fr' .nil hT hN nd r)
end
def keepVP (V : VL) (m : Str → Option Value) (T : TL) : VP := ⟨fun N _ => VOk V m N ∧ TOk T N, fun h k => ⟨h.1.mono k, h.2.mono k⟩⟩
abbrev FC.into (c : FC) (F : FN) (f : Addr) (cdv : Value) (gd : Heap) (L' : Addr) : FC :=
  { c with dp := c.dp + 1, un := c.un + 3, fa := f, ccd := cdv, cl := [], outer := c.env F :: c.outer, A₀ := c.A F, h₀ := gd, L := L' }
theorem zip_ok : ∀ {ns : List Str} {Ps : List VP} {vs : List Value} {N : Lg}, vs.length = Ps.length → TOk (Ps.zip vs) N → VOk (ns.zip Ps) (fun y => (ns.zip vs).lookup y) N
  | [], _, _, _, _, _ => fun x P e => by simp at e
  | n :: ns, [], [], _, _, _ => fun x P e => by simp at e
  | n :: ns, P :: Ps, v :: vs, N, hl, hT => fun x P' e => by
    rw [List.zip_cons_cons, List.lookup_cons] at e
    show ∃ u, ((n :: ns).zip (v :: vs)).lookup x = some u ∧ _
    rw [List.zip_cons_cons, List.lookup_cons]
    by_cases q : x = n
    · subst q
      rw [beq_self_eq_true] at e ⊢
      obtain rfl := Option.some.inj e
      exact ⟨v, rfl, hT _ (.head _)⟩
    · rw [beq_false_of_ne q] at e ⊢
      exact zip_ok (Nat.succ.inj hl) (fun z hz => hT z (.tail _ hz)) x P' e
theorem one_of {α : Type} : ∀ {l : List α}, l.length = 1 → ∃ a, l = [a]
  | [a], _ => ⟨a, rfl⟩
theorem two_of {α : Type} : ∀ {l : List α}, l.length = 2 → ∃ a b, l = [a, b]
  | [a, b], _ => ⟨a, b, rfl⟩
theorem three_of {α : Type} : ∀ {l : List α}, l.length = 3 → ∃ a b c, l = [a, b, c]
  | [a, b, c], _ => ⟨a, b, c, rfl⟩
theorem con_defX {β : Type} {X : LW} {f : Addr} {name qual : Str} {params : Arguments} {body : List Stmt} {scope : Scope} {Ps : List VP} {V0 : VL} {P : β → VP} {R : RP} {R' : β → RP} {a b : Nat} {binds : List Value → List (Str × Value)} {mk : List Value → Args}
    (hf : ∃ oc od osl dV kV doc pm an cdv ct, X.K.lookup f = some ⟨oc, od, .func (fnOf name qual params body scope dV kV doc pm an cdv ct), osl⟩ ∧ codeIn X.K cdv qual = true ∧
      ∀ vs, vs.length = Ps.length → ∀ s : Shared, X.K.In s.heap → BindsTo s (fnOf name qual params body scope dV kV doc pm an cdv ct) (mk vs) (binds vs))
    (hl : ∀ vs, vs.length = Ps.length → ∀ y ∈ binds vs, scope.names.lookup y.1 = some .local)
    (hV : ∀ vs N, vs.length = Ps.length → TOk (Ps.zip vs) N → VOk V0 (fun y => (binds vs).reverse.lookup y) N)
    (hbody : ∀ c : FC, c.cl = [] → c.Ok X ⟨qual, scope⟩ a b → RunP X ⟨qual, scope⟩ c V0 R body fun T v s' => ∃ y, St c [] ((P y, v) :: T) (R' y) s')
    (hco : scope.isCoroutine = false := by rfl) (hgen : scope.isGenerator = false := by rfl) (hk : scope.kind = .function := by rfl) (hcell : ∀ x ∈ scope.names, x.2 ≠ .cell := by decide) :
    ConXA X f mk Ps R P R' (a + 1) (b + 10) := by
  intro F c V T Q E vs s C st hlen k
  apply st.elim; intro h tk m Ck N Fr' hVk hT hN nd r
  obtain ⟨oc, od, osl, dV, kV, doc, pm, an, cdv, ct, ho, hcd, hb⟩ := hf
  have hT1 : TOk (Ps.zip vs) N := fun z hz => hT z (List.mem_append_left _ hz)
  have hT2 : TOk T N := fun z hz => hT z (List.mem_append_right _ hz)
  have hd := C.hd
  have hu := C.hu
  refine p_def C.B Fr' C.X hN C.T rfl rfl C.hk ho hcd (by show c.dp < _; omega) (hb vs hlen _ (C.X.keeps Fr'.keep)) (hl vs hlen) (fun gd L' h₁ FG F' N' B' X' T' => ?_) hco hgen hk hcell
  have C' : (FC.into c F f cdv gd L').Ok X ⟨qual, scope⟩ a b := ⟨C.D, B', X', T', hk, by show c.dp + 1 + a < _; omega, by show c.un + 3 + b < _; omega⟩
  have eA : (c.A F).deeper (envOf qual scope L' f cdv) = (FC.into c F f cdv gd L').A ⟨qual, scope⟩ := rfl
  have eE : envOf qual scope L' f cdv = (FC.into c F f cdv gd L').env ⟨qual, scope⟩ := rfl
  rw [eA, eE]
  have go : ∀ v s', (∃ y, St (FC.into c F f cdv gd L') [] ((P y, v) :: [(keepVP V m T, .none)]) (R' y) s') → LeaveK c.h₀ c.L m gd (wantsR Q E) v s' := fun v s' ⟨y, st'⟩ => by
    apply st'.elim; intro h' tk' m' Ck' N2 F2 _ hT' hN2 nd2 r2
    refine leaveK_ F2 hN2 (fun kF kN => ?_)
    have hk2 := hT' (keepVP V m T, .none) (.tail _ (.head _))
    exact k y v _ (St.mk (C := Ck') (N := N2) kF hk2.1 (TOk.cons (hT' _ (.head _)) hk2.2) kN nd2 r2)
  exact hbody (FC.into c F f cdv gd L') rfl C' [(keepVP V m T, .none)] _ _ _ (St.mk (C := Ck) (N := N) F' (hV vs N hlen hT1) (TOk.cons ⟨hVk, hT2⟩ (fun z hz => nomatch hz)) N' nd r) go (go .none)
theorem con_def {X : LW} {f : Addr} {name qual : Str} {params : Arguments} {body : List Stmt} {scope : Scope} {Ps : List VP} {V0 : VL} {P : VP} {R R' : RP} {a b : Nat} {binds : List Value → List (Str × Value)}
    (hf : ∃ oc od osl dV kV doc pm an cdv ct, X.K.lookup f = some ⟨oc, od, .func (fnOf name qual params body scope dV kV doc pm an cdv ct), osl⟩ ∧ codeIn X.K cdv qual = true ∧
      ∀ vs, vs.length = Ps.length → ∀ s : Shared, X.K.In s.heap → BindsTo s (fnOf name qual params body scope dV kV doc pm an cdv ct) ⟨vs, []⟩ (binds vs))
    (hl : ∀ vs, vs.length = Ps.length → ∀ y ∈ binds vs, scope.names.lookup y.1 = some .local)
    (hV : ∀ vs N, vs.length = Ps.length → TOk (Ps.zip vs) N → VOk V0 (fun y => (binds vs).reverse.lookup y) N)
    (hbody : ∀ c : FC, c.cl = [] → c.Ok X ⟨qual, scope⟩ a b → Exs X ⟨qual, scope⟩ c V0 R body P R')
    (hco : scope.isCoroutine = false := by rfl) (hgen : scope.isGenerator = false := by rfl) (hk : scope.kind = .function := by rfl) (hcell : ∀ x ∈ scope.names, x.2 ≠ .cell := by decide) :
    Con X f Ps R P R' (a + 1) (b + 10) :=
  ConX.con (con_defX (β := Unit) (P := fun _ => P) (R' := fun _ => R') (mk := fun vs => ⟨vs, []⟩) hf hl hV (fun c hcl C T Q E s st k _ => hbody c hcl C T Q E s st fun v s' st' => k v s' ⟨(), st'⟩) hco hgen hk hcell)
def IsETup : VP := ⟨fun N v => ∃ T, v = .ref T ∧ (T, ({ cls := .type "tuple", data := .seq #[] } : Obj)) ∈ N, fun ⟨T, e, h⟩ k => ⟨T, e, k _ h⟩⟩
def IsEDict : VP := ⟨fun N v => ∃ D, v = .ref D ∧ (D, dictOf [] 0) ∈ N ∧ (D == sysModules) = false, fun ⟨D, e, h, q⟩ k => ⟨D, e, k _ h, q⟩⟩
theorem perm2 {a b : Addr × Obj} {C N : Lg} : (a :: b :: (C ++ N)).Perm (C ++ (a :: b :: N)) := by
  refine List.Perm.trans ?_ List.perm_middle.symm
  exact List.Perm.cons _ List.perm_middle.symm
end MineP
end
section
open PySem PySem.W PySem.Calls PyProof.Rows Mine
namespace MineP
theorem St.tsub {c : FC} {V : VL} {T T' : TL} {R : RP} {s : Shared} (h : St c V T R s) (k : ∀ z ∈ T', z ∈ T) : St c V T' R s := by
  apply h.elim; intro h tk m C N F hV hT hN nd r
  exact (St.mk (C := C) (N := N) F hV (fun z hz => hT z (k z hz)) hN nd r)
theorem St.inK {X : LW} {F : FN} {c : FC} {V : VL} {T : TL} {R : RP} {s : Shared} {a b : Nat} (C : c.Ok X F a b) (h : St c V T R s) : X.K.In s.heap := by
  apply h.elim; intro h tk m Ck N F' hV hT hN nd r
  exact C.X.keeps F'.keep
def EvsE (X : LW) (F : FN) (c : FC) (ε : Env) (V : VL) (R : RP) (es : List Expr) (Ps : List VP) (R' : RP) : Prop :=
  ∀ (T : TL) (Q : List Value → Shared → Prop) (E : EC) (s : Shared), St c V T R s → (∀ vs s', vs.length = Ps.length → St c V (Ps.zip vs ++ T) R' s' → Q vs s') → wpP true (model X.prog X.w) (c.A F) (spliced (es.map fun e => (false, eval e ε))) Q E s
def Gm (X : LW) (R : RP) (Po : VP) (name : Str) (f : Addr) : Prop :=
  ∀ (F : FN) (c : FC) (V : VL) (T : TL) (Q : Value × List Value → Shared → Prop) (E : EC) (s : Shared) (v : Value) (pl : Sem Bool) (a b : Nat), c.Ok X F a b → St c V ((Po, v) :: T) R s → Q (.ref f, [v]) s → wpAny (model X.prog X.w) (c.A F) (getMethod v name pl) Q E s
def IsStr (x : Str) : VP := ⟨fun _ v => ∃ t, v = .str x t, fun h _ => h⟩
def Gb (X : LW) (Po : VP) (name : Str) (id : String) : Prop :=
  ∀ (A : Around) (Q : Value × List Value → Shared → Prop) (E : EC) (s : Shared) (v : Value) (pl : Sem Bool) (N : Lg), Po.P N v → Q (.builtin id, [v]) s → wpAny (model X.prog X.w) A (getMethod v name pl) Q E s
def BCon (X : LW) (id : String) (Ps : List VP) (P : VP) : Prop :=
  ∀ (A : Around) (Q E : EC) (s : Shared) (vs : List Value) (N : Lg), vs.length = Ps.length → TOk (Ps.zip vs) N → (∀ v k, (∀ N, P.P N v) → Q v { s with toks := k }) → wpAny (model X.prog X.w) A (call (.builtin id) vs) Q E s
def Ga (X : LW) (Po : VP) (name : Str) (P : VP) : Prop :=
  ∀ (F : FN) (c : FC) (V : VL) (T : TL) (R : RP) (Q E : EC) (s : Shared) (v : Value) (a b : Nat), c.Ok X F a b → St c V ((Po, v) :: T) R s → (∀ u s', St c V ((P, u) :: T) R s' → Q u s') → wpAny (model X.prog X.w) (c.A F) (getAttr v name true) Q E s
section
variable {X : LW} {F : FN} {c : FC} {ε : Env} {V : VL} {R R1 R2 R' : RP} {e e1 e2 o : Expr} {es : List Expr} {P P1 P2 Po : VP} {Ps : List VP} {x name : Str} {pos pos' apos : Pos} {a b a' b' : Nat} {f : Addr}
theorem evs_nil : EvsE X F c ε V R [] [] R := fun T Q E s st k => by
  show wpP _ _ _ (spliced []) _ _ _
  rw [spliced]
  exact p_pure (k [] s rfl st)
theorem evs_cons (h : EvE X F c ε V R e P R1) (k : EvsE X F c ε V R1 es Ps R') : EvsE X F c ε V R (e :: es) (P :: Ps) R' := fun T Q E s st kQ => by
  show wpP _ _ _ (spliced ((false, eval e ε) :: es.map fun e => (false, eval e ε))) _ _ _
  rw [spliced]
  refine p_bind (h T _ E s st fun v s1 st1 => ?_)
  refine p_bind (p_pure ?_)
  refine p_bind (p_holding ?_)
  refine k ((P, v) :: T) _ E s1 st1 fun vs s2 hl st2 => ?_
  refine p_pure (kQ (v :: vs) s2 (by simp [hl]) (st2.tsub fun z hz => ?_))
  rw [List.zip_cons_cons] at hz
  rcases List.mem_cons.mp hz with rfl | hz
  · exact List.mem_append_right _ (.head _)
  · rcases List.mem_append.mp hz with hz | hz
    · exact List.mem_append_left _ hz
    · exact List.mem_append_right _ (.tail _ hz)
theorem p_evalArgs {g : Bool} {M : Model} {A : Around} {E : EC} {s : Shared} {f : Value} {xs : List (Sem Value)} {Q : Args → Shared → Prop}
    (h : wpP g M A (spliced (xs.map fun x => (false, x))) (fun vs s' => Q ⟨vs, []⟩ s') E s) : wpP g M A (evalArgs f true (xs.map fun x => (false, x)) []) Q E s := by
  have fin : ∀ ys : List (Bool × Sem Value), evalArgs f true ys [] = (spliced ys >>= fun vs => holding (vs ++ []) (do pure ⟨vs, []⟩)) → wpP g M A (spliced ys) (fun vs s' => Q ⟨vs, []⟩ s') E s → wpP g M A (evalArgs f true ys []) Q E s := fun ys e h => by
    rw [e]
    exact p_bind (p_mono h (fun vs s' h' => p_holding (p_pure h')) fun _ _ x => x)
  rcases xs with _ | ⟨x, _ | ⟨y, r⟩⟩
  · unfold evalArgs
    show wpP g M A (spliced [] >>= _) Q E s
    refine p_bind (p_mono h (fun vs s' h' => ?_) fun _ _ x => x)
    refine p_holding ?_
    exact p_bind (p_pure (p_bind (p_pure (p_pure h'))))
  · exact p_evalArgs1 h
  · unfold evalArgs
    show wpP g M A (spliced _ >>= _) Q E s
    refine p_bind (p_mono h (fun vs s' h' => ?_) fun _ _ x => x)
    refine p_holding ?_
    exact p_bind (p_pure (p_bind (p_pure (p_pure h'))))
theorem call_con {v : List Value} {P0 : List VP} (C : c.Ok X F a b) (hk : keepIn X.K (.ref f) = true) (hl : v.length = P0.length) (ha : EvsE X F c ε V R es Ps R1) (hc : ConP X f (P0 ++ Ps) R1 P R' a' b') (ea : Nat.ble a' a = true) (eb : Nat.ble b' b = true)
    {T : TL} {Q E : EC} {s : Shared} (st : St c V (P0.zip v ++ T) R s) (k : ∀ v s', St c V ((P, v) :: T) R' s' → Q v s')
    (he : backTo pos (starEach es ε) = es.map fun e => (false, eval e ε)) :
    wpP true (model X.prog X.w) (c.A F) (callWith pos (.ref f) v (backTo pos (starEach es ε)) []) Q E s := by
  rw [he]
  refine p_callWith (keeps_K hk) ?_
  have e2 : (es.map fun e => (false, eval e ε)) = (es.map fun e => eval e ε).map fun x => (false, x) := by rw [List.map_map]; rfl
  rw [e2]
  refine p_evalArgs ?_
  rw [← e2]
  refine ha _ _ E s st fun vs s' hl' st' => ⟨st'.inK C, ?_⟩
  refine hc F c V T Q E (v ++ vs) s' (C.le ea eb) (st'.tsub fun z hz => ?_) (by simp [hl, hl']) k
  rw [List.zip_append hl.symm] at hz
  rcases List.mem_append.mp hz with hz | hz
  · rcases List.mem_append.mp hz with hz | hz
    · exact List.mem_append_right _ (List.mem_append_left _ hz)
    · exact List.mem_append_left _ hz
  · exact List.mem_append_right _ (List.mem_append_right _ hz)
theorem ev_call (C : c.Ok X F a b) (hg : EvAE X F c ε V R o (IsVal (.ref f)) R) (hk : keepIn X.K (.ref f) = true) (ha : EvsE X F c ε V R es Ps R1) (hc : ConP X f Ps R1 P R' a' b') (ea : Nat.ble a' a = true) (eb : Nat.ble b' b = true)
    (he : backTo pos (starEach es ε) = es.map fun e => (false, eval e ε) := by rfl)
    (he' : eval (.Call o es [] pos) ε = (do callWith pos (← eval o ε) [] (backTo pos (starEach es ε)) (backToKw pos (keywordEach [] ε))) := by rfl) : EvE X F c ε V R (.Call o es [] pos) P R' := by
  intro T Q E s st k
  refine p_fn (hg T _ E s st fun v s1 st1 => ?_) he'
  have hv : v = .ref f := by
    apply st1.elim; intro h tk m Ck N F' hV hT hN nd r
    exact hT _ (.head _)
  subst hv
  exact call_con (P0 := []) (v := []) C hk rfl ha hc ea eb st1.drop k he
theorem ev_meth (C : c.Ok X F a b) (ho : EvAE X F c ε V R o Po R) (hm : Gm X R Po name f) (hk : keepIn X.K (.ref f) = true) (ha : EvsE X F c ε V R es Ps R1) (hc : ConP X f (Po :: Ps) R1 P R' a' b') (ea : Nat.ble a' a = true) (eb : Nat.ble b' b = true)
    (he : backTo pos (starEach es ε) = es.map fun e => (false, eval e ε) := by rfl)
    {pl : Sem Bool} (he' : eval (.Call (.Attribute o name apos) es [] pos) ε = (do
      let ov ← eval o ε
      standAt apos.atName
      let (f, first) ← holding [ov] (getMethod ov name pl)
      callWith pos f first (backTo pos (starEach es ε)) []) := by rfl) : EvE X F c ε V R (.Call (.Attribute o name apos) es [] pos) P R' := by
  intro T Q E s st k
  refine p_meth (pl := pl) (ho T _ E s st fun v s1 st1 => ?_) he'
  refine hm F c V T _ E s1 v pl a b C st1 ?_
  exact call_con (P0 := [Po]) (v := [v]) C hk rfl ha hc ea eb st1 k he
theorem ev_attr (C : c.Ok X F a b) (ho : EvAE X F c ε V R o Po R) (hg : Ga X Po name P)
    (he : eval (.Attribute o name apos) ε = (do
      let ov ← eval o ε
      standAt apos.atName
      let r ← holding [ov] (getAttr ov name true)
      letTemporaryGo o ov r
      pure r) := by with_unfolding_all rfl) : EvAE X F c ε V R (.Attribute o name apos) P R := by
  intro T Q E s st k
  refine Attribute_any_ ?_ he
  exact ho T _ E s st fun v s1 st1 => hg F c V T R Q E s1 v a b C st1 k
theorem ev_str {y : Str} {k : Nat} : EvAE X F c ε V R (.Constant (.str y) k pos) (IsStr y) R := by
  intro T Q E s st k
  apply st.elim; intro h tk m Ck N Fr' hV hT hN nd r
  refine Constant_str ?_
  exact k _ _ (St.mk (C := Ck) (N := N) Fr' hV (hT.cons ⟨_, rfl⟩) hN nd r)
theorem ev_methB {id : String} (ho : EvAE X F c ε V R o Po R) (hm : Gb X Po name id) (ha : EvsE X F c ε V R es Ps R1) (hc : BCon X id (Po :: Ps) P)
    (he : backTo pos (starEach es ε) = es.map fun e => (false, eval e ε) := by rfl)
    {pl : Sem Bool} (he' : eval (.Call (.Attribute o name apos) es [] pos) ε = (do
      let ov ← eval o ε
      standAt apos.atName
      let (f, first) ← holding [ov] (getMethod ov name pl)
      callWith pos f first (backTo pos (starEach es ε)) []) := by rfl) : EvE X F c ε V R (.Call (.Attribute o name apos) es [] pos) P R1 := by
  intro T Q E s st k
  refine p_meth (pl := pl) (ho T _ E s st fun v s1 st1 => ?_) he'
  obtain ⟨N0, hv⟩ : ∃ N0, Po.P N0 v := by
    apply st1.elim; intro h tk m Ck N F' hV hT hN nd r
    exact ⟨N, hT _ (.head _)⟩
  refine hm _ _ E s1 v pl N0 hv ?_
  show wpP _ _ _ (callWith pos (.builtin id) [v] (backTo pos (starEach es ε)) []) _ _ _
  rw [he]
  refine p_callWith (P := fun _ => True) (fun h _ => ⟨.machine, .inr (.inl rfl), Looks.of_pure rfl⟩) ?_
  have e2 : (es.map fun e => (false, eval e ε)) = (es.map fun e => eval e ε).map fun x => (false, x) := by rw [List.map_map]; rfl
  rw [e2]
  refine p_evalArgs ?_
  rw [← e2]
  refine ha _ _ E s1 st1 fun vs s' hl' st' => ⟨trivial, ?_⟩
  apply st'.elim; intro h tk m Ck N F' hV hT hN nd r
  refine p_any (hc _ Q E _ (v :: vs) N (by simp [hl']) (fun z hz => ?_) (fun u k' hu => k u _ (St.mk (C := Ck) (N := N) F' hV (TOk.cons (hu N) (fun z hz => hT z (List.mem_append_right _ (.tail _ hz)))) hN nd r)))
  rw [List.zip_cons_cons] at hz
  rcases List.mem_cons.mp hz with rfl | hz
  · exact hT _ (List.mem_append_right _ (.head _))
  · exact hT z (List.mem_append_left _ hz)
theorem exs_augInt {Pst : TL → Value → Shared → Prop} {i j : Int} {rest : List Stmt} (C : c.Ok X F a b) (hv : V.lookup x = some (IsInt i)) (h : Ev X F c V R e (IsInt j) R1) (k : ExsP X F c ((x, IsInt (i + j)) :: V) R1 rest Pst)
    (hx : (c.env F).kindOf x = some .local := by rfl) : ExsP X F c V R (.AugAssign (.Name x pos') .Add e pos :: rest) Pst := by
  intro T Q E s st kQ
  refine p_execs (p_aug ?_)
  apply st.elim; intro h1 tk m Ck N Fr' hV hT hN nd r
  obtain ⟨v, hm, hp⟩ := hV x _ hv
  refine p_any (wpAny_loadName_local C.hk hx Fr'.ns hm ?_)
  refine h ((IsInt i, v) :: T) _ E _ (St.mk (C := Ck) (N := N) Fr' hV (hT.cons hp) hN nd r) fun u s' st' => ?_
  apply st'.elim; intro h2 tk2 m2 Ck2 N2 F2 hV2 hT2 hN2 nd2 r2
  obtain ⟨t1, rfl⟩ := hT2 (IsInt j, u) (.head _)
  obtain ⟨t2, rfl⟩ := hT2 (IsInt i, v) (.tail _ (.head _))
  refine p_any (AutoIntOps.iadd_0 ?_)
  show wpP _ _ _ _ _ _ _
  refine p_any (storeX_L F2 hN2 (fun h' F' N' => ?_) C.hk hx)
  exact k T Q E _ (St.mk (C := Ck2) (N := N2) F' (hV2.set ⟨_, rfl⟩) hT2.tail.tail N' nd2 r2) kQ
theorem ev_glob {v : Value} (C : c.Ok X F a b) (hg : nsIn X.K mainGlobals x = some (some v)) (hx : (c.env F).kindOf x = some .globalImplicit := by rfl) (hd : (x == ("__debug__" : Str)) = false := by decide) : EvA X F c V R (.Name x pos) (IsVal v) R := by
  intro T Q E s st k
  apply st.elim; intro h tk m Ck N Fr' hV hT hN nd r
  exact nameX_K Fr' C.X (topRead_of C.T) hg (k v _ (St.mk (C := Ck) (N := N) Fr' hV (hT.cons rfl) hN nd r)) C.hk hx hd
theorem gm_inst {Cl : Addr} (hg : plainGet X.K Cl name = true) (hf : findIn X.K (.ref Cl) name = some (some (.ref f))) (ht : isFn X.K (.ref f) = true)
    (hI : ∀ N v, Po.P N v → ∃ x dx es n, v = .ref x ∧ (x, instObj Cl dx) ∈ N ∧ (dx, dictOf es n) ∈ N ∧ getL name es = some none) : Gm X R Po name f := by
  intro F c V T Q E s v pl a b C st
  apply st.elim; intro h tk m Ck N F' hV hT hN nd r k
  obtain ⟨x, dx, es, n, rfl, h1, h2, h3⟩ := hI N v (hT _ (.head _))
  exact method_inst F' C.X (InstAt.of_news hN (List.mem_append_right _ h1) (List.mem_append_right _ h2)) hg hf ht h3 k
theorem ga_own {Cl : Addr} {attr : Option Value} (hg : plainGet X.K Cl name = true) (hh : hasDictIn X.K Cl = true) (ha : findIn X.K (.ref Cl) name = some attr) (hn : noGet X.K attr = true)
    (hI : ∀ N v, Po.P N v → ∃ x dx es n u, v = .ref x ∧ (x, instObj Cl dx) ∈ N ∧ (dx, dictOf es n) ∈ N ∧ getL name es = some (some u) ∧ handedIn u = true ∧ P.P N u) : Ga X Po name P := by
  intro F c V T R Q E s v a b C st k
  apply st.elim; intro h tk m Ck N F' hV hT hN nd r
  obtain ⟨x, dx, es, n, u, rfl, h1, h2, h3, h4, h5⟩ := hI N v (hT _ (.head _))
  exact get_own F' C.X (InstAt.of_news hN (List.mem_append_right _ h1) (List.mem_append_right _ h2)) hg hh ha hn h3 h4 (k u _ (St.mk (C := Ck) (N := N) F' hV ((hT.tail).cons h5) hN nd r))
end
theorem rev_zip {α β : Type} : ∀ {l : List α} {m : List β}, l.length = m.length → (l.zip m).reverse = l.reverse.zip m.reverse
  | [], [], _ => rfl
  | a :: l, b :: m, h => by
    have h' : l.length = m.length := Nat.succ.inj h
    rw [List.zip_cons_cons, List.reverse_cons, rev_zip h', List.reverse_cons, List.reverse_cons, List.zip_append (by simp [h'])]
    rfl
theorem zip_okR {ns : List Str} {Ps : List VP} {vs : List Value} {N : Lg} (hn : ns.length = Ps.length) (hl : vs.length = Ps.length) (hT : TOk (Ps.zip vs) N) : VOk (ns.zip Ps).reverse (fun y => (ns.zip vs).reverse.lookup y) N := by
  rw [rev_zip hn, rev_zip (hn.trans hl.symm)]
  refine zip_ok (by simp [hl]) (fun z hz => hT z ?_)
  rw [← rev_zip hl.symm] at hz
  exact List.mem_reverse.mp hz
theorem con_fun {X : LW} {f : Addr} {name qual : Str} {params : Arguments} {body : List Stmt} {scope : Scope} {ns : List Str} {Ps : List VP} {P : VP} {R R' : RP} {a b : Nat} (hn : ns.length = Ps.length)
    (hf : ∃ oc od osl dV kV doc pm an cdv ct, X.K.lookup f = some ⟨oc, od, .func (fnOf name qual params body scope dV kV doc pm an cdv ct), osl⟩ ∧ codeIn X.K cdv qual = true ∧
      ∀ vs, vs.length = Ps.length → ∀ s : Shared, X.K.In s.heap → BindsTo s (fnOf name qual params body scope dV kV doc pm an cdv ct) ⟨vs, []⟩ (ns.zip vs))
    (hl : (ns.all fun x => decide (scope.names.lookup x = some .local)) = true)
    (hbody : ∀ c : FC, c.cl = [] → c.Ok X ⟨qual, scope⟩ a b → Exs X ⟨qual, scope⟩ c (ns.zip Ps).reverse R body P R')
    (hco : scope.isCoroutine = false := by rfl) (hgen : scope.isGenerator = false := by rfl) (hk : scope.kind = .function := by rfl) (hcell : ∀ x ∈ scope.names, x.2 ≠ .cell := by decide) :
    Con X f Ps R P R' (a + 1) (b + 10) :=
  con_def (binds := fun vs => ns.zip vs) hf (fun vs _ y hy => of_decide_eq_true (List.all_eq_true.mp hl y.1 (List.of_mem_zip hy).1)) (fun vs N e hT => zip_okR hn e hT) hbody hco hgen hk hcell
end MineP
end
section
open PySem PySem.W PySem.Calls PyProof.Rows Mine
namespace MineP
def ConB (X : LW) (id : String) (Ps : List VP) (R : RP) (P : VP) (R' : RP) : Prop :=
  ∀ (F : FN) (c : FC) (V : VL) (T : TL) (Q E : EC) (vs : List Value) (s : Shared), X.K.In c.h₀ → St c V (Ps.zip vs ++ T) R s → vs.length = Ps.length → (∀ v s', St c V ((P, v) :: T) R' s' → Q v s') →
    wpAny (model X.prog X.w) (c.A F) (call (.builtin id) vs) Q E s
theorem BCon.c {X : LW} {id : String} {Ps : List VP} {P : VP} {R : RP} (h : BCon X id Ps P) : ConB X id Ps R P R := fun F c V T Q E vs s X st hl k => by
  apply st.elim; intro h1 tk m Ck N F' hV hT hN nd r
  exact h _ Q E _ vs N hl (fun z hz => hT z (List.mem_append_left _ hz)) fun u k' hu => k u _ (St.mk (C := Ck) (N := N) F' hV (TOk.cons (hu N) (fun z hz => hT z (List.mem_append_right _ hz))) hN nd r)
def IsListOf {α : Type} (Pa : α → VP) (as : List α) : VP :=
  ⟨fun N v => ∃ l n vs, v = .ref l ∧ (l, listOf (List.toArray vs) n) ∈ N ∧ vs.length = as.length ∧ ∀ (i : Nat) (a : α), as[i]? = some a → ∃ u, vs[i]? = some u ∧ (Pa a).P N u,
   fun ⟨l, n, vs, e, m, hl, h⟩ k => ⟨l, n, vs, e, k _ m, hl, fun i a q => by obtain ⟨u, e1, e2⟩ := h i a q; exact ⟨u, e1, (Pa a).mono e2 k⟩⟩⟩
section
variable {X : LW} {F : FN} {c : FC} {ε : Env} {V : VL} {R R1 R2 R' : RP} {e e1 e2 o : Expr} {es : List Expr} {P P1 P2 Po : VP} {Ps : List VP} {x name : Str} {pos pos' apos : Pos} {a b a' b' : Nat} {f : Addr} {id : String}
theorem ev_builtin {v : Value} (C : c.Ok X F a b) (hg : nsIn X.K mainGlobals x = some none) (hv : bootBuiltins x = some v) (hn : x ≠ "__name__") (hx : (c.env F).kindOf x = some .globalImplicit := by rfl) (hd : (x == ("__debug__" : Str)) = false := by decide) : EvA X F c V R (.Name x pos) (IsVal v) R := by
  intro T Q E s st k
  apply st.elim; intro h tk m Ck N Fr' hV hT hN nd r
  exact nameX_B Fr' C.X (topRead_of C.T) hg hv hn (k v _ (St.mk (C := Ck) (N := N) Fr' hV (hT.cons rfl) hN nd r)) C.hk hx hd
theorem callB {v : List Value} {P0 : List VP} (C : c.Ok X F a b) (hl : v.length = P0.length) (ha : EvsE X F c ε V R es Ps R1) (hc : ConB X id (P0 ++ Ps) R1 P R')
    {T : TL} {Q E : EC} {s : Shared} (st : St c V (P0.zip v ++ T) R s) (k : ∀ v s', St c V ((P, v) :: T) R' s' → Q v s')
    (he : backTo pos (starEach es ε) = es.map fun e => (false, eval e ε)) :
    wpP true (model X.prog X.w) (c.A F) (callWith pos (.builtin id) v (backTo pos (starEach es ε)) []) Q E s := by
  rw [he]
  refine p_callWith (P := fun _ => True) (fun h _ => ⟨.machine, .inr (.inl rfl), Looks.of_pure rfl⟩) ?_
  have e2 : (es.map fun e => (false, eval e ε)) = (es.map fun e => eval e ε).map fun x => (false, x) := by rw [List.map_map]; rfl
  rw [e2]
  refine p_evalArgs ?_
  rw [← e2]
  refine ha _ _ E s st fun vs s' hl' st' => ⟨trivial, p_any ?_⟩
  refine hc F c V T Q E (v ++ vs) s' C.X (st'.tsub fun z hz => ?_) (by simp [hl, hl']) k
  rw [List.zip_append hl.symm] at hz
  rcases List.mem_append.mp hz with hz | hz
  · rcases List.mem_append.mp hz with hz | hz
    · exact List.mem_append_right _ (List.mem_append_left _ hz)
    · exact List.mem_append_left _ hz
  · exact List.mem_append_right _ (List.mem_append_right _ hz)
theorem ev_callB (C : c.Ok X F a b) (hg : EvAE X F c ε V R o (IsVal (.builtin id)) R) (ha : EvsE X F c ε V R es Ps R1) (hc : ConB X id Ps R1 P R')
    (he : backTo pos (starEach es ε) = es.map fun e => (false, eval e ε) := by rfl)
    (he' : eval (.Call o es [] pos) ε = (do callWith pos (← eval o ε) [] (backTo pos (starEach es ε)) (backToKw pos (keywordEach [] ε))) := by rfl) : EvE X F c ε V R (.Call o es [] pos) P R' := by
  intro T Q E s st k
  refine p_fn (hg T _ E s st fun v s1 st1 => ?_) he'
  have hv : v = .builtin id := by
    apply st1.elim; intro h tk m Ck N F' hV hT hN nd r
    exact hT _ (.head _)
  subst hv
  exact callB (P0 := []) (v := []) C rfl ha hc st1.drop k he
theorem bcon_len {d : Array UInt8} (hz : d.size ≤ 1000000) : BCon X "len" [IsBytes d] (IsInt d.size) := by
  intro A Q E s vs N hl hT k
  obtain ⟨v, rfl⟩ := one_of hl
  obtain ⟨t, rfl⟩ := hT (IsBytes d, v) (.head _)
  exact len_bytes (Nat.le_trans hz (Nat.le_of_ble_eq_true rfl)) (k _ _ fun N => ⟨_, rfl⟩)
theorem conb_lenL {α : Type} {Pa : α → VP} {as : List α} (hz : as.length ≤ 16777216) : ConB X "len" [IsListOf Pa as] R (IsInt as.length) R := by
  intro F c V T Q E vs s XK st hl k
  apply st.elim; intro h tk m Ck N F' hV hT hN nd r
  obtain ⟨v, rfl⟩ := one_of hl
  obtain ⟨l, n, us, rfl, hm, hl2, -⟩ := hT (IsListOf Pa as, v) (.head _)
  refine lenV hN (List.mem_append_right _ hm) (hl2 ▸ hz) fun t k' => ?_
  rw [hl2]
  exact k _ _ (St.mk (C := Ck) (N := N) F' hV (TOk.cons ⟨_, rfl⟩ (fun z hz => hT z (.tail _ hz))) hN nd r)
end
end MineP
end
section
open PySem PySem.W PySem.Calls PyProof.Rows Mine
namespace MineP
def RStar (A Z : RP) : RP := ⟨fun C N => ∃ Cs C0, C = Cs ++ C0 ∧ A.P Cs N ∧ Z.P C0 N, fun ⟨Cs, C0, e, h1, h2⟩ k => ⟨Cs, C0, e, A.mono h1 k, Z.mono h2 k⟩⟩
def RCell (q : Addr × Obj) : RP := ⟨fun C _ => C = [q], fun h _ => h⟩
theorem St.weak {c : FC} {V V' : VL} {T : TL} {R : RP} {s : Shared} (h : St c V T R s) (k : ∀ m N, VOk V m N → VOk V' m N) : St c V' T R s := by
  apply h.elim; intro h tk m C N F hV hT hN nd r
  exact (St.mk (C := C) (N := N) F (k _ _ hV) hT hN nd r)
theorem St.star0 {c : FC} {V : VL} {T : TL} {Z : RP} {s : Shared} (h : St c V T Z s) : St c V T (RStar RNil Z) s := by
  apply h.elim; intro h tk m C N F hV hT hN nd r
  exact (St.mk (C := C) (N := N) F hV hT hN nd ⟨[], C, rfl, rfl, r⟩)
theorem St.unstar0 {c : FC} {V : VL} {T : TL} {Z : RP} {s : Shared} (h : St c V T (RStar RNil Z) s) : St c V T Z s := by
  apply h.elim; intro h tk m C N F hV hT hN nd rr0
  obtain ⟨Cs, C0, rfl, rfl, r⟩ := rr0
  exact (St.mk (C := C0) (N := N) F hV hT hN nd r)
def Blk (X : LW) (F : FN) (c : FC) (V : VL) (R : RP) (ss : List Stmt) (V' : VL) (R' : RP) : Prop :=
  ∀ (T : TL) (Q : Flow → Shared → Prop) (E : EC) (s : Shared), St c V T R s → (∀ s', St c V' T R' s' → Q .next s') → wpP true (model X.prog X.w) (c.A F) (execs ss (c.env F)) Q E s
theorem perm_it {i : Addr × Obj} {A B N : Lg} : (i :: ((A ++ B) ++ N)).Perm ((A ++ ([i] ++ B)) ++ N) := by
  rw [← List.cons_append]
  exact List.Perm.append_right _ List.perm_middle.symm
def OfList {α : Type} (Pa : α → VP) (as : List α) (q : Addr × Obj) (vs : List Value) : VP :=
  ⟨fun N _ => q ∈ N ∧ ∀ (i : Nat) (a : α), as[i]? = some a → ∃ u, vs[i]? = some u ∧ (Pa a).P N u, fun h k => ⟨k _ h.1, fun i a e => by obtain ⟨u, e1, e2⟩ := h.2 i a e; exact ⟨u, e1, (Pa a).mono e2 k⟩⟩⟩
section
variable {X : LW} {F : FN} {c : FC} {V V' : VL} {R R1 R2 R' Z : RP} {e e1 e2 o iter : Expr} {P P1 P2 Po : VP} {x name : Str} {px pos pos' apos : Pos} {a b a' b' : Nat} {body rest : List Stmt}
theorem blk_nil : Blk X F c V R [] V R := fun T Q E s st k => p_execs_nil (k s st)
theorem blk_fin : Blk X F c V R [] [] R := fun T Q E s st k => p_execs_nil (k s (st.weak fun m N _ => .nil))
theorem blk_assign (C : c.Ok X F a b) (h : Ev X F c V R e P R1) (k : Blk X F c ((x, P) :: V) R1 rest V' R')
    (hx : (c.env F).kindOf x = some .local := by rfl) (hs : swapsWith e (some (.Name x pos')) pos.line (c.env F) = pure false := by rfl) : Blk X F c V R (.Assign [.Name x pos'] e pos :: rest) V' R' := by
  intro T Q E s st kQ
  refine p_execs (p_assign (h T _ E s st fun v s' st' => ?_) hs)
  apply st'.elim; intro h tk m Ck N Fr' hV hT hN nd r
  refine p_any (storeX_L Fr' hN (fun h' F' N' => ?_) C.hk hx)
  exact k T Q E _ (St.mk (C := Ck) (N := N) F' (hV.set (hT _ (.head _))) hT.tail N' nd r) kQ
theorem blk_augInt {i j : Int} (C : c.Ok X F a b) (hv : V.lookup x = some (IsInt i)) (h : Ev X F c V R e (IsInt j) R1) (k : Blk X F c ((x, IsInt (i + j)) :: V) R1 rest V' R')
    (hx : (c.env F).kindOf x = some .local := by rfl) : Blk X F c V R (.AugAssign (.Name x pos') .Add e pos :: rest) V' R' := by
  intro T Q E s st kQ
  refine p_execs (p_aug ?_)
  apply st.elim; intro h1 tk m Ck N Fr' hV hT hN nd r
  obtain ⟨v, hm, hp⟩ := hV x _ hv
  refine p_any (wpAny_loadName_local C.hk hx Fr'.ns hm ?_)
  refine h ((IsInt i, v) :: T) _ E _ (St.mk (C := Ck) (N := N) Fr' hV (hT.cons hp) hN nd r) fun u s' st' => ?_
  apply st'.elim; intro h2 tk2 m2 Ck2 N2 F2 hV2 hT2 hN2 nd2 r2
  obtain ⟨t1, rfl⟩ := hT2 (IsInt j, u) (.head _)
  obtain ⟨t2, rfl⟩ := hT2 (IsInt i, v) (.tail _ (.head _))
  refine p_any (AutoIntOps.iadd_0 ?_)
  show wpP _ _ _ _ _ _ _
  refine p_any (storeX_L F2 hN2 (fun h' F' N' => ?_) C.hk hx)
  exact k T Q E _ (St.mk (C := Ck2) (N := N2) F' (hV2.set ⟨_, rfl⟩) hT2.tail.tail N' nd2 r2) kQ
def Pick (V V2 : VL) : Prop := ∀ z ∈ V2, V.lookup z.1 = some z.2
theorem pick_nil : Pick V [] := fun z hz => nomatch hz
theorem pick_cons {V2 : VL} (h : V.lookup x = some P) (t : Pick V V2) : Pick V ((x, P) :: V2) := fun z hz => by
  rcases List.mem_cons.mp hz with rfl | hz
  · exact h
  · exact t z hz
theorem mem_lookup : ∀ {V2 : VL} {x : Str} {P : VP}, V2.lookup x = some P → (x, P) ∈ V2
  | [], _, _, e => nomatch e
  | (y, P') :: V2, x, P, e => by
    rw [List.lookup_cons] at e
    by_cases q : x = y
    · subst q
      rw [beq_self_eq_true] at e
      obtain rfl := Option.some.inj e
      exact .head _
    · rw [beq_false_of_ne q] at e
      exact .tail _ (mem_lookup e)
theorem Pick.ok {V2 : VL} (h : Pick V V2) : ∀ m N, VOk V m N → VOk V2 m N := fun m N k x P e => k x P (h _ (mem_lookup e))
theorem blk_weak (h : Blk X F c V R body V' R') {V2 : VL} (k : ∀ m N, VOk V' m N → VOk V2 m N) : Blk X F c V R body V2 R' := fun T Q E s st kQ => h T Q E s st fun s' st' => kQ s' (st'.weak k)
theorem for_gen {α : Type} {Pa : α → VP} {as : List α} {KQ : TL → (Flow → Shared → Prop) → Prop} (Vs : Nat → VL) (Cs : Nat → RP) (C : c.Ok X F a b) (he : EvA X F c V (RStar (Cs 0) Z) iter (IsListOf Pa as) (RStar (Cs 0) Z)) (h0 : ∀ m N, VOk V m N → VOk (Vs 0) m N)
    (hb : ∀ Z' i y, as[i]? = some y → Blk X F c ((x, Pa y) :: Vs i) (RStar (Cs i) Z') body (Vs (i + 1)) (RStar (Cs (i + 1)) Z'))
    (k : ∀ (T : TL) (Q : Flow → Shared → Prop) (E : EC) (s : Shared), St c (Vs as.length) T (RStar (Cs as.length) Z) s → KQ T Q → wpP true (model X.prog X.w) (c.A F) (execs rest (c.env F)) Q E s)
    (hx : (c.env F).kindOf x = some .local) (hs : ∀ v, foldedSetIterable iter (c.env F) v = pure v) (T : TL) (Q : Flow → Shared → Prop) (E : EC) (s : Shared) (st : St c V T (RStar (Cs 0) Z) s) (kQ : KQ T Q) :
    wpP true (model X.prog X.w) (c.A F) (execs (.For (.Name x px) iter body [] pos :: rest) (c.env F)) Q E s := by
  refine p_execs (p_forN (he.ev T _ E s st fun v s1 st1 => ?_) hs)
  apply st1.elim; intro h tk m Ck N F' hV hT hN nd rr0
  obtain ⟨Ks, K0, rfl, rC, rZ⟩ := rr0
  obtain ⟨l, n, vs, rfl, hm, hl, hi⟩ := hT (IsListOf Pa as, v) (.head _)
  have hkind : ((c.env F).scope.kind == .class || ((c.env F).scope.kind == .module && (c.env F).locals != (c.env F).globals)) = false := by
    show (F.cs.kind == .class || (F.cs.kind == .module && _)) = false
    rw [C.hk]; rfl
  refine iter_listP (vs := vs) (lo := listOf vs.toArray n) (nn := n)
    (fun i m' n' => ∃ Cs' C0 N', n' = (Cs' ++ C0) ++ N' ∧ VOk (Vs i) m' N' ∧ TOk ((OfList Pa as (l, listOf vs.toArray n) vs, .none) :: T) N' ∧ (Cs i).P Cs' N' ∧ Z.P C0 N')
    rfl rfl F' hN nd (List.mem_append_right _ hm) rfl rfl hx ⟨Ks, K0, N, rfl, h0 _ _ hV, TOk.cons ⟨hm, hi⟩ hT.tail, rC, rZ⟩ ?_ ?_ ?_ hkind
  · rintro i m' n' ⟨Cs', C0, N', rfl, hV', hT', -, -⟩
    exact List.mem_append_right _ (hT' _ (.head _)).1
  · rintro I it i v m₁ n₁ h1 tk1 hv ⟨Cs', C0, N', rfl, hV', hT', rC', rZ'⟩ F1 N1 nd1
    have hlt : i < as.length := by
      rw [← hl]
      rcases Nat.lt_or_ge i vs.length with q | q
      · exact q
      · rw [List.getElem?_eq_none q] at hv; cases hv
    have ea := List.getElem?_eq_getElem hlt
    obtain ⟨u, hu, hp⟩ := (hT' _ (.head _)).2 i _ ea
    obtain rfl : v = u := Option.some.inj (hv.symm.trans hu)
    refine hb (RStar (RCell (I, it)) Z) i _ ea _ _ _ _ (St.mk (C := Cs' ++ ([(I, it)] ++ C0)) (N := N') F1 (hV'.set hp) hT' (news_perm perm_it N1) (nd_perm perm_it nd1) ⟨Cs', [(I, it)] ++ C0, rfl, rC', [(I, it)], C0, rfl, rfl, rZ'⟩) fun s' st' => ?_
    apply st'.elim; intro h2 tk2 m2 Ck2 N2 F2 hV2 hT2 hN2 nd2 rr0
    obtain ⟨Cs2, D2, rfl, rC2, I2, C2, rfl, rfl, rZ2⟩ := rr0
    exact ⟨h2, tk2, m2, _, rfl, F2, news_perm perm_it.symm hN2, nd_perm perm_it.symm nd2, Cs2, C2, N2, rfl, hV2, hT2, rC2, rZ2⟩
  · rintro m₁ n₁ h1 tk1 ⟨Cs', C0, N', rfl, hV', hT', rC', rZ'⟩ F1 N1 nd1
    rw [hl] at hV' rC'
    exact k T Q E _ (St.mk (N := N') F1 hV' hT'.tail N1 nd1 ⟨Cs', C0, rfl, rC', rZ'⟩) kQ
theorem exs_for {Pst : TL → Value → Shared → Prop} {α : Type} {Pa : α → VP} {as : List α} (Vs : Nat → VL) (Cs : Nat → RP) (C : c.Ok X F a b) (he : EvA X F c V (RStar (Cs 0) Z) iter (IsListOf Pa as) (RStar (Cs 0) Z)) (h0 : ∀ m N, VOk V m N → VOk (Vs 0) m N)
    (hb : ∀ Z' i y, as[i]? = some y → Blk X F c ((x, Pa y) :: Vs i) (RStar (Cs i) Z') body (Vs (i + 1)) (RStar (Cs (i + 1)) Z'))
    (k : ExsP X F c (Vs as.length) (RStar (Cs as.length) Z) rest Pst)
    (hx : (c.env F).kindOf x = some .local := by rfl) (hs : ∀ v, foldedSetIterable iter (c.env F) v = pure v := by intro _; rfl) : ExsP X F c V (RStar (Cs 0) Z) (.For (.Name x px) iter body [] pos :: rest) Pst :=
  for_gen Vs Cs C he h0 hb k hx hs
theorem blk_for {α : Type} {Pa : α → VP} {as : List α} (Vs : Nat → VL) (Cs : Nat → RP) (C : c.Ok X F a b) (he : EvA X F c V (RStar (Cs 0) Z) iter (IsListOf Pa as) (RStar (Cs 0) Z)) (h0 : ∀ m N, VOk V m N → VOk (Vs 0) m N)
    (hb : ∀ Z' i y, as[i]? = some y → Blk X F c ((x, Pa y) :: Vs i) (RStar (Cs i) Z') body (Vs (i + 1)) (RStar (Cs (i + 1)) Z'))
    (k : Blk X F c (Vs as.length) (RStar (Cs as.length) Z) rest V' R')
    (hx : (c.env F).kindOf x = some .local := by rfl) (hs : ∀ v, foldedSetIterable iter (c.env F) v = pure v := by intro _; rfl) : Blk X F c V (RStar (Cs 0) Z) (.For (.Name x px) iter body [] pos :: rest) V' R' :=
  for_gen Vs Cs C he h0 hb k hx hs
end
end MineP
end
section
open PySem PySem.W PySem.Calls PyProof.Rows Mine
namespace MineP
section
variable {X : LW} {F : FN} {c : FC} {ε : Env} {V : VL} {R R1 : RP} {ob orv e : Expr} {p1 p2 : Pos} {d : Array UInt8}
theorem ev_bytesRev (hob : EvAE X F c ε V R ob (IsVal (.type "bytes")) R) (hor : EvAE X F c ε V R orv (IsVal (.type "reversed")) R) (he : EvE X F c ε V R e (IsBytes d) R1) (hz : d.size ≤ 16777216)
    (e1 : eval (.Call ob [.Call orv [e] [] p1] [] p2) ε = (do callWith p2 (← eval ob ε) [] (backTo p2 (starEach [.Call orv [e] [] p1] ε)) (backToKw p2 (keywordEach [] ε))) := by rfl)
    (e2 : eval (.Call orv [e] [] p1) ε = (do callWith p1 (← eval orv ε) [] (backTo p1 (starEach [e] ε)) (backToKw p1 (keywordEach [] ε))) := by rfl)
    (e3 : starEach [.Call orv [e] [] p1] ε = [(false, eval (.Call orv [e] [] p1) ε)] := by rfl) (e4 : starEach [e] ε = [(false, eval e ε)] := by rfl) :
    EvE X F c ε V R (.Call ob [.Call orv [e] [] p1] [] p2) (IsBytes (rvA d)) R1 := by
  intro T Q E s st k
  refine p_fn (hob T _ E s st fun v s1 st1 => ?_) e1
  have hv : v = .type "bytes" := by
    apply st1.elim; intro h tk m Ck N F' hV hT hN nd r
    exact hT _ (.head _)
  subst hv
  refine p_callWithB1 (fun _ => nofun) ?_ e3
  refine p_fn (hor T _ E s1 st1.drop fun v s2 st2 => ?_) e2
  have hv : v = .type "reversed" := by
    apply st2.elim; intro h tk m Ck N F' hV hT hN nd r
    exact hT _ (.head _)
  subst hv
  refine p_callWithB1 (fun _ => nofun) ?_ e4
  refine he T _ E s2 st2.drop fun v s3 st3 => ?_
  apply st3.elim; intro h tk m Ck N F' hV hT hN nd r
  obtain ⟨t, rfl⟩ := hT (IsBytes d, v) (.head _)
  refine p_any (rv_newK F' hN hz fun x h' k' F2 N2 l => ?_)
  show wpP _ _ _ _ _ _ _
  refine p_any (rv_bytesK rfl F2 N2 l hz fun t' h2 k2 F3 N3 => ?_)
  exact k _ _ (St.mk (C := Ck) (N := N) F3 hV (TOk.cons ⟨_, rfl⟩ hT.tail) N3 nd r)
end
def TstE (X : LW) (F : FN) (c : FC) (ε : Env) (V : VL) (R : RP) (e : Expr) (b : Bool) (R' : RP) : Prop :=
  ∀ (T : TL) (Q : Bool → Shared → Prop) (E : EC) (s : Shared), St c V T R s → (∀ s', St c V T R' s' → Q b s') → wpP true (model X.prog X.w) (c.A F) (isTrue e ε (eval e ε)) Q E s
abbrev Tst (X : LW) (F : FN) (c : FC) (V : VL) (R : RP) (e : Expr) (b : Bool) (R' : RP) : Prop := TstE X F c (c.env F) V R e b R'
section
variable {X : LW} {F : FN} {c : FC} {ε : Env} {V V' : VL} {R R1 R2 R' : RP} {e l r : Expr} {P P1 P2 : VP} {pos px : Pos} {body orelse rest : List Stmt} {k : Nat}
theorem exs_ifT {Pst : TL → Value → Shared → Prop} (ht : Tst X F c V R e true R1) (hb : Blk X F c V R1 body V' R2) (h : ExsP X F c V' R2 rest Pst) : ExsP X F c V R (.If e body orelse pos :: rest) Pst := fun T Q E s st kQ =>
  p_execs (p_if (ht T _ E s st fun s1 st1 => hb T _ E s1 st1 fun s2 st2 => h T Q E s2 st2 kQ))
theorem exs_ifF {Pst : TL → Value → Shared → Prop} (ht : Tst X F c V R e false R1) (hb : Blk X F c V R1 orelse V' R2) (h : ExsP X F c V' R2 rest Pst) : ExsP X F c V R (.If e body orelse pos :: rest) Pst := fun T Q E s st kQ =>
  p_execs (p_if (ht T _ E s st fun s1 st1 => hb T _ E s1 st1 fun s2 st2 => h T Q E s2 st2 kQ))
theorem exs_ifRet {Pst : TL → Value → Shared → Prop} (ht : Tst X F c V R e true R1) (h : ExsP X F c V R1 body Pst) : ExsP X F c V R (.If e body orelse pos :: rest) Pst := fun T Q E s st kQ =>
  p_execs (p_if (ht T _ E s st fun s1 st1 => h T _ E s1 st1 kQ))
theorem tst_isNone (hl : EvE X F c ε V R l IsNone R1) : TstE X F c ε V R (.Compare l [.Is] [.Constant .none k px] pos) true R1 := by
  intro T Q E s st kQ
  refine p_isTrueCmp (hl T _ E s st fun v s1 st1 => ?_)
  have hv : v = .none := by
    apply st1.elim; intro h tk m Ck N F' hV hT hN nd r
    exact hT (IsNone, v) (.head _)
  subst hv
  refine p_any (wpAny_Constant_none ?_)
  refine p_any (is_none_none ?_)
  exact p_pure (kQ s1 st1.drop)
end
end MineP
end
section
open PySem PySem.W PySem.Calls PyProof.Rows Mine
namespace MineP
section
variable {X : LW} {F : FN} {c : FC} {ε : Env} {V V' : VL} {R R1 R2 R' : RP} {e e1 e2 l r : Expr} {P P1 P2 Po : VP} {pos px apos : Pos} {body orelse rest : List Stmt} {k : Nat} {x name : Str} {a b a' b' : Nat} {bv : Bool} {d d' : Array UInt8}
theorem ev_not (h : EvE X F c ε V R e (IsBool bv) R1) : EvE X F c ε V R (.UnaryOp .Not e pos) (IsBool (!bv)) R1 := by
  intro T Q E s st kQ
  refine p_not (h T _ E s st fun v s1 st1 => ?_)
  have hv : v = .bool bv := by
    apply st1.elim; intro h tk m Ck N F' hV hT hN nd r
    exact hT (IsBool bv, v) (.head _)
  subst hv
  apply st1.elim; intro h tk m Ck N F' hV hT hN nd r
  show wpP _ _ _ (pure (Value.bool (!bv))) _ _ _
  exact p_pure (kQ _ _ (St.mk (C := Ck) (N := N) F' hV (TOk.cons rfl hT.tail) hN nd r))
theorem ev_bytes {d : List UInt8} {kk : Nat} : EvAE X F c ε V R (.Constant (.bytes d) kk pos) (IsBytes d.toArray) R := by
  intro T Q E s st k
  apply st.elim; intro h tk m Ck N Fr' hV hT hN nd r
  refine Constant_bytes ?_
  exact k _ _ (St.mk (C := Ck) (N := N) Fr' hV (hT.cons ⟨_, rfl⟩) hN nd r)
theorem ev_eqB (hl : EvE X F c ε V R l (IsBytes d) R1) (hr : EvE X F c ε V R1 r (IsBytes d') R2) (hm : behindInMarks .Eq r = false := by with_unfolding_all rfl) : EvE X F c ε V R (.Compare l [.Eq] [r] pos) (IsBool (d.toList == d'.toList)) R2 := by
  intro T Q E s st kQ
  refine p_evalCmp (hl T _ E s st fun v s1 st1 => hr _ _ E s1 st1 fun v' s2 st2 => ?_) hm
  apply st2.elim; intro h tk m Ck N F' hV hT hN nd r
  obtain ⟨t, rfl⟩ := hT (IsBytes d, v) (.tail _ (.head _))
  obtain ⟨t', rfl⟩ := hT (IsBytes d', v') (.head _)
  refine p_any (eq_bytes ?_)
  exact kQ _ _ (St.mk (C := Ck) (N := N) F' hV (TOk.cons rfl hT.tail.tail) hN nd r)
theorem ev_prop {Cl p fget : Addr} {rs : List Value} (C : c.Ok X F a b) (ho : EvAE X F c ε V R (.Name x px) Po R) (hg : plainGet X.K Cl name = true) (hh : hasDictIn X.K Cl = true) (ha : findIn X.K (.ref Cl) name = some (some (.ref p)))
    (hn : specialIn X.K (.ref p) "__get__" = some (some (.builtin "property.__get__"))) (ht : takesIn X.K (.ref p) = some true) (hp : recIn X.K p "property" = some (.ref fget :: rs))
    (hI : ∀ N v, Po.P N v → ∃ x dx es n, v = .ref x ∧ (x, instObj Cl dx) ∈ N ∧ (dx, dictOf es n) ∈ N) (hc : Con X fget [Po] R P R' a' b') (ea : Nat.ble a' a = true) (eb : Nat.ble (b' + 1) b = true) (hout : ∀ N v, P.P N v → handedOut v = pure v) :
    EvE X F c ε V R (.Attribute (.Name x px) name apos) P R' := by
  intro T Q E s st kQ
  refine p_attr (ho T _ E s st fun v s1 st1 => ?_)
  apply st1.elim; intro h tk m Ck N F' hV hT hN nd r
  obtain ⟨y, dy, es, n, rfl, h1, h2⟩ := hI N v (hT (Po, v) (.head _))
  refine p_getProp F' C.X (InstAt.of_news hN (List.mem_append_right _ h1) (List.mem_append_right _ h2)) hg hh ha hn ht hp ?_
  have C2 := C.le ea eb
  have C1 : FC.Ok X { c with un := c.un + 1 } F a' b' := ⟨C.D, C.B, C.X, C.T, C.hk, C2.hd, by have := C2.hu; show c.un + 1 + b' < _; omega⟩
  exact hc F { c with un := c.un + 1 } V T _ _ [.ref y] _ C1 (St.mk (C := Ck) (N := N) F' hV hT hN nd r) rfl fun u s' st' => by
    apply st'.elim; intro h' tk' m' Ck' N' F2 hV2 hT2 hN2 nd2 r2
    exact ⟨hout N' u (hT2 (P, u) (.head _)), kQ u _ (St.mk (C := Ck') (N := N') F2 hV2 hT2 hN2 nd2 r2)⟩
end
theorem perm_drop {i : Addr × Obj} {A B N : Lg} : ((A ++ ([i] ++ B)) ++ N).Perm ((A ++ B) ++ (i :: N)) := by
  rw [List.append_assoc, List.append_assoc, List.append_assoc]
  exact List.Perm.append_left _ (show (i :: (B ++ N)).Perm _ from List.perm_middle.symm)
theorem St.uncell {c : FC} {V : VL} {T : TL} {A Z : RP} {q : Addr × Obj} {s : Shared} (h : St c V T (RStar A (RStar (RCell q) Z)) s) : St c V T (RStar A Z) s := by
  apply h.elim; intro h tk m C N F hV hT hN nd rr0
  obtain ⟨Cs, D, rfl, rA, Q, C0, rfl, rfl, rZ⟩ := rr0
  have sub : ∀ p ∈ N, p ∈ q :: N := fun p hp => .tail _ hp
  exact (St.mk (C := Cs ++ C0) (N := q :: N) F (hV.mono sub) (hT.mono sub) (news_perm perm_drop hN) (nd_perm perm_drop nd) ⟨Cs, C0, rfl, A.mono rA sub, Z.mono rZ sub⟩)
section
variable {X : LW} {F : FN} {c : FC} {ε : Env} {V V' : VL} {R R1 R2 R' Z : RP} {iter : Expr} {P : VP} {pos px : Pos} {body rest : List Stmt} {x : Str} {a b : Nat}
theorem exs_forR {α : Type} {Pa : α → VP} {as : List α} (Pre : Nat → Prop) (Vs : Nat → VL) (Cs : Nat → RP) (Ce : RP) (C : c.Ok X F a b) (he : EvA X F c V (RStar (Cs 0) Z) iter (IsListOf Pa as) (RStar (Cs 0) Z)) (h0 : ∀ m N, VOk V m N → VOk (Vs 0) m N) (p0 : Pre 0)
    (hb : ∀ Z' i y, as[i]? = some y → Pre i → ∀ (T : TL) (Q : Flow → Shared → Prop) (E : EC) (s : Shared), St c ((x, Pa y) :: Vs i) T (RStar (Cs i) Z') s → (∀ s', Pre (i + 1) → St c (Vs (i + 1)) T (RStar (Cs (i + 1)) Z') s' → Q .next s') →
      (∀ v s', St c [] ((P, v) :: T) (RStar Ce Z') s' → Q (.ret v) s') → wpP true (model X.prog X.w) (c.A F) (execs body (c.env F)) Q E s)
    (k : Pre as.length → Exs X F c (Vs as.length) (RStar (Cs as.length) Z) rest P (RStar Ce Z))
    (hx : (c.env F).kindOf x = some .local := by rfl) (hs : ∀ v, foldedSetIterable iter (c.env F) v = pure v := by intro _; rfl) : Exs X F c V (RStar (Cs 0) Z) (.For (.Name x px) iter body [] pos :: rest) P (RStar Ce Z) := by
  intro T Q E s st kQ
  refine p_execs (p_forN (he.ev T _ E s st fun v s1 st1 => ?_) hs)
  apply st1.elim; intro h tk m Ck N F' hV hT hN nd rr0
  obtain ⟨Ks, K0, rfl, rC, rZ⟩ := rr0
  obtain ⟨l, n, vs, rfl, hm, hl, hi⟩ := hT (IsListOf Pa as, v) (.head _)
  have hkind : ((c.env F).scope.kind == .class || ((c.env F).scope.kind == .module && (c.env F).locals != (c.env F).globals)) = false := by
    show (F.cs.kind == .class || (F.cs.kind == .module && _)) = false
    rw [C.hk]; rfl
  refine iter_listP (vs := vs) (lo := listOf vs.toArray n) (nn := n)
    (fun i m' n' => Pre i ∧ ∃ Cs' C0 N', n' = (Cs' ++ C0) ++ N' ∧ VOk (Vs i) m' N' ∧ TOk ((OfList Pa as (l, listOf vs.toArray n) vs, .none) :: T) N' ∧ (Cs i).P Cs' N' ∧ Z.P C0 N')
    rfl rfl F' hN nd (List.mem_append_right _ hm) rfl rfl hx ⟨p0, Ks, K0, N, rfl, h0 _ _ hV, TOk.cons ⟨hm, hi⟩ hT.tail, rC, rZ⟩ ?_ ?_ ?_ hkind
  · rintro i m' n' ⟨-, Cs', C0, N', rfl, hV', hT', -, -⟩
    exact List.mem_append_right _ (hT' _ (.head _)).1
  · rintro I it i v m₁ n₁ h1 tk1 hv ⟨hp, Cs', C0, N', rfl, hV', hT', rC', rZ'⟩ F1 N1 nd1
    have hlt : i < as.length := by
      rw [← hl]
      rcases Nat.lt_or_ge i vs.length with q | q
      · exact q
      · rw [List.getElem?_eq_none q] at hv; cases hv
    have ea := List.getElem?_eq_getElem hlt
    obtain ⟨u, hu, hpu⟩ := (hT' _ (.head _)).2 i _ ea
    obtain rfl : v = u := Option.some.inj (hv.symm.trans hu)
    refine hb (RStar (RCell (I, it)) Z) i _ ea hp _ _ _ _ (St.mk (C := Cs' ++ ([(I, it)] ++ C0)) (N := N') F1 (hV'.set hpu) hT' (news_perm perm_it N1) (nd_perm perm_it nd1) ⟨Cs', [(I, it)] ++ C0, rfl, rC', [(I, it)], C0, rfl, rfl, rZ'⟩) (fun s' hp' st' => ?_) (fun v s' st' => ?_)
    · apply st'.elim; intro h2 tk2 m2 Ck2 N2 F2 hV2 hT2 hN2 nd2 rr0
      obtain ⟨Cs2, D2, rfl, rC2, I2, C2, rfl, rfl, rZ2⟩ := rr0
      exact ⟨h2, tk2, m2, _, rfl, F2, news_perm perm_it.symm hN2, nd_perm perm_it.symm nd2, hp', Cs2, C2, N2, rfl, hV2, hT2, rC2, rZ2⟩
    · refine kQ v s' ((St.uncell st').tsub fun z hz => ?_)
      rcases List.mem_cons.mp hz with rfl | hz
      · exact .head _
      · exact .tail _ (.tail _ hz)
  · rintro m₁ n₁ h1 tk1 ⟨hp, Cs', C0, N', rfl, hV', hT', rC', rZ'⟩ F1 N1 nd1
    rw [hl] at hV' rC' hp
    exact k hp T Q E _ (St.mk (N := N') F1 hV' hT'.tail N1 nd1 ⟨Cs', C0, rfl, rC', rZ'⟩) kQ
end
section
variable {X : LW} {F : FN} {c : FC} {ε : Env} {V V' : VL} {R R1 R2 R' Z : RP} {e o : Expr} {P : VP} {pos px apos : Pos} {body orelse rest ss : List Stmt} {x name : Str} {a b : Nat} {bv : Bool}
theorem exs_star0 (h : Exs X F c V (RStar RNil R) ss P (RStar RNil R')) : Exs X F c V R ss P R' := fun T Q E s st k => h T Q E s st.star0 fun v s' st' => k v s' st'.unstar0
theorem blk_ifN (ht : Tst X F c V R e false R1) (h : Blk X F c V R1 rest V' R') : Blk X F c V R (.If e body [] pos :: rest) V' R' := fun T Q E s st kQ =>
  p_execs (p_if (ht T _ E s st fun s1 st1 => p_execs_nil (h T Q E s1 st1 kQ)))
theorem exs_if {Pst : TL → Value → Shared → Prop} {body orelse : List Stmt} {V2 : VL} {R2 : RP} (ht : Tst X F c V R e bv R1) (hT : bv = true → Blk X F c V R1 body V2 R2) (hF : bv = false → Blk X F c V R1 orelse V2 R2) (k : ExsP X F c V2 R2 rest Pst) : ExsP X F c V R (.If e body orelse pos :: rest) Pst := by
  cases bv with
  | true => exact exs_ifT ht (hT rfl) k
  | false => exact exs_ifF ht (hF rfl) k
theorem tst_attr (h : EvE X F c ε V R (.Attribute o name apos) (IsBool bv) R1) : TstE X F c ε V R (.Attribute o name apos) bv R1 := by
  intro T Q E s st kQ
  refine p_isTrueAttr (h T _ E s st fun v s1 st1 => ?_)
  have hv : v = .bool bv := by
    apply st1.elim; intro h tk m Ck N F' hV hT hN nd r
    exact hT (IsBool bv, v) (.head _)
  subst hv
  exact p_pure (kQ s1 st1.drop)
theorem ev_bool {k : Nat} : EvAE X F c ε V R (.Constant (.bool bv) k pos) (IsBool bv) R := by
  intro T Q E s st kQ
  apply st.elim; intro h tk m Ck N Fr' hV hT hN nd r
  refine Constant_bool ?_
  exact kQ _ _ (St.mk (C := Ck) (N := N) Fr' hV (hT.cons rfl) hN nd r)
end
end MineP
end
section
open PySem PySem.W PySem.Calls PyProof.Rows Mine
namespace MineP
section
variable {X : LW} {F : FN} {c : FC} {V V' : VL} {R R1 R2 R' Z : RP} {e o : Expr} {P : VP} {pos px apos : Pos} {rest ss : List Stmt} {x name : Str} {a b : Nat}
theorem exs_exprNone {Pst : TL → Value → Shared → Prop} (h : Ev X F c V R e IsNone R1) (k : ExsP X F c V R1 rest Pst) (hi : interactive (c.env F) = false := by rfl) (hs : swapsWith e none pos.line (c.env F) = pure false := by rfl) :
    ExsP X F c V R (.Expr e pos :: rest) Pst := by
  intro T Q E s st kQ
  refine p_execs (p_expr (h T _ E s st fun v s' st' => ?_) hi hs)
  have hv : v = .none := by
    apply st'.elim; intro h tk m Ck N F' hV hT hN nd r
    exact hT (IsNone, v) (.head _)
  subst hv
  exact ⟨fun a => nofun, k T Q E s' st'.drop kQ⟩
theorem blk_exprNone (h : Ev X F c V R e IsNone R1) (k : Blk X F c V R1 rest V' R') (hi : interactive (c.env F) = false := by rfl) (hs : swapsWith e none pos.line (c.env F) = pure false := by rfl) :
    Blk X F c V R (.Expr e pos :: rest) V' R' := by
  intro T Q E s st kQ
  refine p_execs (p_expr (h T _ E s st fun v s' st' => ?_) hi hs)
  have hv : v = .none := by
    apply st'.elim; intro h tk m Ck N F' hV hT hN nd r
    exact hT (IsNone, v) (.head _)
  subst hv
  exact ⟨fun a => nofun, k T Q E s' st'.drop kQ⟩
end
end MineP
end
section
open PySem PySem.W PySem.Calls PyProof.Rows Mine
namespace MineP
section
variable {g : Bool} {M : Model} {A : Around} {E : Value → Shared → Prop} {s : Shared} {env : Env}
theorem p_bool_one {op : BoolOp} {e : Expr} {pos : Pos} {Q : Value → Shared → Prop} (h : wpP g M A (eval e env) Q E s) : wpP g M A (eval (.BoolOp op [e] pos) env) Q E s := h
theorem p_bool_and {e₁ e₂ : Expr} {rest : List Expr} {pos : Pos} {Q : Value → Shared → Prop}
    (h : wpP g M A (eval e₁ env) (fun v s₁ => wpAny M A (truthy v) (fun c s₂ => if c then wpP g M A (eval (.BoolOp .And (e₂ :: rest) pos) env) Q E s₂ else Q v s₂) E s₁) E s) :
    wpP g M A (eval (.BoolOp .And (e₁ :: e₂ :: rest) pos) env) Q E s := by
  show wpP g M A (do
    let v ← eval e₁ env
    standAt pos
    let c ← holding [v] (truthy v)
    match BoolOp.And, c with
    | .And, false | .Or, true => pure v
    | _, _ => boolOp pos .And (eval e₂ env :: evalEach rest env)) Q E s
  refine p_bind (p_mono h (fun v s₁ h₁ => p_bind (p_standAt (p_bind (p_holding (p_any (wpAny_mono h₁ (fun c s₂ h₂ => ?_) fun _ _ x => x)))))) fun _ _ x => x)
  cases c with
  | false => exact p_pure h₂
  | true => exact h₂
theorem p_bool_or {e₁ e₂ : Expr} {rest : List Expr} {pos : Pos} {Q : Value → Shared → Prop}
    (h : wpP g M A (eval e₁ env) (fun v s₁ => wpAny M A (truthy v) (fun c s₂ => if c then Q v s₂ else wpP g M A (eval (.BoolOp .Or (e₂ :: rest) pos) env) Q E s₂) E s₁) E s) :
    wpP g M A (eval (.BoolOp .Or (e₁ :: e₂ :: rest) pos) env) Q E s := by
  show wpP g M A (do
    let v ← eval e₁ env
    standAt pos
    let c ← holding [v] (truthy v)
    match BoolOp.Or, c with
    | .And, false | .Or, true => pure v
    | _, _ => boolOp pos .Or (eval e₂ env :: evalEach rest env)) Q E s
  refine p_bind (p_mono h (fun v s₁ h₁ => p_bind (p_standAt (p_bind (p_holding (p_any (wpAny_mono h₁ (fun c s₂ h₂ => ?_) fun _ _ x => x)))))) fun _ _ x => x)
  cases c with
  | false => exact h₂
  | true => exact p_pure h₂
theorem p_isTrue_or_nil {pos : Pos} {whole : Sem Value} {Q : Bool → Shared → Prop} (h : Q false s) : wpP g M A (isTrue (.BoolOp .Or [] pos) env whole) Q E s := p_pure (a := false) h
theorem p_isTrue_or {x : Expr} {rest : List Expr} {pos : Pos} {whole : Sem Value} {Q : Bool → Shared → Prop}
    (h : wpP g M A (isTrue x env (eval x env)) (fun c s' => if c then Q true s' else wpP g M A (isTrue (.BoolOp .Or rest pos) env whole) Q E s') E s) :
    wpP g M A (isTrue (.BoolOp .Or (x :: rest) pos) env whole) Q E s := by
  show wpP g M A (do
    match BoolOp.Or, ← isTrue x env (eval x env) with
    | .And, false => pure false
    | .Or, true => pure true
    | _, _ => allTrue .Or rest env) Q E s
  refine p_bind (p_mono h (fun c s' h' => ?_) fun _ _ x => x)
  cases c with
  | false => exact h'
  | true => exact p_pure h'
end
end MineP
end
section
open PySem PySem.W PySem.Calls PyProof.Rows Mine
namespace MineP
theorem each_app {α : Type} {Pa : α → VP} {N : Lg} {vs ws : List Value} {as bs : List α} (h1 : vs.length = as.length) (h2 : ws.length = bs.length) (i1 : ∀ (i : Nat) (a : α), as[i]? = some a → ∃ u, vs[i]? = some u ∧ (Pa a).P N u)
    (i2 : ∀ (i : Nat) (a : α), bs[i]? = some a → ∃ u, ws[i]? = some u ∧ (Pa a).P N u) (i : Nat) (a : α) (e : (as ++ bs)[i]? = some a) : ∃ u, (vs ++ ws)[i]? = some u ∧ (Pa a).P N u := by
  rcases Nat.lt_or_ge i as.length with q | q
  · rw [List.getElem?_append_left q] at e
    rw [List.getElem?_append_left (h1 ▸ q)]
    exact i1 i a e
  · rw [List.getElem?_append_right q] at e
    rw [List.getElem?_append_right (h1 ▸ q), h1]
    exact i2 _ a e
section
variable {X : LW} {F : FN} {c : FC} {ε : Env} {V : VL} {R R1 R2 : RP} {l r : Expr} {pos : Pos} {i j : Int} {d d' : Array UInt8}
theorem ev_catL {α : Type} {Pa : α → VP} {as bs : List α} (hl : EvE X F c ε V R l (IsListOf Pa as) R1) (hr : EvE X F c ε V R1 r (IsListOf Pa bs) R2) (hz : as.length + bs.length ≤ 1000) : EvE X F c ε V R (.BinOp l .Add r pos) (IsListOf Pa (as ++ bs)) R2 := by
  intro T Q E s st k
  refine p_evalBin (hl T _ E s st fun v s1 st1 => hr _ _ E s1 st1 fun v' s2 st2 => ?_)
  apply st2.elim; intro h tk m Ck N F' hV hT hN nd rr
  obtain ⟨l1, n1, us, rfl, m1, h1, i1⟩ := hT (IsListOf Pa as, v) (.tail _ (.head _))
  obtain ⟨l2, n2, ws, rfl, m2, h2, i2⟩ := hT (IsListOf Pa bs, v') (.head _)
  refine p_any (add_lists F' hN (News.isList hN (List.mem_append_right _ m1)) (News.isList hN (List.mem_append_right _ m2)) (fun h' F2 N2 => ?_) (by rw [sizeLine_eq]; omega))
  have sub : ∀ p ∈ N, ∀ q, p ∈ q :: N := fun p hp q => .tail _ hp
  refine k _ _ (St.mk (C := Ck) F2 (hV.mono fun p hp => sub p hp _) (TOk.cons ⟨_, 0, us ++ ws, rfl, ?_, by simp [h1, h2], ?_⟩ (hT.tail.tail.mono fun p hp => sub p hp _)) (news_perm List.perm_middle.symm N2) (nd_perm List.perm_middle.symm (nd_cons (fun p hp => Nat.ne_of_lt (Heap.lt_size (hN p hp).1)) nd)) (R2.mono rr fun p hp => sub p hp _))
  · simp only [List.append_toArray]; exact .head _
  · exact each_app h1 h2 (fun i a e => by obtain ⟨u, q, p⟩ := i1 i a e; exact ⟨u, q, (Pa a).mono p fun p hp => sub p hp _⟩) (fun i a e => by obtain ⟨u, q, p⟩ := i2 i a e; exact ⟨u, q, (Pa a).mono p fun p hp => sub p hp _⟩)
theorem ev_catB (hl : EvE X F c ε V R l (IsBytes d) R1) (hr : EvE X F c ε V R1 r (IsBytes d') R2) (hz : d.size + d'.size ≤ 16777216) : EvE X F c ε V R (.BinOp l .Add r pos) (IsBytes (d ++ d')) R2 := by
  intro T Q E s st k
  refine p_evalBin (hl T _ E s st fun v s1 st1 => hr _ _ E s1 st1 fun v' s2 st2 => ?_)
  apply st2.elim; intro h tk m Ck N F' hV hT hN nd rr
  obtain ⟨t1, rfl⟩ := hT (IsBytes d, v) (.tail _ (.head _))
  obtain ⟨t2, rfl⟩ := hT (IsBytes d', v') (.head _)
  refine p_any (KBy.add_bytes hz fun t' k' => ?_)
  exact k _ _ (St.mk (C := Ck) (N := N) F' hV (TOk.cons ⟨_, rfl⟩ hT.tail.tail) hN nd rr)
end
section
variable {X : LW} {F : FN} {c : FC} {ε : Env} {V : VL} {R R1 R2 : RP} {l r e e1 e2 : Expr} {es : List Expr} {pos : Pos} {d d' : Array UInt8} {P : VP} {bv cv : Bool}
theorem tst_ne {P1 P2 : VP} (hl : EvE X F c ε V R l P1 R1) (hr : EvE X F c ε V R1 r P2 R2)
    (h : ∀ (T : TL) (E : EC) (s : Shared) (v v' : Value) (Q : Value → Shared → Prop), St c V ((P2, v') :: (P1, v) :: T) R2 s → (∀ k, Q (.bool bv) { s with toks := k }) → wpAny (model X.prog X.w) (c.A F) (compareOp .NotEq v v') Q E s)
    (hm : behindInMarks .NotEq r = false := by with_unfolding_all rfl) : TstE X F c ε V R (.Compare l [.NotEq] [r] pos) bv R2 := by
  intro T Q E s st kQ
  refine p_isTrueCmp (hl T _ E s st fun v s1 st1 => hr _ _ E s1 st1 fun v' s2 st2 => ?_) hm
  refine p_any (h T E s2 v v' _ st2 fun k => ?_)
  have st3 : St c V T R2 { s2 with toks := k } := by
    apply st2.elim; intro h tk m Ck N F' hV hT hN nd rr
    exact (St.mk (C := Ck) (N := N) F' hV hT.tail.tail hN nd rr)
  exact p_pure (kQ _ st3)
def TstOE (X : LW) (F : FN) (c : FC) (ε : Env) (V : VL) (R : RP) (es : List Expr) (pos : Pos) (R' : RP) : Prop :=
  ∀ (T : TL) (Q : Bool → Shared → Prop) (E : EC) (s : Shared) (whole : Sem Value), St c V T R s → (∀ s', St c V T R' s' → Q false s') → wpP true (model X.prog X.w) (c.A F) (isTrue (.BoolOp .Or es pos) ε whole) Q E s
theorem tsto_nil : TstOE X F c ε V R [] pos R := fun T Q E s whole st kQ => p_isTrue_or_nil (kQ s st)
theorem tsto_cons (h1 : TstE X F c ε V R e false R1) (h2 : TstOE X F c ε V R1 es pos R2) : TstOE X F c ε V R (e :: es) pos R2 := fun T Q E s whole st kQ =>
  p_isTrue_or (h1 T _ E s st fun s1 st1 => by
    show (if false = true then _ else _)
    rw [if_neg Bool.false_ne_true]
    exact h2 T Q E s1 whole st1 kQ)
theorem TstOE.tst (h : TstOE X F c ε V R es pos R2) : TstE X F c ε V R (.BoolOp .Or es pos) false R2 := fun T Q E s st kQ => h T Q E s _ st kQ
theorem tst_neB (hl : EvE X F c ε V R l (IsBytes d) R1) (hr : EvE X F c ε V R1 r (IsBytes d) R2) (hm : behindInMarks .NotEq r = false := by with_unfolding_all rfl) : TstE X F c ε V R (.Compare l [.NotEq] [r] pos) false R2 :=
  tst_ne hl hr (fun T E s v v' Q st k => by
    revert k; apply st.elim; intro h tk m Ck N F' hV hT hN nd rr k
    obtain ⟨t1, rfl⟩ := hT (IsBytes d, v) (.tail _ (.head _))
    obtain ⟨t2, rfl⟩ := hT (IsBytes d, v') (.head _)
    exact ne_bytes (by rw [bne_self_eq_false]; exact k _)) hm
end
end MineP
end
section
open PySem PySem.W PySem.Calls PyProof.Rows Mine
namespace MineP
end MineP
end
section
open PySem PySem.W PySem.Calls PyProof.Rows Mine
namespace MineP
section
variable {a d x L : Addr} {o o' c c' : Obj} {q : Addr × Obj} {n m : List (Addr × Obj)} {g : Obj → List (Addr × Obj)}
theorem updF_mem (u : UpdF a o n g) : (a, o) ∈ n := by
  obtain ⟨pre, post, rfl, -⟩ := u.split
  exact List.mem_append_right _ (.head _)
theorem nd_updF (nd : ND n) (u : UpdF a o n g) (o' : Obj) : ND (g o') := by
  obtain ⟨pre, post, rfl, e, -⟩ := u.split
  rw [e o']
  exact nd_map (by simp) nd
end
end MineP
end
section
open PySem PySem.W PySem.Calls PyProof.Rows Mine
namespace MineP
section
variable {gg : Bool} {M : Model} {A : Around} {E : Value → Shared → Prop} {s : Shared} {env : Env}
def CompPost (Q : Value → Shared → Prop) (acc : Value) (C : Addr) (r : Result) (s' : Shared) : Prop :=
  match r with
  | .ok _ => ∃ m, s'.heap.Ns C m ∧ ∀ h', Heap.SameBut C s'.heap h' → Q acc { s' with heap := h' }
  | .error _ => False
theorem p_standIf {α : Type} {c : Prop} [Decidable c] {pos : Pos} {k : PUnit → Sem α} {Q : α → Shared → Prop} (h : wpP gg M A (k ()) Q E s) :
    wpP gg M A (if c then (standAt pos >>= k) else k ()) Q E s := by
  split
  · exact p_bind (p_standAt h)
  · exact h
theorem p_comprehension {e : Expr} {scope : Scope} {pos : Pos} {newAcc first : Sem Value} {g : Comprehension} {gs : List Comprehension} {cl : List (Str × Addr)} {Q : Value → Shared → Prop}
    (hcl : clausesOf e = g :: gs) (hs : ∀ x, foldedSetIterable g.iter env x = pure x) (hclos : closureFor scope env = pure cl)
    (hkind : scope.kind = .function) (hnames : ∀ x ∈ scope.names, x.2 = .local → scope.names.lookup x.1 = some .local)
    (h : wpP gg M A first (fun x s₁ => wpAny M A (pyIter x) (fun it s₂ => wpAny M A newAcc (fun acc s₃ =>
      wpAny M A (newFunctionEnv scope env.globals cl [] env.qual none .none (some env)) (fun cenv s₄ =>
        codeP gg M (A.mark none) (.compStart e 0 it acc { cenv with scope := relabel scope env }) (CompPost Q acc cenv.locals) s₄) E s₃) E s₂) E s₁) E s) :
    wpP gg M A (comprehension e scope env pos newAcc false first) Q E s := by
  unfold comprehension
  rw [hclos, hcl]
  refine p_bind (p_mono h (fun x s₁ h₁ => p_bind (p_standAt (p_bind (p_of_eq (hs x) (p_bind (p_holding (p_any (wpAny_mono h₁ (fun it s₂ h₂ => ?_) fun _ _ h' => h')))))))) fun _ _ h' => h')
  refine p_standIf ?_
  refine p_leaf (wpAny_mono h₂ (fun acc s₃ h₃ => ?_) fun _ _ h' => h')
  refine p_bind (p_pure ?_)
  refine p_leaf (wpAny_mono h₃ (fun cenv s₄ h₄ => ?_) fun _ _ h' => h')
  dsimp only
  have hv : ∀ x ∈ (scope.names.filter fun x => (x.2 == .local || x.2 == .cell) && x.1 != (".0" : Str)).reverse, x.2 = .local →
      Env.kindOf { cenv with scope := relabel scope env } x.1 = some .local := fun x hx hl => lookup_relabel_local (hnames x (List.mem_filter.mp (List.mem_reverse.mp hx)).1 hl)
  refine p_holding (p_bind (p_attempt (p_holding (p_run (p_codeMono h₄ fun r s' hr => ?_)))))
  cases r with
  | ok f =>
    obtain ⟨m, hn, hr⟩ := hr
    exact p_any (wpAny_bind (wpAny_holding (wpAny_comp_letGo (cenv := { cenv with scope := relabel scope env }) hkind _ s' m hv hn fun h' m' _ hs' => wpAny_pure (hr h' hs'))))
  | error x => exact hr.elim
end
section
variable {g : Bool} {prog : Program} {w : World} {A : Around} {E : Value → Shared → Prop} {R : Result → Shared → Prop} {s : Shared}
theorem p_quiet {α : Type} {M : Model} {m : Sem α} {k : Value → Sem Unit} {Q : α → Shared → Prop} {E : Value → Shared → Prop} (h : wpP g M A m Q (fun _ _ => False) s) : wpP g M A (m.onRaise k) Q E s :=
  p_onRaise (p_mono h (fun _ _ x => x) fun _ _ x => x.elim)
theorem p_compStart {elt target iter : Expr} {ifs : List Expr} {scope : Scope} {pos : Pos} {it acc : Value} {env : Env}
    (h0 : codeP g (model prog w) A (.compLoop (.ListComp elt [⟨target, iter, ifs, 0⟩] scope pos) 0 it acc env) R s)
    (h : wpAny (model prog w) A (pyIter it) (fun it' s' => codeP g (model prog w) A (.compLoop (.ListComp elt [⟨target, iter, ifs, 0⟩] scope pos) 0 it' acc env) R s') (fun _ _ => False) s) :
    codeP g (model prog w) A (.compStart (.ListComp elt [⟨target, iter, ifs, 0⟩] scope pos) 0 it acc env) R s := by
  refine p_tree rfl ?_
  show wpP g _ A ((compStart (.ListComp elt [⟨target, iter, ifs, 0⟩] scope pos) 0 it acc env).onRaise (fun x => do noteFrame x env; standAt theWindowsPlace)) _ _ s
  refine p_quiet ?_
  unfold compStart
  show wpP g _ A (ask >>= _) _ _ s
  refine p_leaf (wpAny_askSetting ?_)
  split
  · first
      | exact p_bind (p_pure (p_pure (And.intro rfl h0)))
      | exact p_pure (And.intro rfl h0)
  · first
      | exact p_bind (p_rule (p_bind (p_standAt (p_leaf (wpAny_mono h (fun it' s' h' => p_pure (And.intro rfl h')) fun _ _ x => x)))))
      | (refine p_bind (p_rule ?_); show wpP g _ A (standAt iter.pos >>= _) _ _ s; exact p_bind (p_standAt (p_leaf (wpAny_mono h (fun it' s' h' => p_pure (And.intro rfl h')) fun _ _ x => x))))
theorem p_compLoop {elt target iter : Expr} {ifs : List Expr} {scope : Scope} {pos : Pos} {it acc : Value} {env : Env} (I : Nat → Shared → Prop)
    (turn : ∀ n s, I n s → wpAny (model prog w) A (pyNext it) (fun r s₁ => match r with
      | none => R (.ok .next) s₁
      | some v => wpAny (model prog w) A (assign target env v) (fun _ s₂ =>
          wpP g (model prog w) A (forIn ifs true fun c r => if r = true then do let ok ← isTrue c env (eval c env); pure (ForInStep.yield ok) else pure (ForInStep.yield r)) (fun ok s₃ =>
            if ok = true then wpP g (model prog w) A (eval elt env) (fun x s₄ =>
              wpAny (model prog w) A (call (.builtin "list.append") [acc, x]) (fun _ s₅ => ∃ m, m < n ∧ I m s₅) (fun _ _ => False) s₄) (fun _ _ => False) s₃
            else ∃ m, m < n ∧ I m s₃) (fun _ _ => False) s₂) (fun _ _ => False) s₁) (fun _ _ => False) s)
    (n : Nat) (h : I n s) (ht : ∀ v, letOwnedTupleGo target it v = pure () := by intro _; rfl) :
    codeP g (model prog w) A (.compLoop (.ListComp elt [⟨target, iter, ifs, 0⟩] scope pos) 0 it acc env) R s := by
  induction n using Nat.strongRecOn generalizing s with
  | ind n ih =>
    refine p_tree rfl ?_
    show wpP g _ A ((compTurn (.ListComp elt [⟨target, iter, ifs, 0⟩] scope pos) 0 it acc env).onRaise (fun x => do noteFrame x env; theTreesLotGoes x)) _ _ s
    refine p_quiet ?_
    rw [compTurn_list]
    refine p_bind (p_standAt (p_leaf (wpAny_mono (turn n s h) (fun r s₁ h₁ => ?_) fun _ _ h' => h')))
    cases r with
    | none => exact p_pure h₁
    | some v =>
      refine p_bind (p_of_eq (ht v) ?_)
      refine p_leaf (wpAny_mono h₁ (fun _ s₂ h₂ => p_bind (p_mono h₂ (fun ok s₃ h₃ => ?_) fun _ _ h' => h')) fun _ _ h' => h')
      cases ok with
      | false => obtain ⟨m, hm, hI⟩ := h₃; exact p_pure ⟨rfl, ih m hm hI⟩
      | true =>
        exact p_bind (p_bind (p_mono h₃ (fun x s₄ h₄ => p_leaf (wpAny_mono h₄ (fun _ s₅ h₅ => p_pure (p_pure (by obtain ⟨m, hm, hI⟩ := h₅; exact ⟨rfl, ih m hm hI⟩))) fun _ _ h' => h')) fun _ _ h' => h'))
end
end MineP
end
section
open PySem PySem.W PySem.Calls PyProof.Rows Mine
namespace MineP
section
variable {g : Bool} {prog : Program} {w : World} {A : Around} {E : Value → Shared → Prop} {s : Shared} {h₀ : Heap} {L : Addr} {m : Str → Option Value} {env : Env} {Q : Value → Shared → Prop}
def testsOf (ifs : List Expr) (env : Env) : Sem Bool := forIn ifs true fun c r => if r = true then do let ok ← isTrue c env (eval c env); pure (ForInStep.yield ok) else pure (ForInStep.yield r)
def CompP (g : Bool) (prog : Program) (w : World) (A : Around) (env : Env) (elt iter : Expr) (x : Str) (px : Pos) (ifs : List Expr) (scope : Scope) (cl : List (Str × Addr)) (pos : Pos) (Q E : Value → Shared → Prop) (it : Value) (s₂ : Shared) : Prop :=
  wpAny (model prog w) A (newList []) (fun acc s₃ => wpAny (model prog w) A (newFunctionEnv scope env.globals cl [] env.qual none .none (some env)) (fun cenv s₄ =>
      codeP g (model prog w) (A.mark none) (.compStart (.ListComp elt [⟨.Name x px, iter, ifs, 0⟩] scope pos) 0 it acc { cenv with scope := relabel scope env }) (CompPost Q acc cenv.locals) s₄) E s₃) E s₂
theorem p_listComp {elt iter : Expr} {x : Str} {px : Pos} {ifs : List Expr} {scope : Scope} {cl : List (Str × Addr)} {pos : Pos}
    (h : wpP g (model prog w) A (eval iter env) (fun xv s₁ => wpAny (model prog w) A (pyIter xv) (fun it s₂ => CompP g prog w A env elt iter x px ifs scope cl pos Q E it s₂) E s₁) E s)
    (hclos : closureFor scope env = pure cl) (hkind : scope.kind = .function) (hnames : ∀ y ∈ scope.names, y.2 = .local → scope.names.lookup y.1 = some .local)
    (hs : ∀ x, foldedSetIterable iter env x = pure x := by intro _; rfl) :
    wpP g (model prog w) A (eval (.ListComp elt [⟨.Name x px, iter, ifs, 0⟩] scope pos) env) Q E s := by
  rw [eval_ListComp]
  exact p_comprehension rfl hs hclos hkind hnames h
theorem tests_nil {env : Env} {Q : Bool → Shared → Prop} {E : Value → Shared → Prop} (h : Q true s) : wpP g (model prog w) A (testsOf [] env) Q E s := p_pure h
theorem tests_one {env : Env} {c : Expr} {Q : Bool → Shared → Prop} {E : Value → Shared → Prop} (h : wpP g (model prog w) A (isTrue c env (eval c env)) Q E s) : wpP g (model prog w) A (testsOf [c] env) Q E s := by
  unfold testsOf
  simp only [List.forIn_cons, List.forIn_nil, if_true]
  exact p_bind (p_bind (p_mono h (fun b s' hb => p_pure (p_pure hb)) fun _ _ x => x))
end
end MineP
end
section
open PySem PySem.W PySem.Calls PyProof.Rows Mine
namespace MineP
def CEndM (h₀ : Heap) (L : Addr) (s : Shared) (I : Addr) (oI : Obj) (C : Addr) (oC : Obj) (D : Addr) (ys : List Value) (J : List Value → (Str → Option Value) → List (Addr × Obj) → Prop) (zs : List Value) (s' : Shared) : Prop :=
  ∃ h' tk m n', s' = { s with heap := h', toks := tk } ∧ Fr h₀ L h' m ∧ News h₀ L h' ((I, oI) :: (C, oC) :: (D, LCg.lst ys) :: n') ∧ ND ((I, oI) :: (C, oC) :: (D, LCg.lst ys) :: n') ∧ J zs m n'
section
variable {g : Bool} {prog : Program} {w : World} {A : Around} {E : Value → Shared → Prop} {s : Shared} {h₀ : Heap} {L : Addr} {m : Str → Option Value} {env : Env} {Q : Value → Shared → Prop}
theorem comp_genM {elt iter : Expr} {x : Str} {px : Pos} {ifs : List Expr} {scope : Scope} {cl : List (Str × Addr)} {pos : Pos} {s₂ : Shared} {I : Addr} {fp : List Addr} {n : Nat} {P : Nat → Value → Prop} {St : Nat → Heap → Prop} {need news : List (Addr × Obj)} (J : Nat → List Value → (Str → Option Value) → List (Addr × Obj) → Prop)
    (W : Walks prog w (A.mark none) I fp [I] n P St) (hsz : n ≤ sizeLine) (has : ∀ i h, St i h → ∃ o, h.get? I = some o) (hfp : ∀ b ∈ fp, b = I ∨ ∃ o, (b, o) ∈ need) (keep : ∀ i ys m n, J i ys m n → ∀ p ∈ need, p ∈ n)
    (hh : A.handled = none) (hop : ∀ v, letOwnedTupleGo (.Name x px) (.ref I) v = pure ())
    (hcell : ∀ y ∈ scope.names, y.2 ≠ .cell) (hkind : scope.kind = .function) (hx : scope.names.lookup x = some .local) (st : St 0 s₂.heap)
    (F : Fr h₀ L s₂.heap m) (N : News h₀ L s₂.heap news) (nd : ND news) (hI : ∀ p ∈ news, p.1 ≠ I) (hI0 : I ≠ L) (hIn : h₀.get? I = none) (j0 : J 0 [] m news)
    (step : ∀ oI C oC D m₂ i v ys m n₁ h tk, i < n → P i v → J i ys m n₁ → LCg.NsObj oC m₂ → m₂ x = some v → Fr h₀ L h m → News h₀ L h ((I, oI) :: (C, oC) :: (D, LCg.lst ys) :: n₁) → ND ((I, oI) :: (C, oC) :: (D, LCg.lst ys) :: n₁) →
      wpP g (model prog w) A (testsOf ifs (compEnvC scope cl C env)) (fun ok s₃ => if ok = true then wpP g (model prog w) A (eval elt (compEnvC scope cl C env)) (fun y s₄ => CEndM h₀ L s₂ I oI C oC D ys (J (i + 1)) (ys ++ [y]) s₄) (fun _ _ => False) s₃
        else CEndM h₀ L s₂ I oI C oC D ys (J (i + 1)) ys s₃) (fun _ _ => False) { s₂ with heap := h, toks := tk })
    (fin : ∀ D ys m n₁ h tk, J n ys m n₁ → Fr h₀ L h m → News h₀ L h ((D, LCg.lst ys) :: n₁) → ND ((D, LCg.lst ys) :: n₁) → Q (.ref D) { s₂ with heap := h, toks := tk }) :
    wpAny (model prog w) A (newList []) (fun acc s₃ => wpAny (model prog w) A (newFunctionEnv scope env.globals cl [] env.qual none .none (some env)) (fun cenv s₄ =>
      codeP g (model prog w) (A.mark none) (.compStart (.ListComp elt [⟨.Name x px, iter, ifs, 0⟩] scope pos) 0 (.ref I) acc { cenv with scope := relabel scope env }) (CompPost Q acc cenv.locals) s₄) E s₃) E s₂ := by
  refine wpAny_newObj_type (wpAny_newFunctionEnv hcell (by intro y hy; simp at hy) (fun h₁ hns₁ hsb₁ => ?_) hkind)
  dsimp only at hns₁ hsb₁ ⊢
  generalize hH2 : s₂.heap.push { cls := .type "list", dict := none, data := .seq ([] : List Value).toArray } = H2 at hns₁ hsb₁ ⊢
  have hC : H2.objs.size = s₂.heap.objs.size + 1 := by rw [← hH2, Heap.size_push]
  have hDC : s₂.heap.objs.size ≠ H2.objs.size := by rw [hC]; exact Nat.ne_of_lt (Nat.lt_succ_self _)
  have below : ∀ b, b < s₂.heap.objs.size → b ≠ H2.objs.size ∧ b ≠ s₂.heap.objs.size := fun b hb => ⟨by rw [hC]; exact Nat.ne_of_lt (Nat.lt_succ_of_lt hb), Nat.ne_of_lt hb⟩
  obtain ⟨o0, ho0⟩ := has _ _ st
  have hIlt : I < s₂.heap.objs.size := Heap.lt_size ho0
  have old : ∀ b o, s₂.heap.get? b = some o → h₁.get? b = some o := fun b o e => hsb₁.extBut b o (below b (Heap.lt_size e)).1 (Heap.get?_push_of_some _ (hH2 ▸ Heap.get?_push_of_some _ e))
  have hacc : h₁.get? s₂.heap.objs.size = some (LCg.lst []) := hsb₁.extBut _ _ hDC (Heap.get?_push_of_some _ (hH2 ▸ Heap.get?_push_size _ rfl))
  have hst₁ : St 0 h₁ := W.frame _ _ _ st fun b _ o e => old b o e
  have fresh : ∀ a, s₂.heap.objs.size ≤ a → s₂.heap.get? a = none := fun a ha => by
    cases e : s₂.heap.get? a with
    | none => rfl
    | some o' => exact absurd (Heap.lt_size e) (Nat.not_lt.mpr ha)
  have fresh₀ : ∀ a, s₂.heap.objs.size ≤ a → h₀.get? a = none := fun a ha => by
    cases e : h₀.get? a with
    | none => rfl
    | some o' => have := F.keep a o' e; rw [fresh a ha] at this; cases this
  have hD₀ : h₀.get? s₂.heap.objs.size = none := fresh₀ _ (Nat.le_refl _)
  have hC₀ : h₀.get? H2.objs.size = none := fresh₀ _ (by rw [hC]; exact Nat.le_succ _)
  have hLlt : L < s₂.heap.objs.size := F.ns.lt
  have hDL : s₂.heap.objs.size ≠ L := Ne.symm (below L hLlt).2
  have hCL : H2.objs.size ≠ L := Ne.symm (below L hLlt).1
  have hCI : I ≠ H2.objs.size := (below I hIlt).1
  have hDI : I ≠ s₂.heap.objs.size := (below I hIlt).2
  have loop : ∀ s₃ : Shared, s₃ = { s₂ with heap := h₁, toks := s₂.toks + ([] : List (Str × Value)).length } →
      codeP g (model prog w) (A.mark none) (.compLoop (.ListComp elt [⟨.Name x px, iter, ifs, 0⟩] scope pos) 0 (.ref I) (.ref s₂.heap.objs.size) (compEnvC scope cl H2.objs.size env))
        (CompPost Q (.ref s₂.heap.objs.size) H2.objs.size) s₃ := by
    rintro s₃ rfl
    refine p_compLoop
      (fun k s' => ∃ h' tk i ys m m' n', s' = { s₂ with heap := h', toks := tk } ∧ i ≤ n ∧ k = n - i ∧ ys.length ≤ i ∧ St i h' ∧ Fr h₀ L h' m ∧ h'.Ns H2.objs.size m' ∧ News h₀ L h' ((s₂.heap.objs.size, LCg.lst ys) :: n') ∧
        ND ((s₂.heap.objs.size, LCg.lst ys) :: n') ∧ (∀ p ∈ n', p.1 ≠ I ∧ p.1 ≠ H2.objs.size) ∧ J i ys m n') ?_ n
      ⟨h₁, _, 0, [], _, _, news, rfl, Nat.zero_le _, rfl, Nat.le_refl _, hst₁, F.keeps old, hns₁, fun p hp => ?_, ?_, fun p hp => ⟨hI p hp, (below _ (Heap.lt_size (N p hp).1)).1⟩, j0⟩ hop
    · rintro k s' ⟨h', tk, i, ys, m, m', n', rfl, hi, rfl, hyl, hst', F', hn', N', nd', off', j'⟩
      rcases Nat.lt_or_ge i n with hlt | hge
      · refine W.item i _ _ _ hlt hst' fun v h₂ tk₂ hPv hst₂ hk₂ => ?_
        refine wpAny_assign_Name (wpAny_storeName_local (lookup_relabel_local hx) (hn'.at' fun o e => hk₂ _ o (by simpa using Ne.symm hCI) e) (fun h₃ hn₃ hs₃ => ?_) (by simp [compEnvC, relabel, hkind]))
        have kk : ∀ z o, z ≠ I → h'.get? z = some o → h₂.get? z = some o := fun z o hz e => hk₂ z o (fun q => hz (List.mem_singleton.mp q)) e
        have k3 : ∀ z o, z ≠ H2.objs.size → h₂.get? z = some o → h₃.get? z = some o := fun z o hz e => hs₃.extBut z o hz e
        have needn : ∀ b o, (b, o) ∈ need → (b, o) ∈ n' := fun b o hb => keep _ _ _ _ j' _ hb
        have hst₃ : St (i + 1) h₃ := W.frame _ _ _ hst₂ fun b hb o e => k3 b o (by
          rcases hfp b hb with rfl | ⟨o', hb'⟩
          · exact hCI
          · exact (off' _ (needn _ _ hb')).2) e
        obtain ⟨oI, heI⟩ := has _ _ hst₃
        obtain ⟨oC, heC, hoC⟩ := LCg.ns_obj hn₃
        have F₃ : Fr h₀ L h₃ m := (LCg.fr_but F' hk₂ (Ne.symm hI0) hIn).change hs₃ hCL hC₀
        have N₃ : News h₀ L h₃ ((I, oI) :: (H2.objs.size, oC) :: (s₂.heap.objs.size, LCg.lst ys) :: n') := fun p hp => by
          rcases List.mem_cons.mp hp with rfl | hp
          · exact ⟨heI, hI0, hIn⟩
          · rcases List.mem_cons.mp hp with rfl | hp
            · exact ⟨heC, hCL, hC₀⟩
            · refine ⟨k3 _ _ ?_ (kk _ _ ?_ (N' p hp).1), (N' p hp).2⟩
              · rcases List.mem_cons.mp hp with rfl | hp
                · exact hDC
                · exact (off' p hp).2
              · rcases List.mem_cons.mp hp with rfl | hp
                · exact Ne.symm hDI
                · exact (off' p hp).1
        have nd₃ : ND ((I, oI) :: (H2.objs.size, oC) :: (s₂.heap.objs.size, LCg.lst ys) :: n') := by
          refine nd_cons (fun p hp => ?_) (nd_cons (fun p hp => ?_) nd')
          · rcases List.mem_cons.mp hp with rfl | hp
            · exact Ne.symm hCI
            · rcases List.mem_cons.mp hp with rfl | hp
              · exact Ne.symm hDI
              · exact (off' p hp).1
          · rcases List.mem_cons.mp hp with rfl | hp
            · exact hDC
            · exact (off' p hp).2
        have next : ∀ zs s₄, zs.length ≤ i + 1 → (∃ h₄ tk₄ m₄ n₄, s₄ = { s₂ with heap := h₄, toks := tk₄ } ∧ Fr h₀ L h₄ m₄ ∧ h₄.get? I = some oI ∧ h₄.get? H2.objs.size = some oC ∧ News h₀ L h₄ ((s₂.heap.objs.size, LCg.lst zs) :: n₄) ∧ ND ((I, oI) :: (H2.objs.size, oC) :: (s₂.heap.objs.size, LCg.lst zs) :: n₄) ∧ J (i + 1) zs m₄ n₄) →
            ∃ k, k < n - i ∧ ∃ h' tk i ys m m' n', s₄ = { s₂ with heap := h', toks := tk } ∧ i ≤ n ∧ k = n - i ∧ ys.length ≤ i ∧ St i h' ∧ Fr h₀ L h' m ∧ h'.Ns H2.objs.size m' ∧ News h₀ L h' ((s₂.heap.objs.size, LCg.lst ys) :: n') ∧
              ND ((s₂.heap.objs.size, LCg.lst ys) :: n') ∧ (∀ p ∈ n', p.1 ≠ I ∧ p.1 ≠ H2.objs.size) ∧ J i ys m n' := by
          rintro zs _ hz ⟨h₄, tk₄, m₄, n₄, rfl, F₄, zI, zC, N₄, nd₄, j₄⟩
          refine ⟨n - (i + 1), by omega, h₄, tk₄, i + 1, zs, _, _, n₄, rfl, hlt, rfl, hz, W.frame _ _ _ hst₃ fun b hb o e => ?_, F₄, hoC.ns zC, N₄, nd_tail (nd_tail nd₄), fun p hp => ⟨nd_head nd₄ p (.tail _ (.tail _ hp)), nd_head (nd_tail nd₄) p (.tail _ hp)⟩, j₄⟩
          rcases hfp b hb with rfl | ⟨o', hb'⟩
          · rw [heI] at e; cases e; exact zI
          · have e1 := (N₃ _ (.tail _ (.tail _ (.tail _ (needn _ _ hb'))))).1
            dsimp only at e1
            rw [e1] at e; cases e
            exact (N₄ _ (.tail _ (keep _ _ _ _ j₄ _ hb'))).1
        rw [mark_none]
        refine p_mono (step oI H2.objs.size oC s₂.heap.objs.size _ i v ys _ n' h₃ _ hlt hPv j' hoC (by simp) F₃ N₃ nd₃) (fun ok s₄ h₄ => ?_) fun _ _ e => e
        cases ok with
        | false =>
          obtain ⟨h₄, tk₄, m₄, n₄, rfl, F₄, N₄, nd₄, j₄⟩ := h₄
          exact next ys _ (Nat.le_succ_of_le hyl) ⟨h₄, tk₄, m₄, n₄, rfl, F₄, (N₄ _ (.head _)).1, (N₄ _ (.tail _ (.head _))).1, fun p hp => N₄ p (.tail _ (.tail _ hp)), nd₄, j₄⟩
        | true =>
          refine p_mono h₄ (fun y s₅ h₅ => ?_) fun _ _ e => e
          obtain ⟨h₅, tk₅, m₅, n₅, rfl, F₅, N₅, nd₅, j₅⟩ := h₅
          refine append_at (hsz := by show ys.toArray.size ≤ sizeLine; rw [List.size_toArray]; omega) (N₅ _ (.tail _ (.tail _ (.head _)))).1 fun h₆ hs₆ hD₆ => ?_
          refine next (ys ++ [y]) _ (by rw [List.length_append, List.length_singleton]; omega) ⟨h₆, tk₅, m₅, n₅, rfl, F₅.change hs₆ hDL hD₀, hs₆.extBut _ _ hDI (N₅ _ (.head _)).1, hs₆.extBut _ _ (Ne.symm hDC) (N₅ _ (.tail _ (.head _))).1, fun p hp => ?_, nd₅, j₅⟩
          rcases List.mem_cons.mp hp with rfl | hp
          · exact ⟨hD₆.trans (congrArg some (LCg.lst_snoc ys y)), hDL, hD₀⟩
          · exact ⟨hs₆.extBut _ _ (nd_head (nd_tail (nd_tail nd₅)) p hp) (N₅ p (.tail _ (.tail _ (.tail _ hp)))).1, (N₅ p (.tail _ (.tail _ (.tail _ hp)))).2⟩
      · obtain rfl : i = n := Nat.le_antisymm hi hge
        refine W.done _ _ _ hst' fun h₂ tk₂ hk₂ => ?_
        refine ⟨_, hn'.at' fun o e => hk₂ _ o (by simpa using Ne.symm hCI) e, fun h'' hs'' => fin _ ys _ n' h'' tk₂ j' ((LCg.fr_but F' hk₂ (Ne.symm hI0) hIn).change hs'' hCL hC₀) (fun p hp => ?_) nd'⟩
        refine ⟨hs''.extBut _ _ ?_ (hk₂ _ _ (fun q => ?_) (N' p hp).1), (N' p hp).2⟩
        · rcases List.mem_cons.mp hp with rfl | hp
          · exact hDC
          · exact (off' p hp).2
        · have q := List.mem_singleton.mp q
          rcases List.mem_cons.mp hp with rfl | hp
          · exact hDI q.symm
          · exact (off' p hp).1 q
    · rcases List.mem_cons.mp hp with rfl | hp
      · exact ⟨hacc, hDL, hD₀⟩
      · exact ⟨old _ _ (N p hp).1, (N p hp).2⟩
    · exact nd_cons (fun p hp => (below _ (Heap.lt_size (N p hp).1)).2) nd
  exact p_compStart (loop _ rfl) (W.self 0 _ _ _ hst₁ (loop _ rfl))
theorem comp_listM {elt iter : Expr} {x : Str} {px : Pos} {ifs : List Expr} {scope : Scope} {cl : List (Str × Addr)} {pos : Pos} {ax : Addr} {lo : Obj} {vs : List Value} {nn : Nat} {news : List (Addr × Obj)} (J : Nat → List Value → (Str → Option Value) → List (Addr × Obj) → Prop)
    (hh : A.handled = none) (hcell : ∀ y ∈ scope.names, y.2 ≠ .cell) (hkind : scope.kind = .function) (hx : scope.names.lookup x = some .local)
    (F : Fr h₀ L s.heap m) (N : News h₀ L s.heap news) (nd : ND news) (hm : (ax, lo) ∈ news) (hc : lo.cls = .type "list") (hd : lo.data = .seq vs.toArray nn) (hsz : vs.length ≤ sizeLine) (j0 : J 0 [] m news) (keep : ∀ i ys m n, J i ys m n → (ax, lo) ∈ n)
    (step : ∀ I oI C oC D m₂ i v ys m n₁ h tk, vs[i]? = some v → J i ys m n₁ → LCg.NsObj oC m₂ → m₂ x = some v → Fr h₀ L h m → News h₀ L h ((I, oI) :: (C, oC) :: (D, LCg.lst ys) :: n₁) → ND ((I, oI) :: (C, oC) :: (D, LCg.lst ys) :: n₁) →
      wpP g (model prog w) A (testsOf ifs (compEnvC scope cl C env)) (fun ok s₃ => if ok = true then wpP g (model prog w) A (eval elt (compEnvC scope cl C env)) (fun y s₄ => CEndM h₀ L s I oI C oC D ys (J (i + 1)) (ys ++ [y]) s₄) (fun _ _ => False) s₃
        else CEndM h₀ L s I oI C oC D ys (J (i + 1)) ys s₃) (fun _ _ => False) { s with heap := h, toks := tk })
    (fin : ∀ D ys m n₁ h tk, J vs.length ys m n₁ → Fr h₀ L h m → News h₀ L h ((D, LCg.lst ys) :: n₁) → ND ((D, LCg.lst ys) :: n₁) → Q (.ref D) { s with heap := h, toks := tk }) :
    wpAny (model prog w) A (pyIter (.ref ax)) (fun it s₂ => CompP g prog w A env elt iter x px ifs scope cl pos Q E it s₂) E s := by
  have hax := N _ hm
  have hl : s.heap.IsList ax vs.toArray := ⟨lo, hax.1, hc, nn, hd⟩
  have hne : ax ≠ s.heap.objs.size := Nat.ne_of_lt (Heap.lt_size hax.1)
  have hs : vs.toArray.size = vs.length := by simp
  refine wpAny_pyIter_list hl ?_
  have W := Walks.list (prog := prog) (w := w) (A := A.mark none) (by rw [mark_none]; exact hh) s.heap.objs.size ax hne vs.toArray
  rw [hs] at W
  exact comp_genM (need := [(ax, lo)]) (s₂ := { s with heap := s.heap.push _ }) J W hsz (fun i h z => z.1.imp fun o q => q.1) (fun b hb => by
      rcases List.mem_cons.mp hb with e | hb
      · exact .inl e
      · rcases List.mem_singleton.mp hb with rfl; exact .inr ⟨lo, .head _⟩) (fun i ys m n j p hp => by rcases List.mem_singleton.mp hp with rfl; exact keep i ys m n j) hh (fun v => rfl) hcell hkind hx
    ⟨⟨_, Heap.get?_push_size _ rfl, rfl, rfl⟩, hl.at fun o e => Heap.get?_push_of_some _ e⟩ (F.push _) (fun p hp => ⟨Heap.get?_push_of_some _ (N p hp).1, (N p hp).2⟩) nd
    (fun p hp => Nat.ne_of_lt (Heap.lt_size (N p hp).1)) (fun e => absurd F.ns.lt (e ▸ Nat.lt_irrefl _)) (next_is_new F) j0
    (fun oI C oC D m₂ i v ys m n₁ h tk hi hv j hC hx F' N' nd' => step _ oI C oC D m₂ i v ys m n₁ h tk (by simpa using hv) j hC hx F' N' nd') fin
theorem comp_rangeM {elt iter : Expr} {x : Str} {px : Pos} {ifs : List Expr} {scope : Scope} {cl : List (Str × Addr)} {pos : Pos} {r : Addr} {a₀ b₀ : Int} {t₀ u₀ v₀ : Tok} {n : Nat} {news : List (Addr × Obj)} (J : Nat → List Value → (Str → Option Value) → List (Addr × Obj) → Prop)
    (hh : A.handled = none) (hcell : ∀ y ∈ scope.names, y.2 ≠ .cell) (hkind : scope.kind = .function) (hx : scope.names.lookup x = some .local)
    (F : Fr h₀ L s.heap m) (N : News h₀ L s.heap news) (nd : ND news) (hr : IsRange s.heap r a₀ b₀ 1 t₀ u₀ v₀) (hsmall : Builtin.Range.small a₀ b₀ 1 = true) (hn : Builtin.Range.rangeSize a₀ b₀ 1 = (n : Int)) (hsz : n ≤ sizeLine) (j0 : J 0 [] m news)
    (step : ∀ I oI C oC D m₂ i t ys m n₁ h tk, i < n → J i ys m n₁ → LCg.NsObj oC m₂ → m₂ x = some (.int (a₀ + (i : Int)) t) → Fr h₀ L h m → News h₀ L h ((I, oI) :: (C, oC) :: (D, LCg.lst ys) :: n₁) → ND ((I, oI) :: (C, oC) :: (D, LCg.lst ys) :: n₁) →
      wpP g (model prog w) A (testsOf ifs (compEnvC scope cl C env)) (fun ok s₃ => if ok = true then wpP g (model prog w) A (eval elt (compEnvC scope cl C env)) (fun y s₄ => CEndM h₀ L s I oI C oC D ys (J (i + 1)) (ys ++ [y]) s₄) (fun _ _ => False) s₃
        else CEndM h₀ L s I oI C oC D ys (J (i + 1)) ys s₃) (fun _ _ => False) { s with heap := h, toks := tk })
    (fin : ∀ D ys m n₁ h tk, J n ys m n₁ → Fr h₀ L h m → News h₀ L h ((D, LCg.lst ys) :: n₁) → ND ((D, LCg.lst ys) :: n₁) → Q (.ref D) { s with heap := h, toks := tk }) :
    wpAny (model prog w) A (pyIter (.ref r)) (fun it s₂ => CompP g prog w A env elt iter x px ifs scope cl pos Q E it s₂) E s := by
  refine wpAny_pyIter_range hr hsmall ?_
  have W := (Walks.range (prog := prog) (w := w) (A := A.mark none) (by rw [mark_none]; exact hh) s.heap.objs.size a₀ 1 n)
  exact comp_genM (need := []) (s₂ := { s with heap := s.heap.push _ }) J W hsz (fun i h z => ⟨_, z⟩) (fun b hb => .inl (List.mem_singleton.mp hb)) (fun i ys m n j p hp => nomatch hp) hh (fun v => rfl) hcell hkind hx
    (by show IsRangeIter _ _ _ _ _; rw [hn]; simpa using Heap.get?_push_size _ rfl) (F.push _) (fun p hp => ⟨Heap.get?_push_of_some _ (N p hp).1, (N p hp).2⟩) nd
    (fun p hp => Nat.ne_of_lt (Heap.lt_size (N p hp).1)) (fun e => absurd F.ns.lt (e ▸ Nat.lt_irrefl _)) (next_is_new F) j0
    (fun oI C oC D m₂ i v ys m n₁ h tk hi hv j hC hx F' N' nd' => by
      obtain ⟨t, rfl⟩ := hv
      rw [Int.mul_one] at hx
      exact step _ oI C oC D m₂ i t ys m n₁ h tk hi j hC hx F' N' nd') fin
end
end MineP
end
section
open PySem PySem.W PySem.Calls PyProof.Rows Mine
namespace MineP
def RNs (q : Addr × Obj) (x : Str) (P : VP) : RP := ⟨fun C N => C = [q] ∧ ∃ m v, LCg.NsObj q.2 m ∧ m x = some v ∧ P.P N v, fun ⟨e, m, v, h1, h2, h3⟩ k => ⟨e, m, v, h1, h2, P.mono h3 k⟩⟩
abbrev FC.cenv (c : FC) (F : FN) (sc : Scope) (cl : List (Str × Addr)) (q : Addr × Obj) : Env := compEnvC sc cl q.1 (c.env F)
def TestsE (X : LW) (F : FN) (c : FC) (ε : Env) (V : VL) (R : RP) (ifs : List Expr) (ok : Bool) (R' : RP) : Prop :=
  ∀ (T : TL) (Q : Bool → Shared → Prop) (E : EC) (s : Shared), St c V T R s → (∀ s', St c V T R' s' → Q ok s') → wpP true (model X.prog X.w) (c.A F) (testsOf ifs ε) Q E s
section
variable {X : LW} {F : FN} {c : FC} {ε : Env} {V : VL} {R R1 R' Z : RP} {e elt iter ct : Expr} {P : VP} {x y : Str} {px pos : Pos} {sc : Scope} {cl : List (Str × Addr)} {a b : Nat} {q : Addr × Obj} {ifs : List Expr}
theorem ev_nameC (hk : (c.cenv F sc cl q).scope.kind = .function := by rfl) (hx : (c.cenv F sc cl q).kindOf x = some .local := by rfl) (hd : (x == ("__debug__" : Str)) = false := by decide) : EvAE X F c (c.cenv F sc cl q) V (RStar (RNs q x P) Z) (.Name x pos) P (RStar (RNs q x P) Z) := by
  intro T Q E s st k
  apply st.elim; intro h tk m Ck N F' hV hT hN nd rr0
  obtain ⟨Cs, C0, rfl, ⟨rfl, m2, v, hn, hm, hp⟩, rZ⟩ := rr0
  exact LCgL.ld_own hN (.head _) hn hm (k v _ (St.mk (N := N) F' hV (hT.cons hp) hN nd ⟨_, C0, rfl, ⟨rfl, m2, v, hn, hm, hp⟩, rZ⟩)) hk hx hd
theorem ev_globC {v : Value} (C : c.Ok X F a b) (hg : nsIn X.K mainGlobals y = some (some v)) (hk : (c.cenv F sc cl q).scope.kind = .function := by rfl) (hx : (c.cenv F sc cl q).kindOf y = some .globalImplicit := by rfl) (hd : (y == ("__debug__" : Str)) = false := by decide) : EvAE X F c (c.cenv F sc cl q) V R (.Name y pos) (IsVal v) R := by
  intro T Q E s st k
  apply st.elim; intro h tk m Ck N F' hV hT hN nd r
  exact LCgL.ld_global F' C.X C.T hg (k v _ (St.mk (C := Ck) (N := N) F' hV (hT.cons rfl) hN nd r)) rfl hk hx hd
theorem testsE_nil : TestsE X F c ε V R [] true R := fun T Q E s st k => tests_nil (k s st)
theorem testsE_one {ok : Bool} (h : TstE X F c ε V R ct ok R') : TestsE X F c ε V R [ct] ok R' := fun T Q E s st k => tests_one (h T Q E s st k)
def CSo {β : Type} (Pb : β → VP) (bs : List β) (ys : List Value) : VP := ⟨fun N _ => ys.length = bs.length ∧ ∀ (j : Nat) (z : β), bs[j]? = some z → ∃ u, ys[j]? = some u ∧ (Pb z).P N u, fun h k => ⟨h.1, fun j z e => by obtain ⟨u, e1, e2⟩ := h.2 j z e; exact ⟨u, e1, (Pb z).mono e2 k⟩⟩⟩
def CJ {β : Type} (V : VL) (T : TL) (R1 : RP) (Pb : β → VP) (bs : Nat → List β) (i : Nat) (ys : List Value) (m' : Str → Option Value) (n' : Lg) : Prop :=
  ∃ Ck' N', n' = Ck' ++ N' ∧ VOk V m' N' ∧ TOk ((CSo Pb (bs i) ys, .none) :: T) N' ∧ R1.P Ck' N'
def CTurn {β : Type} (X : LW) (F : FN) (c : FC) (sc : Scope) (cl : List (Str × Addr)) (V : VL) (R1 : RP) (x : Str) (P : VP) (ifs : List Expr) (elt : Expr) (Pb : β → VP) (b b' : List β) : Prop :=
  ∀ A q, ∃ ok, TestsE X F c (c.cenv F sc cl q) V (RStar (RNs q x P) (RStar A R1)) ifs ok (RStar (RNs q x P) (RStar A R1)) ∧ (ok = true → ∃ z, b' = b ++ [z] ∧ EvE X F c (c.cenv F sc cl q) V (RStar (RNs q x P) (RStar A R1)) elt (Pb z) (RStar (RNs q x P) (RStar A R1))) ∧ (ok = false → b' = b)
theorem permC2 {I C D : Addr × Obj} {A N : Lg} : (I :: C :: D :: (A ++ N)).Perm (([C] ++ (([I] ++ [D]) ++ A)) ++ N) := List.Perm.swap ..
theorem comp_turn {β : Type} {Pb : β → VP} {bs : Nat → List β} {T : TL} {I C D : Addr} {oI oC : Obj} {m₂ m₁ : Str → Option Value} {i : Nat} {v : Value} {ys : List Value} {n₁ : Lg} {h1 : Heap} {tk1 : Nat} (hb : CTurn X F c sc cl V R1 x P ifs elt Pb (bs i) (bs (i + 1))) (hj : CJ V T R1 Pb bs i ys m₁ n₁) (hp : ∀ Ck N, n₁ = Ck ++ N → TOk T N → P.P N v)
    (hNs : LCg.NsObj oC m₂) (hmx : m₂ x = some v) (F1 : Fr c.h₀ c.L h1 m₁) (N1 : News c.h₀ c.L h1 ((I, oI) :: (C, oC) :: (D, LCg.lst ys) :: n₁)) (nd1 : ND ((I, oI) :: (C, oC) :: (D, LCg.lst ys) :: n₁)) {s : Shared} (hs : ∀ h tk, ({ c.s₀ with heap := h, toks := tk } : Shared) = { s with heap := h, toks := tk }) :
    wpP true (model X.prog X.w) (c.A F) (testsOf ifs (compEnvC sc cl C (c.env F))) (fun ok s₃ => if ok = true then wpP true (model X.prog X.w) (c.A F) (eval elt (compEnvC sc cl C (c.env F))) (fun y s₄ => CEndM c.h₀ c.L s I oI C oC D ys (CJ V T R1 Pb bs (i + 1)) (ys ++ [y]) s₄) (fun _ _ => False) s₃
        else CEndM c.h₀ c.L s I oI C oC D ys (CJ V T R1 Pb bs (i + 1)) ys s₃) (fun _ _ => False) { c.s₀ with heap := h1, toks := tk1 } := by
  obtain ⟨Ck', N', rfl, hV', hT', r'⟩ := hj
  obtain ⟨ok, ht, hT1, hF1⟩ := hb (RStar (RCell (I, oI)) (RCell (D, LCg.lst ys))) (C, oC)
  refine ht ((CSo Pb (bs i) ys, .none) :: T) _ _ _ (St.mk (N := N') F1 hV' hT' (news_perm permC2 N1) (nd_perm permC2 nd1) ⟨_, _, rfl, ⟨rfl, m₂, v, hNs, hmx, hp _ _ rfl hT'.tail⟩, _, Ck', rfl, ⟨_, _, rfl, rfl, rfl⟩, r'⟩) fun s2 st2 => ?_
  cases ok with
  | false =>
    rw [if_neg Bool.false_ne_true]
    apply st2.elim; intro h2 tk2 m2 Ck2 N2 F2 hV2 hT2 hN2 nd2 rr0
    obtain ⟨_, _, rfl, ⟨rfl, -⟩, _, C2, rfl, ⟨_, _, rfl, rfl, rfl⟩, r2⟩ := rr0
    refine ⟨h2, tk2, m2, _, hs _ _, F2, news_perm permC2.symm hN2, nd_perm permC2.symm nd2, C2, N2, rfl, hV2, ?_, r2⟩
    rw [hF1 rfl]
    exact hT2
  | true =>
    rw [if_pos rfl]
    obtain ⟨z, hz', hez⟩ := hT1 rfl
    refine hez _ _ _ _ st2 fun y s3 st3 => ?_
    apply st3.elim; intro h2 tk2 m2 Ck2 N2 F2 hV2 hT2 hN2 nd2 rr0
    obtain ⟨_, _, rfl, ⟨rfl, -⟩, _, C2, rfl, ⟨_, _, rfl, rfl, rfl⟩, r2⟩ := rr0
    refine ⟨h2, tk2, m2, _, hs _ _, F2, news_perm permC2.symm hN2, nd_perm permC2.symm nd2, C2, N2, rfl, hV2, TOk.cons ?_ hT2.tail.tail, r2⟩
    obtain ⟨l1, l2⟩ := hT2 (CSo Pb (bs i) ys, .none) (.tail _ (.head _))
    have l3 := hT2 (Pb z, y) (.head _)
    show _ ∧ _
    rw [hz']
    exact ⟨by simp [l1], each_app l1 rfl l2 fun j w e => by
      match j, e with
      | 0, e => exact ⟨y, rfl, by obtain rfl : z = w := Option.some.inj e; exact l3⟩⟩
theorem comp_fin {β : Type} {Pb : β → VP} {bs : Nat → List β} {T T' : TL} {D : Addr} {ys : List Value} {m1 : Str → Option Value} {n₁ : Lg} {h1 : Heap} {tk1 n : Nat} {Q : EC} (k : ∀ v s', St c V ((IsListOf Pb (bs n), v) :: T') R1 s' → Q v s') (hT : ∀ z ∈ T', z ∈ T)
    (hj : CJ V T R1 Pb bs n ys m1 n₁) (F1 : Fr c.h₀ c.L h1 m1) (N1 : News c.h₀ c.L h1 ((D, LCg.lst ys) :: n₁)) (nd1 : ND ((D, LCg.lst ys) :: n₁)) : Q (.ref D) { c.s₀ with heap := h1, toks := tk1 } := by
  obtain ⟨Ck', N', rfl, hV', hT', r'⟩ := hj
  have sub : ∀ p ∈ N', p ∈ (D, LCg.lst ys) :: N' := fun p hp => .tail _ hp
  obtain ⟨l1, l2⟩ := hT' _ (.head _)
  exact k _ _ (St.mk (C := Ck') F1 (hV'.mono sub) (TOk.cons ⟨D, ys.length, ys, rfl, .head _, l1, fun j z e => by obtain ⟨u, e1, e2⟩ := l2 j z e; exact ⟨u, e1, (Pb z).mono e2 sub⟩⟩ ((show TOk T' N' from fun z hz => hT' z (.tail _ (hT z hz))).mono sub)) (news_perm List.perm_middle.symm N1) (nd_perm List.perm_middle.symm nd1) (R1.mono r' sub))
theorem ev_compG {α β : Type} {Pa : α → VP} {Pb : β → VP} {as : List α} (bs : Nat → List β) (he : Ev X F c V R iter (IsListOf Pa as) R1) (hz : as.length ≤ 16777216) (h0 : bs 0 = [])
    (hb : ∀ i y, as[i]? = some y → CTurn X F c sc cl V R1 x (Pa y) ifs elt Pb (bs i) (bs (i + 1)))
    (hcl : closureFor sc (c.env F) = pure cl) (hk : sc.kind = .function) (hnm : ∀ y ∈ sc.names, y.2 = .local → sc.names.lookup y.1 = some .local) (hcell : ∀ y ∈ sc.names, y.2 ≠ .cell) (hx : sc.names.lookup x = some .local)
    (hs : ∀ v, foldedSetIterable iter (c.env F) v = pure v) : Ev X F c V R (.ListComp elt [⟨.Name x px, iter, ifs, 0⟩] sc pos) (IsListOf Pb (bs as.length)) R1 := by
  intro T Q E s st k
  refine p_listComp (he T _ E s st fun v s1 st1 => ?_) hcl hk hnm hs
  apply st1.elim; intro h tk m Ck N F' hV hT hN nd r
  obtain ⟨l, n, vs, rfl, hm, hl, hi⟩ := hT (IsListOf Pa as, v) (.head _)
  refine comp_listM (vs := vs) (lo := listOf vs.toArray n) (nn := n) (CJ V ((OfList Pa as (l, listOf vs.toArray n) vs, .none) :: T) R1 Pb bs)
    rfl hcell hk hx F' hN nd (List.mem_append_right _ hm) rfl rfl (by rw [hl, sizeLine_eq]; exact hz) ⟨Ck, N, rfl, hV, TOk.cons ⟨by rw [h0]; rfl, fun j z e => by rw [h0] at e; simp at e⟩ (TOk.cons ⟨hm, hi⟩ hT.tail), r⟩ ?_ ?_ ?_
  · rintro i ys m' n' ⟨Ck', N', rfl, hV', hT', -⟩
    exact List.mem_append_right _ (hT' _ (.tail _ (.head _))).1
  · rintro I oI C oC D m₂ i v ys m₁ n₁ h1 tk1 hv hj hNs hmx F1 N1 nd1
    have hlt : i < as.length := by
      rw [← hl]
      rcases Nat.lt_or_ge i vs.length with q | q
      · exact q
      · rw [List.getElem?_eq_none q] at hv; cases hv
    have ea := List.getElem?_eq_getElem hlt
    refine comp_turn (s := { c.s₀ with heap := h, toks := tk }) (hb i _ ea) hj (fun Ck N e hT => ?_) hNs hmx F1 N1 nd1 fun _ _ => rfl
    obtain ⟨u, hu, hp⟩ := (hT _ (.head _)).2 i _ ea
    obtain rfl : v = u := Option.some.inj (hv.symm.trans hu)
    exact hp
  · rintro D ys m1 n₁ h1 tk1 hj F1 N1 nd1
    rw [hl] at hj
    exact comp_fin k (fun z hz => .tail _ hz) hj F1 N1 nd1
theorem ev_compR {β : Type} {Pb : β → VP} {n : Nat} {o e : Expr} {pr : Pos} (bs : Nat → List β) (hr : EvA X F c V R o (IsVal (.type "range")) R) (he : Ev X F c V R e (IsInt (n : Int)) R1) (hz : n ≤ 1000000) (h0 : bs 0 = [])
    (hb : ∀ i, i < n → CTurn X F c sc cl V R1 x (IsInt (i : Int)) ifs elt Pb (bs i) (bs (i + 1)))
    (hcl : closureFor sc (c.env F) = pure cl := by rfl) (hk : sc.kind = .function := by rfl) (hnm : ∀ y ∈ sc.names, y.2 = .local → sc.names.lookup y.1 = some .local := by decide) (hcell : ∀ y ∈ sc.names, y.2 ≠ .cell := by decide) (hx : sc.names.lookup x = some .local := by rfl)
    (hs : ∀ v, foldedSetIterable (.Call o [e] [] pr) (c.env F) v = pure v := by intro _; rfl)
    (e1 : eval (.Call o [e] [] pr) (c.env F) = (do callWith pr (← eval o (c.env F)) [] (backTo pr (starEach [e] (c.env F))) (backToKw pr (keywordEach [] (c.env F)))) := by rfl) (e2 : starEach [e] (c.env F) = [(false, eval e (c.env F))] := by rfl) :
    Ev X F c V R (.ListComp elt [⟨.Name x px, .Call o [e] [] pr, ifs, 0⟩] sc pos) (IsListOf Pb (bs n)) R1 := by
  intro T Q E s st k
  refine p_listComp (p_fn (hr T _ E s st fun v s1 st1 => ?_) e1) hcl hk hnm hs
  have hv : v = .type "range" := by
    apply st1.elim; intro h tk m Ck N F' hV hT hN nd r
    exact hT _ (.head _)
  subst hv
  refine p_callWithB1 (fun _ => nofun) ?_ e2
  refine he T _ E s1 st1.drop fun v s2 st2 => ?_
  apply st2.elim; intro h tk m Ck N F' hV hT hN nd r
  obtain ⟨t, rfl⟩ := hT (IsInt (n : Int), v) (.head _)
  refine p_any (call_range_1 ?_)
  refine comp_rangeM (n := n) (CJ V T R1 Pb bs) rfl hcell hk hx (F'.push _) (fun p hp => ⟨Heap.get?_push_of_some _ (hN p hp).1, (hN p hp).2⟩) nd (IsRange.new _ _ _ _ _ _ _) (small_one (by decide) (by decide) (by omega) (by omega)) (by rw [rangeSize_one]; split <;> omega) (by rw [sizeLine_eq]; omega)
    ⟨Ck, N, rfl, hV, TOk.cons ⟨by rw [h0]; rfl, fun j z e => by rw [h0] at e; simp at e⟩ hT.tail, r⟩ ?_ ?_
  · rintro I oI C oC D m₂ i t ys m₁ n₁ h1 tk1 hi hj hNs hmx F1 N1 nd1
    rw [Int.zero_add] at hmx
    exact comp_turn (P := IsInt (i : Int)) (hb i hi) hj (fun Ck N e hT => ⟨t, rfl⟩) hNs hmx F1 N1 nd1 fun _ _ => rfl
  · rintro D ys m1 n₁ h1 tk1 hj F1 N1 nd1
    exact comp_fin k (fun z hz => hz) hj F1 N1 nd1
theorem ev_comp {α β : Type} {Pa : α → VP} {Pb : β → VP} {as : List α} (f : α → β) (he : Ev X F c V R iter (IsListOf Pa as) R1) (hz : as.length ≤ 16777216)
    (hb : ∀ A q y, y ∈ as → EvE X F c (c.cenv F sc cl q) V (RStar (RNs q x (Pa y)) (RStar A R1)) elt (Pb (f y)) (RStar (RNs q x (Pa y)) (RStar A R1)))
    (hcl : closureFor sc (c.env F) = pure cl := by rfl) (hk : sc.kind = .function := by rfl) (hnm : ∀ y ∈ sc.names, y.2 = .local → sc.names.lookup y.1 = some .local := by decide) (hcell : ∀ y ∈ sc.names, y.2 ≠ .cell := by decide) (hx : sc.names.lookup x = some .local := by rfl)
    (hs : ∀ v, foldedSetIterable iter (c.env F) v = pure v := by intro _; rfl) : Ev X F c V R (.ListComp elt [⟨.Name x px, iter, [], 0⟩] sc pos) (IsListOf Pb (as.map f)) R1 := by
  have h := ev_compG (px := px) (pos := pos) (ifs := []) (Pb := Pb) (fun i => (as.take i).map f) he hz rfl (fun i y hi A q => ⟨true, testsE_nil, fun _ => ⟨f y, by rw [List.take_add_one, hi, List.map_append]; rfl, hb A q y (List.mem_of_getElem? hi)⟩, fun h => nomatch h⟩) hcl hk hnm hcell hx hs
  rwa [List.take_length] at h
theorem ev_compIf {α β : Type} {Pa : α → VP} {Pb : β → VP} {as : List α} (p : α → Bool) (f : α → β) (he : Ev X F c V R iter (IsListOf Pa as) R1) (hz : as.length ≤ 16777216)
    (ht : ∀ A q y, y ∈ as → TstE X F c (c.cenv F sc cl q) V (RStar (RNs q x (Pa y)) (RStar A R1)) ct (p y) (RStar (RNs q x (Pa y)) (RStar A R1)))
    (hb : ∀ A q y, y ∈ as → EvE X F c (c.cenv F sc cl q) V (RStar (RNs q x (Pa y)) (RStar A R1)) elt (Pb (f y)) (RStar (RNs q x (Pa y)) (RStar A R1)))
    (hcl : closureFor sc (c.env F) = pure cl := by rfl) (hk : sc.kind = .function := by rfl) (hnm : ∀ y ∈ sc.names, y.2 = .local → sc.names.lookup y.1 = some .local := by decide) (hcell : ∀ y ∈ sc.names, y.2 ≠ .cell := by decide) (hx : sc.names.lookup x = some .local := by rfl)
    (hs : ∀ v, foldedSetIterable iter (c.env F) v = pure v := by intro _; rfl) : Ev X F c V R (.ListComp elt [⟨.Name x px, iter, [ct], 0⟩] sc pos) (IsListOf Pb ((as.filter p).map f)) R1 := by
  have h := ev_compG (px := px) (pos := pos) (ifs := [ct]) (Pb := Pb) (fun i => ((as.take i).filter p).map f) he hz rfl (fun i y hi A q => ⟨p y, testsE_one (ht A q y (List.mem_of_getElem? hi)), fun e => ⟨f y, by rw [List.take_add_one, hi, List.filter_append, List.map_append]; simp [e], hb A q y (List.mem_of_getElem? hi)⟩, fun e => by rw [List.take_add_one, hi, List.filter_append]; simp [e]⟩) hcl hk hnm hcell hx hs
  rwa [List.take_length] at h
theorem ev_compRange {β : Type} {Pb : β → VP} {n : Nat} {o e : Expr} {pr : Pos} (f : Nat → β) (hr : EvA X F c V R o (IsVal (.type "range")) R) (he : Ev X F c V R e (IsInt (n : Int)) R1) (hz : n ≤ 1000000)
    (hb : ∀ A q i, i < n → EvE X F c (c.cenv F sc cl q) V (RStar (RNs q x (IsInt (i : Int))) (RStar A R1)) elt (Pb (f i)) (RStar (RNs q x (IsInt (i : Int))) (RStar A R1)))
    (hcl : closureFor sc (c.env F) = pure cl := by rfl) (hk : sc.kind = .function := by rfl) (hnm : ∀ y ∈ sc.names, y.2 = .local → sc.names.lookup y.1 = some .local := by decide) (hcell : ∀ y ∈ sc.names, y.2 ≠ .cell := by decide) (hx : sc.names.lookup x = some .local := by rfl)
    (hs : ∀ v, foldedSetIterable (.Call o [e] [] pr) (c.env F) v = pure v := by intro _; rfl)
    (e1 : eval (.Call o [e] [] pr) (c.env F) = (do callWith pr (← eval o (c.env F)) [] (backTo pr (starEach [e] (c.env F))) (backToKw pr (keywordEach [] (c.env F)))) := by rfl) (e2 : starEach [e] (c.env F) = [(false, eval e (c.env F))] := by rfl) :
    Ev X F c V R (.ListComp elt [⟨.Name x px, .Call o [e] [] pr, [], 0⟩] sc pos) (IsListOf Pb ((List.range n).map f)) R1 :=
  ev_compR (px := px) (pos := pos) (ifs := []) (Pb := Pb) (fun i => (List.range i).map f) hr he hz rfl (fun i hi A q => ⟨true, testsE_nil, fun _ => ⟨f i, by rw [List.range_succ, List.map_append]; rfl, hb A q i hi⟩, fun h => nomatch h⟩) hcl hk hnm hcell hx hs e1 e2
end
end MineP
end
section
open PySem PySem.W PySem.Calls PyProof.Rows PyProof.V PySem.Spec Mine
namespace MineP
section
variable {prog : Program} {w : World} {A : Around} {E : Value → Shared → Prop} {s : Shared} {h₀ : Heap} {L : Addr} {m : Str → Option Value} {news : List (Addr × Obj)}
theorem slice_listT {value slice : Expr} {l : Addr} {items : Array Value} {vl vu : Value} {lo hi : Option Int} {Q : Value → Shared → Prop} (hl : s.heap.IsList l items) (pl : IsPart vl lo) (pu : IsPart vu hi)
    (h : Q (.ref (s.heap.objs.size + 1)) { s with heap := (s.heap.push { cls := .type "slice", data := .fields #[vl, vu, .none] }).push { cls := .type "list", data := .seq (slicePick items lo hi none) } })
    (hs : subscripted slice false (.ref l) (.ref s.heap.objs.size) = operate [.ref s.heap.objs.size, .ref l] (getItem (.ref l) (.ref s.heap.objs.size))) (hsz : items.size ≤ sizeLine) :
    wpAny (model prog w) A (subscriptTail value slice (.ref l) (.ref s.heap.objs.size)) Q E { s with heap := s.heap.push { cls := .type "slice", data := .fields #[vl, vu, .none] } } := by
  refine tail_ref list_getitem_lookup (Heap.IsList.typeIs (s := { s with heap := s.heap.push { cls := .type "slice", data := .fields #[vl, vu, .none] } }) (hl.push _)) hs
    (wpAny_getItem_list_slice (hl.push _) (Heap.IsSliceOf.new ..) pl pu .none (by simp) ?_ hsz)
  show Q (.ref (s.heap.push _).objs.size) _
  rw [Heap.size_push]
  exact h
theorem cut_valsV {l : Addr} {its : Array Value} {vs : List Value} {vl vu : Value} {lo hi : Option Int} {n a b : Nat} {h₁ : Heap} {tk : Nat} {value slice : Expr} {Q : Value → Shared → Prop} (F : Fr h₀ L h₁ m) (N : News h₀ L h₁ news) (hm : (l, listOf its n) ∈ news) (hz : its.size ≤ 16777216)
    (pl : IsPart vl lo) (pu : IsPart vu hi) (e : sliceBounds lo hi none its.size = ((a : Int), (b : Int), 1)) (ev : (its.toList.drop a).take (b - a) = vs)
    (h : ∀ D h', Fr h₀ L h' m → News h₀ L h' ((D, listOf vs.toArray 0) :: news) → (∀ p ∈ news, p.1 < D) → Q (.ref D) { s with heap := h', toks := tk })
    (hs : subscripted slice false (.ref l) (.ref h₁.objs.size) = operate [.ref h₁.objs.size, .ref l] (getItem (.ref l) (.ref h₁.objs.size)) := by with_unfolding_all rfl) :
    wpAny (model prog w) A (subscriptTail value slice (.ref l) (.ref h₁.objs.size)) Q E { s with heap := h₁.push { cls := .type "slice", data := .fields #[vl, vu, .none] }, toks := tk } := by
  refine slice_listT (s := { s with heap := h₁, toks := tk }) (News.isList N hm) pl pu ?_ hs (by rw [sizeLine_eq]; exact hz)
  rw [kmk_pick_nat _ e, ev]
  refine h _ _ ((F.push _).push _) ?_ fun p hp => Nat.lt_succ_of_lt (Heap.lt_size (N p hp).1)
  have := (N.push F { cls := .type "slice", data := .fields #[vl, vu, .none] }).push (F.push _) (listOf vs.toArray 0)
  rw [Heap.size_push] at this
  exact fun p hp => by
    rcases List.mem_cons.mp hp with rfl | hp
    · exact this _ (.head _)
    · exact this _ (.tail _ (.tail _ hp))
theorem cut_uptoV {l : Addr} {vs : List Value} {n k : Nat} {kk : Int} {ut : Tok} {h₁ : Heap} {tk : Nat} {value slice : Expr} {Q : Value → Shared → Prop} (F : Fr h₀ L h₁ m) (N : News h₀ L h₁ news) (hm : (l, listOf vs.toArray n) ∈ news) (hz : vs.length ≤ 16777216) (hk : kk = (k : Int))
    (h : ∀ D h', Fr h₀ L h' m → News h₀ L h' ((D, listOf (vs.take k).toArray 0) :: news) → (∀ p ∈ news, p.1 < D) → Q (.ref D) { s with heap := h', toks := tk })
    (hs : subscripted slice false (.ref l) (.ref h₁.objs.size) = operate [.ref h₁.objs.size, .ref l] (getItem (.ref l) (.ref h₁.objs.size)) := by with_unfolding_all rfl) :
    wpAny (model prog w) A (subscriptTail value slice (.ref l) (.ref h₁.objs.size)) Q E { s with heap := h₁.push { cls := .type "slice", data := .fields #[.none, .int kk ut, .none] }, toks := tk } := by
  subst hk
  refine cut_valsV (a := 0) (b := min k vs.length) F N hm (by rw [List.size_toArray]; exact hz) .none (.int _ _) ?_ ?_ h hs
  · simp only [sliceBounds, Option.getD_none, show (1 : Int) > 0 by decide, if_true, if_neg (show ¬ ((k : Int) < 0) by omega), List.size_toArray]
    congr 1
    congr 1
    omega
  · rw [List.drop_zero, Nat.sub_zero, kmk_take_min]
theorem cut_fromV {l : Addr} {vs : List Value} {n k : Nat} {kk : Int} {ut : Tok} {h₁ : Heap} {tk : Nat} {value slice : Expr} {Q : Value → Shared → Prop} (F : Fr h₀ L h₁ m) (N : News h₀ L h₁ news) (hm : (l, listOf vs.toArray n) ∈ news) (hz : vs.length ≤ 16777216) (hk : kk = (k : Int))
    (h : ∀ D h', Fr h₀ L h' m → News h₀ L h' ((D, listOf (vs.drop k).toArray 0) :: news) → (∀ p ∈ news, p.1 < D) → Q (.ref D) { s with heap := h', toks := tk })
    (hs : subscripted slice false (.ref l) (.ref h₁.objs.size) = operate [.ref h₁.objs.size, .ref l] (getItem (.ref l) (.ref h₁.objs.size)) := by with_unfolding_all rfl) :
    wpAny (model prog w) A (subscriptTail value slice (.ref l) (.ref h₁.objs.size)) Q E { s with heap := h₁.push { cls := .type "slice", data := .fields #[.int kk ut, .none, .none] }, toks := tk } := by
  subst hk
  refine cut_valsV (a := min k vs.length) (b := vs.length) F N hm (by rw [List.size_toArray]; exact hz) (.int _ _) .none ?_ ?_ h hs
  · simp only [sliceBounds, Option.getD_none, show (1 : Int) > 0 by decide, if_true, if_neg (show ¬ ((k : Int) < 0) by omega), List.size_toArray]
    congr 1
    omega
  · rw [kmk_drop_min, List.take_of_length_le (by rw [List.length_drop]; omega)]
end
section
open Builtin
theorem rev_sliced (b : Array UInt8) : Bytes.sliced b ((b.size : Int) - 1) (-1) (-1) = rvA b := by
  unfold Bytes.sliced rvA
  rw [krv_sliceRange, krv_range, List.filterMap_reverse]
  congr 2
  exact krv_all b
theorem meets_rev (b : Array UInt8) (t : Tok) (a : Addr) {vk : Value} (pk : IsPart vk (some (-1))) :
    Meets («bytes.__getitem__» ⟨[.bytes b t, .ref a], []⟩) (fun _ R s => s.heap.IsSliceOf a .none .none vk ∧ b.size ≤ sizeLine ∧ ∀ t' k, R (.ok (.ret (.bytes (rvA b) t'))) { s with toks := k }) := by
  refine .of_wp fun prog w A R s hS => ?_
  obtain ⟨⟨o, ho, hc, hd⟩, hsz, h⟩ := hS
  have hT : s.TypeIs (.ref a) "slice" := ⟨o, ho, hc⟩
  show wpAny _ _ (Bytes.payload (.bytes b t) >>= fun r => _) _ _ s
  refine wpAny_bind (wpAny_of_eq (a := b) rfl ?_)
  show wpAny _ _ (Bytes.subscript? (.ref a) >>= fun r => _) _ _ s
  refine wpAny_bind ?_
  unfold Bytes.subscript?
  refine wpAny_bind (wpAny_specialOf hT slice_no_index (wpAny_pure ?_))
  refine wpAny_bind (wpAny_typeOf hT ?_)
  show wpAny _ _ (Bytes.sliceParts (.ref a) >>= fun r => _) _ _ s
  refine wpAny_bind ?_
  unfold Bytes.sliceParts
  generalize hst : (some (-1) : Option Int) = st at pk
  cases pk with
  | none => cases hst
  | int i u =>
    cases hst
    refine wpAny_bind (wpAny_field (x := .int (-1) u) ho hd rfl ?_)
    kby_int
    refine wpAny_ite (KBy.ite_no (show ¬ ((rawInt (-1) == rawInt 0) = true) from Bool.false_ne_true) ?_)
    refine wpAny_bind (wpAny_field (x := .none) ho hd rfl ?_)
    kby_none
    refine wpAny_bind (wpAny_field (x := .none) ho hd rfl ?_)
    kby_none
    refine wpAny_pure ?_
    have go : wpAny (model prog w) A.in1 (sliceIndices (rawPart none) (rawPart none) (rawPart (some (-1))) b.size) (fun r s' => r = sliceBounds none none (some (-1)) b.size ∧ s' = s) (fun _ _ => False) s :=
      wpAny_of_eq (sliceIndices_raw none none (some (-1)) b.size (fun e => nomatch e)) ⟨rfl, rfl⟩
    refine wpAny_bind (wpAny_mono go (fun r s' hr => ?_) fun _ _ e => e.elim)
    obtain ⟨hr1, hr2⟩ := hr
    subst hr1 hr2
    rw [krv_bounds]
    refine wpAny_ite (KBy.ite_no ?_ ?_)
    · simp only [Bool.and_eq_true, beq_iff_eq]
      rintro ⟨⟨_, h3⟩, _⟩
      omega
    · refine wpAny_bind (wpAny_mkBytes (wpAny_pure ⟨_, rfl, ?_⟩) ?_)
      · show _
        rw [rev_sliced]
        exact h _ _
      · rw [rev_sliced, rvA_size]
        exact hsz
end
section
variable {prog : Program} {w : World} {A : Around} {E : Value → Shared → Prop} {s : Shared} {h₀ : Heap} {L : Addr} {m : Str → Option Value} {news : List (Addr × Obj)}
theorem cut_revV {b : Array UInt8} {t : Tok} {vk : Value} {h₁ : Heap} {tk : Nat} {value slice : Expr} {Q : Value → Shared → Prop} (F : Fr h₀ L h₁ m) (N : News h₀ L h₁ news) (pk : IsPart vk (some (-1))) (hz : b.size ≤ 16777216)
    (h : ∀ t' h' k, Fr h₀ L h' m → News h₀ L h' news → Q (.bytes (rvA b) t') { s with heap := h', toks := k })
    (hs : subscripted slice false (.bytes b t) (.ref h₁.objs.size) = operate [.ref h₁.objs.size, .bytes b t] (getItem (.bytes b t) (.ref h₁.objs.size)) := by with_unfolding_all rfl)
    (ht : ∀ r, letTemporaryGo value (.bytes b t) r = pure () := by intro _; with_unfolding_all rfl) :
    wpAny (model prog w) A (subscriptTail value slice (.bytes b t) (.ref h₁.objs.size)) Q E { s with heap := h₁.push { cls := .type "slice", data := .fields #[.none, .none, vk] }, toks := tk } :=
  tail_of_ItemOn ⟨"bytes", _, FB.slot_bytes_getitem.lookup, typeIs_bytes _ _ _, getItem_meets (typeIs_bytes _ _ _) (by decide) FB.slot_bytes_getitem FB.entry_bytes_getitem (FB.args_bytes_getitem_2 _ _) (meets_rev b t _ pk)
    ⟨Heap.IsSliceOf.new _ _ _ _, by rw [sizeLine_eq]; exact hz, fun t' k => h _ _ _ (F.push _) (News.pushKeep N _)⟩⟩ hs ht
end
end MineP
end
section
open PySem PySem.W PySem.Calls PyProof.Rows PyProof.V PySem.Spec Mine
namespace MineP
def EachR {α : Type} (R : α → Value → Prop) (ys : List Value) (as : List α) : Prop := ys.length = as.length ∧ ∀ (i : Nat) (a : α), as[i]? = some a → ∃ v, ys[i]? = some v ∧ R a v
theorem EachR.both {α : Type} {R R' : α → Value → Prop} {P : Value → Value → Prop} {ys zs : List Value} {as : List α} (h : EachR R ys as) (k : EachR R' zs as) (f : ∀ a v w, R a v → R' a w → P v w) (j : Nat) (v w : Value) (e1 : ys[j]? = some v) (e2 : zs[j]? = some w) : P v w := by
  have hj : j < ys.length := by
    rcases Nat.lt_or_ge j ys.length with q | q
    · exact q
    · rw [List.getElem?_eq_none q] at e1; cases e1
  have ea := List.getElem?_eq_getElem (l := as) (i := j) (by rw [← h.1]; exact hj)
  obtain ⟨v', p1, p2⟩ := h.2 j _ ea
  obtain ⟨w', q1, q2⟩ := k.2 j _ ea
  obtain rfl : v = v' := Option.some.inj (e1.symm.trans p1)
  obtain rfl : w = w' := Option.some.inj (e2.symm.trans q1)
  exact f _ _ _ p2 q2
section
variable {prog : Program} {w : World} {A : Around} {E : Value → Shared → Prop} {s : Shared} {h₀ : Heap} {L : Addr} {m : Str → Option Value} {news : List (Addr × Obj)} {l b : Addr} {vs ws : List Value}
theorem all_rangeT (n : Nat) : (List.range n).all (fun _ => true) = true := by simp
theorem EqAt_listsE {α : Type} {R R' : α → Value → Prop} {as : List α} (hl : s.heap.IsList l vs.toArray) (hb : s.heap.IsList b ws.toArray) (h1 : EachR R vs as) (h2 : EachR R' ws as) (hu : A.units < cLine) (he : ∀ a v w, R a v → R' a w → SeqAt.EqAt A.in1 s v w true) : SeqAt.EqAt A s (.ref l) (.ref b) true := by
  by_cases e : l = b
  · subst e; exact SeqAt.EqAt.same _
  · have h := SeqAt.RcAt.lists (e := fun _ => true) hl hb (by simp [h1.1, h2.1]) hu (fun j k1 k2 => EachR.both h1 h2 he j _ _ (by rw [← List.getElem?_toArray, Array.getElem?_eq_getElem k1]) (by rw [← List.getElem?_toArray, Array.getElem?_eq_getElem k2]))
    rw [all_rangeT] at h
    exact SeqAt.EqAt.of_refs e h
theorem EqAt_tups (hl : s.heap.IsTuple l vs.toArray) (hb : s.heap.IsTuple b ws.toArray) (hlen : vs.length = ws.length) (hu : A.units < cLine) (he : ∀ (j : Nat) v w, vs[j]? = some v → ws[j]? = some w → SeqAt.EqAt A.in1 s v w true) : SeqAt.EqAt A s (.ref l) (.ref b) true := by
  by_cases e : l = b
  · subst e; exact SeqAt.EqAt.same _
  · have h := SeqAt.RcAt.tuples (e := fun _ => true) hl hb hu (fun j h1 h2 => he j _ _ (by rw [← List.getElem?_toArray, Array.getElem?_eq_getElem h1]) (by rw [← List.getElem?_toArray, Array.getElem?_eq_getElem h2]))
    rw [all_rangeT, Bool.true_and, show (vs.toArray.size == ws.toArray.size) = true by simp [hlen]] at h
    exact SeqAt.EqAt.of_refs e h
theorem ne_listsE {α : Type} {R R' : α → Value → Prop} {as : List α} {k1 k2 : Nat} {Q : Value → Shared → Prop} (N : News h₀ L s.heap news) (ma : (l, listOf vs.toArray k1) ∈ news) (mb : (b, listOf ws.toArray k2) ∈ news) (h1 : EachR R vs as) (h2 : EachR R' ws as) (hu : A.units < cLine) (he : ∀ a v w, R a v → R' a w → SeqAt.EqAt A.in1 s v w true) (h : Q (.bool false) s) : wpAny (model prog w) A (compareOp .NotEq (.ref l) (.ref b)) Q E s := by
  have k := SeqAt.RcNeAt.lists (e := fun _ => true) (News.isList N ma) (News.isList N mb) (by simp [h1.1, h2.1]) hu (fun j k1 k2 => EachR.both h1 h2 he j _ _ (by rw [← List.getElem?_toArray, Array.getElem?_eq_getElem k1]) (by rw [← List.getElem?_toArray, Array.getElem?_eq_getElem k2]))
  rw [all_rangeT] at k
  exact k prog w E Q h
abbrev tupV (vs : List Value) : Obj := { cls := .type "tuple", data := .seq vs.toArray }
theorem isTupV (N : News h₀ L s.heap news) (ma : (l, tupV vs) ∈ news) : s.heap.IsTuple l vs.toArray := ⟨_, (N _ ma).1, rfl, _, rfl⟩
theorem ne_tupsV {Q : Value → Shared → Prop} (N : News h₀ L s.heap news) (ma : (l, tupV vs) ∈ news) (mb : (b, tupV ws) ∈ news) (hlen : vs.length = ws.length) (hu : A.units < cLine) (he : ∀ (j : Nat) v w, vs[j]? = some v → ws[j]? = some w → SeqAt.EqAt A.in1 s v w true) (h : Q (.bool false) s) : wpAny (model prog w) A (compareOp .NotEq (.ref l) (.ref b)) Q E s := by
  have k := SeqAt.RcNeAt.tuples (e := fun _ => true) (isTupV N ma) (isTupV N mb) hu (fun j h1 h2 => he j _ _ (by rw [← List.getElem?_toArray, Array.getElem?_eq_getElem h1]) (by rw [← List.getElem?_toArray, Array.getElem?_eq_getElem h2]))
  rw [all_rangeT, Bool.true_and, show (vs.toArray.size == ws.toArray.size) = true by simp [hlen]] at k
  exact k prog w E Q h
theorem EqAt_intV {a : Int} {t u : Tok} : SeqAt.EqAt A s (.int a t) (.int a u) true := by
  have h := SeqAt.EqAt.int_int (A := A) (s := s) a t a u
  rw [beq_self_eq_true] at h
  exact h
end
end MineP
end
section
open PySem PySem.W PySem.Calls PyProof.Rows Mine
namespace MineP
section
variable {g : Bool} {M : Model} {A : Around} {E : Value → Shared → Prop} {s : Shared} {env : Env}
theorem p_display {elts : List Expr} {pos : Pos} {Q : Value → Shared → Prop} (mk : List Value → Sem Value) {e : Expr} (he : eval e env = (do standAt pos; mk (← spliced (backTo pos (starEach elts env)))))
    (h : wpP g M A (spliced (backTo pos (starEach elts env))) (fun vs s₁ => wpAny M A (mk vs) Q E s₁) E s) : wpP g M A (eval e env) Q E s := by
  rw [he]
  exact p_bind (p_standAt (p_bind (p_mono h (fun vs s1 h1 => p_any h1) fun _ _ x => x)))
theorem p_subP {value slice : Expr} {pos : Pos} {Q : Value → Shared → Prop}
    (h : wpP g M A (eval value env) (fun o s₁ => wpP g M A (eval slice env) (fun i s₂ => wpAny M A (subscriptTail value slice o i) Q E s₂) E s₁) E s) :
    wpP g M A (eval (.Subscript value slice pos) env) Q E s := by
  rw [eval_Subscript]
  exact p_bind (p_mono h (fun o s₁ h₁ => p_bind (p_holding (p_mono h₁ (fun i s₂ h₂ => p_bind (p_standAt (p_any h₂))) fun _ _ x => x))) fun _ _ x => x)
theorem p_slice {lower upper step : Option Expr} {p : Pos} {Q : Value → Shared → Prop}
    (h : wpP g M A (evalPart lower env) (fun l s₁ => wpP g M A (evalPart upper env) (fun u s₂ => wpP g M A (evalPart step env) (fun st s₃ =>
      Q (.ref s₃.heap.objs.size) { s₃ with heap := s₃.heap.push { cls := .type "slice", data := .fields #[l, u, st] } }) E s₂) E s₁) E s) :
    wpP g M A (eval (.Slice lower upper step p) env) Q E s := by
  rw [arm_eval_Slice]
  refine p_bind (p_mono h (fun l s₁ h₁ => p_bind (p_holding (p_mono h₁ (fun u s₂ h₂ => p_bind (p_holding (p_mono h₂ (fun st s₃ h₃ => ?_) fun _ _ x => x))) fun _ _ x => x))) fun _ _ x => x)
  exact p_any (wpAny_newObj_type h₃)
theorem p_isTruePlain {e : Expr} {whole : Sem Value} {Q : Bool → Shared → Prop} (h : wpP g M A whole (fun v s₁ => wpP g M A (truthy v) Q E s₁) E s)
    (he : isTrue e env whole = (do let v ← whole; standAt e.pos; holding [v] (truthy v)) := by rfl) : wpP g M A (isTrue e env whole) Q E s := by
  rw [he]
  exact p_bind (p_mono h (fun v s₁ h₁ => p_bind (p_standAt (p_holding h₁))) fun _ _ x => x)
theorem p_assignTS {elts : List Expr} {k : Nat} {tpos pos : Pos} {value : Expr} {names : List Str} {Q : Flow → Shared → Prop}
    (h : wpP g M A (eval value env) (fun v s₁ => wpAny M A (unpackItems v names.length none) (fun items s₂ =>
      wpAny M A (assignInOrder (names.reverse.map fun n => bindName env n) items.reverse) (fun _ => Q .next) E s₂) E s₁) E s)
    (hs : swapsWithSole [.Tuple elts k tpos] value pos.line env = pure false) (hw : swappedStores [.Tuple elts k tpos] value env = pure (some names)) :
    wpP g M A (exec (.Assign [.Tuple elts k tpos] value pos) env) Q E s := by
  rw [exec_Assign]
  refine p_bind (p_standAt ?_)
  rw [hs]
  refine p_bind (p_pure ?_)
  rw [if_neg (by decide)]
  refine p_bind (p_mono h (fun v s₁ h₁ => ?_) fun _ _ x => x)
  rw [hw]
  refine p_bind (p_pure (p_any ?_))
  show wpAny M A (do rule "assign.swapped-stores"; let items ← unpackItems v names.length none; assignInOrder (names.reverse.map fun n => bindName env n) items.reverse; pure .next) Q E s₁
  exact wpAny_bind (wpAny_rule (wpAny_bind (wpAny_mono h₁ (fun items s₂ h₂ => wpAny_bind (wpAny_mono h₂ (fun _ _ x => wpAny_pure x) fun _ _ x => x)) fun _ _ x => x)))
end
def IsTup (Ps : List VP) : VP := ⟨fun N v => ∃ l vs, v = .ref l ∧ (l, tupV vs) ∈ N ∧ vs.length = Ps.length ∧ TOk (Ps.zip vs) N, fun ⟨l, vs, e, m, hl, h⟩ k => ⟨l, vs, e, k _ m, hl, h.mono k⟩⟩
theorem each_zip {α : Type} {Pa : α → VP} {N : Lg} : ∀ {as : List α} {vs : List Value}, vs.length = as.length → TOk ((as.map Pa).zip vs) N → ∀ (i : Nat) (a : α), as[i]? = some a → ∃ u, vs[i]? = some u ∧ (Pa a).P N u
  | [], vs, _, _, i, a, e => by simp at e
  | a :: as, v :: vs, hl, hT, 0, b, e => by
    obtain rfl : a = b := Option.some.inj e
    exact ⟨v, rfl, hT _ (.head _)⟩
  | a :: as, v :: vs, hl, hT, i + 1, b, e => each_zip (Nat.succ.inj hl) hT.tail i b e
section
variable {X : LW} {F : FN} {c : FC} {ε : Env} {V : VL} {R R1 R2 R' : RP} {e e1 e2 o t l r u : Expr} {es : List Expr} {P P1 P2 Po : VP} {Ps : List VP} {x y name : Str} {pos px py tpos vpos apos sp pp : Pos} {a b a' b' : Nat} {kk k2 : Nat} {bv cv : Bool} {id : String} {rest : List Stmt}
theorem St.push {T : TL} {h' : Heap} {D : Addr} {ob : Obj} {Ck N : Lg} {m : Str → Option Value} {tk : Nat} {v : Value} (hV : VOk V m N) (hT : TOk T N) (r : R.P Ck N) (F2 : Fr c.h₀ c.L h' m) (N2 : News c.h₀ c.L h' ((D, ob) :: (Ck ++ N))) (nd : ND (Ck ++ N)) (l1 : ∀ p ∈ Ck ++ N, p.1 < D) (hp : P.P ((D, ob) :: N) v) :
    St c V ((P, v) :: T) R { c.s₀ with heap := h', toks := tk } :=
  have sub : ∀ p ∈ N, p ∈ (D, ob) :: N := fun p hp => .tail _ hp
  (St.mk (C := Ck) F2 (hV.mono sub) (TOk.cons hp (hT.mono sub)) (news_perm List.perm_middle.symm N2) (nd_perm List.perm_middle.symm (nd_cons (fun p hp => Nat.ne_of_lt (l1 p hp)) nd)) (R.mono r sub))
theorem ev_tup (h : EvsE X F c ε V R es Ps R1) (hz : Ps.length ≤ 100) (he : backTo pos (starEach es ε) = es.map fun e => (false, eval e ε) := by rfl)
    (hq : eval (.Tuple es kk pos) ε = (do standAt pos; newTuple (← spliced (backTo pos (starEach es ε)))) := by rfl) : EvE X F c ε V R (.Tuple es kk pos) (IsTup Ps) R1 := by
  intro T Q E s st k
  refine p_display newTuple hq ?_
  rw [he]
  refine h T _ E s st fun vs s1 hl st1 => ?_
  apply st1.elim; intro h1 tk m Ck N F' hV hT hN nd rr
  refine kup_newTuple F' hN (fun D h' F2 N2 l1 => ?_) (by rw [hl, sizeLine_eq]; omega)
  have sub : ∀ p ∈ N, p ∈ (D, tupV vs) :: N := fun p hp => .tail _ hp
  exact k _ _ (St.push hV (fun z hz => hT z (List.mem_append_right _ hz)) rr F2 N2 nd l1 ⟨D, vs, rfl, .head _, hl, TOk.mono (fun z hz => hT z (List.mem_append_left _ hz)) sub⟩)
theorem ev_list {α : Type} {Pa : α → VP} {as : List α} (h : EvsE X F c ε V R es (as.map Pa) R1) (hz : as.length ≤ 100) (he : backTo pos (starEach es ε) = es.map fun e => (false, eval e ε) := by rfl)
    (hq : eval (.List es pos) ε = (do standAt pos; newList (← spliced (backTo pos (starEach es ε)))) := by rfl) : EvE X F c ε V R (.List es pos) (IsListOf Pa as) R1 := by
  intro T Q E s st k
  refine p_display newList hq ?_
  rw [he]
  refine h T _ E s st fun vs s1 hl st1 => ?_
  rw [List.length_map] at hl
  apply st1.elim; intro h1 tk m Ck N F' hV hT hN nd rr
  refine newList_K F' hN (fun D h' F2 N2 l1 => ?_) (by rw [hl, sizeLine_eq]; omega)
  have sub : ∀ p ∈ N, p ∈ (D, listOf vs.toArray 0) :: N := fun p hp => .tail _ hp
  exact k _ _ (St.push hV (fun z hz => hT z (List.mem_append_right _ hz)) rr F2 N2 nd l1 ⟨D, 0, vs, rfl, .head _, hl, each_zip hl (TOk.mono (fun z hz => hT z (List.mem_append_left _ hz)) sub)⟩)
theorem exs_assign2 {Pst : TL → Value → Shared → Prop} (C : c.Ok X F a b) (h : Ev X F c V R e (IsTup [P1, P2]) R1) (k : ExsP X F c ((x, P1) :: (y, P2) :: V) R1 rest Pst)
    (hx : (c.env F).kindOf x = some .local := by rfl) (hy : (c.env F).kindOf y = some .local := by rfl)
    (hs : swapsWithSole [.Tuple [.Name x px, .Name y py] kk tpos] e pos.line (c.env F) = pure false := by rfl) (hw : swappedStores [.Tuple [.Name x px, .Name y py] kk tpos] e (c.env F) = pure (some [x, y]) := by rfl) :
    ExsP X F c V R (.Assign [.Tuple [.Name x px, .Name y py] kk tpos] e pos :: rest) Pst := by
  intro T Q E s st kQ
  refine p_execs (p_assignTS (h T _ E s st fun v s1 st1 => ?_) hs hw)
  apply st1.elim; intro h1 tk m Ck N F' hV hT hN nd rr
  obtain ⟨l, vs, rfl, hm, hl, hP⟩ := hT (IsTup [P1, P2], v) (.head _)
  obtain ⟨v1, v2, rfl⟩ := two_of hl
  refine unpackItemsN_ F' hN (News.isTup hN (List.mem_append_right _ hm)) rfl rfl fun h' F2 N2 => ?_
  have z1 := hP (P1, v1) (.head _)
  have z2 := hP (P2, v2) (.tail _ (.head _))
  show wpAny _ _ (assignInOrder [bindName (c.env F) y, bindName (c.env F) x] [v2, v1]) _ _ _
  refine assignInOrder_cons (bindName_ (storeX_L F2 N2 (fun h3 F3 N3 => ?_) C.hk hy))
  refine assignInOrder_cons (bindName_ (storeX_L F3 N3 (fun h4 F4 N4 => ?_) C.hk hx))
  refine assignInOrder_nil ?_
  exact k T Q E _ (St.mk (C := Ck) (N := N) F4 ((hV.set z2).set z1) hT.tail N4 nd rr) kQ
theorem ev_orB (h1 : EvE X F c ε V R l (IsBool bv) R1) (h2 : EvE X F c ε V R1 r (IsBool cv) R1) : EvE X F c ε V R (.BoolOp .Or [l, r] pos) (IsBool (bv || cv)) R1 := by
  intro T Q E s st k
  refine p_bool_or (h1 T _ E s st fun v s1 st1 => ?_)
  have hv : v = .bool bv := by
    apply st1.elim; intro h tk m Ck N F' hV hT hN nd r
    exact hT (IsBool bv, v) (.head _)
  subst hv
  refine wpAny_truthy_bool ?_
  cases bv with
  | true => exact k _ _ st1
  | false => exact p_bool_one (h2 T _ E s1 st1.drop k)
theorem ev_and1 (h1 : EvE X F c ε V R l (IsBool true) R1) : EvE X F c ε V R (.BoolOp .And [l] pos) (IsBool true) R1 := fun T Q E s st k => p_bool_one (h1 T Q E s st k)
theorem ev_andC (h1 : EvE X F c ε V R l (IsBool true) R1) (h2 : EvE X F c ε V R1 (.BoolOp .And (r :: es) pos) (IsBool true) R2) : EvE X F c ε V R (.BoolOp .And (l :: r :: es) pos) (IsBool true) R2 := by
  intro T Q E s st k
  refine p_bool_and (h1 T _ E s st fun v s1 st1 => ?_)
  have hv : v = .bool true := by
    apply st1.elim; intro h tk m Ck N F' hV hT hN nd r
    exact hT (IsBool true, v) (.head _)
  subst hv
  refine wpAny_truthy_bool ?_
  exact h2 T Q E s1 st1.drop k
theorem tst_bool (h : EvE X F c ε V R e (IsBool bv) R1) (he : isTrue e ε (eval e ε) = (do let v ← eval e ε; standAt e.pos; holding [v] (truthy v)) := by rfl) : TstE X F c ε V R e bv R1 := by
  intro T Q E s st k
  refine p_isTruePlain (h T _ E s st fun v s1 st1 => ?_) he
  have hv : v = .bool bv := by
    apply st1.elim; intro h tk m Ck N F' hV hT hN nd r
    exact hT (IsBool bv, v) (.head _)
  subst hv
  exact p_pure (k s1 st1.drop)
theorem ev_ifexp (ht : TstE X F c ε V R t bv R1) (h1 : bv = true → EvE X F c ε V R1 e1 P R2) (h2 : bv = false → EvE X F c ε V R1 e2 P R2) : EvE X F c ε V R (.IfExp t e1 e2 pos) P R2 := by
  intro T Q E s st k
  refine p_ifexp (ht T _ E s st fun s1 st1 => ?_)
  cases bv with
  | true => exact h1 rfl T Q E s1 st1 k
  | false => exact h2 rfl T Q E s1 st1 k
theorem ev_methC (C : c.Ok X F a b) (ho : EvAE X F c ε V R o Po R) (hm : Gb X Po name id) (ha : EvsE X F c ε V R es Ps R1) (hc : ConB X id (Po :: Ps) R1 P R')
    (he : backTo pos (starEach es ε) = es.map fun e => (false, eval e ε) := by rfl)
    {pl : Sem Bool} (he' : eval (.Call (.Attribute o name apos) es [] pos) ε = (do
      let ov ← eval o ε
      standAt apos.atName
      let (f, first) ← holding [ov] (getMethod ov name pl)
      callWith pos f first (backTo pos (starEach es ε)) []) := by rfl) : EvE X F c ε V R (.Call (.Attribute o name apos) es [] pos) P R' := by
  intro T Q E s st k
  refine p_meth (pl := pl) (ho T _ E s st fun v s1 st1 => ?_) he'
  obtain ⟨N0, hv⟩ : ∃ N0, Po.P N0 v := by
    apply st1.elim; intro h tk m Ck N F' hV hT hN nd r
    exact ⟨N, hT _ (.head _)⟩
  refine hm _ _ E s1 v pl N0 hv ?_
  exact callB (P0 := [Po]) (v := [v]) C rfl ha hc st1 k he
theorem ev_item {α : Type} {Pa : α → VP} {as : List α} {y : α} {k : Nat} (ho : EvE X F c ε V R o (IsListOf Pa as) R1) (hy : as[k]? = some y) (hk : k ≤ 1000)
    (hs : ∀ l t, subscripted (.Constant (.int k) kk sp) false (.ref l) (.int k t) = operate [.ref l, .int k t] (getItem (.ref l) (.int k t)) := by intro _ _; with_unfolding_all rfl) (hg : ∀ l r, letTemporaryGo o (.ref l) r = pure () := by intro _ _; with_unfolding_all rfl) :
    EvE X F c ε V R (.Subscript o (.Constant (.int k) kk sp) pos) (Pa y) R1 := by
  intro T Q E s st kQ
  refine p_subP (ho T _ E s st fun v s1 st1 => ?_)
  apply st1.elim; intro h tk m Ck N F' hV hT hN nd r
  obtain ⟨l, n, vs, rfl, hm, hl, hi⟩ := hT (IsListOf Pa as, v) (.head _)
  obtain ⟨u, e1, e2⟩ := hi k y hy
  refine p_any (wpAny_Constant_int ?_)
  refine item_list (News.isList hN (List.mem_append_right _ hm)) (by omega) (by omega) (by simpa using e1) ?_ (hs l _) (hg l)
  exact kQ _ _ (St.mk (C := Ck) (N := N) F' hV (TOk.cons e2 hT.tail) hN nd r)
theorem ev_cutTo {α : Type} {Pa : α → VP} {as : List α} {k : Nat} (ho : EvE X F c ε V R o (IsListOf Pa as) R1) (hu : EvE X F c ε V R1 u (IsInt (k : Int)) R2) (hz : as.length ≤ 16777216)
    (hs : ∀ l i, subscripted (.Slice none (some u) none sp) false (.ref l) (.ref i) = operate [.ref i, .ref l] (getItem (.ref l) (.ref i)) := by intro _ _; with_unfolding_all rfl) :
    EvE X F c ε V R (.Subscript o (.Slice none (some u) none sp) pos) (IsListOf Pa (as.take k)) R2 := by
  intro T Q E s st kQ
  refine p_subP (ho T _ E s st fun v s1 st1 => p_slice (p_pure (hu _ _ E s1 st1 fun v' s2 st2 => p_pure ?_)))
  apply st2.elim; intro h tk m Ck N F' hV hT hN nd r
  obtain ⟨l, n, vs, rfl, hm, hl, hi⟩ := hT (IsListOf Pa as, v) (.tail _ (.head _))
  obtain ⟨t, rfl⟩ := hT (IsInt (k : Int), v') (.head _)
  refine cut_uptoV (s := c.s₀) F' hN (List.mem_append_right _ hm) (hl ▸ hz) rfl (fun D h' F2 N2 l1 => ?_) (hs _ _)
  have sub : ∀ p ∈ N, p ∈ (D, listOf (vs.take k).toArray 0) :: N := fun p hp => .tail _ hp
  refine kQ _ _ (St.push hV hT.tail.tail r F2 N2 nd l1 ⟨D, 0, vs.take k, rfl, .head _, by simp [hl], fun i y e => ?_⟩)
  rw [List.getElem?_take] at e ⊢
  by_cases q : i < k
  · rw [if_pos q] at e ⊢
    obtain ⟨u, e1, e2⟩ := hi i y e
    exact ⟨u, e1, (Pa y).mono e2 sub⟩
  · rw [if_neg q] at e; cases e
theorem ev_cutFrom {α : Type} {Pa : α → VP} {as : List α} {k : Nat} (ho : EvE X F c ε V R o (IsListOf Pa as) R1) (hu : EvE X F c ε V R1 u (IsInt (k : Int)) R2) (hz : as.length ≤ 16777216)
    (hs : ∀ l i, subscripted (.Slice (some u) none none sp) false (.ref l) (.ref i) = operate [.ref i, .ref l] (getItem (.ref l) (.ref i)) := by intro _ _; with_unfolding_all rfl) :
    EvE X F c ε V R (.Subscript o (.Slice (some u) none none sp) pos) (IsListOf Pa (as.drop k)) R2 := by
  intro T Q E s st kQ
  refine p_subP (ho T _ E s st fun v s1 st1 => p_slice (hu _ _ E s1 st1 fun v' s2 st2 => p_pure (p_pure ?_)))
  apply st2.elim; intro h tk m Ck N F' hV hT hN nd r
  obtain ⟨l, n, vs, rfl, hm, hl, hi⟩ := hT (IsListOf Pa as, v) (.tail _ (.head _))
  obtain ⟨t, rfl⟩ := hT (IsInt (k : Int), v') (.head _)
  refine cut_fromV (s := c.s₀) F' hN (List.mem_append_right _ hm) (hl ▸ hz) rfl (fun D h' F2 N2 l1 => ?_) (hs _ _)
  have sub : ∀ p ∈ N, p ∈ (D, listOf (vs.drop k).toArray 0) :: N := fun p hp => .tail _ hp
  refine kQ _ _ (St.push hV hT.tail.tail r F2 N2 nd l1 ⟨D, 0, vs.drop k, rfl, .head _, by simp [hl], fun i y e => ?_⟩)
  rw [List.getElem?_drop] at e ⊢
  obtain ⟨u, e1, e2⟩ := hi _ y e
  exact ⟨u, e1, (Pa y).mono e2 sub⟩
theorem ev_negc {i : Nat} {k : Nat} : EvAE X F c ε V R (.UnaryOp .USub (.Constant (.int i) k pp) pos) (IsInt (-(i : Int))) R := by
  intro T Q E s st kQ
  apply st.elim; intro h tk m Ck N F' hV hT hN nd r
  rw [eval_UnaryOp]
  refine wpAny_bind (wpAny_Constant_int (wpAny_bind (wpAny_standAt (wpAny_holding (neg_int ?_)))))
  exact kQ _ _ (St.mk (C := Ck) (N := N) F' hV (hT.cons ⟨_, rfl⟩) hN nd r)
theorem ev_revB {d : Array UInt8} (ho : EvE X F c ε V R o (IsBytes d) R1) (hu : EvE X F c ε V R1 u (IsInt (-1)) R2) (hz : d.size ≤ 16777216)
    (hs : ∀ t i, subscripted (.Slice none none (some u) sp) false (.bytes d t) (.ref i) = operate [.ref i, .bytes d t] (getItem (.bytes d t) (.ref i)) := by intro _ _; with_unfolding_all rfl) (hg : ∀ t r, letTemporaryGo o (.bytes d t) r = pure () := by intro _ _; with_unfolding_all rfl) :
    EvE X F c ε V R (.Subscript o (.Slice none none (some u) sp) pos) (IsBytes (rvA d)) R2 := by
  intro T Q E s st kQ
  refine p_subP (ho T _ E s st fun v s1 st1 => p_slice (p_pure (p_pure (hu _ _ E s1 st1 fun v' s2 st2 => ?_))))
  apply st2.elim; intro h tk m Ck N F' hV hT hN nd r
  obtain ⟨t, rfl⟩ := hT (IsBytes d, v) (.tail _ (.head _))
  obtain ⟨t', rfl⟩ := hT (IsInt (-1), v') (.head _)
  refine cut_revV (s := c.s₀) F' hN (IsPart.int _ _) hz (fun t9 h' k9 F2 N2 => ?_) (hs _ _) (hg _)
  exact kQ _ _ (St.mk (C := Ck) (N := N) F2 hV (TOk.cons ⟨_, rfl⟩ hT.tail.tail) N2 nd r)
end
end MineP
end
section
open PySem PySem.W PySem.Calls PyProof.Rows Mine
namespace MineP
def EqVP (d : Nat) (P P' : VP) : Prop :=
  ∀ (A : Around) (s : Shared) (h₀ : Heap) (L : Addr) (N news : Lg) (v w : Value), (∀ p ∈ N, p ∈ news) → News h₀ L s.heap news → A.units + d < cLine → P.P N v → P'.P N w → SeqAt.EqAt A s v w true
theorem eqv_bytes {d : Nat} {b : Array UInt8} : EqVP d (IsBytes b) (IsBytes b) := by
  rintro A s h₀ L N news v w hs hN hu ⟨t, rfl⟩ ⟨u, rfl⟩
  intro prog w E Q h
  unfold eqBool
  refine wpAny_holding ?_
  refine wpAny_ite_split (fun _ => wpAny_bind (wpAny_rule (wpAny_pure h))) (fun hab => ?_)
  refine wpAny_bind (show wpAny _ _ (compareOp .Eq _ _) _ _ _ from eq_bytes ?_)
  rw [beq_self_eq_true]
  exact wpAny_of_eq (a := true) rfl h
theorem eqv_int {d : Nat} {i : Int} : EqVP d (IsInt i) (IsInt i) := by
  rintro A s h₀ L N news v w hs hN hu ⟨t, rfl⟩ ⟨u, rfl⟩
  exact EqAt_intV
theorem each_of {α : Type} {Pa : α → VP} {as : List α} {N : Lg} {vs : List Value} (h1 : vs.length = as.length) (h2 : ∀ (i : Nat) (a : α), as[i]? = some a → ∃ u, vs[i]? = some u ∧ (Pa a).P N u) : EachR (fun (a : α) v => (Pa a).P N v) vs as := ⟨h1, h2⟩
theorem units_in1 {A : Around} : A.in1.units = A.units + 1 := rfl
theorem eqv_list {α : Type} {d : Nat} {Pa Pb : α → VP} {as : List α} (h : ∀ a, EqVP d (Pa a) (Pb a)) : EqVP (d + 1) (IsListOf Pa as) (IsListOf Pb as) := by
  rintro A s h₀ L N news v w hs hN hu ⟨l, n, vs, rfl, m1, l1, i1⟩ ⟨l', n', ws, rfl, m2, l2, i2⟩
  exact EqAt_listsE (News.isList hN (hs _ m1)) (News.isList hN (hs _ m2)) (each_of l1 i1) (each_of l2 i2) (by omega) fun a v w p q => h a A.in1 s h₀ L N news v w hs hN (by rw [units_in1]; omega) p q
def EqVPs (d : Nat) : List VP → List VP → Prop
  | [], [] => True
  | P :: Ps, P' :: Ps' => EqVP d P P' ∧ EqVPs d Ps Ps'
  | _, _ => False
theorem eqvs_len {d : Nat} : ∀ {Ps Ps' : List VP}, EqVPs d Ps Ps' → Ps.length = Ps'.length
  | [], [], _ => rfl
  | P :: Ps, P' :: Ps', h => congrArg Nat.succ (eqvs_len h.2)
theorem eqvs_at {d : Nat} {A : Around} {s : Shared} {h₀ : Heap} {L : Addr} {N news : Lg} (hs : ∀ p ∈ N, p ∈ news) (hN : News h₀ L s.heap news) (hu : A.units + d < cLine) : ∀ {Ps Ps' : List VP} {vs ws : List Value}, EqVPs d Ps Ps' → TOk (Ps.zip vs) N → TOk (Ps'.zip ws) N → vs.length = Ps.length → ws.length = Ps'.length →
    ∀ (j : Nat) v w, vs[j]? = some v → ws[j]? = some w → SeqAt.EqAt A s v w true
  | [], [], [], [], _, _, _, _, _, j, v, w, e, _ => by simp at e
  | P :: Ps, P' :: Ps', a :: vs, b :: ws, h, h1, h2, l1, l2, 0, v, w, e1, e2 => by
    obtain rfl : a = v := Option.some.inj e1
    obtain rfl : b = w := Option.some.inj e2
    exact h.1 A s h₀ L N news a b hs hN hu (h1 _ (.head _)) (h2 _ (.head _))
  | P :: Ps, P' :: Ps', a :: vs, b :: ws, h, h1, h2, l1, l2, j + 1, v, w, e1, e2 => eqvs_at hs hN hu h.2 h1.tail h2.tail (Nat.succ.inj l1) (Nat.succ.inj l2) j v w e1 e2
theorem eqv_tup {d : Nat} {Ps Ps' : List VP} (h : EqVPs d Ps Ps') : EqVP (d + 1) (IsTup Ps) (IsTup Ps') := by
  rintro A s h₀ L N news v w hs hN hu ⟨l, vs, rfl, m1, l1, i1⟩ ⟨l', ws, rfl, m2, l2, i2⟩
  exact EqAt_tups (isTupV hN (hs _ m1)) (isTupV hN (hs _ m2)) (by rw [l1, l2, eqvs_len h]) (by omega) (eqvs_at hs hN (by rw [units_in1]; omega) h i1 i2 l1 l2)
section
variable {X : LW} {F : FN} {c : FC} {ε : Env} {V : VL} {R R1 R2 R' : RP} {e l r : Expr} {P P1 P2 Po : VP} {Ps Ps' : List VP} {pos lp : Pos} {a b d : Nat} {bv cv : Bool}
theorem tst_neL {α : Type} {Pa Pb : α → VP} {as : List α} (C : c.Ok X F a b) (hl : EvE X F c ε V R l (IsListOf Pa as) R1) (hr : EvE X F c ε V R1 r (IsListOf Pb as) R2) (h : ∀ a, EqVP d (Pa a) (Pb a)) (hb : Nat.ble (d + 1) b = true) (hm : behindInMarks .NotEq r = false := by with_unfolding_all rfl) : TstE X F c ε V R (.Compare l [.NotEq] [r] pos) false R2 :=
  tst_ne hl hr (fun T E s v v' Q st k => by
    revert k; apply st.elim; intro h1 tk m Ck N F' hV hT hN nd rr k
    obtain ⟨l1, n1, us, rfl, m1, z1, i1⟩ := hT (IsListOf Pa as, v) (.tail _ (.head _))
    obtain ⟨l2, n2, ws, rfl, m2, z2, i2⟩ := hT (IsListOf Pb as, v') (.head _)
    have hu := C.hu
    have hb := Nat.le_of_ble_eq_true hb
    have eu : (c.A F).units = c.un := rfl
    exact ne_listsE hN (List.mem_append_right _ m1) (List.mem_append_right _ m2) (each_of z1 i1) (each_of z2 i2) (by omega) (fun a v w p q => h a (c.A F).in1 _ c.h₀ c.L N _ v w (fun p hp => List.mem_append_right _ hp) hN (by rw [units_in1]; omega) p q) (k _)) hm
theorem tst_neT (C : c.Ok X F a b) (hl : EvE X F c ε V R l (IsTup Ps) R1) (hr : EvE X F c ε V R1 r (IsTup Ps') R2) (h : EqVPs d Ps Ps') (hb : Nat.ble (d + 1) b = true) (hm : behindInMarks .NotEq r = false := by with_unfolding_all rfl) : TstE X F c ε V R (.Compare l [.NotEq] [r] pos) false R2 :=
  tst_ne hl hr (fun T E s v v' Q st k => by
    revert k; apply st.elim; intro h1 tk m Ck N F' hV hT hN nd rr k
    obtain ⟨l1, us, rfl, m1, z1, i1⟩ := hT (IsTup Ps, v) (.tail _ (.head _))
    obtain ⟨l2, ws, rfl, m2, z2, i2⟩ := hT (IsTup Ps', v') (.head _)
    have hu := C.hu
    have hb := Nat.le_of_ble_eq_true hb
    have eu : (c.A F).units = c.un := rfl
    exact ne_tupsV hN (List.mem_append_right _ m1) (List.mem_append_right _ m2) (by rw [z1, z2, eqvs_len h]) (by omega) (eqvs_at (fun p hp => List.mem_append_right _ hp) hN (by rw [units_in1]; omega) h i1 i2 z1 z2) (k _)) hm
theorem tst_neBool (hl : EvE X F c ε V R l (IsBool bv) R1) (hr : EvE X F c ε V R1 r (IsBool cv) R2) (hm : behindInMarks .NotEq r = false := by with_unfolding_all rfl) : TstE X F c ε V R (.Compare l [.NotEq] [r] pos) (bv != cv) R2 :=
  tst_ne hl hr (fun T E s v v' Q st k => by
    revert k; apply st.elim; intro h1 tk m Ck N F' hV hT hN nd rr k
    obtain rfl := hT (IsBool bv, v) (.tail _ (.head _))
    obtain rfl := hT (IsBool cv, v') (.head _)
    exact ne_bool (k _)) hm
theorem ne_nilV {prog : Program} {w : World} {A : Around} {E : Value → Shared → Prop} {s : Shared} {l b : Addr} {vs : List Value} {Q : Value → Shared → Prop} (hl : s.heap.IsList l vs.toArray) (hb : s.heap.IsList b #[]) (hu : A.units < cLine) (h : Q (.bool (!vs.isEmpty)) s) : wpAny (model prog w) A (compareOp .NotEq (.ref l) (.ref b)) Q E s := by
  cases vs with
  | nil => exact SeqAt.RcNeAt.lists (e := fun _ => true) hl hb rfl hu (fun j h1 h2 => absurd h1 (Nat.not_lt_zero _)) prog w E Q h
  | cons v r => exact SeqAt.RcNeAt.lists_lengths hl hb (by simp) hu prog w E Q h
theorem ne_nilS {T : TL} {Q : Value → Shared → Prop} {E : EC} {s : Shared} {v v' : Value} {α : Type} {Pa : α → VP} {Pb : Nat → VP} {as : List α} (C : c.Ok X F a b) (st : St c V ((IsListOf Pb [], v') :: (IsListOf Pa as, v) :: T) R s) (k : Q (.bool (!as.isEmpty)) s) : wpAny (model X.prog X.w) (c.A F) (compareOp .NotEq v v') Q E s := by
  revert k; apply st.elim; intro h1 tk m Ck N F' hV hT hN nd rr k
  obtain ⟨l1, n1, us, rfl, m1, z1, i1⟩ := hT (IsListOf Pa as, v) (.tail _ (.head _))
  obtain ⟨l2, n2, ws, rfl, m2, z2, i2⟩ := hT (IsListOf Pb [], v') (.head _)
  obtain rfl := List.length_eq_zero_iff.mp z2
  have hu := C.hu
  have eu : (c.A F).units = c.un := rfl
  refine ne_nilV (News.isList hN (List.mem_append_right _ m1)) (News.isList hN (List.mem_append_right _ m2)) (by omega) ?_
  have e : us.isEmpty = as.isEmpty := by cases us <;> cases as <;> simp_all
  rw [e]
  exact k
theorem tst_neNil {α : Type} {Pa : α → VP} {as : List α} (C : c.Ok X F a b) (hl : EvE X F c ε V R l (IsListOf Pa as) R1) (hm : behindInMarks .NotEq (.List [] lp) = false := by with_unfolding_all rfl)
    (he : backTo lp (starEach [] ε) = [] := by rfl) (hq : eval (.List [] lp) ε = (do standAt lp; newList (← spliced (backTo lp (starEach [] ε)))) := by rfl) : TstE X F c ε V R (.Compare l [.NotEq] [.List [] lp] pos) (!as.isEmpty) R1 :=
  tst_ne hl (ev_list (Pa := fun (_ : Nat) => IsNone) (as := []) evs_nil (Nat.zero_le _) he hq) (fun T E s v v' Q st k => ne_nilS C st (k s.toks)) hm
theorem ev_neNil {α : Type} {Pa : α → VP} {as : List α} (C : c.Ok X F a b) (hl : EvE X F c ε V R l (IsListOf Pa as) R1) (hm : behindInMarks .NotEq (.List [] lp) = false := by with_unfolding_all rfl)
    (he : backTo lp (starEach [] ε) = [] := by rfl) (hq : eval (.List [] lp) ε = (do standAt lp; newList (← spliced (backTo lp (starEach [] ε)))) := by rfl) : EvE X F c ε V R (.Compare l [.NotEq] [.List [] lp] pos) (IsBool (!as.isEmpty)) R1 := by
  intro T Q E s st k
  refine p_evalCmp (hl T _ E s st fun v s1 st1 => ev_list (Pa := fun (_ : Nat) => IsNone) (as := []) evs_nil (Nat.zero_le _) he hq _ _ E s1 st1 fun v' s2 st2 => ?_) hm
  refine p_any (ne_nilS C st2 ?_)
  apply st2.elim; intro h1 tk m Ck N F' hV hT hN nd rr
  exact k _ _ (St.mk (C := Ck) (N := N) F' hV (TOk.cons rfl hT.tail.tail) hN nd rr)
theorem ev_eqSame {x : Array UInt8} (hl : EvE X F c ε V R l (IsBytes x) R1) (hr : EvE X F c ε V R1 r (IsBytes x) R2) (hm : behindInMarks .Eq r = false := by with_unfolding_all rfl) : EvE X F c ε V R (.Compare l [.Eq] [r] pos) (IsBool true) R2 := by
  have h := ev_eqB (pos := pos) hl hr hm
  rwa [show (x.toList == x.toList) = true from beq_self_eq_true _] at h
end
end MineP
end
section
open PySem PySem.W PySem.Calls PyProof.Rows Mine
namespace MineP
end MineP
end
section
open PySem PySem.W PySem.Calls PyProof.Rows Mine
namespace MineP
end MineP
end
section
open PySem PySem.W PySem.Calls PyProof.Rows Mine
namespace MineP
section
variable {G : Bool} {prog : Program} {w : World} {A : Around} {K : Frag} {C x : Addr} {s : Shared} {h₀ : Heap} {L : Addr} {m : Str → Option Value} {news : List (Addr × Obj)} {R : Result → Shared → Prop}
theorem p_make_core {h : Heap} {g : Array GenState} {d : Drawn} {t : Nat} {os : OsState} {rest : List Value} {kw : List (Str × Value)} {init : Value} (Y : Makes (model prog w) h C) (hi : Looks (model prog w) h (typeLookup (.ref C) "__init__") (some init))
    (hb : ∀ self, Looks (model prog w) h (bindSpecial init self) (init, [self])) (hne : (some init != some (Value.builtin "object.__init__")) = true ∨ (rest = [] ∧ kw = []))
    (hq : codeP G (model prog w) (A.under (.builtin "type.__call__" ⟨.ref C :: rest, kw⟩)) (.call init ⟨.ref (h.objs.size + 1) :: rest, kw⟩) (InitBack (h.objs.size + 1) R) ⟨(h.push emptyDict).push (instObj C h.objs.size), g, d, t, os⟩) :
    codeP G (model prog w) A (.call (.ref C) ⟨rest, kw⟩) R ⟨h, g, d, t, os⟩ := by
  have Y' := Y
  obtain ⟨⟨oc, od, cd, sl, hC, e1, e2, e4⟩, made, base, self, top, call, typ⟩ := Y
  refine p_tree rfl (p_any ?_)
  show wpAny _ _ (callAny (.ref C) _) _ _ _
  refine nd_load hC ?_
  show wpAny _ _ (callAny.viaDunder (.ref C) _) _ _ _
  unfold callAny.viaDunder
  refine wpAny_bind (call.at ?_)
  dsimp only
  rw [tc_bind]
  refine wpAny_bind (wpAny_pure (wpAny_bind (wpAny_pure ?_)))
  refine wpAny_pure (a := Fin.again (.call (.builtin "type.__call__") ⟨.ref C :: rest, kw⟩)) (And.intro rfl ?_)
  refine p_tree rfl (p_any ?_)
  show wpAny _ A.in1 (do checkBuiltinCall "type.__call__" ⟨.ref C :: rest, kw⟩; again (.builtin "type.__call__" ⟨.ref C :: rest, kw⟩)) _ _ _
  refine wpAny_bind (check_slot tc_kind tc_split typ (tc_args _ _ _) (wpAny_pure (And.intro (Code.quiet_builtin _ (by decide +kernel)) (p_codeBuiltin (okC_bi _ (by decide +kernel)) entry_typeCall ?_))))
  have hm : Looks (model prog w) h (mroOf (.ref C)) cd.mro := ((Looks.ld (part := none) hC).andThen .now).andThen .now
  unfold Builtin.«type.__call__»
  refine p_ifF rfl ?_
  refine p_leaf (hm.at ?_)
  rw [e4]
  refine p_ifF rfl ?_
  refine p_leaf (made.at ?_)
  refine p_bind (p_pure ?_)
  refine p_leaf (wpAny_holding (wpAny_call ?_))
  refine new_K Y' hi hne ?_
  have k : ∀ b o, h.get? b = some o → ((h.push emptyDict).push (instObj C h.objs.size)).get? b = some o := fun b o e => Heap.get?_push_of_some _ (Heap.get?_push_of_some _ e)
  have hx : ((h.push emptyDict).push (instObj C h.objs.size)).get? (h.objs.size + 1) = some (instObj C h.objs.size) := by heap_get
  have t1 : Looks (model prog w) ((h.push emptyDict).push (instObj C h.objs.size)) (typeOf (.ref (h.objs.size + 1))) (.ref C) := (Looks.ld hx).andThen .now
  have s1 := self.keeps k
  have i1 := hi.keeps k
  have b1 := (hb (.ref (h.objs.size + 1))).keeps k
  refine p_leaf ?_
  unfold isInstance
  refine wpAny_bind (t1.here (s1.here ?_))
  refine p_ifF rfl ?_
  refine p_bind (p_holding ?_)
  unfold callSpecial? specialOf
  refine p_bind (p_any (wpAny_bind (t1.here (i1.here ?_))))
  refine p_holding (p_leaf (b1.here ?_))
  refine p_bind (p_call (p_codeMono hq fun r s' q => ?_))
  rcases r with e | (v | _ | _ | _) <;> first | exact q | exact q.elim | skip
  obtain ⟨rfl, q⟩ := q
  exact p_pure (p_pure q)
theorem p_makeK {rest : List Value} {kw : List (Str × Value)} {fI : Addr} (F : Fr h₀ L s.heap m) (N : News h₀ L s.heap news) (X : K.In s.heap) (hm : makesIn K C = true)
    (hi : findIn K (.ref C) "__init__" = some (some (.ref fI))) (hf : typeIn K (.ref fI) = some (.type "function"))
    (h : ∀ x dx h', Fr h₀ L h' m → News h₀ L h' ((x, instObj C dx) :: (dx, dictOf [] 0) :: news) → (∀ p ∈ news, p.1 < dx) → dx < x →
      codeP G (model prog w) (A.under (.builtin "type.__call__" ⟨.ref C :: rest, kw⟩)) (.call (.ref fI) ⟨.ref x :: rest, kw⟩) (InitBack x R) { s with heap := h' }) :
    codeP G (model prog w) A (.call (.ref C) ⟨rest, kw⟩) R s := by
  obtain ⟨hh, g, d, t, os⟩ := s
  refine p_make_core (makes_of X hm) (looks_findIn X hi) (fun self => bind_fn X self hf) (.inl rfl) (h _ hh.objs.size _ ((F.push _).push _) ?_ (fun p hp => Heap.lt_size (N p hp).1) (Nat.lt_succ_self _))
  have := (N.push F emptyDict).push (F.push _) (instObj C hh.objs.size)
  rwa [Heap.size_push] at this
end
def FOk : List (Str × VP) → List DictEntry → Lg → Prop
  | [], es, _ => es = []
  | (n, P) :: fs, es, N => ∃ e r t, es = e :: r ∧ e.key = .str n t ∧ handedIn e.val = true ∧ P.P N e.val ∧ FOk fs r N
def fput (name : Str) (P : VP) : List (Str × VP) → List (Str × VP)
  | [] => [(name, P)]
  | (n, P') :: fs => if name = n then (n, P) :: fs else (n, P') :: fput name P fs
theorem FOk.mono {N N' : Lg} (k : ∀ p ∈ N, p ∈ N') : ∀ {fs : List (Str × VP)} {es : List DictEntry}, FOk fs es N → FOk fs es N'
  | [], _, h => h
  | (n, P) :: fs, _, ⟨e, r, t, h1, h2, h3, h4, h5⟩ => ⟨e, r, t, h1, h2, h3, P.mono h4 k, FOk.mono k h5⟩
theorem isStr_str {n name : Str} {t : Tok} : (Value.str n t).isStr name = (n == name) := rfl
theorem FOk.len {N : Lg} : ∀ {fs : List (Str × VP)} {es : List DictEntry}, FOk fs es N → es.length = fs.length
  | [], _, h => by rw [h]; rfl
  | (n, P) :: fs, _, ⟨e, r, t, h1, h2, h3, h4, h5⟩ => by rw [h1]; exact congrArg Nat.succ h5.len
theorem FOk.get {N : Lg} {name : Str} : ∀ {fs : List (Str × VP)} {es : List DictEntry}, FOk fs es N → match fs.lookup name with | some P => ∃ v, getL name es = some (some v) ∧ handedIn v = true ∧ P.P N v | none => getL name es = some none
  | [], _, h => by rw [h]; rfl
  | (n, P) :: fs, _, ⟨e, r, t, h1, h2, h3, h4, h5⟩ => by
    have ih := h5.get (name := name)
    rw [h1, List.lookup_cons]
    unfold getL
    rw [List.find?_cons, h2, isStr_str]
    by_cases q : name = n
    · subst q
      rw [beq_self_eq_true]
      exact ⟨_, rfl, h3, h4⟩
    · rw [beq_false_of_ne q, beq_false_of_ne (Ne.symm q)]
      have e0 : e.refKey = false := by unfold DictEntry.refKey; rw [h2]
      rw [List.any_cons, e0, Bool.false_or]
      exact ih
theorem FOk.has {N : Lg} {name : Str} {P : VP} {fs : List (Str × VP)} {es : List DictEntry} (h : FOk fs es N) (e : fs.lookup name = some P) : ∃ v, getL name es = some (some v) ∧ handedIn v = true ∧ P.P N v := by
  have k := h.get (name := name)
  rw [e] at k
  exact k
theorem FOk.hasno {N : Lg} {name : Str} {fs : List (Str × VP)} {es : List DictEntry} (h : FOk fs es N) (e : fs.lookup name = none) : getL name es = some none := by
  have k := h.get (name := name)
  rw [e] at k
  exact k
theorem FOk.isSome {N : Lg} {name : Str} {fs : List (Str × VP)} {es : List DictEntry} (h : FOk fs es N) : (getL name es).isSome = true := by
  have k := h.get (name := name)
  cases e : fs.lookup name with
  | none => rw [e] at k; rw [k]; rfl
  | some P => rw [e] at k; obtain ⟨v, k, -⟩ := k; rw [k]; rfl
theorem FOk.put {N : Lg} {name : Str} {P : VP} {hsh : Int} {t : Tok} {v : Value} (hv : handedIn v = true) (hp : P.P N v) : ∀ {fs : List (Str × VP)} {es : List DictEntry}, FOk fs es N → FOk (fput name P fs) (putL name hsh (.str name t) v es) N
  | [], _, h => by rw [h]; exact ⟨_, _, t, rfl, rfl, hv, hp, rfl⟩
  | (n, P') :: fs, _, ⟨e, r, t', h1, h2, h3, h4, h5⟩ => by
    rw [h1]
    unfold fput putL
    rw [h2, isStr_str]
    by_cases q : name = n
    · subst q
      rw [if_pos rfl, beq_self_eq_true, if_pos rfl]
      exact ⟨_, _, t', rfl, rfl, hv, hp, h5⟩
    · rw [if_neg q, beq_false_of_ne (Ne.symm q), if_neg Bool.false_ne_true]
      exact ⟨e, _, t', rfl, h2, h3, h4, FOk.put hv hp h5⟩
theorem fput_len {name : Str} {P : VP} : ∀ (fs : List (Str × VP)), (fput name P fs).length ≤ fs.length + 1
  | [] => Nat.le_refl _
  | (n, P') :: fs => by
    unfold fput
    split
    · exact Nat.le_succ _
    · exact Nat.succ_le_succ (fput_len fs)
def RObj (Cl x : Addr) (fs : List (Str × VP)) : RP := ⟨fun C N => ∃ dx es n, C = [(dx, dictOf es n)] ∧ (x, instObj Cl dx) ∈ N ∧ FOk fs es N, fun ⟨dx, es, n, e, h1, h2⟩ k => ⟨dx, es, n, e, k _ h1, h2.mono k⟩⟩
def IsObj (Cl : Addr) (fs : List (Str × VP)) : VP := ⟨fun N v => ∃ x dx es n, v = .ref x ∧ (x, instObj Cl dx) ∈ N ∧ (dx, dictOf es n) ∈ N ∧ FOk fs es N, fun ⟨x, dx, es, n, e, h1, h2, h3⟩ k => ⟨x, dx, es, n, e, k _ h1, k _ h2, h3.mono k⟩⟩
def Handed (P : VP) : Prop := ∀ N v, P.P N v → handedIn v = true
theorem handed_int {i : Int} : Handed (IsInt i) := fun N v ⟨t, e⟩ => by rw [e]; rfl
theorem handed_bytes {b : Array UInt8} : Handed (IsBytes b) := fun N v ⟨t, e⟩ => by rw [e]; rfl
theorem handed_obj {Cl : Addr} {fs : List (Str × VP)} : Handed (IsObj Cl fs) := fun N v ⟨x, dx, es, n, e, _⟩ => by rw [e]; rfl
theorem handed_list {α : Type} {Pa : α → VP} {as : List α} : Handed (IsListOf Pa as) := fun N v ⟨l, n, vs, e, _⟩ => by rw [e]; rfl
theorem handed_none : Handed IsNone := fun N v e => by rw [show v = _ from e]; rfl
section
variable {X : LW} {F : FN} {c : FC} {ε : Env} {V V' : VL} {R R1 R2 R' Z : RP} {e o : Expr} {P P1 Po : VP} {Ps : List VP} {x name : Str} {pos pos' apos px : Pos} {a b a' b' : Nat} {f Cl y fI : Addr} {fs fs' : List (Str × VP)} {T : TL} {rest : List Stmt}
theorem St.freeze {s : Shared} {v : Value} (h : St c V ((IsVal (.ref y), v) :: T) (RStar (RObj Cl y fs) R) s) : St c V ((IsObj Cl fs, v) :: T) R s := by
  apply h.elim; intro h tk m Ck N F' hV hT hN nd rr
  obtain ⟨_, C0, rfl, ⟨dx, es, n, rfl, h1, h2⟩, r0⟩ := rr
  have sub : ∀ p ∈ N, p ∈ (dx, dictOf es n) :: N := fun p hp => .tail _ hp
  exact St.mk (C := C0) (N := (dx, dictOf es n) :: N) F' (hV.mono sub) (TOk.cons ⟨y, dx, es, n, hT _ (.head _), sub _ h1, .head _, h2.mono sub⟩ (hT.tail.mono sub)) (news_perm List.perm_middle.symm hN) (nd_perm List.perm_middle.symm nd) (R.mono r0 sub)
theorem gm_obj (hg : plainGet X.K Cl name = true) (hf : findIn X.K (.ref Cl) name = some (some (.ref f))) (ht : isFn X.K (.ref f) = true) (hn : fs.lookup name = none) : Gm X R (IsObj Cl fs) name f :=
  gm_inst hg hf ht fun N v ⟨x, dx, es, n, e, h1, h2, h3⟩ => ⟨x, dx, es, n, e, h1, h2, h3.hasno hn⟩
theorem ga_obj {attr : Option Value} (hg : plainGet X.K Cl name = true) (hh : hasDictIn X.K Cl = true) (ha : findIn X.K (.ref Cl) name = some attr) (hn : noGet X.K attr = true) (hl : fs.lookup name = some P) : Ga X (IsObj Cl fs) name P :=
  ga_own hg hh ha hn fun N v ⟨x, dx, es, n, e, h1, h2, h3⟩ => by obtain ⟨u, q1, q2, q3⟩ := h3.has hl; exact ⟨x, dx, es, n, u, e, h1, h2, q1, q2, q3⟩
theorem gm_robj (hg : plainGet X.K Cl name = true) (hf : findIn X.K (.ref Cl) name = some (some (.ref f))) (ht : isFn X.K (.ref f) = true) (hn : fs.lookup name = none) : Gm X (RStar (RObj Cl y fs) Z) (IsVal (.ref y)) name f := by
  intro F c V T Q E s v pl a b C st
  apply st.elim; intro h tk m Ck N F' hV hT hN nd r k
  obtain ⟨_, C0, rfl, ⟨dx, es, n, rfl, h1, h2⟩, r0⟩ := r
  obtain rfl : v = .ref y := hT (IsVal _, v) (.head _)
  exact method_inst F' C.X (InstAt.of_news hN (List.mem_append_right _ h1) (.head _)) hg hf ht (h2.hasno hn) k
theorem set_obj {s : Shared} {v : Value} {Q : Unit → Shared → Prop} {E : EC} (C : c.Ok X F a b) (st : St c V ((P, v) :: T) (RStar (RObj Cl y fs) Z) s) (hH : Handed P)
    (hs : findIn X.K (.ref Cl) "__setattr__" = some (some (.builtin "object.__setattr__"))) (hp : plainOver X.K Cl = true) (ht : takerIn X.K Cl name = some none) (hh : hasDictIn X.K Cl = true) (hz : Nat.ble fs.length 900 = true)
    (k : ∀ s', St c V T (RStar (RObj Cl y (fput name P fs)) Z) s' → Q () s') : wpAny (model X.prog X.w) (c.A F) (setAttr (.ref y) name v) Q E s := by
  apply st.elim; intro h tk m Ck N F' hV hT hN nd r
  obtain ⟨_, C0, rfl, ⟨dx, es, n, rfl, h1, h2⟩, r0⟩ := r
  have hp1 : P.P N v := hT (P, v) (.head _)
  have h3 := h2.put (name := name) (hsh := PyData.keyHash X.w.params name) (t := tk + 1) (hH N v hp1) hp1
  refine set_dict (es' := _) (n' := _) (news' := (dx, dictOf _ _) :: (C0 ++ N)) F' C.X hN (InstAt.of_news hN (List.mem_append_right _ h1) (.head _)) rfl hs hp ht hh h2.isSome rfl (.head (nd_head nd)) ?_ fun h' F2 N2 => ?_
  · rw [h3.len]
    have := fput_len (name := name) (P := P) fs
    have := Nat.le_of_ble_eq_true hz
    omega
  · exact k _ (St.mk (C := (dx, dictOf _ _) :: C0) (N := N) F2 hV hT.tail N2 (nd_map (n := _ :: (C0 ++ N)) rfl nd) ⟨_, C0, rfl, ⟨dx, _, _, rfl, h1, h3⟩, r0⟩)
theorem blk_setAttr (C : c.Ok X F a b) (h : Ev X F c V R e P (RStar (RObj Cl y fs) Z)) (ho : ∀ P0, EvA X F c V P0 (.Name x px) (IsVal (.ref y)) P0) (hH : Handed P)
    (hs : findIn X.K (.ref Cl) "__setattr__" = some (some (.builtin "object.__setattr__"))) (hp : plainOver X.K Cl = true) (ht : takerIn X.K Cl name = some none) (hh : hasDictIn X.K Cl = true) (hz : Nat.ble fs.length 900 = true)
    (k : Blk X F c V (RStar (RObj Cl y (fput name P fs)) Z) rest V' R')
    (hw : swapsWith e (some (.Attribute (.Name x px) name pos')) pos.line (c.env F) = pure false := by rfl) : Blk X F c V R (.Assign [.Attribute (.Name x px) name pos'] e pos :: rest) V' R' := by
  intro T Q E s st kQ
  refine p_execs (p_assignAttr (h T _ E s st fun v s1 st1 => ho _ _ _ E s1 st1 fun u s2 st2 => ?_) hw)
  obtain rfl : u = .ref y := by
    apply st2.elim; intro h tk m Ck N F' hV hT hN nd r
    exact hT (IsVal _, u) (.head _)
  exact set_obj C st2.drop hH hs hp ht hh hz fun s' st' => k T Q E s' st' kQ
end
theorem con_defN {X : LW} {f : Addr} {name qual : Str} {params : Arguments} {body : List Stmt} {scope : Scope} {Ps : List VP} {V0 : VL} {R R' : RP} {a b : Nat} {binds : List Value → List (Str × Value)} {mk : List Value → Args}
    (hf : ∃ oc od osl dV kV doc pm an cdv ct, X.K.lookup f = some ⟨oc, od, .func (fnOf name qual params body scope dV kV doc pm an cdv ct), osl⟩ ∧ codeIn X.K cdv qual = true ∧
      ∀ vs, vs.length = Ps.length → ∀ s : Shared, X.K.In s.heap → BindsTo s (fnOf name qual params body scope dV kV doc pm an cdv ct) (mk vs) (binds vs))
    (hl : ∀ vs, vs.length = Ps.length → ∀ y ∈ binds vs, scope.names.lookup y.1 = some .local)
    (hV : ∀ vs N, vs.length = Ps.length → TOk (Ps.zip vs) N → VOk V0 (fun y => (binds vs).reverse.lookup y) N)
    (hbody : ∀ c : FC, c.cl = [] → c.Ok X ⟨qual, scope⟩ a b → Blk X ⟨qual, scope⟩ c V0 R body [] R')
    (hco : scope.isCoroutine = false := by rfl) (hgen : scope.isGenerator = false := by rfl) (hk : scope.kind = .function := by rfl) (hcell : ∀ x ∈ scope.names, x.2 ≠ .cell := by decide) :
    ConXA (β := Unit) X f mk Ps R (fun _ => IsNone) (fun _ => R') (a + 1) (b + 10) :=
  con_defX hf hl hV (fun c hcl C T Q E s st _ k => hbody c hcl C T Q E s st fun s' st' => k s' ⟨(), by
    apply st'.elim; intro h tk m Ck N F' hV hT hN nd r
    exact St.mk (C := Ck) (N := N) F' .nil (TOk.cons rfl hT) hN nd r⟩) hco hgen hk hcell
section
variable {X : LW} {Ps : List VP} {R R' : RP} {Cl fI : Addr} {fs : List (Str × VP)} {a b : Nat}
theorem con_newX {mk : List Value → Args} (hm : makesIn X.K Cl = true) (hi : findIn X.K (.ref Cl) "__init__" = some (some (.ref fI))) (hf : isFn X.K (.ref fI) = true)
    (hc : ∀ x, ConXA (β := Unit) X fI (fun vs => match vs with | [] => ⟨[], []⟩ | v :: vs => ⟨v :: (mk vs).pos, (mk vs).kw⟩) (IsVal (.ref x) :: Ps) (RStar (RObj Cl x []) R) (fun _ => IsNone) (fun _ => RStar (RObj Cl x fs) R') a b) :
    ConXA (β := Addr) X Cl mk Ps R (fun x => IsVal (.ref x)) (fun x => RStar (RObj Cl x fs) R') (a + 1) (b + 1) := by
  intro F c V T Q E vs s C st hl k
  apply st.elim; intro h tk m Ck N F' hV hT hN nd r
  refine p_makeK F' hN (C.X.keeps F'.keep) hm hi (beq_iff_eq.mp hf) fun x dx h' F2 N2 l1 l2 => ?_
  have C' : FC.Ok X { c with dp := c.dp + 1, un := c.un + 1 } F a b := ⟨C.D, C.B, C.X, C.T, C.hk, by have := C.hd; show c.dp + 1 + a < _; omega, by have := C.hu; show c.un + 1 + b < _; omega⟩
  have sub : ∀ p ∈ N, p ∈ (x, instObj Cl dx) :: N := fun p hp => .tail _ hp
  have nd2 : ND ((x, instObj Cl dx) :: (dx, dictOf [] 0) :: (Ck ++ N)) := by
    refine nd_cons (fun p hp => ?_) (nd_cons (fun p hp => Nat.ne_of_lt (l1 p hp)) nd)
    rcases List.mem_cons.mp hp with rfl | hp
    · exact Nat.ne_of_lt l2
    · exact Nat.ne_of_lt (Nat.lt_trans (l1 p hp) l2)
  have pm : ((x, instObj Cl dx) :: (dx, dictOf [] 0) :: (Ck ++ N)).Perm (([(dx, dictOf [] 0)] ++ Ck) ++ ((x, instObj Cl dx) :: N)) := (List.Perm.swap ..).trans (List.Perm.cons _ List.perm_middle.symm)
  have h := hc x F { c with dp := c.dp + 1, un := c.un + 1 } V T (fun v s' => v = .none ∧ Q (.ref x) s') E (.ref x :: vs) { c.s₀ with heap := h', toks := tk } C'
    (St.mk (C := [(dx, dictOf [] 0)] ++ Ck) (N := (x, instObj Cl dx) :: N) F2 (hV.mono sub) (TOk.cons rfl (hT.mono sub)) (news_perm pm N2) (nd_perm pm nd2) ⟨_, Ck, rfl, ⟨dx, [], 0, rfl, .head _, rfl⟩, R.mono r sub⟩) (congrArg Nat.succ hl) (fun _ v s' st' => by
      refine ⟨?_, k x (.ref x) s' ?_⟩
      · apply st'.elim; intro h tk m Ck N F' hV hT hN nd r
        exact hT (IsNone, v) (.head _)
      · apply st'.elim; intro h tk m Ck N F' hV hT hN nd r
        exact St.mk (C := Ck) (N := N) F' hV (TOk.cons rfl hT.tail) hN nd r)
  refine p_codeMono h fun r s' q => ?_
  rcases r with e | (v | _ | _ | _) <;> exact q
theorem conp_new (hm : makesIn X.K Cl = true) (hi : findIn X.K (.ref Cl) "__init__" = some (some (.ref fI))) (hf : isFn X.K (.ref fI) = true)
    (hc : ∀ x, ConXA (β := Unit) X fI (fun vs => match vs with | [] => ⟨[], []⟩ | v :: vs => ⟨v :: vs, []⟩) (IsVal (.ref x) :: Ps) (RStar (RObj Cl x []) R) (fun _ => IsNone) (fun _ => RStar (RObj Cl x fs) R') a b) :
    Con X Cl Ps R (IsObj Cl fs) R' (a + 1) (b + 1) := fun F c V T Q E vs s C st hl k =>
  con_newX (mk := fun vs => ⟨vs, []⟩) hm hi hf hc F c V T Q E vs s C st hl fun x v s' st' => k v s' st'.freeze
end
end MineP
end
section
open PySem PySem.W PySem.Calls PyProof.Rows Mine
namespace MineP
section
variable {g : Bool} {M : Model} {A : Around} {E : Value → Shared → Prop} {s : Shared} {env : Env}
theorem p_callWithBF {pos : Pos} {f : Value} {first : List Value} {e : Expr} {Q : Value → Shared → Prop} (hk : ∀ a, f ≠ .ref a)
    (h : wpP g M A (eval e env) (fun v s₁ => wpP g M A (call f (first ++ [v])) Q E s₁) E s)
    (he : starEach [e] env = [(false, eval e env)] := by rfl) :
    wpP g M A (callWith pos f first (backTo pos (starEach [e] env)) []) Q E s := by
  rw [he]
  refine p_callWith (P := fun _ => True) (fun h _ => ⟨.machine, .inr (.inl rfl), ?_⟩) (p_evalArgs1 (p_spliced1 ?_))
  · refine Looks.of_pure ?_
    cases f <;> first | rfl | exact absurd rfl (hk _)
  · exact p_mono h (fun v s' hv => ⟨trivial, hv⟩) fun _ _ h => h
end
end MineP
end
section
open PySem PySem.W PySem.Calls PyProof.Rows Mine
namespace MineP
def IsMeth (f : Addr) (Po : VP) : VP := ⟨fun N u => ∃ q v, u = .ref q ∧ (q, methodObj (.ref f) v) ∈ N ∧ Po.P N v, fun ⟨q, v, e, m, h⟩ k => ⟨q, v, e, k _ m, Po.mono h k⟩⟩
def REq (R R' : RP) : Prop := ∀ C N, R.P C N → ∃ C', C.Perm C' ∧ R'.P C' N
theorem St.req {c : FC} {V : VL} {T : TL} {R R' : RP} {s : Shared} (h : St c V T R s) (q : REq R R') : St c V T R' s := by
  apply h.elim; intro h tk m C N F hV hT hN nd r
  obtain ⟨C', p, r'⟩ := q C N r
  exact St.mk (C := C') (N := N) F hV hT (news_perm (List.Perm.append_right N p) hN) (nd_perm (List.Perm.append_right N p) nd) r'
theorem REq.refl {R : RP} : REq R R := fun C N h => ⟨C, .refl _, h⟩
theorem REq.trans {R R1 R2 : RP} (h : REq R R1) (k : REq R1 R2) : REq R R2 := fun C N r => by
  obtain ⟨C1, p1, r1⟩ := h C N r
  obtain ⟨C2, p2, r2⟩ := k C1 N r1
  exact ⟨C2, p1.trans p2, r2⟩
theorem REq.swap {A B Z : RP} : REq (RStar A (RStar B Z)) (RStar B (RStar A Z)) := fun C N => by
  rintro ⟨Ca, D, rfl, a, Cb, C0, rfl, b, z⟩
  exact ⟨Cb ++ (Ca ++ C0), List.perm_append_comm_assoc .., Cb, _, rfl, b, Ca, C0, rfl, a, z⟩
theorem REq.assoc {A B Z : RP} : REq (RStar (RStar A B) Z) (RStar A (RStar B Z)) := fun C N => by
  rintro ⟨_, C0, rfl, ⟨Ca, Cb, rfl, a, b⟩, z⟩
  exact ⟨Ca ++ (Cb ++ C0), by rw [List.append_assoc], Ca, _, rfl, a, Cb, C0, rfl, b, z⟩
theorem REq.assoc' {A B Z : RP} : REq (RStar A (RStar B Z)) (RStar (RStar A B) Z) := fun C N => by
  rintro ⟨Ca, _, rfl, a, Cb, C0, rfl, b, z⟩
  exact ⟨(Ca ++ Cb) ++ C0, by rw [List.append_assoc], _, C0, rfl, ⟨Ca, Cb, rfl, a, b⟩, z⟩
theorem REq.tail {A Z Z' : RP} (h : REq Z Z') : REq (RStar A Z) (RStar A Z') := fun C N => by
  rintro ⟨Ca, C0, rfl, a, z⟩
  obtain ⟨C', p, z'⟩ := h C0 N z
  exact ⟨Ca ++ C', List.Perm.append_left _ p, Ca, C', rfl, a, z'⟩
section
variable {X : LW} {F : FN} {c : FC} {ε : Env} {V V' : VL} {R R0 R1 R2 R' R1' Z : RP} {e o : Expr} {es : List Expr} {P P1 Po : VP} {Ps : List VP} {x name : Str} {pos pos' apos px cp lp p1 : Pos} {a b a' b' : Nat} {f Cl y l p : Addr} {fs : List (Str × VP)} {T : TL} {rest ss body : List Stmt} {Pst : TL → Value → Shared → Prop}
theorem blk_req (h : Blk X F c V R1 ss V' R1') (q : REq R R1) (q' : REq R1' R') : Blk X F c V R ss V' R' := fun T Q E s st k => h T Q E s (st.req q) fun s' st' => k s' (st'.req q')
theorem exs_req (h : ExsP X F c V R1 ss Pst) (q : REq R R1) : ExsP X F c V R ss Pst := fun T Q E s st k => h T Q E s (st.req q) k
theorem ev_req (h : EvE X F c ε V R1 e P R1') (q : REq R R1) (q' : REq R1' R') : EvE X F c ε V R e P R' := fun T Q E s st k => h T Q E s (st.req q) fun v s' st' => k v s' (st'.req q')
theorem ga_bound (hg : plainGet X.K Cl name = true) (hh : hasDictIn X.K Cl = true) (ha : findIn X.K (.ref Cl) name = some (some (.ref f))) (hf : isFn X.K (.ref f) = true)
    (hgf : specialIn X.K (.ref f) "__get__" = some (some (.builtin "function.__get__"))) (ht : takesIn X.K (.ref f) = some false) (hc : copiedNames.contains name = false) (hn : fs.lookup name = none) : Ga X (IsObj Cl fs) name (IsMeth f (IsObj Cl fs)) := by
  intro F c V T R Q E s v a b C st k
  apply st.elim; intro h1 tk m Ck N F' hV hT hN nd r
  obtain ⟨x, dx, es, n, rfl, g1, g2, g3⟩ := hT (IsObj Cl fs, v) (.head _)
  refine kbm_bound F' C.X hN (InstAt.of_news hN (List.mem_append_right _ g1) (List.mem_append_right _ g2)) hg hh ha hf hgf ht hc (g3.hasno hn) fun q h' F2 N2 l1 => ?_
  have sub : ∀ p ∈ N, p ∈ (q, methodObj (.ref f) (.ref x)) :: N := fun p hp => .tail _ hp
  exact k _ _ (St.push hV hT.tail r F2 N2 nd l1 ⟨q, _, rfl, .head _, x, dx, es, n, rfl, sub _ g1, sub _ g2, g3.mono sub⟩)
theorem ev_clsm {mc : Value} {rs : List Value} (C : c.Ok X F a b) (ho : EvAE X F c ε V R o (IsVal (.ref Cl)) R) (hg : specialIn X.K (.ref Cl) "__getattribute__" = some (some (.builtin "type.__getattribute__")))
    (hm : typeIn X.K (.ref Cl) = some mc) (hr : readsIn X.K Cl mc = true) (hF : findCls X.K (.ref Cl) mc name = some (.get (.builtin "classmethod.__get__") (.ref p) .none (.ref Cl))) (hp : recIn X.K p "classmethod" = some (.ref f :: rs)) (hf : fnIn X.K f = true)
    (ha : EvsE X F c ε V R es Ps R1) (hc : Con X f (IsVal (.ref Cl) :: Ps) R1 P R' a' b') (ea : Nat.ble a' a = true) (eb : Nat.ble b' b = true)
    (he : backTo pos (starEach es ε) = es.map fun e => (false, eval e ε) := by rfl)
    {pl : Sem Bool} (he' : eval (.Call (.Attribute o name apos) es [] pos) ε = (do
      let ov ← eval o ε
      standAt apos.atName
      let (f, first) ← holding [ov] (getMethod ov name pl)
      callWith pos f first (backTo pos (starEach es ε)) []) := by rfl) : EvE X F c ε V R (.Call (.Attribute o name apos) es [] pos) P R' := by
  intro T Q E s st k
  refine p_meth (pl := pl) (ho T _ E s st fun v s1 st1 => ?_) he'
  apply st1.elim; intro h tk m Ck N F' hV hT hN nd r
  obtain rfl : v = .ref Cl := hT (IsVal _, v) (.head _)
  refine method_of_cls F' C.X hg (cls_cm F' C.X hN hm hr hF hp fun q h' F2 N2 l1 => ?_)
  show wpP true _ _ (callWith pos (.ref q) [] (backTo pos (starEach es ε)) []) _ _ _
  rw [he]
  refine p_callWith (P := MethP X.K q f (.ref Cl)) (keeps_M hf) ?_
  have e2 : (es.map fun e => (false, eval e ε)) = (es.map fun e => eval e ε).map fun x => (false, x) := by rw [List.map_map]; rfl
  rw [e2]
  refine p_evalArgs ?_
  rw [← e2]
  refine ha _ _ E _ (St.push (P := IsMeth f (IsVal (.ref Cl))) (v := .ref q) hV hT.tail r F2 N2 nd l1 ⟨q, .ref Cl, rfl, .head _, rfl⟩) fun vs s2 hl st2 => ?_
  apply st2.elim; intro h3 tk3 m3 C3 N3 F3 hV3 hT3 hN3 nd3 r3
  obtain ⟨q', v', hq, hm3, hv3⟩ := hT3 (IsMeth f (IsVal (.ref Cl)), .ref q) (List.mem_append_right _ (.head _))
  obtain rfl : q = q' := Value.ref.inj hq
  obtain rfl : v' = .ref Cl := hv3
  have hg3 := (hN3 _ (List.mem_append_right _ hm3)).1
  refine ⟨⟨hg3, C.X.keeps F3.keep⟩, p_call (p_methodCall hg3 ?_)⟩
  exact hc F c V T Q E (.ref Cl :: vs) _ (C.le ea eb) (St.mk (C := C3) (N := N3) F3 hV3 (fun z hz => by
    rcases List.mem_cons.mp hz with rfl | hz
    · exact rfl
    · rcases List.mem_append.mp hz with hz | hz
      · exact hT3 z (List.mem_append_left _ hz)
      · exact hT3 z (List.mem_append_right _ (.tail _ hz))) hN3 nd3 r3) (congrArg Nat.succ hl) k
theorem looks_bound {M : Model} {h : Heap} {u : Addr} (ho : KFB.StandsAt u h) : Looks M h (keeperOf (.ref u)) Keeper.machine := by
  unfold keeperOf
  exact (Looks.ld (part := none) ho).andThen .now
def FromB (X : LW) (os : Str) (d : Array UInt8) (z : Int) : Prop :=
  ∀ (A : Around) (Q E : EC) (s : Shared) (news : Lg) (h₀ : Heap) (L q : Addr) (t u : Tok), News h₀ L s.heap news → (q, KFB.bound) ∈ news → (∀ t' k, Q (.int z t') { s with toks := k }) → wpAny (model X.prog X.w) A (call (.ref q) [.bytes d t, .str os u]) Q E s
theorem from_LE {k : Nat} {v : Int} (hk : k ≤ 8) (h0 : 0 ≤ v) (h1 : v < (256 : Int) ^ k) : FromB X (Str.ofString "little") (leB k v) v := fun A Q E s news h₀ L q t u N hm h => from_le N hm hk h0 h1 h
theorem ev_fromB {kk : Nat} {z : Int} {os : Str} {d : Array UInt8} (C : c.Ok X F a b) (ho : EvAE X F c ε V R o (IsVal (.type "int")) R) (hF : findCls X.K (.type "int") (.type "type") (Str.ofString "from_bytes") = some (.get (.builtin "classmethod_descriptor.__get__") (.builtin "int.from_bytes") .none (.type "int")))
    (ha : EvE X F c ε V R e (IsBytes d) R1) (hfb : FromB X os d z)
    (he : backTo pos (starEach [e, .Constant (.str os) kk cp] ε) = [e, .Constant (.str os) kk cp].map fun e => (false, eval e ε) := by rfl)
    {pl : Sem Bool} (he' : eval (.Call (.Attribute o (Str.ofString "from_bytes") apos) [e, .Constant (.str os) kk cp] [] pos) ε = (do
      let ov ← eval o ε
      standAt apos.atName
      let (f, first) ← holding [ov] (getMethod ov (Str.ofString "from_bytes") pl)
      callWith pos f first (backTo pos (starEach [e, .Constant (.str os) kk cp] ε)) []) := by rfl) :
    EvE X F c ε V R (.Call (.Attribute o (Str.ofString "from_bytes") apos) [e, .Constant (.str os) kk cp] [] pos) (IsInt z) R1 := by
  intro T Q E s st kQ
  refine p_meth (pl := pl) (ho T _ E s st fun u s1 st1 => ?_) he'
  apply st1.elim; intro h tk m Ck N F' hV hT hN nd r
  obtain rfl : u = .type "int" := hT (IsVal _, u) (.head _)
  refine KFB.getm F' hN C.X hF fun q h' F2 N2 l1 => ?_
  show wpP true _ _ (callWith pos (.ref q) [] (backTo pos (starEach _ ε)) []) _ _ _
  rw [he]
  refine p_callWith (P := fun h => KFB.StandsAt q h) (fun h ho => ⟨.machine, .inr (.inl rfl), looks_bound ho⟩) ?_
  refine p_evalArgs (xs := [eval e ε, eval (.Constant (.str os) kk cp) ε]) ?_
  refine evs_cons ha (evs_cons ev_str.ev evs_nil) _ _ E _ (St.push (P := ⟨fun N v => (q, KFB.bound) ∈ N, fun h k => k _ h⟩) (v := .none) hV hT.tail r F2 N2 nd l1 (.head _)) fun vs s2 hl st2 => ?_
  obtain ⟨v1, v2, rfl⟩ := two_of hl
  apply st2.elim; intro h3 tk3 m3 C3 N3 F3 hV3 hT3 hN3 nd3 r3
  obtain ⟨t1, rfl⟩ := hT3 (IsBytes d, v1) (.head _)
  obtain ⟨t2, rfl⟩ := hT3 (IsStr os, v2) (.tail _ (.head _))
  have hm3 : (q, KFB.bound) ∈ N3 := hT3 (⟨fun N v => (q, KFB.bound) ∈ N, fun h k => k _ h⟩, .none) (.tail _ (.tail _ (.head _)))
  refine ⟨KFB.at_of hN3 (List.mem_append_right _ hm3), p_any (hfb _ _ _ _ _ _ _ _ t1 t2 hN3 (List.mem_append_right _ hm3) fun t' k' => ?_)⟩
  exact kQ _ _ (St.mk (C := C3) (N := N3) F3 hV3 (TOk.cons ⟨_, rfl⟩ hT3.tail.tail.tail) hN3 nd3 r3)
def RLst {α : Type} (l : Addr) (Pa : α → VP) (as : List α) : RP :=
  ⟨fun C N => ∃ vs n, C = [(l, listOf (List.toArray vs) n)] ∧ vs.length = as.length ∧ ∀ (i : Nat) (a : α), as[i]? = some a → ∃ u, vs[i]? = some u ∧ (Pa a).P N u,
   fun ⟨vs, n, e, hl, h⟩ k => ⟨vs, n, e, hl, fun i a q => by obtain ⟨u, e1, e2⟩ := h i a q; exact ⟨u, e1, (Pa a).mono e2 k⟩⟩⟩
def HasL (l : Addr) (R : RP) : Prop := ∀ C N, R.P C N → ∃ its n, (l, listOf its n) ∈ C
theorem hasL_here {α : Type} {Pa : α → VP} {as : List α} : HasL l (RStar (RLst l Pa as) Z) := fun C N h => by
  obtain ⟨_, C0, rfl, ⟨vs, n, rfl, _⟩, _⟩ := h
  exact ⟨_, n, .head _⟩
theorem hasL_tail (h : HasL l Z) : HasL l (RStar R Z) := fun C N q => by
  obtain ⟨_, C0, rfl, _, z⟩ := q
  obtain ⟨its, n, m⟩ := h C0 N z
  exact ⟨its, n, List.mem_append_right _ m⟩
theorem exs_newL {α : Type} (Pa : α → VP) (C : c.Ok X F a b) (k : ∀ l, ExsP X F c ((x, IsVal (.ref l)) :: V) (RStar (RLst l Pa []) R) rest Pst)
    (hx : (c.env F).kindOf x = some .local := by rfl) (hs : swapsWith (.List [] lp) (some (.Name x px)) pos.line (c.env F) = pure false := by rfl)
    (he : backTo lp (starEach [] (c.env F)) = [] := by rfl) (hq : eval (.List [] lp) (c.env F) = (do standAt lp; newList (← spliced (backTo lp (starEach [] (c.env F))))) := by rfl) :
    ExsP X F c V R (.Assign [.Name x px] (.List [] lp) pos :: rest) Pst := by
  intro T Q E s st kQ
  refine p_execs (p_assign (p_display newList hq ?_) hs)
  rw [he]
  refine evs_nil (ε := c.env F) (V := V) (R := R) T _ E s st fun vs s1 hl st1 => ?_
  obtain rfl := List.length_eq_zero_iff.mp hl
  apply st1.elim; intro h tk m Ck N F' hV hT hN nd r
  refine newList_K F' hN (fun D h' F2 N2 l1 => ?_) (Nat.zero_le _)
  refine p_any (storeX_L F2 N2 (fun h3 F3 N3 => ?_) C.hk hx)
  exact k D T Q E _ (St.mk (C := [(D, listOf (List.toArray []) 0)] ++ Ck) (N := N) F3 (hV.set rfl) hT N3 (nd_cons (fun p hp => Nat.ne_of_lt (l1 p hp)) nd) ⟨_, Ck, rfl, ⟨[], 0, rfl, rfl, fun i a e => by simp at e⟩, r⟩) kQ
theorem blk_append {α : Type} {Pa : α → VP} {as : List α} {y : α} (C : c.Ok X F a b) (hv : V.lookup x = some (IsVal (.ref l))) (hR : HasL l R) (h : Ev X F c V R e (Pa y) R1) (q1 : REq R1 (RStar (RLst l Pa as) Z)) (hz : as.length ≤ 1000)
    (k : Blk X F c V (RStar (RLst l Pa (as ++ [y])) Z) rest V' R')
    (hx : (c.env F).kindOf x = some .local := by rfl) (hd : (x == ("__debug__" : Str)) = false := by decide)
    (hi : interactive (c.env F) = false := by rfl) (hs : swapsWith (.Call (.Attribute (.Name x px) (Str.ofString "append") apos) [e] [] pos') none pos.line (c.env F) = pure false := by rfl)
    (he : starEach [e] (c.env F) = [(false, eval e (c.env F))] := by rfl)
    {pl : Sem Bool} (he' : eval (.Call (.Attribute (.Name x px) (Str.ofString "append") apos) [e] [] pos') (c.env F) = (do
      let ov ← eval (.Name x px) (c.env F)
      standAt apos.atName
      let (f, first) ← holding [ov] (getMethod ov (Str.ofString "append") pl)
      callWith pos' f first (backTo pos' (starEach [e] (c.env F))) []) := by rfl) :
    Blk X F c V R (.Expr (.Call (.Attribute (.Name x px) (Str.ofString "append") apos) [e] [] pos') pos :: rest) V' R' := by
  intro T Q E s st kQ
  refine p_execs (p_expr (p_meth (pl := pl) (ev_name C hv hx hd T _ E s st fun v s1 st1 => ?_) he') hi hs)
  apply st1.elim; intro h0 tk m Ck N F' hV hT hN nd r
  obtain rfl : v = .ref l := hT (IsVal _, v) (.head _)
  obtain ⟨its, n, hm⟩ := hR Ck N r
  refine listMethod_K hN (List.mem_append_left _ hm) PySem.F.slot_list_append PySem.F.type_list_append ?_
  refine p_callWithBF (first := [.ref l]) (fun _ => nofun) ?_ he
  refine h T _ E _ (St.mk (C := Ck) (N := N) F' hV hT.tail hN nd r) fun u s2 st2 => ?_
  have st3 := st2.req q1
  apply st3.elim; intro h3 tk3 m3 C3 N3 F3 hV3 hT3 hN3 nd3 r3
  obtain ⟨_, C0, rfl, ⟨vs, n, rfl, l1, i1⟩, r0⟩ := r3
  refine p_any (append_K F3 hN3 (.head (nd_head nd3)) (fun h' F4 N4 => ?_) (by rw [List.size_toArray, l1, sizeLine_eq]; omega))
  refine ⟨fun _ => nofun, k T Q E _ (St.mk (C := (l, listOf ((List.toArray vs).push u) (n + 1)) :: C0) (N := N3) F4 hV3 hT3.tail N4 (nd_map (n := _ :: (C0 ++ N3)) rfl nd3) ⟨[(l, listOf ((List.toArray vs).push u) (n + 1))], C0, rfl, ⟨vs ++ [u], n + 1, ?_, by simp [l1], ?_⟩, r0⟩) kQ⟩
  · rw [List.push_toArray]
  · exact each_app l1 rfl i1 fun j w e => by
      match j, e with
      | 0, e => exact ⟨u, rfl, by obtain rfl : y = w := Option.some.inj e; exact hT3 (Pa y, u) (.head _)⟩
theorem St.freezeL {α : Type} {Pa : α → VP} {as : List α} {s : Shared} (h : St c V T (RStar (RLst l Pa as) R) s) (hv : V.lookup x = some (IsVal (.ref l))) : St c ((x, IsListOf Pa as) :: V) T R s := by
  apply h.elim; intro h tk m Ck N F' hV hT hN nd rr
  obtain ⟨_, C0, rfl, ⟨vs, n, rfl, h1, h2⟩, r0⟩ := rr
  have sub : ∀ p ∈ N, p ∈ (l, listOf (List.toArray vs) n) :: N := fun p hp => .tail _ hp
  refine St.mk (C := C0) (N := (l, listOf (List.toArray vs) n) :: N) F' (fun y P e => ?_) (hT.mono sub) (news_perm List.perm_middle.symm hN) (nd_perm List.perm_middle.symm nd) (R.mono r0 sub)
  rw [List.lookup_cons] at e
  by_cases q : y = x
  · subst q
    rw [beq_self_eq_true] at e
    obtain rfl := Option.some.inj e
    obtain ⟨v, e1, e2⟩ := hV y _ hv
    exact ⟨v, e1, l, n, vs, e2, .head _, h1, fun i a e => by obtain ⟨u, q1, q2⟩ := h2 i a e; exact ⟨u, q1, (Pa a).mono q2 sub⟩⟩
  · rw [beq_false_of_ne q] at e
    exact hV.mono sub y P e
theorem exs_freezeL {α : Type} {Pa : α → VP} {as : List α} (hv : V.lookup x = some (IsVal (.ref l))) (k : ExsP X F c ((x, IsListOf Pa as) :: V) R rest Pst) : ExsP X F c V (RStar (RLst l Pa as) R) rest Pst := fun T Q E s st kQ => k T Q E s (st.freezeL hv) kQ
end
end MineP
end
section
open PySem PySem.W PySem.Calls PyProof.Rows Mine
namespace MineP
def BinI (X : LW) (op : Operator) (i j z : Int) : Prop :=
  ∀ (A : Around) (Q E : EC) (s : Shared) (t u : Tok), (∀ t' k, Q (.int z t') { s with toks := k }) → wpAny (model X.prog X.w) A (binaryOp op (.int i t) (.int j u)) Q E s
section
variable {X : LW} {i j : Int}
theorem bin_add : BinI X .Add i j (i + j) := fun A Q E s t u h => AutoIntOps.add_0 (h _ _)
theorem bin_sub : BinI X .Sub i j (i - j) := fun A Q E s t u h => AutoIntOps.sub_0 (h _ _)
theorem bin_mul (hm : IntMulOk i j) : BinI X .Mult i j (i * j) := fun A Q E s t u h => AutoIntOps.mul_0 (h _ _) hm
theorem bin_mod (hj : ¬(j == 0) = true) : BinI X .Mod i j (i.fmod j) := fun A Q E s t u h => AutoIntOps.mod_1 hj (h _ _)
theorem bin_and : BinI X .BitAnd i j (Builtin.bitAnd i j) := fun A Q E s t u h => and_int (h _ _)
end
section
variable {X : LW} {F : FN} {c : FC} {ε : Env} {V V' : VL} {R R1 R2 R' Z : RP} {l r e o : Expr} {P P1 P2 : VP} {x y name : Str} {pos px py tpos apos pr p1 : Pos} {a b k kk : Nat} {i j z : Int} {bv : Bool} {op : Operator} {Cl : Addr} {rest body : List Stmt} {Pst : TL → Value → Shared → Prop}
theorem ev_bin (hl : EvE X F c ε V R l (IsInt i) R1) (hr : EvE X F c ε V R1 r (IsInt j) R2) (ho : BinI X op i j z) : EvE X F c ε V R (.BinOp l op r pos) (IsInt z) R2 := by
  intro T Q E s st k
  refine p_evalBin (hl T _ E s st fun v s1 st1 => hr _ _ E s1 st1 fun v' s2 st2 => ?_)
  apply st2.elim; intro h tk m Ck N F' hV hT hN nd rr
  obtain ⟨t1, rfl⟩ := hT (IsInt i, v) (.tail _ (.head _))
  obtain ⟨t2, rfl⟩ := hT (IsInt j, v') (.head _)
  exact p_any (ho _ _ _ _ t1 t2 fun t' k' => k _ _ (St.mk (C := Ck) (N := N) F' hV (TOk.cons ⟨_, rfl⟩ hT.tail.tail) hN nd rr))
theorem tst_int (h : EvE X F c ε V R e (IsInt i) R1) (hb : (i != 0) = bv) (he : isTrue e ε (eval e ε) = (do let v ← eval e ε; standAt e.pos; holding [v] (truthy v)) := by rfl) : TstE X F c ε V R e bv R1 := by
  subst hb
  intro T Q E s st k
  refine p_isTruePlain (h T _ E s st fun v s1 st1 => ?_) he
  apply st1.elim; intro h tk m Ck N F' hV hT hN nd rr
  obtain ⟨t1, rfl⟩ := hT (IsInt i, v) (.head _)
  exact p_any (truthy_int (k _ (St.mk (C := Ck) (N := N) F' hV hT.tail hN nd rr)))
theorem ev_clsval {mc u : Value} (C : c.Ok X F a b) (ho : EvAE X F c ε V R o (IsVal (.ref Cl)) R) (hm : typeIn X.K (.ref Cl) = some mc) (hr : readsIn X.K Cl mc = true) (hf : findCls X.K (.ref Cl) mc name = some (.val u)) (hh : handedIn u = true) (hp : ∀ N, P.P N u)
    (he : eval (.Attribute o name apos) ε = (do
      let ov ← eval o ε
      standAt apos.atName
      let r ← holding [ov] (getAttr ov name true)
      letTemporaryGo o ov r
      pure r) := by with_unfolding_all rfl) : EvAE X F c ε V R (.Attribute o name apos) P R := by
  intro T Q E s st k
  refine Attribute_any_ ?_ he
  refine ho T _ E s st fun v s1 st1 => ?_
  apply st1.elim; intro h tk m Ck N F' hV hT hN nd rr
  obtain rfl : v = .ref Cl := hT (IsVal _, v) (.head _)
  exact cls_val F' C.X hm hr hf hh (k u _ (St.mk (C := Ck) (N := N) F' hV (TOk.cons (hp N) hT.tail) hN nd rr))
theorem kf_of {N : Lg} : ∀ {is : List Int} {vs : List Value}, vs.length = is.length → (∀ (n : Nat) (i : Int), is[n]? = some i → ∃ u, vs[n]? = some u ∧ (IsInt i).P N u) → kf_ints vs = true ∧ vs.any (isInt j) = is.contains j
  | [], [], _, _ => ⟨rfl, rfl⟩
  | i :: is, v :: vs, hl, h => by
    obtain ⟨u, e, t, rfl⟩ := h 0 i rfl
    obtain rfl := Option.some.inj e
    obtain ⟨h1, h2⟩ := kf_of (is := is) (vs := vs) (Nat.succ.inj hl) fun n i e => h (n + 1) i e
    refine ⟨by simpa [kf_ints] using h1, ?_⟩
    rw [List.any_cons, h2, List.contains_cons]
    congr 1
    exact Bool.beq_comm
theorem tst_in {is : List Int} (hl : EvE X F c ε V R l (IsInt j) R1) (hr : EvE X F c ε V R1 r (IsListOf IsInt is) R2) (hb : is.contains j = bv) (hm : behindInMarks .In r = false := by with_unfolding_all rfl) : TstE X F c ε V R (.Compare l [.In] [r] pos) bv R2 := by
  subst hb
  intro T Q E s st kQ
  refine p_isTrueCmp (hl T _ E s st fun v s1 st1 => hr _ _ E s1 st1 fun v' s2 st2 => ?_) hm
  apply st2.elim; intro h tk m Ck N F' hV hT hN nd rr
  obtain ⟨t1, rfl⟩ := hT (IsInt j, v) (.tail _ (.head _))
  obtain ⟨l1, n1, us, rfl, m1, z1, i1⟩ := hT (IsListOf IsInt is, v') (.head _)
  obtain ⟨k1, k2⟩ := kf_of (j := j) z1 i1
  exact p_any (kf_in hN (List.mem_append_right _ m1) k1 k2 (p_pure (kQ _ (St.mk (C := Ck) (N := N) F' hV hT.tail.tail hN nd rr))))
theorem tst_notin {is : List Int} (hl : EvE X F c ε V R l (IsInt j) R1) (hr : EvE X F c ε V R1 r (IsListOf IsInt is) R2) (hb : (!is.contains j) = bv) (hm : behindInMarks .NotIn r = false := by with_unfolding_all rfl) : TstE X F c ε V R (.Compare l [.NotIn] [r] pos) bv R2 := by
  subst hb
  intro T Q E s st kQ
  refine p_isTrueCmp (hl T _ E s st fun v s1 st1 => hr _ _ E s1 st1 fun v' s2 st2 => ?_) hm
  apply st2.elim; intro h tk m Ck N F' hV hT hN nd rr
  obtain ⟨t1, rfl⟩ := hT (IsInt j, v) (.tail _ (.head _))
  obtain ⟨l1, n1, us, rfl, m1, z1, i1⟩ := hT (IsListOf IsInt is, v') (.head _)
  obtain ⟨k1, k2⟩ := kf_of (j := j) z1 i1
  exact p_any (kf_notin hN (List.mem_append_right _ m1) k1 (congrArg (fun b => !b) k2) (p_pure (kQ _ (St.mk (C := Ck) (N := N) F' hV hT.tail.tail hN nd rr))))
end
section
variable {g : Bool} {M : Model} {A : Around} {E : Value → Shared → Prop} {s : Shared} {env : Env}
theorem p_assignTN {elts : List Expr} {k : Nat} {tpos pos : Pos} {value : Expr} {Q : Flow → Shared → Prop}
    (h : wpP g M A (eval value env) (fun v s₁ => wpAny M A (assign (.Tuple elts k tpos) env v) (fun _ => Q .next) E s₁) E s)
    (hs : swapsWithSole [.Tuple elts k tpos] value pos.line env = pure false) (hw : swappedStores [.Tuple elts k tpos] value env = pure none) :
    wpP g M A (exec (.Assign [.Tuple elts k tpos] value pos) env) Q E s := by
  rw [exec_Assign]
  refine p_bind (p_standAt ?_)
  rw [hs]
  refine p_bind (p_pure ?_)
  rw [if_neg (by decide)]
  refine p_bind (p_mono h (fun v s₁ h₁ => ?_) fun _ _ x => x)
  rw [hw]
  refine p_bind (p_pure (p_any ?_))
  show wpAny M A (do assignAll v [assign (.Tuple elts k tpos) env]; pure .next) Q E s₁
  exact wpAny_bind (wpAny_mono h₁ (fun _ _ x => wpAny_pure x) fun _ _ x => x)
end
section
variable {X : LW} {F : FN} {c : FC} {ε : Env} {V V' : VL} {R R1 R2 R' Z : RP} {l r e o : Expr} {P P1 P2 : VP} {x y name : Str} {pos px py tpos apos pr p1 : Pos} {a b k kk : Nat} {rest body : List Stmt} {Pst : TL → Value → Shared → Prop}
theorem exs_assignT (C : c.Ok X F a b) (h : Ev X F c V R e (IsTup [P1, P2]) R1) (k : ExsP X F c ((y, P2) :: (x, P1) :: V) R1 rest Pst)
    (hx : (c.env F).kindOf x = some .local := by rfl) (hy : (c.env F).kindOf y = some .local := by rfl)
    (hs : swapsWithSole [.Tuple [.Name x px, .Name y py] kk tpos] e pos.line (c.env F) = pure false := by rfl) (hw : swappedStores [.Tuple [.Name x px, .Name y py] kk tpos] e (c.env F) = pure none := by rfl) :
    ExsP X F c V R (.Assign [.Tuple [.Name x px, .Name y py] kk tpos] e pos :: rest) Pst := by
  intro T Q E s st kQ
  refine p_execs (p_assignTN (h T _ E s st fun v s1 st1 => ?_) hs hw)
  apply st1.elim; intro h1 tk m Ck N F' hV hT hN nd rr
  obtain ⟨l, vs, rfl, hm, hl, hP⟩ := hT (IsTup [P1, P2], v) (.head _)
  obtain ⟨v1, v2, rfl⟩ := two_of hl
  have z1 := hP (P1, v1) (.head _)
  have z2 := hP (P2, v2) (.tail _ (.head _))
  refine unpackN_ F' hN (News.isTup hN (List.mem_append_right _ hm)) rfl rfl rfl fun h' F2 N2 => ?_
  refine assignInOrder_cons (assign_Name (storeX_L F2 N2 (fun h3 F3 N3 => ?_) C.hk hx))
  refine assignInOrder_cons (assign_Name (storeX_L F3 N3 (fun h4 F4 N4 => ?_) C.hk hy))
  refine assignInOrder_nil ?_
  exact k T Q E _ (St.mk (C := Ck) (N := N) F4 ((hV.set z1).set z2) hT.tail N4 nd rr) kQ
theorem for_range {n : Nat} {KQ : TL → (Flow → Shared → Prop) → Prop} (Vs : Nat → VL) (Cs : Nat → RP) (C : c.Ok X F a b) (hr : EvA X F c V R o (IsVal (.type "range")) R) (he : Ev X F c V R e (IsInt (n : Int)) (RStar (Cs 0) Z)) (hz : n ≤ 1000000) (h0 : ∀ m N, VOk V m N → VOk (Vs 0) m N)
    (hb : ∀ Z' i, i < n → Blk X F c ((x, IsInt (i : Int)) :: Vs i) (RStar (Cs i) Z') body (Vs (i + 1)) (RStar (Cs (i + 1)) Z'))
    (k : ∀ (T : TL) (Q : Flow → Shared → Prop) (E : EC) (s : Shared), St c (Vs n) T (RStar (Cs n) Z) s → KQ T Q → wpP true (model X.prog X.w) (c.A F) (execs rest (c.env F)) Q E s)
    (hx : (c.env F).kindOf x = some .local) (hs : ∀ v, foldedSetIterable (.Call o [e] [] pr) (c.env F) v = pure v)
    (e1 : eval (.Call o [e] [] pr) (c.env F) = (do callWith pr (← eval o (c.env F)) [] (backTo pr (starEach [e] (c.env F))) (backToKw pr (keywordEach [] (c.env F))))) (e2 : starEach [e] (c.env F) = [(false, eval e (c.env F))])
    (T : TL) (Q : Flow → Shared → Prop) (E : EC) (s : Shared) (st : St c V T R s) (kQ : KQ T Q) :
    wpP true (model X.prog X.w) (c.A F) (execs (.For (.Name x px) (.Call o [e] [] pr) body [] pos :: rest) (c.env F)) Q E s := by
  refine p_execs (p_forN (p_fn (hr T _ E s st fun v s1 st1 => ?_) e1) hs)
  have hv : v = .type "range" := by
    apply st1.elim; intro h tk m Ck N F' hV hT hN nd r
    exact hT _ (.head _)
  subst hv
  refine p_callWithB1 (fun _ => nofun) ?_ e2
  refine he T _ E s1 st1.drop fun v s2 st2 => ?_
  apply st2.elim; intro h tk m Ck N F' hV hT hN nd r
  obtain ⟨Ks, K0, rfl, rC, rZ⟩ := r
  obtain ⟨t, rfl⟩ := hT (IsInt (n : Int), v) (.head _)
  refine p_any (call_range_1 ?_)
  have hkind : ((c.env F).scope.kind == .class || ((c.env F).scope.kind == .module && (c.env F).locals != (c.env F).globals)) = false := by
    show (F.cs.kind == .class || (F.cs.kind == .module && _)) = false
    rw [C.hk]; rfl
  refine iter_rangeP (n := n) (fun i m' n' => ∃ Cs' C0 N', n' = (Cs' ++ C0) ++ N' ∧ VOk (Vs i) m' N' ∧ TOk T N' ∧ (Cs i).P Cs' N' ∧ Z.P C0 N')
    rfl rfl (F'.push _) (fun p hp => ⟨Heap.get?_push_of_some _ (hN p hp).1, (hN p hp).2⟩) nd (IsRange.new _ _ _ _ _ _ _) (small_one (by decide) (by decide) (by omega) (by omega)) (by rw [rangeSize_one]; split <;> omega) hx ⟨Ks, K0, N, rfl, h0 _ _ hV, hT.tail, rC, rZ⟩ ?_ ?_ hkind
  · rintro I it i t m₁ n₁ h1 tk1 hi ⟨Cs', C0, N', rfl, hV', hT', rC', rZ'⟩ F1 N1 nd1
    rw [Int.zero_add] at F1
    refine hb (RStar (RCell (I, it)) Z) i hi _ _ _ _ (St.mk (C := Cs' ++ ([(I, it)] ++ C0)) (N := N') F1 (hV'.set ⟨t, rfl⟩) hT' (news_perm perm_it N1) (nd_perm perm_it nd1) ⟨Cs', [(I, it)] ++ C0, rfl, rC', [(I, it)], C0, rfl, rfl, rZ'⟩) fun s' st' => ?_
    apply st'.elim; intro h2 tk2 m2 Ck2 N2 F2 hV2 hT2 hN2 nd2 rr0
    obtain ⟨Cs2, D2, rfl, rC2, I2, C2, rfl, rfl, rZ2⟩ := rr0
    exact ⟨h2, tk2, m2, _, rfl, F2, news_perm perm_it.symm hN2, nd_perm perm_it.symm nd2, Cs2, C2, N2, rfl, hV2, hT2, rC2, rZ2⟩
  · rintro m₁ n₁ h1 tk1 ⟨Cs', C0, N', rfl, hV', hT', rC', rZ'⟩ F1 N1 nd1
    exact k T Q E _ (St.mk (C := Cs' ++ C0) (N := N') F1 hV' hT' N1 nd1 ⟨Cs', C0, rfl, rC', rZ'⟩) kQ
theorem exs_range {n : Nat} (Vs : Nat → VL) (Cs : Nat → RP) (C : c.Ok X F a b) (hr : EvA X F c V R o (IsVal (.type "range")) R) (he : Ev X F c V R e (IsInt (n : Int)) (RStar (Cs 0) Z)) (hz : n ≤ 1000000) (h0 : ∀ m N, VOk V m N → VOk (Vs 0) m N)
    (hb : ∀ Z' i, i < n → Blk X F c ((x, IsInt (i : Int)) :: Vs i) (RStar (Cs i) Z') body (Vs (i + 1)) (RStar (Cs (i + 1)) Z'))
    (k : ExsP X F c (Vs n) (RStar (Cs n) Z) rest Pst)
    (hx : (c.env F).kindOf x = some .local := by rfl) (hs : ∀ v, foldedSetIterable (.Call o [e] [] pr) (c.env F) v = pure v := by intro _; rfl)
    (e1 : eval (.Call o [e] [] pr) (c.env F) = (do callWith pr (← eval o (c.env F)) [] (backTo pr (starEach [e] (c.env F))) (backToKw pr (keywordEach [] (c.env F)))) := by rfl) (e2 : starEach [e] (c.env F) = [(false, eval e (c.env F))] := by rfl) :
    ExsP X F c V R (.For (.Name x px) (.Call o [e] [] pr) body [] pos :: rest) Pst := for_range Vs Cs C hr he hz h0 hb k hx hs e1 e2
end
end MineP
end
section
open PySem PySem.W PySem.Calls PyProof.Rows Mine
namespace MineP
section
variable {X : LW} {i j : Int}
theorem from_BE {d : Array UInt8} (hz : d.size ≤ 100000) : FromB X (Str.ofString "big") d (numOf d.toList : Nat) := fun A Q E s news h₀ L q t u N hm h => from_bigL N hm hz h
theorem bin_mulL (h1 : Builtin.Int.intBits i ≤ 1600000) (h2 : Builtin.Int.intBits j ≤ 1600000) : BinI X .Mult i j (i * j) := bin_mul (mul_okL h1 h2 (by decide))
theorem bin_pow (h0 : j ≥ 0) (h1 : ¬(j == 0) = true) (h2 : ¬(i == 0 || i == 1) = true) (h3 : ¬(i == -1) = true) (h4 : ¬Builtin.Int.intTooBig (((Builtin.Int.intBits i : Nat) : Int) * j) = true) : BinI X .Pow i j (i ^ j.toNat) := fun A Q E s t u h => AutoIntOps.pow_4 h0 h1 h2 h3 h4 (h _ _)
theorem bin_fdiv (h0 : ¬(j == 0) = true) (h1 : ¬(Builtin.divisionGoesByPylong i j) = true) : BinI X .FloorDiv i j (i.fdiv j) := fun A Q E s t u h => AutoIntOps.floordiv_1 h0 h1 (h _ _)
theorem bcon_to_be {x : Int} {k : Nat} (hk : k ≤ 64) (h0 : 0 ≤ x) (h1 : x < (256 : Int) ^ k) : BCon X "int.to_bytes" [IsInt x, IsInt (k : Int), IsStr (Str.ofString "big")] (IsBytes (beB k x)) := by
  intro A Q E s vs N hl hT kQ
  obtain ⟨v1, v2, v3, rfl⟩ := three_of hl
  obtain ⟨t1, rfl⟩ := hT (IsInt x, v1) (.head _)
  obtain ⟨t2, rfl⟩ := hT (IsInt (k : Int), v2) (.tail _ (.head _))
  obtain ⟨t3, rfl⟩ := hT (IsStr _, v3) (.tail _ (.tail _ (.head _)))
  exact to_bigL hk h0 h1 fun t' k' => kQ _ _ fun N => ⟨_, rfl⟩
end
section
variable {g : Bool} {prog : Program} {w : World} {A : Around} {E : Value → Shared → Prop} {s : Shared} {env : Env}
theorem p_augAttr {o value : Expr} {attr : Str} {op : Operator} {tpos pos : Pos} {Q : Flow → Shared → Prop}
    (h : wpAny (model prog w) A (eval o env) (fun ov s₁ => wpAny (model prog w) A (getAttr ov attr true) (fun old s₂ => wpP g (model prog w) A (eval value env) (fun v s₃ => wpAny (model prog w) A (inplaceOp op old v) (fun new s₄ =>
      wpAny (model prog w) A (setAttr ov attr new) (fun _ => Q .next) E s₄) E s₃) E s₂) E s₁) E s) : wpP g (model prog w) A (exec (.AugAssign (.Attribute o attr tpos) op value pos) env) Q E s := by
  rw [arm_exec_AugAssign_2]
  refine p_bind (p_standAt (p_leaf (wpAny_mono h (fun ov s₁ h₁ => ?_) fun _ _ x => x)))
  refine p_bind (p_holding (p_bind (p_standAt (p_leaf (wpAny_mono h₁ (fun old s₂ h₂ => ?_) fun _ _ x => x)))))
  refine p_bind (p_holding (p_mono h₂ (fun v s₃ h₃ => p_bind (p_standAt (p_operate (p_any (wpAny_mono h₃ (fun new s₄ h₄ => ?_) fun _ _ x => x))))) fun _ _ x => x))
  refine p_bind (p_standAt (p_bind (p_holding (p_any (wpAny_mono h₄ (fun _ s₅ h₅ => ?_) fun _ _ x => x)))))
  exact p_any (wpAny_bind (wpAny_release (wpAny_pure h₅)))
end
section
variable {X : LW} {F : FN} {c : FC} {ε : Env} {V V' : VL} {R R1 R2 R' Z : RP} {l r e o : Expr} {es : List Expr} {P P1 P2 : VP} {Ps : List VP} {x name : Str} {pos pos' px py tpos apos pr p1 : Pos} {a b a' b' : Nat} {Cl y f p : Addr} {fs : List (Str × VP)} {rest body : List Stmt} {Pst : TL → Value → Shared → Prop}
theorem ev_clssm {mc : Value} {rs : List Value} (C : c.Ok X F a b) (ho : EvAE X F c ε V R o (IsVal (.ref Cl)) R) (hg : specialIn X.K (.ref Cl) "__getattribute__" = some (some (.builtin "type.__getattribute__")))
    (hm : typeIn X.K (.ref Cl) = some mc) (hr : readsIn X.K Cl mc = true) (hF : findCls X.K (.ref Cl) mc name = some (.get (.builtin "staticmethod.__get__") (.ref p) .none (.ref Cl))) (hp : recIn X.K p "staticmethod" = some (.ref f :: rs)) (hk : keepIn X.K (.ref f) = true)
    (ha : EvsE X F c ε V R es Ps R1) (hc : ConP X f Ps R1 P R' a' b') (ea : Nat.ble a' a = true) (eb : Nat.ble b' b = true)
    (he : backTo pos (starEach es ε) = es.map fun e => (false, eval e ε) := by rfl)
    {pl : Sem Bool} (he' : eval (.Call (.Attribute o name apos) es [] pos) ε = (do
      let ov ← eval o ε
      standAt apos.atName
      let (f, first) ← holding [ov] (getMethod ov name pl)
      callWith pos f first (backTo pos (starEach es ε)) []) := by rfl) : EvE X F c ε V R (.Call (.Attribute o name apos) es [] pos) P R' := by
  intro T Q E s st k
  refine p_meth (pl := pl) (ho T _ E s st fun v s1 st1 => ?_) he'
  apply st1.elim; intro h tk m Ck N F' hV hT hN nd rr
  obtain rfl : v = .ref Cl := hT (IsVal _, v) (.head _)
  refine method_of_cls F' C.X hg (cls_sm F' C.X hm hr hF hp rfl ?_)
  exact call_con (P0 := []) (v := []) C hk rfl ha hc ea eb (St.mk (C := Ck) (N := N) F' hV hT.tail hN nd rr) k he
theorem blk_augAttrB {d d' : Array UInt8} {attr : Option Value} (C : c.Ok X F a b) (ho : ∀ P0, EvA X F c V P0 (.Name x px) (IsVal (.ref y)) P0) (hl : fs.lookup name = some (IsBytes d)) (hr : Ev X F c V (RStar (RObj Cl y fs) Z) r (IsBytes d') (RStar (RObj Cl y fs) Z)) (hd : d.size + d'.size ≤ 16777216)
    (hg : plainGet X.K Cl name = true) (hh : hasDictIn X.K Cl = true) (ha : findIn X.K (.ref Cl) name = some attr) (hn : noGet X.K attr = true)
    (hs : findIn X.K (.ref Cl) "__setattr__" = some (some (.builtin "object.__setattr__"))) (hp : plainOver X.K Cl = true) (ht : takerIn X.K Cl name = some none) (hz : Nat.ble fs.length 900 = true)
    (k : Blk X F c V (RStar (RObj Cl y (fput name (IsBytes (d ++ d')) fs)) Z) rest V' R') : Blk X F c V (RStar (RObj Cl y fs) Z) (.AugAssign (.Attribute (.Name x px) name tpos) .Add r pos :: rest) V' R' := by
  intro T Q E s st kQ
  refine p_execs (p_augAttr (ho _ T _ E s st fun v s1 st1 => ?_))
  have st1' := st1
  apply st1.elim; intro h tk m Ck N F' hV hT hN nd rr
  obtain ⟨_, C0, rfl, ⟨dx, es, n, rfl, h1, h2⟩, r0⟩ := rr
  obtain rfl : v = .ref y := hT (IsVal _, v) (.head _)
  obtain ⟨u, q1, q2, q3⟩ := h2.has hl
  refine get_own F' C.X (InstAt.of_news hN (List.mem_append_right _ h1) (.head _)) hg hh ha hn q1 q2 ?_
  refine hr ((IsBytes d, u) :: T) _ E _ (St.mk (C := _) (N := N) F' hV (TOk.cons q3 hT.tail) hN nd ⟨_, C0, rfl, ⟨dx, es, n, rfl, h1, h2⟩, r0⟩) fun v' s2 st2 => ?_
  apply st2.elim; intro h3 tk3 m3 C3 N3 F3 hV3 hT3 hN3 nd3 r3
  obtain ⟨t1, rfl⟩ := hT3 (IsBytes d, u) (.tail _ (.head _))
  obtain ⟨t2, rfl⟩ := hT3 (IsBytes d', v') (.head _)
  refine iadd_bytes hd fun t' k' => ?_
  exact set_obj (P := IsBytes (d ++ d')) C (St.mk (C := C3) (N := N3) F3 hV3 (TOk.cons ⟨_, rfl⟩ hT3.tail.tail) hN3 nd3 r3) handed_bytes hs hp ht hh hz fun s' st' => k T Q E s' st' kQ
end
end MineP
end
section
open PySem PySem.W PySem.Calls PyProof.Rows Mine
namespace MineP
def EvX {β : Type} (X : LW) (F : FN) (c : FC) (ε : Env) (V : VL) (R : RP) (e : Expr) (P : β → VP) (R' : β → RP) : Prop :=
  ∀ (T : TL) (Q E : EC) (s : Shared), St c V T R s → (∀ y v s', St c V ((P y, v) :: T) (R' y) s' → Q v s') → wpP true (model X.prog X.w) (c.A F) (eval e ε) Q E s
theorem ConXA.freeze {X : LW} {f Cl : Addr} {mk : List Value → Args} {Ps : List VP} {R R' : RP} {fs : List (Str × VP)} {a b : Nat} (h : ConXA (β := Addr) X f mk Ps R (fun x => IsVal (.ref x)) (fun x => RStar (RObj Cl x fs) R') a b) :
    ConXA (β := Unit) X f mk Ps R (fun _ => IsObj Cl fs) (fun _ => R') a b := fun F c V T Q E vs s C st hl k => h F c V T Q E vs s C st hl fun y v s' st' => k () v s' st'.freeze
section
variable {g : Bool} {prog : Program} {w : World} {A : Around} {E : Value → Shared → Prop} {s : Shared} {env : Env}
theorem p_methP {o : Expr} {name : Str} {apos pos : Pos} {args : List Expr} {pl : Sem Bool} {Q : Value → Shared → Prop}
    (h : wpP g (model prog w) A (eval o env) (fun ov s₁ => wpAny (model prog w) A (getMethod ov name pl) (fun fx s₂ => wpP g (model prog w) A (callWith pos fx.1 fx.2 (backTo pos (starEach args env)) []) Q E s₂) E s₁) E s)
    (he : eval (.Call (.Attribute o name apos) args [] pos) env = (do
      let ov ← eval o env
      standAt apos.atName
      let (f, first) ← holding [ov] (getMethod ov name pl)
      callWith pos f first (backTo pos (starEach args env)) [])) :
    wpP g (model prog w) A (eval (.Call (.Attribute o name apos) args [] pos) env) Q E s := by
  rw [he]
  exact p_bind (p_mono h (fun ov s₁ h₁ => p_bind (p_standAt (p_bind (p_holding (p_any (wpAny_mono h₁ (fun fx s₂ h₂ => h₂) fun _ _ x => x)))))) fun _ _ x => x)
end
section
variable {β : Type} {X : LW} {F : FN} {c : FC} {ε : Env} {V V' : VL} {R R1 R2 Z : RP} {l r e o : Expr} {es : List Expr} {P : β → VP} {R' : β → RP} {Po P1 : VP} {Ps : List VP} {x name : Str} {pos pos' px apos : Pos} {a b a' b' : Nat} {Cl f p : Addr} {rest body : List Stmt} {Pst : TL → Value → Shared → Prop}
theorem ev_methP (C : c.Ok X F a b) (ho : EvE X F c ε V R o Po R1) (hm : Gm X R1 Po name f) (hk : keepIn X.K (.ref f) = true) (ha : EvsE X F c ε V R1 es Ps R2) (hc : ConP X f (Po :: Ps) R2 P1 Z a' b') (ea : Nat.ble a' a = true) (eb : Nat.ble b' b = true)
    (he : backTo pos (starEach es ε) = es.map fun e => (false, eval e ε) := by rfl)
    {pl : Sem Bool} (he' : eval (.Call (.Attribute o name apos) es [] pos) ε = (do
      let ov ← eval o ε
      standAt apos.atName
      let (f, first) ← holding [ov] (getMethod ov name pl)
      callWith pos f first (backTo pos (starEach es ε)) []) := by rfl) : EvE X F c ε V R (.Call (.Attribute o name apos) es [] pos) P1 Z := by
  intro T Q E s st k
  refine p_methP (pl := pl) (ho T _ E s st fun v s1 st1 => ?_) he'
  refine hm F c V T _ E s1 v pl a b C st1 ?_
  exact call_con (P0 := [Po]) (v := [v]) C hk rfl ha hc ea eb st1 k he
theorem call_conX {v : List Value} {P0 : List VP} (C : c.Ok X F a b) (hk : keepIn X.K (.ref f) = true) (hl : v.length = P0.length) (ha : EvsE X F c ε V R es Ps R1) (hc : ConX X f (P0 ++ Ps) R1 P R' a' b') (ea : Nat.ble a' a = true) (eb : Nat.ble b' b = true)
    {T : TL} {Q E : EC} {s : Shared} (st : St c V (P0.zip v ++ T) R s) (k : ∀ y v s', St c V ((P y, v) :: T) (R' y) s' → Q v s')
    (he : backTo pos (starEach es ε) = es.map fun e => (false, eval e ε)) :
    wpP true (model X.prog X.w) (c.A F) (callWith pos (.ref f) v (backTo pos (starEach es ε)) []) Q E s := by
  rw [he]
  refine p_callWith (keeps_K hk) ?_
  have e2 : (es.map fun e => (false, eval e ε)) = (es.map fun e => eval e ε).map fun x => (false, x) := by rw [List.map_map]; rfl
  rw [e2]
  refine p_evalArgs ?_
  rw [← e2]
  refine ha _ _ E s st fun vs s' hl' st' => ⟨st'.inK C, ?_⟩
  refine p_callR (hc F c V T Q E (v ++ vs) s' (C.le ea eb) (st'.tsub fun z hz => ?_) (by simp [hl, hl']) k)
  rw [List.zip_append hl.symm] at hz
  rcases List.mem_append.mp hz with hz | hz
  · rcases List.mem_append.mp hz with hz | hz
    · exact List.mem_append_right _ (List.mem_append_left _ hz)
    · exact List.mem_append_left _ hz
  · exact List.mem_append_right _ (List.mem_append_right _ hz)
theorem ev_callX (C : c.Ok X F a b) (hg : EvAE X F c ε V R o (IsVal (.ref f)) R) (hk : keepIn X.K (.ref f) = true) (ha : EvsE X F c ε V R es Ps R1) (hc : ConX X f Ps R1 P R' a' b') (ea : Nat.ble a' a = true) (eb : Nat.ble b' b = true)
    (he : backTo pos (starEach es ε) = es.map fun e => (false, eval e ε) := by rfl)
    (he' : eval (.Call o es [] pos) ε = (do callWith pos (← eval o ε) [] (backTo pos (starEach es ε)) (backToKw pos (keywordEach [] ε))) := by rfl) : EvX X F c ε V R (.Call o es [] pos) P R' := by
  intro T Q E s st k
  refine p_fn (hg T _ E s st fun v s1 st1 => ?_) he'
  have hv : v = .ref f := by
    apply st1.elim; intro h tk m Ck N F' hV hT hN nd r
    exact hT _ (.head _)
  subst hv
  exact call_conX (P0 := []) (v := []) C hk rfl ha hc ea eb st1.drop k he
theorem ev_clssmX {mc : Value} {rs : List Value} (C : c.Ok X F a b) (ho : EvAE X F c ε V R o (IsVal (.ref Cl)) R) (hg : specialIn X.K (.ref Cl) "__getattribute__" = some (some (.builtin "type.__getattribute__")))
    (hm : typeIn X.K (.ref Cl) = some mc) (hr : readsIn X.K Cl mc = true) (hF : findCls X.K (.ref Cl) mc name = some (.get (.builtin "staticmethod.__get__") (.ref p) .none (.ref Cl))) (hp : recIn X.K p "staticmethod" = some (.ref f :: rs)) (hk : keepIn X.K (.ref f) = true)
    (ha : EvsE X F c ε V R es Ps R1) (hc : ConX X f Ps R1 P R' a' b') (ea : Nat.ble a' a = true) (eb : Nat.ble b' b = true)
    (he : backTo pos (starEach es ε) = es.map fun e => (false, eval e ε) := by rfl)
    {pl : Sem Bool} (he' : eval (.Call (.Attribute o name apos) es [] pos) ε = (do
      let ov ← eval o ε
      standAt apos.atName
      let (f, first) ← holding [ov] (getMethod ov name pl)
      callWith pos f first (backTo pos (starEach es ε)) []) := by rfl) : EvX X F c ε V R (.Call (.Attribute o name apos) es [] pos) P R' := by
  intro T Q E s st k
  refine p_meth (pl := pl) (ho T _ E s st fun v s1 st1 => ?_) he'
  apply st1.elim; intro h tk m Ck N F' hV hT hN nd rr
  obtain rfl : v = .ref Cl := hT (IsVal _, v) (.head _)
  refine method_of_cls F' C.X hg (cls_sm F' C.X hm hr hF hp rfl ?_)
  exact call_conX (P0 := []) (v := []) C hk rfl ha hc ea eb (St.mk (C := Ck) (N := N) F' hV hT.tail hN nd rr) k he
theorem exs_assignX (C : c.Ok X F a b) (h : EvX X F c (c.env F) V R e P R') (k : ∀ y, ExsP X F c ((x, P y) :: V) (R' y) rest Pst)
    (hx : (c.env F).kindOf x = some .local := by rfl) (hs : swapsWith e (some (.Name x pos')) pos.line (c.env F) = pure false := by rfl) :
    ExsP X F c V R (.Assign [.Name x pos'] e pos :: rest) Pst := by
  intro T Q E s st kQ
  refine p_execs (p_assign (h T _ E s st fun y v s' st' => ?_) hs)
  apply st'.elim; intro h tk m Ck N Fr' hV hT hN nd r
  refine p_any (storeX_L Fr' hN (fun h' F' N' => ?_) C.hk hx)
  exact k y T Q E _ (St.mk (C := Ck) (N := N) F' (hV.set (hT _ (.head _))) hT.tail N' nd r) kQ
theorem exs_retX (h : EvX X F c (c.env F) V R e P R') : ExsP X F c V R (.Return (some e) pos :: rest) fun T v s' => ∃ y, St c [] ((P y, v) :: T) (R' y) s' := by
  intro T Q E s st kQ
  refine p_execs (p_ret (h T _ E s st fun y v s' st' => ?_))
  apply st'.elim; intro h tk m Ck N Fr' hV hT hN nd r
  exact kQ v _ ⟨y, St.mk (C := Ck) (N := N) Fr' .nil hT hN nd r⟩
theorem ev_methCP {id : String} {P : VP} (C : c.Ok X F a b) (ho : EvE X F c ε V R o Po R1) (hm : Gb X Po name id) (ha : EvsE X F c ε V R1 es Ps R2) (hc : ConB X id (Po :: Ps) R2 P Z)
    (he : backTo pos (starEach es ε) = es.map fun e => (false, eval e ε) := by rfl)
    {pl : Sem Bool} (he' : eval (.Call (.Attribute o name apos) es [] pos) ε = (do
      let ov ← eval o ε
      standAt apos.atName
      let (f, first) ← holding [ov] (getMethod ov name pl)
      callWith pos f first (backTo pos (starEach es ε)) []) := by rfl) : EvE X F c ε V R (.Call (.Attribute o name apos) es [] pos) P Z := by
  intro T Q E s st k
  refine p_methP (pl := pl) (ho T _ E s st fun v s1 st1 => ?_) he'
  obtain ⟨N0, hv⟩ : ∃ N0, Po.P N0 v := by
    apply st1.elim; intro h tk m Ck N F' hV hT hN nd r
    exact ⟨N, hT (Po, v) (.head _)⟩
  refine hm _ _ E s1 v pl N0 hv ?_
  exact callB (P0 := [Po]) (v := [v]) C rfl ha hc st1 k he
theorem exs_freezeO {y : Addr} {fs : List (Str × VP)} {ss : List Stmt} (hv : V.lookup x = some (IsVal (.ref y))) (k : ExsP X F c ((x, IsObj Cl fs) :: V) Z ss Pst) : ExsP X F c V (RStar (RObj Cl y fs) Z) ss Pst := fun T Q E s st kQ => by
  refine k T Q E s ?_ kQ
  apply st.elim; intro h tk m Ck N F' hV hT hN nd rr
  obtain ⟨_, C0, rfl, ⟨dx, es, n, rfl, h1, h2⟩, r0⟩ := rr
  have sub : ∀ p ∈ N, p ∈ (dx, dictOf es n) :: N := fun p hp => .tail _ hp
  refine St.mk (C := C0) (N := (dx, dictOf es n) :: N) F' (fun z P e => ?_) (hT.mono sub) (news_perm List.perm_middle.symm hN) (nd_perm List.perm_middle.symm nd) (Z.mono r0 sub)
  rw [List.lookup_cons] at e
  by_cases q : z = x
  · subst q
    rw [beq_self_eq_true] at e
    obtain rfl := Option.some.inj e
    obtain ⟨v, e1, e2⟩ := hV z _ hv
    exact ⟨v, e1, y, dx, es, n, e2, sub _ h1, .head _, h2.mono sub⟩
  · rw [beq_false_of_ne q] at e
    exact hV.mono sub z P e
end
theorem con_funN {X : LW} {f : Addr} {name qual : Str} {params : Arguments} {body : List Stmt} {scope : Scope} {ns : List Str} {Ps : List VP} {R R' : RP} {a b : Nat} {mk : List Value → Args} (hn : ns.length = Ps.length)
    (hf : ∃ oc od osl dV kV doc pm an cdv ct, X.K.lookup f = some ⟨oc, od, .func (fnOf name qual params body scope dV kV doc pm an cdv ct), osl⟩ ∧ codeIn X.K cdv qual = true ∧
      ∀ vs, vs.length = Ps.length → ∀ s : Shared, X.K.In s.heap → BindsTo s (fnOf name qual params body scope dV kV doc pm an cdv ct) (mk vs) (ns.zip vs))
    (hl : (ns.all fun x => decide (scope.names.lookup x = some .local)) = true)
    (hbody : ∀ c : FC, c.cl = [] → c.Ok X ⟨qual, scope⟩ a b → Blk X ⟨qual, scope⟩ c (ns.zip Ps).reverse R body [] R')
    (hco : scope.isCoroutine = false := by rfl) (hgen : scope.isGenerator = false := by rfl) (hk : scope.kind = .function := by rfl) (hcell : ∀ x ∈ scope.names, x.2 ≠ .cell := by decide) :
    ConXA (β := Unit) X f mk Ps R (fun _ => IsNone) (fun _ => R') (a + 1) (b + 10) :=
  con_defN (binds := fun vs => ns.zip vs) hf (fun vs _ y hy => of_decide_eq_true (List.all_eq_true.mp hl y.1 (List.of_mem_zip hy).1)) (fun vs N e hT => zip_okR hn e hT) hbody hco hgen hk hcell
end MineP
end
section
open PySem PySem.W PySem.Calls PyProof.Rows Mine
namespace MineP
theorem obj_some {Cl : Addr} {fs : List (Str × VP)} {N : Lg} {v : Value} (h : (IsObj Cl fs).P N v) : v ≠ .none := by
  obtain ⟨x, dx, es, n, rfl, -⟩ := h
  nofun
section
variable {X : LW} {F : FN} {c : FC} {ε : Env} {V V' V2 : VL} {R R1 R2 R' Z : RP} {l e o : Expr} {P : VP} {pos px sp : Pos} {body orelse rest : List Stmt} {k : Nat}
theorem tst_isNoneF (hl : EvE X F c ε V R l P R1) (hP : ∀ N v, P.P N v → v ≠ .none) : TstE X F c ε V R (.Compare l [.Is] [.Constant .none k px] pos) false R1 := by
  intro T Q E s st kQ
  refine p_isTrueCmp (hl T _ E s st fun v s1 st1 => ?_)
  have hv : v ≠ .none := by
    apply st1.elim; intro h tk m Ck N F' hV hT hN nd r
    exact hP N v (hT (P, v) (.head _))
  refine p_any (wpAny_Constant_none ?_)
  refine p_any (is_none_ne hv ?_)
  exact p_pure (kQ s1 st1.drop)
theorem ev_none {kk : Nat} : EvAE X F c ε V R (.Constant .none kk pos) IsNone R := by
  intro T Q E s st kQ
  apply st.elim; intro h tk m Ck N F' hV hT hN nd r
  exact wpAny_Constant_none (kQ _ _ (St.mk (C := Ck) (N := N) F' hV (hT.cons rfl) hN nd r))
theorem blk_ifT (ht : Tst X F c V R e true R1) (hb : Blk X F c V R1 body V2 R2) (h : Blk X F c V2 R2 rest V' R') : Blk X F c V R (.If e body orelse pos :: rest) V' R' := fun T Q E s st kQ =>
  p_execs (p_if (ht T _ E s st fun s1 st1 => hb T _ E s1 st1 fun s2 st2 => h T Q E s2 st2 kQ))
theorem ev_cutAll {α : Type} {Pa : α → VP} {as : List α} (ho : EvE X F c ε V R o (IsListOf Pa as) R1) (hz : as.length ≤ 16777216)
    (hs : ∀ l i, subscripted (.Slice none none none sp) false (.ref l) (.ref i) = operate [.ref i, .ref l] (getItem (.ref l) (.ref i)) := by intro _ _; with_unfolding_all rfl) (hg : ∀ l r, letTemporaryGo o (.ref l) r = pure () := by intro _ _; with_unfolding_all rfl) :
    EvE X F c ε V R (.Subscript o (.Slice none none none sp) pos) (IsListOf Pa as) R1 := by
  intro T Q E s st kQ
  refine p_subP (ho T _ E s st fun v s1 st1 => p_slice (p_pure (p_pure (p_pure ?_))))
  apply st1.elim; intro h tk m Ck N F' hV hT hN nd r
  obtain ⟨l, n, vs, rfl, hm, hl, hi⟩ := hT (IsListOf Pa as, v) (.head _)
  refine slice_allV (s := c.s₀) F' hN (List.mem_append_right _ hm) (by rw [List.size_toArray, hl]; exact hz) (fun D h' F2 N2 l1 => ?_) (hs _ _) (hg _)
  have sub : ∀ p ∈ N, p ∈ (D, listOf vs.toArray 0) :: N := fun p hp => .tail _ hp
  exact kQ _ _ (St.push hV hT.tail r F2 N2 nd l1 ⟨D, 0, vs, rfl, .head _, hl, fun i y e => by obtain ⟨u, e1, e2⟩ := hi i y e; exact ⟨u, e1, (Pa y).mono e2 sub⟩⟩)
end
end MineP
end
section
open PySem PySem.W PySem.Calls PyProof.Rows Mine
namespace MineP
def RP.ex {β : Type} (f : β → RP) : RP := ⟨fun C N => ∃ y, (f y).P C N, fun ⟨y, h⟩ k => ⟨y, (f y).mono h k⟩⟩
theorem REq.toEx {β : Type} {f : β → RP} (y : β) : REq (f y) (RP.ex f) := fun C N h => ⟨C, .refl _, y, h⟩
theorem REq.exOut {β : Type} {A Z : RP} {f : β → RP} : REq (RStar A (RStar (RP.ex f) Z)) (RP.ex fun y => RStar A (RStar (f y) Z)) := fun C N => by
  rintro ⟨Ca, _, rfl, a, Cb, C0, rfl, ⟨y, b⟩, z⟩
  exact ⟨_, .refl _, y, Ca, _, rfl, a, Cb, C0, rfl, b, z⟩
theorem REq.head {A A' Z : RP} (h : REq A A') : REq (RStar A Z) (RStar A' Z) := fun C N => by
  rintro ⟨Ca, C0, rfl, a, z⟩
  obtain ⟨C', p, a'⟩ := h Ca N a
  exact ⟨C' ++ C0, List.Perm.append_right _ p, C', C0, rfl, a', z⟩
section
variable {β : Type} {X : LW} {F : FN} {c : FC} {ε : Env} {V V' : VL} {R R1 R2 R' Z : RP} {l r e o : Expr} {es : List Expr} {P P1 : VP} {Ps : List VP} {x name : Str} {pos pos' px apos p1 : Pos} {a b a' b' : Nat} {i j : Int} {bv : Bool} {Cl f p y0 : Addr} {ss rest : List Stmt} {Pst : TL → Value → Shared → Prop} {g : β → RP}
theorem blk_ex (h : ∀ y, Blk X F c V (g y) ss V' R') : Blk X F c V (RP.ex g) ss V' R' := fun T Q E s st k => by
  apply st.elim; intro h1 tk m Ck N F' hV hT hN nd rr
  obtain ⟨y, r⟩ := rr
  exact h y T Q E _ (St.mk (C := Ck) (N := N) F' hV hT hN nd r) k
theorem exs_ex (h : ∀ y, ExsP X F c V (g y) ss Pst) : ExsP X F c V (RP.ex g) ss Pst := fun T Q E s st k => by
  apply st.elim; intro h1 tk m Ck N F' hV hT hN nd rr
  obtain ⟨y, r⟩ := rr
  exact h y T Q E _ (St.mk (C := Ck) (N := N) F' hV hT hN nd r) k
theorem tst_neInt (hl : EvE X F c ε V R l (IsInt i) R1) (hr : EvE X F c ε V R1 r (IsInt j) R2) (hb : (i != j) = bv) (hm : behindInMarks .NotEq r = false := by with_unfolding_all rfl) : TstE X F c ε V R (.Compare l [.NotEq] [r] pos) bv R2 := by
  subst hb
  refine tst_ne hl hr (fun T E s v v' Q st k => ?_) hm
  revert k; apply st.elim; intro h1 tk m Ck N F' hV hT hN nd rr k
  obtain ⟨t1, rfl⟩ := hT (IsInt i, v) (.tail _ (.head _))
  obtain ⟨t2, rfl⟩ := hT (IsInt j, v') (.head _)
  exact ne_int (k _)
theorem ev_eqInt (hl : EvE X F c ε V R l (IsInt i) R1) (hr : EvE X F c ε V R1 r (IsInt j) R2) (hm : behindInMarks .Eq r = false := by with_unfolding_all rfl) : EvE X F c ε V R (.Compare l [.Eq] [r] pos) (IsBool (i == j)) R2 := by
  intro T Q E s st kQ
  refine p_evalCmp (hl T _ E s st fun v s1 st1 => hr _ _ E s1 st1 fun v' s2 st2 => ?_) hm
  apply st2.elim; intro h tk m Ck N F' hV hT hN nd rr
  obtain ⟨t1, rfl⟩ := hT (IsInt i, v) (.tail _ (.head _))
  obtain ⟨t2, rfl⟩ := hT (IsInt j, v') (.head _)
  exact p_any (eq_int (kQ _ _ (St.mk (C := Ck) (N := N) F' hV (TOk.cons rfl hT.tail.tail) hN nd rr)))
theorem blk_appendX {α : Type} {l : Addr} {Pa : α → VP} {as : List α} {q : β → α} {R1 : β → RP} {Z : β → RP} {e : Expr} (C : c.Ok X F a b) (hv : V.lookup x = some (IsVal (.ref l))) (hR : HasL l R) (h : EvX X F c (c.env F) V R e (fun y => Pa (q y)) R1) (q1 : ∀ y, REq (R1 y) (RStar (RLst l Pa as) (Z y))) (hz : as.length ≤ 1000)
    (k : ∀ y, Blk X F c V (RStar (RLst l Pa (as ++ [q y])) (Z y)) rest V' R')
    (hx : (c.env F).kindOf x = some .local := by rfl) (hd : (x == ("__debug__" : Str)) = false := by decide)
    (hi : interactive (c.env F) = false := by rfl) (hs : swapsWith (.Call (.Attribute (.Name x px) (Str.ofString "append") apos) [e] [] pos') none pos.line (c.env F) = pure false := by rfl)
    (he : starEach [e] (c.env F) = [(false, eval e (c.env F))] := by rfl)
    {pl : Sem Bool} (he' : eval (.Call (.Attribute (.Name x px) (Str.ofString "append") apos) [e] [] pos') (c.env F) = (do
      let ov ← eval (.Name x px) (c.env F)
      standAt apos.atName
      let (f, first) ← holding [ov] (getMethod ov (Str.ofString "append") pl)
      callWith pos' f first (backTo pos' (starEach [e] (c.env F))) []) := by rfl) :
    Blk X F c V R (.Expr (.Call (.Attribute (.Name x px) (Str.ofString "append") apos) [e] [] pos') pos :: rest) V' R' := by
  intro T Q E s st kQ
  refine p_execs (p_expr (p_meth (pl := pl) (ev_name C hv hx hd T _ E s st fun v s1 st1 => ?_) he') hi hs)
  apply st1.elim; intro h0 tk m Ck N F' hV hT hN nd r
  obtain rfl : v = .ref l := hT (IsVal _, v) (.head _)
  obtain ⟨its, n, hm⟩ := hR Ck N r
  refine listMethod_K hN (List.mem_append_left _ hm) PySem.F.slot_list_append PySem.F.type_list_append ?_
  refine p_callWithBF (first := [.ref l]) (fun _ => nofun) ?_ he
  refine h T _ E _ (St.mk (C := Ck) (N := N) F' hV hT.tail hN nd r) fun y u s2 st2 => ?_
  have st3 := st2.req (q1 y)
  apply st3.elim; intro h3 tk3 m3 C3 N3 F3 hV3 hT3 hN3 nd3 r3
  obtain ⟨_, C0, rfl, ⟨vs, n, rfl, l1, i1⟩, r0⟩ := r3
  refine p_any (append_K F3 hN3 (.head (nd_head nd3)) (fun h' F4 N4 => ?_) (by rw [List.size_toArray, l1, sizeLine_eq]; omega))
  refine ⟨fun _ => nofun, k y T Q E _ (St.mk (C := (l, listOf ((List.toArray vs).push u) (n + 1)) :: C0) (N := N3) F4 hV3 hT3.tail N4 (nd_map (n := _ :: (C0 ++ N3)) rfl nd3) ⟨[(l, listOf ((List.toArray vs).push u) (n + 1))], C0, rfl, ⟨vs ++ [u], n + 1, ?_, by simp [l1], ?_⟩, r0⟩) kQ⟩
  · rw [List.push_toArray]
  · exact each_app l1 rfl i1 fun j w e => by
      match j, e with
      | 0, e => exact ⟨u, rfl, by obtain rfl : q y = w := Option.some.inj e; exact hT3 (Pa (q y), u) (.head _)⟩
end
section
variable {β : Type} {X : LW} {F : FN} {c : FC} {ε : Env} {V V' : VL} {R R1 R2 Z : RP} {e o : Expr} {es : List Expr} {P : β → VP} {R' : β → RP} {Po P1 : VP} {Ps : List VP} {x name : Str} {pos pos' px apos kp : Pos} {a b a' b' : Nat} {Cl f p : Addr} {kws : List Keyword} {rest : List Stmt} {Pst : TL → Value → Shared → Prop}
theorem ev_clsmX {mc : Value} {rs : List Value} (C : c.Ok X F a b) (ho : EvAE X F c ε V R o (IsVal (.ref Cl)) R) (hg : specialIn X.K (.ref Cl) "__getattribute__" = some (some (.builtin "type.__getattribute__")))
    (hm : typeIn X.K (.ref Cl) = some mc) (hr : readsIn X.K Cl mc = true) (hF : findCls X.K (.ref Cl) mc name = some (.get (.builtin "classmethod.__get__") (.ref p) .none (.ref Cl))) (hp : recIn X.K p "classmethod" = some (.ref f :: rs)) (hf : fnIn X.K f = true)
    (ha : EvsE X F c ε V R es Ps R1) (hc : ConX X f (IsVal (.ref Cl) :: Ps) R1 P R' a' b') (ea : Nat.ble a' a = true) (eb : Nat.ble b' b = true)
    (he : backTo pos (starEach es ε) = es.map fun e => (false, eval e ε) := by rfl)
    {pl : Sem Bool} (he' : eval (.Call (.Attribute o name apos) es [] pos) ε = (do
      let ov ← eval o ε
      standAt apos.atName
      let (f, first) ← holding [ov] (getMethod ov name pl)
      callWith pos f first (backTo pos (starEach es ε)) []) := by rfl) : EvX X F c ε V R (.Call (.Attribute o name apos) es [] pos) P R' := by
  intro T Q E s st k
  refine p_meth (pl := pl) (ho T _ E s st fun v s1 st1 => ?_) he'
  apply st1.elim; intro h tk m Ck N F' hV hT hN nd r
  obtain rfl : v = .ref Cl := hT (IsVal _, v) (.head _)
  refine method_of_cls F' C.X hg (cls_cm F' C.X hN hm hr hF hp fun q h' F2 N2 l1 => ?_)
  show wpP true _ _ (callWith pos (.ref q) [] (backTo pos (starEach es ε)) []) _ _ _
  rw [he]
  refine p_callWith (P := MethP X.K q f (.ref Cl)) (keeps_M hf) ?_
  have e2 : (es.map fun e => (false, eval e ε)) = (es.map fun e => eval e ε).map fun x => (false, x) := by rw [List.map_map]; rfl
  rw [e2]
  refine p_evalArgs ?_
  rw [← e2]
  refine ha _ _ E _ (St.push (P := IsMeth f (IsVal (.ref Cl))) (v := .ref q) hV hT.tail r F2 N2 nd l1 ⟨q, .ref Cl, rfl, .head _, rfl⟩) fun vs s2 hl st2 => ?_
  apply st2.elim; intro h3 tk3 m3 C3 N3 F3 hV3 hT3 hN3 nd3 r3
  obtain ⟨q', v', hq, hm3, hv3⟩ := hT3 (IsMeth f (IsVal (.ref Cl)), .ref q) (List.mem_append_right _ (.head _))
  obtain rfl : q = q' := Value.ref.inj hq
  obtain rfl : v' = .ref Cl := hv3
  have hg3 := (hN3 _ (List.mem_append_right _ hm3)).1
  refine ⟨⟨hg3, C.X.keeps F3.keep⟩, p_call (p_methodCall hg3 ?_)⟩
  exact hc F c V T Q E (.ref Cl :: vs) _ (C.le ea eb) (St.mk (C := C3) (N := N3) F3 hV3 (fun z hz => by
    rcases List.mem_cons.mp hz with rfl | hz
    · exact rfl
    · rcases List.mem_append.mp hz with hz | hz
      · exact hT3 z (List.mem_append_left _ hz)
      · exact hT3 z (List.mem_append_right _ (.tail _ hz))) hN3 nd3 r3) (congrArg Nat.succ hl) k
def EvsK (X : LW) (F : FN) (c : FC) (ε : Env) (V : VL) (R : RP) (pos : Pos) (kws : List Keyword) (Ps : List VP) : Prop :=
  ∀ (T : TL) (Q : List Value → Shared → Prop) (E : EC) (s : Shared), St c V T R s → (∀ vs s', vs.length = Ps.length → St c V (Ps.zip vs ++ T) R s' → Q vs s') → wpAny (model X.prog X.w) (c.A F) (evalAll ((backToKw pos (keywordEach kws ε)).map (·.2))) Q E s
theorem evsk_nil : EvsK X F c ε V R pos [] [] := fun T Q E s st k => kwAll_nil (k [] s rfl st)
theorem evsk_cons {nm : Str} (h : EvAE X F c ε V R e Po R) (k : EvsK X F c ε V R pos kws Ps) : EvsK X F c ε V R pos (⟨some nm, e, kp⟩ :: kws) (Po :: Ps) := fun T Q E s st kQ =>
  kwAll_cons (h T _ E s st fun v s1 st1 => k ((Po, v) :: T) _ E s1 st1 fun vs s2 hl st2 => kQ (v :: vs) s2 (congrArg Nat.succ hl) (st2.tsub fun z hz => by
    rw [List.zip_cons_cons] at hz
    rcases List.mem_cons.mp hz with rfl | hz
    · exact List.mem_append_right _ (.head _)
    · rcases List.mem_append.mp hz with hz | hz
      · exact List.mem_append_left _ hz
      · exact List.mem_append_right _ (.tail _ hz)))
theorem ev_callK {P : VP} {Z : RP} (C : c.Ok X F a b) (hg : EvAE X F c ε V R o (IsVal (.ref f)) R) (hk : keepIn X.K (.ref f) = true) (ha : EvsK X F c ε V R pos kws Ps)
    (hc : ConXA (β := Unit) X f (fun vs => ⟨[], (kws.filterMap (·.arg)).zip vs⟩) Ps R (fun _ => P) (fun _ => Z) a' b') (ea : Nat.ble a' a = true) (eb : Nat.ble b' b = true)
    (hall : (backToKw pos (keywordEach kws ε)).all (·.1.isSome) = true := by rfl) (hn : (backToKw pos (keywordEach kws ε)).filterMap (·.1) = kws.filterMap (·.arg) := by rfl)
    (he' : eval (.Call o [] kws pos) ε = (do callWith pos (← eval o ε) [] (backTo pos (starEach [] ε)) (backToKw pos (keywordEach kws ε))) := by rfl) : EvE X F c ε V R (.Call o [] kws pos) P Z := by
  intro T Q E s st k
  rw [he']
  refine p_bind (p_any (hg T _ E s st fun v s1 st1 => ?_))
  have hv : v = .ref f := by
    apply st1.elim; intro h tk m Ck N F' hV hT hN nd r
    exact hT _ (.head _)
  subst hv
  refine p_callWith (keeps_K hk) (p_any (evalArgs_kw2_nil hall (ha _ _ E s1 st1.drop fun vs s2 hl st2 => ⟨st2.inK C, ?_⟩)))
  rw [hn]
  exact p_call (hc F c V T Q E vs s2 (C.le ea eb) st2 hl fun _ => k)
end
theorem con_funX {β : Type} {X : LW} {f : Addr} {name qual : Str} {params : Arguments} {body : List Stmt} {scope : Scope} {ns : List Str} {Ps : List VP} {P : β → VP} {R : RP} {R' : β → RP} {a b : Nat} (hn : ns.length = Ps.length)
    (hf : ∃ oc od osl dV kV doc pm an cdv ct, X.K.lookup f = some ⟨oc, od, .func (fnOf name qual params body scope dV kV doc pm an cdv ct), osl⟩ ∧ codeIn X.K cdv qual = true ∧
      ∀ vs, vs.length = Ps.length → ∀ s : Shared, X.K.In s.heap → BindsTo s (fnOf name qual params body scope dV kV doc pm an cdv ct) ⟨vs, []⟩ (ns.zip vs))
    (hl : (ns.all fun x => decide (scope.names.lookup x = some .local)) = true)
    (hbody : ∀ c : FC, c.cl = [] → c.Ok X ⟨qual, scope⟩ a b → ExsP X ⟨qual, scope⟩ c (ns.zip Ps).reverse R body fun T v s' => ∃ y, St c [] ((P y, v) :: T) (R' y) s')
    (hco : scope.isCoroutine = false := by rfl) (hgen : scope.isGenerator = false := by rfl) (hk : scope.kind = .function := by rfl) (hcell : ∀ x ∈ scope.names, x.2 ≠ .cell := by decide) :
    ConX X f Ps R P R' (a + 1) (b + 10) :=
  con_defX (binds := fun vs => ns.zip vs) hf (fun vs _ y hy => of_decide_eq_true (List.all_eq_true.mp hl y.1 (List.of_mem_zip hy).1)) (fun vs N e hT => zip_okR hn e hT) (fun c hcl C => (hbody c hcl C).run) hco hgen hk hcell
end MineP
end
section
open PySem PySem.W PySem.Calls PyProof.Rows Mine
namespace MineP
def ROwn (Cl : Addr) : List Addr → List (List (Str × VP)) → RP
  | [], [] => RNil
  | x :: xs, f :: fs => RStar (RObj Cl x f) (ROwn Cl xs fs)
  | _, _ => ⟨fun _ _ => False, fun h _ => h⟩
theorem own_snoc {Cl y : Addr} {f : List (Str × VP)} : ∀ {xs : List Addr} {fs : List (List (Str × VP))}, REq (RStar (RObj Cl y f) (ROwn Cl xs fs)) (ROwn Cl (xs ++ [y]) (fs ++ [f]))
  | [], [] => REq.refl
  | x :: xs, g :: fs => REq.trans REq.swap (REq.tail own_snoc)
  | [], g :: fs => fun C N ⟨_, _, _, _, h⟩ => h.elim
  | x :: xs, [] => fun C N ⟨_, _, _, _, h⟩ => h.elim
theorem own_nil {Cl : Addr} {A Z : RP} : REq (RStar A Z) (RStar A (RStar (ROwn Cl [] []) Z)) := fun C N ⟨Ca, C0, e, a, z⟩ => ⟨C, .refl _, Ca, C0, e, a, [], C0, rfl, rfl, z⟩
theorem own_nil' {Cl : Addr} {A : RP} : REq (RStar A (ROwn Cl [] [])) A := fun C N => by
  rintro ⟨Ca, _, rfl, a, rfl⟩
  exact ⟨Ca, by rw [List.append_nil], a⟩
theorem own_len {Cl : Addr} {C N : Lg} : ∀ {xs : List Addr} {fs : List (List (Str × VP))}, (ROwn Cl xs fs).P C N → xs.length = fs.length
  | [], [], _ => rfl
  | x :: xs, f :: fs, ⟨_, _, _, _, h⟩ => congrArg Nat.succ (own_len h)
  | [], f :: fs, h => h.elim
  | x :: xs, [], h => h.elim
theorem own_at {Cl : Addr} {N : Lg} : ∀ {C : Lg} {xs : List Addr} {fs : List (List (Str × VP))}, (ROwn Cl xs fs).P C N → ∀ (i : Nat) (x : Addr), xs[i]? = some x → ∃ f, fs[i]? = some f ∧ (IsObj Cl f).P (C ++ N) (.ref x)
  | C, [], [], _, i, x, e => by simp at e
  | _, y :: xs, f :: fs, h, 0, x, e => by
    obtain ⟨_, C0, rfl, ⟨dx, es, n, rfl, h1, h2⟩, -⟩ := h
    obtain rfl := Option.some.inj e
    exact ⟨f, rfl, y, dx, es, n, rfl, List.mem_append_right _ h1, .head _, h2.mono fun p hp => List.mem_append_right _ hp⟩
  | _, y :: xs, f :: fs, h, i + 1, x, e => by
    obtain ⟨Ca, C0, rfl, -, h⟩ := h
    obtain ⟨g, e1, e2⟩ := own_at h i x e
    exact ⟨g, e1, (IsObj Cl g).mono e2 fun p hp => by rw [List.append_assoc]; exact List.mem_append_right _ hp⟩
  | _, [], f :: fs, h, _, _, _ => h.elim
  | _, x :: xs, [], h, _, _, _ => h.elim
theorem hasL_head {l : Addr} {A Z : RP} (h : HasL l A) : HasL l (RStar A Z) := fun C N q => by
  obtain ⟨Ca, C0, rfl, a, _⟩ := q
  obtain ⟨its, n, m⟩ := h Ca N a
  exact ⟨its, n, List.mem_append_left _ m⟩
section
variable {X : LW} {F : FN} {c : FC} {V : VL} {Z : RP} {x : Str} {Cl : Addr} {ss : List Stmt} {Pst : TL → Value → Shared → Prop}
theorem exs_pick {V2 : VL} (k : ExsP X F c V2 Z ss Pst) (p : Pick V V2) : ExsP X F c V Z ss Pst := fun T Q E s st kQ => k T Q E s (st.weak p.ok) kQ
theorem exs_seg3 {V2 : VL} {R : RP} {s1 s2 s3 : Stmt} (h : ∀ r Po, ExsP X F c V2 Z r Po → ExsP X F c V R (s1 :: s2 :: s3 :: r) Po) (k : ExsP X F c V2 Z ss Pst) : ExsP X F c V R (s1 :: s2 :: s3 :: ss) Pst := h _ _ k
theorem exs_freezeOwn {α : Type} {fF : α → List (Str × VP)} {Pa : α → VP} {xs : List Addr} {as : List α} (hP : ∀ a, Pa a = IsObj Cl (fF a)) (hv : V.lookup x = some (IsListOf (fun y : Addr => IsVal (.ref y)) xs)) (k : ExsP X F c ((x, IsListOf Pa as) :: V) Z ss Pst) :
    ExsP X F c V (RStar (ROwn Cl xs (as.map fF)) Z) ss Pst := fun T Q E s st kQ => by
  refine k T Q E s ?_ kQ
  apply st.elim; intro h tk m Ck N F' hV hT hN nd rr
  obtain ⟨Ca, C0, rfl, ho, r0⟩ := rr
  have sub : ∀ p ∈ N, p ∈ Ca ++ N := fun p hp => List.mem_append_right _ hp
  have pm : ((Ca ++ C0) ++ N).Perm (C0 ++ (Ca ++ N)) := by
    rw [List.append_assoc]
    exact List.perm_append_comm_assoc ..
  refine St.mk (C := C0) (N := Ca ++ N) F' (fun z P e => ?_) (hT.mono sub) (news_perm pm hN) (nd_perm pm nd) (Z.mono r0 sub)
  rw [List.lookup_cons] at e
  by_cases q : z = x
  · subst q
    rw [beq_self_eq_true] at e
    obtain rfl := Option.some.inj e
    obtain ⟨v, e1, l, n, vs, rfl, hm, hl, hi⟩ := hV z _ hv
    have hlen := own_len ho
    rw [List.length_map] at hlen
    refine ⟨.ref l, e1, l, n, vs, rfl, sub _ hm, hl.trans hlen, fun i a e => ?_⟩
    have hlt : i < xs.length := by
      rw [hlen]
      rcases Nat.lt_or_ge i as.length with q | q
      · exact q
      · rw [List.getElem?_eq_none q] at e; cases e
    obtain ⟨u, e2, rfl⟩ := hi i _ (List.getElem?_eq_getElem hlt)
    obtain ⟨g, e3, e4⟩ := own_at ho i _ (List.getElem?_eq_getElem hlt)
    rw [List.getElem?_map, e] at e3
    obtain rfl := Option.some.inj e3
    exact ⟨_, e2, by rw [hP]; exact e4⟩
  · rw [beq_false_of_ne q] at e
    exact hV.mono sub z P e
end
end MineP
end
section
open PySem PySem.W PySem.Calls PyProof.Rows Mine
namespace MineP
section
variable {G : Bool} {prog : Program} {w : World} {A A₀ : Around} {s : Shared} {K : Frag} {L : Addr} {h₀ base : Heap} {m mg mb : Str → Option Value} {news : List (Addr × Obj)} {p : Program} {loose : List Str} {mean : ExcName → Option Value}
theorem p_bothN {env : Env} {outer : List Env} {R : Result → Shared → Prop} {name qual x2 x3 : Str} {params : Arguments} {body : List Stmt} {scope : Scope} {dV kV doc pm cdv ct oc : Value} {an od : Option Addr} {osl : Array (Option Value)} {f : Addr} {vs : List Value} {bs : List (Str × Value)}
    (B : Below A₀ base outer h₀) (F : Fr h₀ L s.heap m) (X₀ : K.In h₀) (N : News h₀ L s.heap news) (T : Top p loose mean mg mb h₀) (hA : A.frames = some (env :: outer)) (hf : env.frame = some L) (hke : env.scope.kind = .function)
    (ho : K.lookup f = some ⟨oc, od, .func (fnOf name qual params body scope dV kV doc pm an cdv ct), osl⟩) (hcd : codeIn K cdv qual = true) (hroom : A.depth < recursionLimit)
    (hb : bindArgs (fnOf name qual params body scope dV kV doc pm an cdv ct) ⟨vs, []⟩ = (newTuple [] >>= fun T => alloc (dictOf [] 0) >>= fun D => pure (bs ++ [(x2, T), (x3, .ref D)])))
    (hloc : ∀ T D, ∀ y ∈ bs ++ [(x2, T), (x3, .ref D)], scope.names.lookup y.1 = some .local)
    (h : ∀ C D gd L' h₁ tk, (∀ p ∈ news, p.1 < C) → C < D → (D == sysModules) = false → Fr h₀ L gd m → Fr gd L' h₁ (fun y => (bs ++ [(x2, Value.ref C), (x3, Value.ref D)]).reverse.lookup y) →
      News gd L' h₁ ((D, dictOf [] 0) :: (C, ({ cls := .type "tuple", data := .seq #[] } : Obj)) :: news) → Below A base (env :: outer) gd → K.In gd → Top p loose mean mg mb gd →
      wpP G (model prog w) (A.deeper (envOf qual scope L' f cdv)) (execs body (envOf qual scope L' f cdv))
        (fun fl s' => LeaveK h₀ L m gd R (match fl with | .ret v => v | _ => .none) s')
        (fun e s' => wpAny (model prog w) (A.deeper (envOf qual scope L' f cdv)) (leaving (envOf qual scope L' f cdv) e) (fun _ s'' => R (.error e) s'') (fun e' s'' => R (.error e') s'') s')
        { s with heap := h₁, toks := tk })
    (hco : scope.isCoroutine = false) (hgen : scope.isGenerator = false) (hk : scope.kind = .function)
    (hcell : ∀ x ∈ scope.names, x.2 ≠ .cell) : codeP G (model prog w) A (.call (.ref f) ⟨vs, []⟩) R s := by
  refine p_callFunction (fd := fnOf name qual params body scope dV kV doc pm an cdv ct) (body := body) hroom ((X₀.keeps F.keep) _ _ ho) rfl hco hgen rfl (codeRec_of (X₀.keeps F.keep) hcd) ?_
  rw [hb]
  refine wpAny_bind ?_
  show wpAny _ _ (newTuple []) _ _ _
  refine newTuple_N (hsz := Nat.zero_le _) F N fun h1 F1 N1 => ?_
  refine wpAny_bind (wpAny_alloc (wpAny_pure ?_))
  have l1 : ∀ p ∈ news, p.1 < s.heap.objs.size := fun p hp => Heap.lt_size (N p hp).1
  have l2 : s.heap.objs.size < h1.objs.size := Heap.lt_size (N1 _ (.head _)).1
  have F2 := F1.push (dictOf [] 0)
  have N2 := N1.push F1 (dictOf [] 0)
  obtain ⟨FG, BG, st, lv⟩ := groundX (R := R) (s := { s with heap := h1.push (dictOf [] 0) }) B F2 N2 hA hf hke
  refine wpAny_newFunctionEnv (s := { s with heap := h1.push (dictOf [] 0) }) hcell (hloc _ _) (fun h₂ hns hsb => ⟨(T.nolimit.keeps F2.keep).fresh _ hsb, p_func ?_⟩) hk
  have hk₁ : ∀ b o, (h1.push (dictOf [] 0)).get? b = some o → h₂.get? b = some o := fun b o e => hsb.extBut b o (Nat.ne_of_lt (Heap.lt_size e)) (Heap.get?_push_of_some _ e)
  refine p_mono (h s.heap.objs.size h1.objs.size _ (h1.push (dictOf [] 0)).objs.size h₂ _ l1 l2 (F1.notModules (modules_low T.nolimit)) FG ⟨hns, fun b o e => hk₁ b o (of_hideAll _ e), Nat.le_of_eq (hideAll_size _ _)⟩
    (fun p hp => ⟨hk₁ _ _ (N2 p hp).1, Nat.ne_of_lt (Heap.lt_size (N2 p hp).1), hideAll_none _ (List.mem_map_of_mem hp)⟩) BG (X₀.keeps st) (T.keeps st)) (fun fl s' hl => lv _ _ hl) fun _ _ y => y
end
theorem VOk.consL {V : VL} {bs : List (Str × Value)} {N : Lg} {x : Str} {P : VP} {v : Value} (p : P.P N v) (h : VOk V (fun y => bs.lookup y) N) : VOk ((x, P) :: V) (fun y => ((x, v) :: bs).lookup y) N := fun y P' e => by
  rw [List.lookup_cons] at e
  show ∃ u, ((x, v) :: bs).lookup y = some u ∧ _
  rw [List.lookup_cons]
  by_cases q : y = x
  · subst q
    rw [beq_self_eq_true] at e ⊢
    obtain rfl := Option.some.inj e
    exact ⟨v, rfl, p⟩
  · rw [beq_false_of_ne q] at e ⊢
    exact h y P' e
theorem con_bothN {X : LW} {f : Addr} {name qual x2 x3 : Str} {params : Arguments} {body : List Stmt} {scope : Scope} {ns : List Str} {Ps : List VP} {P : VP} {R R' : RP} {a b : Nat} (hn : ns.length = Ps.length)
    (hf : ∃ oc od osl dV kV doc pm an cdv ct, X.K.lookup f = some ⟨oc, od, .func (fnOf name qual params body scope dV kV doc pm an cdv ct), osl⟩ ∧ codeIn X.K cdv qual = true ∧
      ∀ vs, vs.length = Ps.length → bindArgs (fnOf name qual params body scope dV kV doc pm an cdv ct) ⟨vs, []⟩ = (newTuple [] >>= fun T => alloc (dictOf [] 0) >>= fun D => pure (ns.zip vs ++ [(x2, T), (x3, .ref D)])))
    (hl : ((ns ++ [x2, x3]).all fun x => decide (scope.names.lookup x = some .local)) = true)
    (hbody : ∀ c : FC, c.cl = [] → c.Ok X ⟨qual, scope⟩ a b → Exs X ⟨qual, scope⟩ c ((x3, IsEDict) :: (x2, IsETup) :: (ns.zip Ps).reverse) R body P R')
    (hco : scope.isCoroutine = false := by rfl) (hgen : scope.isGenerator = false := by rfl) (hk : scope.kind = .function := by rfl) (hcell : ∀ x ∈ scope.names, x.2 ≠ .cell := by decide) :
    Con X f Ps R P R' (a + 1) (b + 10) := by
  intro F c V T Q E vs s C st hlen k
  apply st.elim; intro h tk m Ck N Fr' hVk hT hN nd r
  obtain ⟨oc, od, osl, dV, kV, doc, pm, an, cdv, ct, ho, hcd, hb⟩ := hf
  have hT1 : TOk (Ps.zip vs) N := fun z hz => hT z (List.mem_append_left _ hz)
  have hT2 : TOk T N := fun z hz => hT z (List.mem_append_right _ hz)
  have hd := C.hd
  have hu := C.hu
  refine p_bothN C.B Fr' C.X hN C.T rfl rfl C.hk ho hcd (by show c.dp < _; omega) (hb vs hlen) (fun T D y hy => ?_) (fun C9 D9 gd L' h₁ tk9 l1 l2 hs FG F' N' B' X' T' => ?_) hco hgen hk hcell
  · have hl' := fun y hy => of_decide_eq_true (List.all_eq_true.mp hl y hy)
    rcases List.mem_append.mp hy with hy | hy
    · exact hl' _ (List.mem_append_left _ (List.of_mem_zip hy).1)
    · rcases List.mem_cons.mp hy with rfl | hy
      · exact hl' x2 (List.mem_append_right _ (.head _))
      · rcases List.mem_singleton.mp hy with rfl
        exact hl' x3 (List.mem_append_right _ (.tail _ (.head _)))
  have C' : (FC.into c F f cdv gd L').Ok X ⟨qual, scope⟩ a b := ⟨C.D, B', X', T', hk, by show c.dp + 1 + a < _; omega, by show c.un + 3 + b < _; omega⟩
  have eA : (c.A F).deeper (envOf qual scope L' f cdv) = (FC.into c F f cdv gd L').A ⟨qual, scope⟩ := rfl
  have eE : envOf qual scope L' f cdv = (FC.into c F f cdv gd L').env ⟨qual, scope⟩ := rfl
  rw [eA, eE]
  have sub : ∀ p ∈ N, p ∈ (D9, dictOf [] 0) :: (C9, ({ cls := .type "tuple", data := .seq #[] } : Obj)) :: N := fun p hp => .tail _ (.tail _ hp)
  have nd' : ND ((D9, dictOf [] 0) :: (C9, ({ cls := .type "tuple", data := .seq #[] } : Obj)) :: (Ck ++ N)) := by
    refine nd_cons (fun p hp => ?_) (nd_cons (fun p hp => Nat.ne_of_lt (l1 p hp)) nd)
    rcases List.mem_cons.mp hp with rfl | hp
    · exact Nat.ne_of_lt l2
    · exact Nat.ne_of_lt (Nat.lt_trans (l1 p hp) l2)
  have hV0 : VOk ((x3, IsEDict) :: (x2, IsETup) :: (ns.zip Ps).reverse) (fun y => (ns.zip vs ++ [(x2, Value.ref C9), (x3, Value.ref D9)]).reverse.lookup y) ((D9, dictOf [] 0) :: (C9, ({ cls := .type "tuple", data := .seq #[] } : Obj)) :: N) := by
    rw [List.reverse_append]
    exact VOk.consL ⟨D9, rfl, .head _, hs⟩ (VOk.consL ⟨C9, rfl, .tail _ (.head _)⟩ (zip_okR hn hlen (hT1.mono sub)))
  refine hbody (FC.into c F f cdv gd L') rfl C' [(keepVP V m T, .none)] _ _ _ (St.mk (C := Ck) F' hV0 (TOk.cons ⟨hVk.mono sub, hT2.mono sub⟩ (fun z hz => nomatch hz)) (news_perm perm2 N') (nd_perm perm2 nd') (R.mono r sub)) (fun v s' st' => ?_)
  apply st'.elim; intro h' tk' m' Ck' N2 F2 _ hT' hN2 nd2 r2
  refine leaveK_ F2 hN2 (fun kF kN => ?_)
  have hk2 := hT' (keepVP V m T, .none) (.tail _ (.head _))
  exact k v _ (St.mk (C := Ck') (N := N2) kF hk2.1 (TOk.cons (hT' _ (.head _)) hk2.2) kN nd2 r2)
section
variable {X : LW} {F : FN} {c : FC} {ε : Env} {V : VL} {R R1 R2 : RP} {l r : Expr} {pos : Pos} {i j : Int} {bv : Bool} {name : Str} {Cl f p : Addr}
theorem tst_gtInt (hl : EvE X F c ε V R l (IsInt i) R1) (hr : EvE X F c ε V R1 r (IsInt j) R2) (hb : decide (j < i) = bv) (hm : behindInMarks .Gt r = false := by with_unfolding_all rfl) : TstE X F c ε V R (.Compare l [.Gt] [r] pos) bv R2 := by
  subst hb
  intro T Q E s st kQ
  refine p_isTrueCmp (hl T _ E s st fun v s1 st1 => hr _ _ E s1 st1 fun v' s2 st2 => ?_) hm
  apply st2.elim; intro h tk m Ck N F' hV hT hN nd rr
  obtain ⟨t1, rfl⟩ := hT (IsInt i, v) (.tail _ (.head _))
  obtain ⟨t2, rfl⟩ := hT (IsInt j, v') (.head _)
  exact p_any (gt_int (p_pure (kQ _ (St.mk (C := Ck) (N := N) F' hV hT.tail.tail hN nd rr))))
theorem ga_clsm {mc : Value} {rs : List Value} (hm : typeIn X.K (.ref Cl) = some mc) (hr : readsIn X.K Cl mc = true) (hF : findCls X.K (.ref Cl) mc name = some (.get (.builtin "classmethod.__get__") (.ref p) .none (.ref Cl))) (hp : recIn X.K p "classmethod" = some (.ref f :: rs)) : Ga X (IsVal (.ref Cl)) name (IsMeth f (IsVal (.ref Cl))) := by
  intro F c V T R Q E s v a b C st k
  apply st.elim; intro h1 tk m Ck N F' hV hT hN nd r
  obtain rfl : v = .ref Cl := hT (IsVal _, v) (.head _)
  exact cls_cm F' C.X hN hm hr hF hp fun q h' F2 N2 l1 => k _ _ (St.push hV hT.tail r F2 N2 nd l1 ⟨q, _, rfl, .head _, rfl⟩)
end
end MineP
end
section
open PySem PySem.W PySem.Calls PyProof.Rows Mine
namespace MineP
theorem cellsFrom_ok : ∀ (names : List (Str × NameKind)) (n : Nat) (acc : List (Str × Addr)), acc.Pairwise (fun x y => x.2 ≠ y.2) → (∀ x ∈ acc, x.2 < n) → (cellsFrom n names acc).Pairwise (fun x y => x.2 ≠ y.2) ∧ ∀ x ∈ cellsFrom n names acc, x ∈ acc ∨ n ≤ x.2
  | [], n, acc, h, k => ⟨h, fun x hx => .inl hx⟩
  | (y, kd) :: r, n, acc, h, k => by
    unfold cellsFrom
    split
    · obtain ⟨h1, h2⟩ := cellsFrom_ok r (n + 1) ((y, n) :: acc) (List.pairwise_cons.mpr ⟨fun x hx => Ne.symm (Nat.ne_of_lt (k x hx)), h⟩) (fun x hx => by
        rcases List.mem_cons.mp hx with rfl | hx
        · exact Nat.lt_succ_self _
        · exact Nat.lt_succ_of_lt (k x hx))
      refine ⟨h1, fun x hx => ?_⟩
      rcases h2 x hx with q | q
      · rcases List.mem_cons.mp q with rfl | q
        · exact .inr (Nat.le_refl _)
        · exact .inl q
      · exact .inr (Nat.le_of_succ_le q)
    · exact cellsFrom_ok r n acc h k
theorem cells_nd {cm : Str → Option Value} {L : Addr} {M : Lg} (hM : ∀ p ∈ M, p.1 < L) (nd : ND M) : ∀ {cl : List (Str × Addr)} {C : Lg}, CellsAre cm cl C → cl.Pairwise (fun x y => x.2 ≠ y.2) → (∀ x ∈ cl, L < x.2) → ND (C ++ M)
  | _, _, .nil, _, _ => nd
  | _, _, .cons (c := c) (cs := cs) (cells := cells) hd r, hp, ha => by
    obtain ⟨h1, h2⟩ := List.pairwise_cons.mp hp
    refine nd_cons (fun p hp => ?_) (cells_nd hM nd r h2 fun x hx => ha x (.tail _ hx))
    rcases List.mem_append.mp hp with hp | hp
    · have key : ∀ {cs : List (Str × Addr)} {cells : Lg}, CellsAre cm cs cells → ∀ p ∈ cells, ∃ x ∈ cs, x.2 = p.1 := by
        intro cs cells r
        induction r with
        | nil => intro p hp; cases hp
        | cons hd r ih =>
          intro p hp
          rcases List.mem_cons.mp hp with rfl | hp
          · exact ⟨_, .head _, rfl⟩
          · obtain ⟨x, q, e⟩ := ih p hp
            exact ⟨x, .tail _ q, e⟩
      obtain ⟨x, q, e⟩ := key r p hp
      rw [← e]
      exact Ne.symm (h1 x q)
    · exact Nat.ne_of_lt (Nat.lt_trans (hM p hp) (ha _ (.head _)))
section
variable {g : Bool} {prog : Program} {w : World} {A A₀ : Around} {s : Shared} {K : Frag} {L : Addr} {h₀ base : Heap} {m mg mb : Str → Option Value} {news : List (Addr × Obj)} {p : Program} {loose : List Str} {mean : ExcName → Option Value}
theorem p_defC {env : Env} {outer : List Env} {R : Result → Shared → Prop} {name qual : Str} {params : Arguments} {body : List Stmt} {scope : Scope} {dV kV doc pm cdv ct oc : Value} {an od : Option Addr} {osl : Array (Option Value)} {f : Addr} {args : Args} {binds : List (Str × Value)}
    (B : Below A₀ base outer h₀) (F : Fr h₀ L s.heap m) (X₀ : K.In h₀) (N : News h₀ L s.heap news) (T : Top p loose mean mg mb h₀) (hA : A.frames = some (env :: outer)) (hf : env.frame = some L) (hke : env.scope.kind = .function)
    (ho : K.lookup f = some ⟨oc, od, .func (fnOf name qual params body scope dV kV doc pm an cdv ct), osl⟩) (hcd : codeIn K cdv qual = true) (hroom : A.depth < recursionLimit)
    (hbind : BindsTo s (fnOf name qual params body scope dV kV doc pm an cdv ct) args binds) (hkind : (binds.all fun y => scope.names.lookup y.1 == some .local || scope.names.lookup y.1 == some .cell) = true)
    (hnd : ((cellsFrom 0 scope.names []).map (·.1)).Nodup)
    (h : ∀ gd L' h₁ tk cells, Fr h₀ L gd m → Fr gd L' h₁ (bindL (envOfC qual scope L' f cdv).kindOf binds fun _ => none) → News gd L' h₁ (cells ++ news) →
      CellsAre (bindC (envOfC qual scope L' f cdv).kindOf binds fun _ => none) (cellsFrom (L' + 1) scope.names []) cells → Below A base (env :: outer) gd → K.In gd → Top p loose mean mg mb gd → (∀ p ∈ news, p.1 < L') →
      wpP g (model prog w) (A.deeper (envOfC qual scope L' f cdv)) (execs body (envOfC qual scope L' f cdv))
        (fun fl s' => LeaveK h₀ L m gd R (match fl with | .ret v => v | _ => .none) s')
        (fun e s' => wpAny (model prog w) (A.deeper (envOfC qual scope L' f cdv)) (leaving (envOfC qual scope L' f cdv) e) (fun _ s'' => R (.error e) s'') (fun e' s'' => R (.error e') s'') s')
        { s with heap := h₁, toks := tk })
    (hco : scope.isCoroutine = false) (hgen : scope.isGenerator = false) (hk : scope.kind = .function) : codeP g (model prog w) A (.call (.ref f) args) R s := by
  obtain ⟨FG, BG, st, lv⟩ := groundX (R := R) B F N hA hf hke
  refine p_callFunction (fd := fnOf name qual params body scope dV kV doc pm an cdv ct) (body := body) hroom ((X₀.keeps F.keep) _ _ ho) rfl hco hgen rfl (codeRec_of (X₀.keeps F.keep) hcd) (hbind _ _ _ _ ?_)
  refine wpAny_newFunctionEnv_cells hk (kindsX hkind _) fun env' he s' x => ?_
  subst he
  refine ⟨(T.nolimit.keeps F.keep).keeps x.toInCall.keep, p_func ?_⟩
  obtain ⟨h₁, tk, rfl, _⟩ := x.done
  have hk₁ := x.toInCall.keep
  obtain ⟨cells, NC, Y⟩ := Cl.news (h₀ := s.heap) (Nat.le_refl _) fun n c hm => ⟨x.cell n c (lookup_of_mem_nodup (cellsFrom_names scope.names 0 (s.heap.objs.size + 1) [] [] rfl ▸ hnd) hm), x.above n c hm⟩
  refine p_mono (h _ s.heap.objs.size h₁ tk cells FG ⟨x.toInCall.ns, fun b o e => hk₁ b o (of_hideAll _ e), Nat.le_of_eq (hideAll_size _ _)⟩ (fun p hp => ?_) Y BG (X₀.keeps st) (T.keeps st) (fun p hp => Heap.lt_size (N p hp).1)) (fun fl s' hl => lv _ _ hl) fun _ _ y => y
  rcases List.mem_append.mp hp with hp | hp
  · refine ⟨(NC p hp).1, (NC p hp).2.1, ?_⟩
    cases q : (hideAll s.heap (news.map (·.1))).get? p.1 with
    | none => rfl
    | some o => have := of_hideAll _ q; rw [(NC p hp).2.2] at this; cases this
  · exact ⟨hk₁ _ _ (N p hp).1, Nat.ne_of_lt (Heap.lt_size (N p hp).1), hideAll_none _ (List.mem_map_of_mem hp)⟩
end
def RCs (cl : List (Str × Addr)) (W : VL) : RP := ⟨fun C N => ∃ cm, CellsAre cm cl C ∧ VOk W cm N, fun ⟨cm, h, k⟩ j => ⟨cm, h, k.mono j⟩⟩
def RAny : RP := ⟨fun _ _ => True, fun h _ => h⟩
def HasC (a : Addr) (P : VP) (R : RP) : Prop := ∀ C N, R.P C N → ∃ o v, (a, o) ∈ C ∧ o.data = .cell (some v) ∧ P.P N v
theorem cells_at {cm : Str → Option Value} {x : Str} {a : Addr} : ∀ {cl : List (Str × Addr)} {C : Lg}, CellsAre cm cl C → cl.lookup x = some a → ∃ o, (a, o) ∈ C ∧ o.data = .cell (cm x)
  | _, _, .nil, e => by simp at e
  | _, _, .cons (n := n) hd r, e => by
    rw [List.lookup_cons] at e
    by_cases q : x = n
    · subst q
      rw [beq_self_eq_true] at e
      obtain rfl := Option.some.inj e
      exact ⟨_, .head _, hd⟩
    · rw [beq_false_of_ne q] at e
      obtain ⟨o, h1, h2⟩ := cells_at r e
      exact ⟨o, .tail _ h1, h2⟩
theorem hasC_here {cl : List (Str × Addr)} {W : VL} {Z : RP} {x : Str} {a : Addr} {P : VP} (hc : cl.lookup x = some a) (hw : W.lookup x = some P) : HasC a P (RStar (RCs cl W) Z) := fun C N h => by
  obtain ⟨Ca, C0, rfl, ⟨cm, h1, h2⟩, -⟩ := h
  obtain ⟨v, e1, e2⟩ := h2 x P hw
  obtain ⟨o, m, hd⟩ := cells_at h1 hc
  exact ⟨o, v, List.mem_append_left _ m, by rw [hd, e1], e2⟩
theorem hasC_tail {a : Addr} {P : VP} {A R : RP} (h : HasC a P R) : HasC a P (RStar A R) := fun C N q => by
  obtain ⟨Ca, C0, rfl, -, z⟩ := q
  obtain ⟨o, v, m, hd, hp⟩ := h C0 N z
  exact ⟨o, v, List.mem_append_right _ m, hd, hp⟩
theorem cells_set {cm : Str → Option Value} {x : Str} {a : Addr} {v : Value} {M : Lg} : ∀ {cl : List (Str × Addr)} {C : Lg}, CellsAre cm cl C → (cl.map (·.1)).Nodup → cl.lookup x = some a → ND (C ++ M) →
    ∃ (o : Obj) (g : Obj → Lg), UpdF a o (C ++ M) (fun o' => g o' ++ M) ∧ o.data = .cell (cm x) ∧ (∀ o' : Obj, o'.data = .cell (some v) → CellsAre (fun y => if y = x then some v else cm y) cl (g o')) ∧ ∀ o' : Obj, ND (g o' ++ M)
  | _, _, .nil, _, e, _ => by simp at e
  | _, _, .cons (n := n) (c := c) (o := o) (cs := cs) (cells := cells) hd r, hn, e, nd => by
    rw [List.map_cons, List.nodup_cons] at hn
    rw [List.lookup_cons] at e
    by_cases q : x = n
    · subst q
      rw [beq_self_eq_true] at e
      obtain rfl := Option.some.inj e
      refine ⟨o, fun o' => (c, o') :: cells, .head (nd_head nd), hd, fun o' ho => ?_, fun o' => nd_map (n := _ :: (cells ++ M)) rfl nd⟩
      have key : ∀ {cs : List (Str × Addr)} {cells : Lg}, CellsAre cm cs cells → x ∉ cs.map (·.1) → CellsAre (fun y => if y = x then some v else cm y) cs cells := by
        intro cs cells r
        induction r with
        | nil => intro _; exact .nil
        | cons hd r ih =>
          intro hx
          rw [List.map_cons, List.mem_cons, not_or] at hx
          exact .cons (by rw [hd, if_neg (Ne.symm hx.1)]) (ih hx.2)
      exact .cons (by rw [ho, if_pos rfl]) (key r hn.1)
    · rw [beq_false_of_ne q] at e
      obtain ⟨o2, g, u, h1, h2, h3⟩ := cells_set (M := M) r hn.2 e (nd_tail nd)
      refine ⟨o2, fun o' => (c, o) :: g o', .tail (fun ee => ?_) u, h1, fun o' ho => .cons (by rw [hd, if_neg (Ne.symm q)]) (h2 o' ho), fun o' => ?_⟩
      · exact nd_head nd _ (updF_mem u) ee.symm
      · exact nd_updF nd (.tail (fun ee => nd_head nd _ (updF_mem u) ee.symm) u) o'
section
variable {X : LW} {F : FN} {c : FC} {ε : Env} {V V' W : VL} {R R1 R' Z : RP} {e : Expr} {P : VP} {x : Str} {pos px : Pos} {a b : Nat} {ca : Addr} {rest : List Stmt} {Pst : TL → Value → Shared → Prop} {sc : Scope} {cl : List (Str × Addr)} {q : Addr × Obj}
theorem ev_cell (C : c.Ok X F a b) (hc : c.cl.lookup x = some ca) (hR : HasC ca P R) (hx : (c.env F).kindOf x = some .cell := by rfl) (hd : (x == ("__debug__" : Str)) = false := by decide) : EvA X F c V R (.Name x pos) P R := by
  intro T Q E s st k
  apply st.elim; intro h tk m Ck N F' hV hT hN nd rr
  obtain ⟨o, v, m1, hd', hp⟩ := hR _ _ rr
  exact nameX_C hN hc (List.mem_append_left _ m1) hd' (k _ _ (St.mk (C := Ck) (N := N) F' hV (hT.cons hp) hN nd rr)) C.hk hx hd
theorem ev_free (hc : cl.lookup x = some ca) (hR : HasC ca P R) (hk : (c.cenv F sc cl q).scope.kind = .function := by rfl) (hx : (c.cenv F sc cl q).kindOf x = some .cell := by rfl) (hd : (x == ("__debug__" : Str)) = false := by decide) : EvAE X F c (c.cenv F sc cl q) V R (.Name x pos) P R := by
  intro T Q E s st k
  apply st.elim; intro h tk m Ck N F' hV hT hN nd rr
  obtain ⟨o, v, m1, hd', hp⟩ := hR _ _ rr
  exact wpAny_Name (wpAny_loadName_cell hk hx hc ⟨o, hN.get (List.mem_append_left _ m1), hd'⟩ (k _ _ (St.mk (C := Ck) (N := N) F' hV (hT.cons hp) hN nd rr))) hd
theorem set_cell {T : TL} {Q : Unit → Shared → Prop} {E : EC} {s : Shared} {v : Value} (C : c.Ok X F a b) (st : St c V ((P, v) :: T) (RStar (RCs c.cl W) Z) s) (hc : c.cl.lookup x = some ca) (hn : (c.cl.map (·.1)).Nodup) (hx : (c.env F).kindOf x = some .cell)
    (k : ∀ s', St c V T (RStar (RCs c.cl ((x, P) :: W)) Z) s' → Q () s') : wpAny (model X.prog X.w) (c.A F) (storeName (c.env F) x v) Q E s := by
  apply st.elim; intro h tk m Ck N F' hV hT hN nd rr
  obtain ⟨Ca, C0, rfl, ⟨cm, h1, h2⟩, z⟩ := rr
  rw [List.append_assoc] at hN nd
  obtain ⟨o, g, u, hd, h3, h4⟩ := cells_set (v := v) h1 hn hc nd
  refine storeX_C F' hN hc u hd (fun h' o' F2 N2 hd' => ?_) C.hk hx
  exact k _ (St.mk (C := g o' ++ C0) (N := N) F2 hV hT.tail (by rw [List.append_assoc]; exact N2) (by rw [List.append_assoc]; exact h4 o') ⟨g o', C0, rfl, ⟨_, h3 o' hd', h2.set (hT _ (.head _))⟩, z⟩)
theorem blk_assignC (C : c.Ok X F a b) (h : Ev X F c V R e P R1) (q1 : REq R1 (RStar (RCs c.cl W) Z)) (hc : c.cl.lookup x = some ca) (hn : (c.cl.map (·.1)).Nodup) (k : Blk X F c V (RStar (RCs c.cl ((x, P) :: W)) Z) rest V' R')
    (hx : (c.env F).kindOf x = some .cell := by rfl) (hs : swapsWith e (some (.Name x px)) pos.line (c.env F) = pure false := by rfl) : Blk X F c V R (.Assign [.Name x px] e pos :: rest) V' R' := by
  intro T Q E s st kQ
  exact p_execs (p_assign (h T _ E s st fun v s' st' => p_any (set_cell C (st'.req q1) hc hn hx fun s2 st2 => k T Q E s2 st2 kQ)) hs)
end
abbrev FC.wc (c : FC) (sc : Scope) : FC := { c with cl := cellsFrom (c.L + 1) sc.names [] }
theorem RCs.weak {cl : List (Str × Addr)} {W W' : VL} (p : Pick W W') : REq (RCs cl W) (RCs cl W') := fun C N ⟨cm, h1, h2⟩ => ⟨C, .refl _, cm, h1, p.ok _ _ h2⟩
theorem req_any {A Z : RP} : REq (RStar A Z) (RStar RAny Z) := fun C N ⟨Ca, C0, e, a, z⟩ => ⟨C, .refl _, Ca, C0, e, trivial, z⟩
theorem con_defC {X : LW} {f : Addr} {name qual : Str} {params : Arguments} {body : List Stmt} {scope : Scope} {Ps : List VP} {V0 W0 : VL} {P : VP} {R R' : RP} {a b : Nat} {binds : List Value → List (Str × Value)}
    (hf : ∃ oc od osl dV kV doc pm an cdv ct, X.K.lookup f = some ⟨oc, od, .func (fnOf name qual params body scope dV kV doc pm an cdv ct), osl⟩ ∧ codeIn X.K cdv qual = true ∧
      ∀ vs, vs.length = Ps.length → ∀ s : Shared, X.K.In s.heap → BindsTo s (fnOf name qual params body scope dV kV doc pm an cdv ct) ⟨vs, []⟩ (binds vs))
    (hkind : ∀ vs, vs.length = Ps.length → ((binds vs).all fun y => scope.names.lookup y.1 == some .local || scope.names.lookup y.1 == some .cell) = true)
    (hnd : ((cellsFrom 0 scope.names []).map (·.1)).Nodup)
    (hV : ∀ L' cdv vs N, vs.length = Ps.length → TOk (Ps.zip vs) N → VOk V0 (bindL (envOfC qual scope L' f cdv).kindOf (binds vs) fun _ => none) N ∧ VOk W0 (bindC (envOfC qual scope L' f cdv).kindOf (binds vs) fun _ => none) N)
    (hbody : ∀ c : FC, (c.wc scope).Ok X ⟨qual, scope⟩ a b → Exs X ⟨qual, scope⟩ (c.wc scope) V0 (RStar (RCs (c.wc scope).cl W0) R) body P (RStar RAny R'))
    (hco : scope.isCoroutine = false := by rfl) (hgen : scope.isGenerator = false := by rfl) (hk : scope.kind = .function := by rfl) :
    Con X f Ps R P R' (a + 1) (b + 10) := by
  intro F c V T Q E vs s C st hlen k
  apply st.elim; intro h tk m Ck N Fr' hVk hT hN nd r
  obtain ⟨oc, od, osl, dV, kV, doc, pm, an, cdv, ct, ho, hcd, hb⟩ := hf
  have hT1 : TOk (Ps.zip vs) N := fun z hz => hT z (List.mem_append_left _ hz)
  have hT2 : TOk T N := fun z hz => hT z (List.mem_append_right _ hz)
  have hd := C.hd
  have hu := C.hu
  refine p_defC C.B Fr' C.X hN C.T rfl rfl C.hk ho hcd (by show c.dp < _; omega) (hb vs hlen _ (C.X.keeps Fr'.keep)) (hkind vs hlen) hnd (fun gd L' h₁ tk1 cells FG F' N' Y B' X' T' l1 => ?_) hco hgen hk
  have C' : ((FC.into c F f cdv gd L').wc scope).Ok X ⟨qual, scope⟩ a b := ⟨C.D, B', X', T', hk, by show c.dp + 1 + a < _; omega, by show c.un + 3 + b < _; omega⟩
  have eA : (c.A F).deeper (envOfC qual scope L' f cdv) = ((FC.into c F f cdv gd L').wc scope).A ⟨qual, scope⟩ := rfl
  have eE : envOfC qual scope L' f cdv = ((FC.into c F f cdv gd L').wc scope).env ⟨qual, scope⟩ := rfl
  rw [eA, eE]
  obtain ⟨hV0, hW0⟩ := hV L' cdv vs N hlen hT1
  obtain ⟨ok1, ok2⟩ := cellsFrom_ok scope.names (L' + 1) [] .nil (fun x hx => nomatch hx)
  have nd1 : ND (cells ++ (Ck ++ N)) := cells_nd l1 nd Y ok1 fun x hx => (ok2 x hx).elim (fun q => nomatch q) id
  refine hbody (FC.into c F f cdv gd L') C' [(keepVP V m T, .none)] _ _ _ (St.mk (C := cells ++ Ck) (N := N) F' hV0 (TOk.cons ⟨hVk, hT2⟩ (fun z hz => nomatch hz)) (by rw [List.append_assoc]; exact N') (by rw [List.append_assoc]; exact nd1) ⟨cells, Ck, rfl, ⟨_, Y, hW0⟩, r⟩) (fun v s' st' => ?_)
  apply st'.elim; intro h' tk' m' Ck' N2 F2 _ hT' hN2 nd2 r2
  obtain ⟨Cj, C0, rfl, -, r3⟩ := r2
  refine leaveK_ F2 hN2 (fun kF kN => ?_)
  have hk2 := hT' (keepVP V m T, .none) (.tail _ (.head _))
  have sub : ∀ p ∈ N2, p ∈ Cj ++ N2 := fun p hp => List.mem_append_right _ hp
  have pm2 : ((Cj ++ C0) ++ N2).Perm (C0 ++ (Cj ++ N2)) := by
    rw [List.append_assoc]
    exact List.perm_append_comm_assoc ..
  exact k v _ (St.mk (C := C0) (N := Cj ++ N2) kF (hk2.1.mono sub) (TOk.cons (P.mono (hT' _ (.head _)) sub) (hk2.2.mono sub)) (news_perm pm2 kN) (nd_perm pm2 nd2) (R'.mono r3 sub))
end MineP
end
section
open PySem PySem.W PySem.Calls PyProof.Rows Mine PySem.Builtin
namespace MineP
section
variable {prog : Program} {w : World} {A : Around} {E : Value → Shared → Prop} {s : Shared}
theorem to_leL {x : Int} {k : Nat} {t u v : Tok} {Q : Value → Shared → Prop} (hk : k ≤ 64) (h0 : 0 ≤ x) (h1 : x < (256 : Int) ^ k) (h : ∀ t' k', Q (.bytes (leB k x) t') { s with toks := k' }) :
    wpAny (model prog w) A (call (.builtin "int.to_bytes") [.int x t, .int (k : Int) u, .str (PySem.Str.ofString "little") v]) Q E s := by
  have hb : Int.intBits x ≤ 8 * k := KTBy.bits_le rfl h0 h1
  have e0 : (decide ((k : Int) < -(2 ^ 63 : Int)) || decide ((k : Int) ≥ 2 ^ 63)) = false := by
    rw [Bool.or_eq_false_iff]; exact ⟨decide_eq_false (by omega), decide_eq_false (by omega)⟩
  have e1 : (decide (x < 0) && !false) = false := by rw [decide_eq_false (show ¬ x < 0 by omega)]; rfl
  refine wpAny_call_entry KTBy.slot (typeIs_int s x t) KTBy.entry ?_ (KTBy.args _ _ _)
  show wpAny _ _ (Builtin.Int.intOfSelf (.int x t) >>= fun y => _) _ _ s
  refine wpAny_bind (wpAny_of_eq (a := x) rfl ?_)
  show wpAny _ _ (Builtin.Int.intBindNamed "to_bytes" ["length", "byteorder", "signed"] 0 2 [.int (k : Int) u, .str (PySem.Str.ofString "little") v] [] >>= fun l => _) _ _ s
  refine wpAny_bind (wpAny_of_eq (a := [some (.int (k : Int) u), some (.str (PySem.Str.ofString "little") v), none]) (by kernel_rfl) ?_)
  show wpAny _ _ (Builtin.Int.intIndex "int.to_bytes" (.int (k : Int) u) >>= fun n => _) _ _ s
  refine wpAny_bind (wpAny_of_eq (a := (k : Int)) rfl (bm_if_false e0 ?_))
  refine wpAny_bind (wpAny_of_eq (a := PySem.Str.ofString "little") (by kernel_rfl) (wpAny_bind (wpAny_of_eq (a := false) rfl (wpAny_bind (wpAny_of_eq (a := true) (by kernel_rfl) ?_)))))
  refine wpAny_ite_false (decide_eq_false (by omega)) (wpAny_ite_false (decide_eq_false (by omega)) (wpAny_ite_false (decide_eq_false (by rw [sizeLine_eq]; omega)) (bm_if_false e1 (bm_if_false ?_ ?_))))
  · show (_ && decide ((Int.intBits x : Int) > 8 * (k : Int))) = false
    rw [decide_eq_false (show ¬ ((Int.intBits x : Int) > 8 * (k : Int)) by omega), Bool.and_false]
  have hl : (KTBy.low x (k : Int).toNat).toArray = leB k x := by
    rw [Int.toNat_natCast]
    unfold leB
    have q := KTBy.low_ints (n := k) h0 h1
    rw [← KTBy.little_eq] at q
    rw [← q, List.map_map]
    congr 1
    symm
    have e : ((fun n : Int => n.toNat.toUInt8) ∘ fun c : UInt8 => (c.toNat : Int)) = _root_.id := by
      funext c
      show ((c.toNat : Int)).toNat.toUInt8 = c
      rw [Int.toNat_natCast]; exact UInt8.ofNat_toNat
    rw [e, List.map_id]
  refine wpAny_bind (wpAny_mkBytes (wpAny_pure ⟨_, rfl, ?_⟩) ?_)
  · show Q (.bytes (KTBy.low x (k : Int).toNat).toArray _) _
    rw [hl]; exact h _ _
  · show (KTBy.low x (k : Int).toNat).length ≤ sizeLine
    rw [KTBy.low_length, Int.toNat_natCast, sizeLine_eq]; omega
end
end MineP
end
section
open PySem PySem.W PySem.Calls PyProof.Rows Mine
namespace MineP
def BList (l : Addr) (xs : List Int) (h : Heap) : Prop := ∃ vs, h.IsList l vs.toArray ∧ IntsAre vs xs
section
variable {X : LW} {i j : Int} {k : Nat}
theorem pylong_no (h : (if j == 0 then 0 else j.natAbs.log2 / 30 + 1) ≤ 300) : ¬(Builtin.divisionGoesByPylong i j) = true := by
  unfold Builtin.divisionGoesByPylong
  simp only [Bool.and_eq_true, decide_eq_true_eq, not_and]
  intro q
  exact absurd q (by omega)
theorem bin_fdivS (h0 : ¬(j == 0) = true) (h : (if j == 0 then 0 else j.natAbs.log2 / 30 + 1) ≤ 300 := by decide) : BinI X .FloorDiv i j (i.fdiv j) := bin_fdiv h0 (pylong_no h)
theorem bin_pow256 (hk : k ≤ 64) : BinI X .Pow 256 (k : Int) ((256 : Int) ^ k) := fun A Q E s t u h => by
  by_cases q : k = 0
  · subst q
    exact AutoIntOps.pow_0 (by decide) (by decide) (h _ _)
  · refine AutoIntOps.pow_4 (Int.natCast_nonneg _) (by simpa using q) (by decide) (by decide) ?_ (by rw [Int.toNat_natCast]; exact h _ _)
    unfold Builtin.Int.intTooBig
    rw [show Builtin.Int.intBits 256 = 9 from by decide, show bitsLine = 134217728 from by first | rfl | decide]
    simp only [decide_eq_true_eq]
    omega
theorem bcon_to_leW {x : Int} (hk : k ≤ 64) (h0 : 0 ≤ x) (h1 : x < (256 : Int) ^ k) : BCon X "int.to_bytes" [IsInt x, IsInt (k : Int), IsStr (Str.ofString "little")] (IsBytes (leB k x)) := by
  intro A Q E s vs N hl hT kQ
  obtain ⟨v1, v2, v3, rfl⟩ := three_of hl
  obtain ⟨t1, rfl⟩ := hT (IsInt x, v1) (.head _)
  obtain ⟨t2, rfl⟩ := hT (IsInt (k : Int), v2) (.tail _ (.head _))
  obtain ⟨t3, rfl⟩ := hT (IsStr _, v3) (.tail _ (.tail _ (.head _)))
  exact to_leL hk h0 h1 fun t' k' => kQ _ _ fun N => ⟨_, rfl⟩
end
section
variable {X : LW} {F : FN} {c : FC} {ε : Env} {V : VL} {R R1 R2 : RP} {o e i : Expr} {x : Str} {pos pr : Pos} {a b : Nat} {l : Addr} {xs : List Int} {k : Int} {bv : Bool}
theorem base_list {h : Heap} {m : Str → Option Value} (C : c.Ok X F a b) (hD : ∀ h, X.D h → BList l xs h) (F' : Fr c.h₀ c.L h m) : BList l xs h := by
  obtain ⟨vs, ⟨ob, ho, r⟩, hi⟩ := hD _ C.D
  exact ⟨vs, ⟨ob, F'.keep _ _ (C.B.stays _ _ ho), r⟩, hi⟩
theorem ev_lenBase (C : c.Ok X F a b) (hD : ∀ h, X.D h → BList l xs h) (hy : (PyData.list (xs.map PyData.int)).layable0 = true) (hg : EvA X F c V R o (IsVal (.builtin "len")) R) (he : Ev X F c V R e (IsVal (.ref l)) R1)
    (e1 : eval (.Call o [e] [] pr) (c.env F) = (do callWith pr (← eval o (c.env F)) [] (backTo pr (starEach [e] (c.env F))) (backToKw pr (keywordEach [] (c.env F)))) := by rfl) (e2 : starEach [e] (c.env F) = [(false, eval e (c.env F))] := by rfl) :
    Ev X F c V R (.Call o [e] [] pr) (IsInt (xs.length : Int)) R1 := by
  intro T Q E s st kQ
  refine p_fn (hg T _ E s st fun v s1 st1 => ?_) e1
  have hv : v = .builtin "len" := by
    apply st1.elim; intro h tk m Ck N F' hV hT hN nd r
    exact hT _ (.head _)
  subst hv
  refine p_callWithB1 (fun _ => nofun) ?_ e2
  refine he T _ E s1 st1.drop fun v s2 st2 => ?_
  apply st2.elim; intro h tk m Ck N F' hV hT hN nd r
  obtain rfl : v = .ref l := hT (IsVal (.ref l), v) (.head _)
  obtain ⟨vs, hl, hi⟩ := base_list C hD F'
  exact p_any (len_list_ints hl hi hy (kQ _ _ (St.mk (C := Ck) (N := N) F' hV (TOk.cons ⟨_, rfl⟩ hT.tail) hN nd r)))
theorem tst_base (C : c.Ok X F a b) (hD : ∀ h, X.D h → BList l xs h) (hy : (PyData.list (xs.map PyData.int)).layable0 = true) (h : Ev X F c V R e (IsVal (.ref l)) R1) (hb : decide (0 < xs.length) = bv)
    (he : isTrue e (c.env F) (eval e (c.env F)) = (do let v ← eval e (c.env F); standAt e.pos; holding [v] (truthy v)) := by rfl) : Tst X F c V R e bv R1 := by
  subst hb
  intro T Q E s st k
  refine p_isTruePlain (h T _ E s st fun v s1 st1 => ?_) he
  apply st1.elim; intro h tk m Ck N F' hV hT hN nd rr
  obtain rfl : v = .ref l := hT (IsVal (.ref l), v) (.head _)
  obtain ⟨vs, hl, hi⟩ := base_list C hD F'
  exact p_any (truthy_list_ints hl hi hy (k _ (St.mk (C := Ck) (N := N) F' hV hT.tail hN nd rr)))
theorem ev_itemBase (C : c.Ok X F a b) (hD : ∀ h, X.D h → BList l xs h) (ho : Ev X F c V R o (IsVal (.ref l)) R1) (hi : Ev X F c V R1 i (IsInt k) R2) (h0 : 0 ≤ k) (h1 : k < xs.length) (hz : xs.length ≤ 1000000)
    (hs : ∀ l t, subscripted i false (.ref l) (.int k t) = operate [.ref l, .int k t] (getItem (.ref l) (.int k t)) := by intro _ _; with_unfolding_all rfl) (hg : ∀ l r, letTemporaryGo o (.ref l) r = pure () := by intro _ _; with_unfolding_all rfl) :
    Ev X F c V R (.Subscript o i pos) (IsInt (xs.getD k.toNat 0)) R2 := by
  intro T Q E s st kQ
  refine p_subP (ho T _ E s st fun v s1 st1 => hi _ _ E s1 st1 fun u s2 st2 => ?_)
  apply st2.elim; intro h tk m Ck N F' hV hT hN nd r
  obtain rfl : v = .ref l := hT (IsVal (.ref l), v) (.tail _ (.head _))
  obtain ⟨t, rfl⟩ := hT (IsInt k, u) (.head _)
  obtain ⟨vs, hl, hv⟩ := base_list C hD F'
  exact (item_list_ints hl hv h0 h1 (by omega) (fun t => kQ _ _ (St.mk (C := Ck) (N := N) F' hV (TOk.cons ⟨_, rfl⟩ hT.tail.tail) hN nd r)) (hs l _) (hg l))
end
section
variable {X : LW} {F : FN} {c : FC} {ε : Env} {V : VL} {R R1 R2 : RP} {l r : Expr} {pos : Pos} {i j : Int} {bv : Bool}
theorem tst_eqInt (hl : EvE X F c ε V R l (IsInt i) R1) (hr : EvE X F c ε V R1 r (IsInt j) R2) (hb : (i == j) = bv) (hm : behindInMarks .Eq r = false := by with_unfolding_all rfl) : TstE X F c ε V R (.Compare l [.Eq] [r] pos) bv R2 := by
  subst hb
  intro T Q E s st kQ
  refine p_isTrueCmp (hl T _ E s st fun v s1 st1 => hr _ _ E s1 st1 fun v' s2 st2 => ?_) hm
  apply st2.elim; intro h tk m Ck N F' hV hT hN nd rr
  obtain ⟨t1, rfl⟩ := hT (IsInt i, v) (.tail _ (.head _))
  obtain ⟨t2, rfl⟩ := hT (IsInt j, v') (.head _)
  exact p_any (eq_int (p_pure (kQ _ (St.mk (C := Ck) (N := N) F' hV hT.tail.tail hN nd rr))))
end
theorem ev_ifexpR {X : LW} {F : FN} {c : FC} {ε : Env} {V : VL} {R : RP} {t e1 e2 : Expr} {P : VP} {pos : Pos} {bv : Bool} (ht : TstE X F c ε V R t bv R) (h1 : bv = true → EvE X F c ε V R e1 P R) (h2 : bv = false → EvE X F c ε V R e2 P R) : EvE X F c ε V R (.IfExp t e1 e2 pos) P R := ev_ifexp ht h1 h2
end MineP
end
section
open PySem PySem.W PySem.Calls PyProof.Rows Mine
namespace MineP
section
variable {X : LW} {F : FN} {c : FC} {ε : Env} {V : VL} {R R1 : RP} {ob e : Expr} {P P' : VP} {p2 lp pos : Pos} {i : Int} {bv cv : Bool}
theorem tst_cast (h : TstE X F c ε V R e bv R1) (q : bv = cv) : TstE X F c ε V R e cv R1 := q ▸ h
theorem ev_cast (h : EvE X F c ε V R e P R1) (q : P = P') : EvE X F c ε V R e P' R1 := q ▸ h
theorem ev_bytesOf (hob : EvAE X F c ε V R ob (IsVal (.type "bytes")) R) (he : EvE X F c ε V R e (IsInt i) R1) (h0 : 0 ≤ i) (h1 : i < 256)
    (e1 : eval (.Call ob [.List [e] lp] [] p2) ε = (do callWith p2 (← eval ob ε) [] (backTo p2 (starEach [.List [e] lp] ε)) (backToKw p2 (keywordEach [] ε))) := by rfl)
    (e3 : starEach [.List [e] lp] ε = [(false, eval (.List [e] lp) ε)] := by rfl)
    (e4 : backTo lp (starEach [e] ε) = [e].map fun e => (false, eval e ε) := by rfl) (e5 : eval (.List [e] lp) ε = (do standAt lp; newList (← spliced (backTo lp (starEach [e] ε)))) := by rfl) :
    EvE X F c ε V R (.Call ob [.List [e] lp] [] p2) (IsBytes #[i.toNat.toUInt8]) R1 := by
  intro T Q E s st k
  refine p_fn (hob T _ E s st fun v s1 st1 => ?_) e1
  have hv : v = .type "bytes" := by
    apply st1.elim; intro h tk m Ck N F' hV hT hN nd r
    exact hT _ (.head _)
  subst hv
  refine p_callWithB1 (fun _ => nofun) ?_ e3
  refine ev_list (Pa := IsInt) (as := [i]) (evs_cons he evs_nil) (Nat.le_of_ble_eq_true rfl) e4 e5 T _ E s1 st1.drop fun v s2 st2 => ?_
  apply st2.elim; intro h tk m Ck N F' hV hT hN nd r
  obtain ⟨l, n, vs, rfl, hm, hl, hi⟩ := hT (IsListOf IsInt [i], v) (.head _)
  obtain ⟨u, rfl⟩ := one_of hl
  obtain ⟨_, e, t, rfl⟩ := hi 0 i rfl
  obtain rfl := Option.some.inj e
  exact p_any (bytes_K (ns := [i]) F' hN (News.isList hN (List.mem_append_right _ hm)) (IntsAre.cons _ _ .nil) (fun n h => by rcases List.mem_singleton.mp h with rfl; exact ⟨h0, h1⟩) (by rw [sizeLine_eq]; show 1 ≤ _; decide) rfl fun h' t' k' F2 N2 _ => k _ _ (St.mk (C := Ck) (N := N) F2 hV (TOk.cons ⟨_, rfl⟩ hT.tail) N2 nd r))
end
end MineP
end
section
namespace Mine
noncomputable section
open PySem PySem.W PySem.Calls PyProof.Rows
noncomputable abbrev pw : Program := PySem.Challenge.pw_bd0011_03
noncomputable def nth : List Stmt → Nat → Stmt
  | [], _ => .Pass ⟨0, 0, 0, 0⟩
  | s :: _, 0 => s
  | _ :: r, n + 1 => nth r n
noncomputable def clsB : Stmt → List Stmt
  | .ClassDef _ _ _ b _ _ _ _ _ _ _ => b
  | _ => []
noncomputable def B : List Stmt := pw.main.body
noncomputable def fnD (s : Stmt) (qual : Str) (dV kV doc pm : Value) (an : Option Addr) (cd ct : Value) (gl bt : Addr) : Data := match s with
  | .FunctionDef n a b _ _ _ sc _ _ _ => .func { name := n, qualname := qual, params := a, body := .stmts b, scope := sc, globals := gl, closure := [], defaults := dV, kwdefaults := kV, doc := doc, pyModule := pm, annotations := an, code := cd, closureTuple := ct, builtins := bt }
  | _ => .plain
noncomputable def de (P : Params) (x : String) (t : Nat) (v : Value) : DictEntry := ⟨PyData.keyHash P (Str.ofString x), .str (Str.ofString x) t, v⟩
noncomputable def lf (o : Obj) : BT := .node o .nil .nil
noncomputable def env : Env := { scope := pw.main.scope, locals := mainNs, globals := mainNs, cells := [], code := (.ref 13), frame := some 14 }
noncomputable def cE : Code := .body (behindTheImports pw) env
noncomputable abbrev fr0 : List Frame := [topFrame ⟨0, 0, 0, 0⟩]
noncomputable abbrev ann : Option Value := (some (.ref 6))
noncomputable abbrev sv (x : String) (i : Nat) : Value := .str (Str.ofString x) i
noncomputable def uO (v : Array Value) : Obj := ⟨(.type "tuple"), none, (.seq v 0), #[]⟩
noncomputable def fN (s : Stmt) (q : String) : Obj := ⟨.none, none, (fnD s (Str.ofString q) .none .none .none .none none .none .none 0 0), #[]⟩
noncomputable def gN (s : Stmt) (q : String) (a b c : Value) (m : String) (i : Nat) (d e : Value) (x y : Nat) : Obj := ⟨(.type "function"), none, (fnD s (Str.ofString q) a b c (.str (Str.ofString m) i) none d e x y), #[]⟩
noncomputable def dr (P : Params) (x : String) (i a : Nat) : DictEntry := de P x i (.ref a)
noncomputable def cO (a : String) (i : Nat) (b : String) (j k : Nat) (c d e f g : Int) (r : Nat) (x : Bool) (h : Int) (q : Nat) (v1 v2 v3 v4 : Value) (y z : Int) (l : Nat) : Obj := ⟨(.type "code"), none, (.fields #[(.str (Str.ofString a) i), (.str (Str.ofString b) j), (.str (Str.ofString "/claim/cut.py") k), (.int c 0), (.int d 0), (.int e 0), (.int f 0), (.int g 0), (.ref r), (.bool x), (.int h 0), (.ref q), v1, v2, v3, v4, (.int y 0), (.int z 0), (.str (Str.ofString "/claim/cut.py") l)]), #[]⟩
section
variable (P : Params)
def o0 : Obj := ⟨(.type "dict"), none, (.dict #[de P "__name__" 1 (sv "builtins" 160), de P "__doc__" 2 (.builtin "builtins.__doc__:str#opaque"), de P "__package__" 3 (.builtin "builtins.__package__:str#opaque"), de P "__loader__" 4 (.builtin "builtins.__loader__:shared#opaque"), de P "__spec__" 5 (.builtin "builtins.__spec__#opaque"), de P "__build_class__" 6 (.builtin "__build_class__"), de P "__import__" 7 (.builtin "__import__"), de P "abs" 8 (.builtin "abs"), de P "all" 9 (.builtin "all"), de P "any" 10 (.builtin "any"), de P "ascii" 11 (.builtin "ascii"), de P "bin" 12 (.builtin "bin"), de P "breakpoint" 13 (.builtin "breakpoint"), de P "callable" 14 (.builtin "callable"), de P "chr" 15 (.builtin "chr"), de P "compile" 16 (.builtin "compile"), de P "delattr" 17 (.builtin "delattr"), de P "dir" 18 (.builtin "dir"), de P "divmod" 19 (.builtin "divmod"), de P "eval" 20 (.builtin "eval"), de P "exec" 21 (.builtin "exec"), de P "format" 22 (.builtin "format"), de P "getattr" 23 (.builtin "getattr"), de P "globals" 24 (.builtin "globals"), de P "hasattr" 25 (.builtin "hasattr"), de P "hash" 26 (.builtin "hash"), de P "hex" 27 (.builtin "hex"), de P "id" 28 (.builtin "id"), de P "input" 29 (.builtin "input"), de P "isinstance" 30 (.builtin "isinstance"), de P "issubclass" 31 (.builtin "issubclass"), de P "iter" 32 (.builtin "iter"), de P "aiter" 33 (.builtin "aiter"), de P "len" 34 (.builtin "len"), de P "locals" 35 (.builtin "locals"), de P "max" 36 (.builtin "max"), de P "min" 37 (.builtin "min"), de P "next" 38 (.builtin "next"), de P "anext" 39 (.builtin "anext"), de P "oct" 40 (.builtin "oct"), de P "ord" 41 (.builtin "ord"), de P "pow" 42 (.builtin "pow"), de P "print" 43 (.builtin "print"), de P "repr" 44 (.builtin "repr"), de P "round" 45 (.builtin "round"), de P "setattr" 46 (.builtin "setattr"), de P "sorted" 47 (.builtin "sorted"), de P "sum" 48 (.builtin "sum"), de P "vars" 49 (.builtin "vars"), de P "None" 50 .none, de P "Ellipsis" 51 .ellipsis, de P "NotImplemented" 52 .notImplemented, de P "False" 53 (.bool false), de P "True" 54 (.bool true), de P "bool" 55 (.type "bool"), de P "memoryview" 56 (.type "memoryview"), de P "bytearray" 57 (.type "bytearray"), de P "bytes" 58 (.type "bytes"), de P "classmethod" 59 (.type "classmethod"), de P "complex" 60 (.type "complex"), de P "dict" 61 (.type "dict"), de P "enumerate" 62 (.type "enumerate"), de P "filter" 63 (.type "filter"), de P "float" 64 (.type "float"), de P "frozenset" 65 (.type "frozenset"), de P "property" 66 (.type "property"), de P "int" 67 (.type "int"), de P "list" 68 (.type "list"), de P "map" 69 (.type "map"), de P "object" 70 (.type "object"), de P "range" 71 (.type "range"), de P "reversed" 72 (.type "reversed"), de P "set" 73 (.type "set"), de P "slice" 74 (.type "slice"), de P "staticmethod" 75 (.type "staticmethod"), de P "str" 76 (.type "str"), de P "super" 77 (.type "super"), de P "tuple" 78 (.type "tuple"), de P "type" 79 (.type "type"), de P "zip" 80 (.type "zip"), de P "__debug__" 81 (.bool true), de P "BaseException" 82 (.type "BaseException"), de P "BaseExceptionGroup" 83 (.type "BaseExceptionGroup"), de P "Exception" 84 (.type "Exception"), de P "GeneratorExit" 85 (.type "GeneratorExit"), de P "KeyboardInterrupt" 86 (.type "KeyboardInterrupt"), de P "SystemExit" 87 (.type "SystemExit"), de P "ArithmeticError" 88 (.type "ArithmeticError"), de P "AssertionError" 89 (.type "AssertionError"), de P "AttributeError" 90 (.type "AttributeError"), de P "BufferError" 91 (.type "BufferError"), de P "EOFError" 92 (.type "EOFError"), de P "ImportError" 93 (.type "ImportError"), de P "LookupError" 94 (.type "LookupError"), de P "MemoryError" 95 (.type "MemoryError"), de P "NameError" 96 (.type "NameError"), de P "OSError" 97 (.type "OSError"), de P "ReferenceError" 98 (.type "ReferenceError"), de P "RuntimeError" 99 (.type "RuntimeError"), de P "StopAsyncIteration" 100 (.type "StopAsyncIteration"), de P "StopIteration" 101 (.type "StopIteration"), de P "SyntaxError" 102 (.type "SyntaxError"), de P "SystemError" 103 (.type "SystemError"), de P "TypeError" 104 (.type "TypeError"), de P "ValueError" 105 (.type "ValueError"), de P "Warning" 106 (.type "Warning"), de P "FloatingPointError" 107 (.type "FloatingPointError"), de P "OverflowError" 108 (.type "OverflowError"), de P "ZeroDivisionError" 109 (.type "ZeroDivisionError"), de P "BytesWarning" 110 (.type "BytesWarning"), de P "DeprecationWarning" 111 (.type "DeprecationWarning"), de P "EncodingWarning" 112 (.type "EncodingWarning"), de P "FutureWarning" 113 (.type "FutureWarning"), de P "ImportWarning" 114 (.type "ImportWarning"), de P "PendingDeprecationWarning" 115 (.type "PendingDeprecationWarning"), de P "ResourceWarning" 116 (.type "ResourceWarning"), de P "RuntimeWarning" 117 (.type "RuntimeWarning"), de P "SyntaxWarning" 118 (.type "SyntaxWarning"), de P "UnicodeWarning" 119 (.type "UnicodeWarning"), de P "UserWarning" 120 (.type "UserWarning"), de P "BlockingIOError" 121 (.type "BlockingIOError"), de P "ChildProcessError" 122 (.type "ChildProcessError"), de P "ConnectionError" 123 (.type "ConnectionError"), de P "FileExistsError" 124 (.type "FileExistsError"), de P "FileNotFoundError" 125 (.type "FileNotFoundError"), de P "InterruptedError" 126 (.type "InterruptedError"), de P "IsADirectoryError" 127 (.type "IsADirectoryError"), de P "NotADirectoryError" 128 (.type "NotADirectoryError"), de P "PermissionError" 129 (.type "PermissionError"), de P "ProcessLookupError" 130 (.type "ProcessLookupError"), de P "TimeoutError" 131 (.type "TimeoutError"), de P "IndentationError" 132 (.type "IndentationError"), de P "_IncompleteInputError" 133 (.type "_IncompleteInputError"), de P "IndexError" 134 (.type "IndexError"), de P "KeyError" 135 (.type "KeyError"), de P "ModuleNotFoundError" 136 (.type "ModuleNotFoundError"), de P "NotImplementedError" 137 (.type "NotImplementedError"), de P "PythonFinalizationError" 138 (.type "PythonFinalizationError"), de P "RecursionError" 139 (.type "RecursionError"), de P "UnboundLocalError" 140 (.type "UnboundLocalError"), de P "UnicodeError" 141 (.type "UnicodeError"), de P "BrokenPipeError" 142 (.type "BrokenPipeError"), de P "ConnectionAbortedError" 143 (.type "ConnectionAbortedError"), de P "ConnectionRefusedError" 144 (.type "ConnectionRefusedError"), de P "ConnectionResetError" 145 (.type "ConnectionResetError"), de P "TabError" 146 (.type "TabError"), de P "UnicodeDecodeError" 147 (.type "UnicodeDecodeError"), de P "UnicodeEncodeError" 148 (.type "UnicodeEncodeError"), de P "UnicodeTranslateError" 149 (.type "UnicodeTranslateError"), de P "ExceptionGroup" 150 (.type "ExceptionGroup"), de P "EnvironmentError" 151 (.type "OSError"), de P "IOError" 152 (.type "OSError"), de P "open" 153 (.builtin "open"), de P "quit" 154 (.builtin "builtins.quit#opaque"), de P "exit" 155 (.builtin "builtins.exit#opaque"), de P "copyright" 156 (.builtin "builtins.copyright#opaque"), de P "credits" 157 (.builtin "builtins.credits#opaque"), de P "license" 158 (.builtin "builtins.license#opaque"), de P "help" 159 (.builtin "builtins.help#opaque")] 159), #[]⟩
def o1 : Obj := ⟨(.type "dict"), none, (.dict #[dr P "builtins" 162 4, dr P "__main__" 163 5] 2), #[]⟩
noncomputable def o2 : Obj := ⟨.none, none, (.dict #[] 0), #[]⟩
def o3 : Obj := ⟨(.type "dict"), none, (.dict #[de P "__name__" 165 (sv "__main__" 164), de P "__doc__" 166 .none, de P "__package__" 167 .none, de P "__loader__" 168 (.builtin "__main__.__loader__#opaque"), de P "__spec__" 169 .none, dr P "__annotations__" 170 6, dr P "__builtins__" 171 4, de P "__file__" 173 (sv "/claim/cut.py" 172), de P "__cached__" 174 .none] 9), #[]⟩
noncomputable def o4 : Obj := ⟨(.type "module"), (some 0), .plain, #[]⟩
noncomputable def o5 : Obj := ⟨(.type "module"), (some 3), .plain, #[]⟩
noncomputable def o6 : Obj := ⟨(.type "dict"), none, (.dict #[] 0), #[]⟩
def o7 : Obj := uO #[]
noncomputable def o8 : Obj := ⟨.none, none, (.fields #[]), #[]⟩
def o9 : Obj := cO "<module>" 176 "<module>" 177 178 1 0 0 0 0 7 false 175 8 .none .none .none .none 179 1 180
noncomputable def o10 : Obj := ⟨(.type "frame"), none, .plain, #[(some (.ref 9)), (some (.ref 3)), (some (.ref 3)), none, (some (sv "__main__" 164)), none, (some (.ref 0))]⟩
def o11 : Obj := cO "<module>" 182 "<module>" 183 184 1 0 0 0 0 11 false 181 12 .none .none .none .none 185 1 186
noncomputable def o12 : Obj := ⟨(.type "frame"), none, .plain, #[(some (.ref 13)), (some (.ref 3)), (some (.ref 3)), none, (some (sv "__main__" 164)), none, (some (.ref 0))]⟩
end
noncomputable def Ha (P : Params) : Heap := ⟨#[o0 P, o1 P, o2, o3 P, o4, o5, o6, o7, o8, o9, o10, o7, o8, o11, o12], {}⟩
theorem p_pre : ∀ (w : World) (os : OsState), topGo treeTable pw w 11 ann 12 ⟨boot_heap w.params, Array.mk [], boot_drawn, boot_toks, os⟩ (topStub pw) = some (⟨Ha w.params, #[], ⟨0, 0, 0, 0⟩, 187, os⟩, ⟨denote treeTable cE, cE, ⟨0, 0, 0, 0⟩, fr0⟩) := by
  intro w os
  rw [PySem.W.Fast.te15667345088766844465, PySem.W.Fast.te14364793385576792824, PySem.W.Fast.te11892475500146522536]
  kernel_rfl
section
variable (P : Params)
def t0 : BT := (lf o7)
def t3 : BT := (lf o8)
def t6 : BT := (.node (o0 P) (.node (o1 P) (.node (o3 P) t0 t0) (.node o5 (lf o9) (lf o11))) (.node o2 (.node o4 t3 t3) (.node o6 (lf o10) (lf o12))))
end
noncomputable def T0 (P : Params) : BT := (t6 P)
theorem p_blk : ∀ (w : World) (os : OsState), segRun treeTable pw w 11 ann 1 1 ⟨Ha w.params, #[], ⟨0, 0, 0, 0⟩, 187, os⟩ (blockOf (behindTheImports pw) env cE ⟨0, 0, 0, 0⟩ fr0) = some (.next, SharedT.abs ⟨T0 w.params, 15, {}, #[], ⟨0, 0, 0, 0⟩, 187, os⟩, cE, ⟨0, 0, 0, 0⟩) := by
  intro w os
  rw [PySem.W.Fast.te14374325043358763698, PySem.W.Fast.te14364793385576792824]
  kernel_rfl
section
variable (P : Params)
def o13 : Obj := ⟨.none, none, (.dict #[de P "type.__subclasses__.OSError.0" 334 (.int 118 0), de P "type.__subclasses__.OSError.n" 335 (.int 1 0)] 2), #[]⟩
def o14 : Obj := ⟨(.type "dict"), none, (.dict #[de P "__name__" 165 (sv "io" 298), de P "__doc__" 166 .none, de P "__package__" 167 .none, de P "__loader__" 168 (.builtin "__main__.__loader__#opaque"), de P "__spec__" 169 .none, dr P "__annotations__" 170 6, dr P "__builtins__" 171 4, de P "__file__" 173 (sv "/claim/cut.py" 172), de P "__cached__" 174 .none, dr P "_wall" 193 21, dr P "hexlify" 201 26, dr P "Sha256" 247 58, dr P "hashlib" 287 83, dr P "to_bytes" 297 94, dr P "_whence" 307 101, dr P "_index" 315 108, dr P "UnsupportedOperation" 337 118, dr P "IOBase" 369 138] 18), #[]⟩
noncomputable def o15 : Obj := ⟨.none, none, (.fields #[(.int 1 0), (.int 0 0), (.ref 20), (.int 5 0), (.int 0 0), (.ref 25), (.int 8 0), (.int 0 0), (.ref 32), (.int 19 0), (.int 0 0), (.ref 68), (.int 25 0), (.int 0 0), (.ref 93), (.int 39 0), (.int 0 0), (.ref 100), (.int 44 0), (.int 0 0), (.ref 107), (.int 51 0), (.int 0 0), (.ref 114), (.int 53 0), (.int 0 0), (.ref 127)]), #[]⟩
def o16 : Obj := uO #[sv "k" 190]
def o17 : Obj := fN (nth B 0) "_wall"
def o18 : Obj := cO "_wall" 187 "_wall" 188 189 1 1 0 0 3 15 true 181 16 .none (.ref 17) (.ref 18) (.ref 19) 191 1 192
def o19 : Obj := gN (nth B 0) "_wall" .none .none .none "__main__" 164 (.ref 20) .none 3 0
def o20 : Obj := fN (nth B 2) "hexlify"
def o21 : Obj := cO "hexlify" 196 "hexlify" 197 198 5 1 0 0 3 22 true 181 23 .none .none .none (.ref 24) 199 5 200
def o22 : Obj := gN (nth B 2) "hexlify" .none .none .none "embit.misc" 194 (.ref 25) .none 3 0
noncomputable def o23 : Obj := ⟨(.type "builtin_function_or_method"), none, (.fields #[(.builtin "type.__prepare__"), (.type "type")]), #[]⟩
def o24 : Obj := ⟨(.type "dict"), none, (.dict #[de P "__module__" 209 (sv "embit.misc" 194), de P "__qualname__" 211 (sv "Sha256" 210), de P "__firstlineno__" 213 (.int 8 212), dr P "__init__" 222 41, dr P "update" 230 48, dr P "digest" 238 55, dr P "__static_attributes__" 240 56] 7), #[]⟩
noncomputable def o25 : Obj := ⟨.none, none, (.fields #[(.int 10 0), (.int 4 0), (.ref 40), (.int 13 0), (.int 4 0), (.ref 47), (.int 16 0), (.int 4 0), (.ref 54)]), #[]⟩
def o26 : Obj := cO "Sha256" 204 "Sha256" 205 206 8 0 0 0 0 30 false 181 31 .none .none .none .none 207 8 208
noncomputable def o27 : Obj := ⟨(.type "frame"), none, .plain, #[(some (.ref 32)), (some (.ref 3)), (some (.ref 29)), none, (some (sv "embit.misc" 194)), none, (some (.ref 0))]⟩
def o28 : Obj := uO #[(.bytes #[] 214)]
def o29 : Obj := uO #[sv "self" 218, sv "data" 219]
def o30 : Obj := fN (nth (clsB (nth B 3)) 0) "Sha256.__init__"
def o31 : Obj := cO "__init__" 215 "Sha256.__init__" 216 217 10 2 0 0 3 35 true 181 36 .none (.ref 37) (.ref 38) (.ref 39) 220 10 221
def o32 : Obj := gN (nth (clsB (nth B 3)) 0) "Sha256.__init__" (.ref 34) .none .none "embit.misc" 194 (.ref 40) .none 3 0
def o33 : Obj := uO #[sv "self" 226, sv "data" 227]
def o34 : Obj := fN (nth (clsB (nth B 3)) 1) "Sha256.update"
def o35 : Obj := cO "update" 223 "Sha256.update" 224 225 13 2 0 0 3 42 true 181 43 .none (.ref 44) (.ref 45) (.ref 46) 228 13 229
def o36 : Obj := gN (nth (clsB (nth B 3)) 1) "Sha256.update" .none .none .none "embit.misc" 194 (.ref 47) .none 3 0
def o37 : Obj := uO #[sv "self" 234, sv "number" 235]
def o38 : Obj := fN (nth (clsB (nth B 3)) 2) "Sha256.digest"
def o39 : Obj := cO "digest" 231 "Sha256.digest" 232 233 16 1 0 0 3 49 true 181 50 .none (.ref 51) (.ref 52) (.ref 53) 236 16 237
def o40 : Obj := gN (nth (clsB (nth B 3)) 2) "Sha256.digest" .none .none .none "embit.misc" 194 (.ref 54) .none 3 0
def o41 : Obj := uO #[sv "data" 239]
def o42 : Obj := ⟨(.type "dict"), none, (.dict #[de P "__module__" 209 (sv "embit.misc" 194), de P "__firstlineno__" 213 (.int 8 212), dr P "__init__" 222 41, dr P "update" 230 48, dr P "digest" 238 55, dr P "__static_attributes__" 240 56, dr P "__dict__" 242 59, dr P "__weakref__" 244 60, de P "__doc__" 245 .none] 4), #[]⟩
noncomputable def o43 : Obj := ⟨(.type "type"), none, (.cls ⟨(Str.ofString "Sha256"), [(.type "object")], [(.ref 58), (.type "object")], 57, (Str.ofString "Sha256"), true, [], [], false, none, false⟩), #[none, none, (some (sv "Sha256" 202)), (some (sv "Sha256" 210)), (some (.builtin "object.__new__")), (some (.bool true))]⟩
noncomputable def o44 : Obj := ⟨(.type "getset_descriptor"), none, (.fields #[(sv "__dict__" 241), (.ref 58), (.builtin "function.__dict__"), (.builtin "function.__dict__#set")]), #[]⟩
noncomputable def o45 : Obj := ⟨(.type "getset_descriptor"), none, (.fields #[(sv "__weakref__" 243), (.ref 58), (.builtin "ExceptionGroup.__weakref__"), .none]), #[]⟩
noncomputable def o46 : Obj := ⟨(.type "super"), none, (.fields #[(.ref 58), (.ref 58), (.ref 58)]), #[]⟩
noncomputable def o47 : Obj := ⟨(.type "builtin_function_or_method"), none, (.fields #[(.builtin "object.__init_subclass__"), (.ref 58)]), #[]⟩
def o48 : Obj := ⟨(.type "dict"), none, (.dict #[de P "__module__" 255 (sv "embit.misc" 194), de P "__qualname__" 257 (sv "hashlib" 256), de P "__firstlineno__" 259 (.int 19 258), dr P "sha256" 279 79, dr P "__static_attributes__" 280 81] 5), #[]⟩
noncomputable def o49 : Obj := ⟨.none, none, (.fields #[(.int 22 0), (.int 4 0), (.ref 76)]), #[]⟩
def o50 : Obj := cO "hashlib" 250 "hashlib" 251 252 19 0 0 0 0 66 false 181 67 .none .none .none .none 253 19 254
noncomputable def o51 : Obj := ⟨(.type "frame"), none, .plain, #[(some (.ref 68)), (some (.ref 3)), (some (.ref 65)), none, (some (sv "embit.misc" 194)), none, (some (.ref 0))]⟩
def o52 : Obj := uO #[(.bytes #[] 260)]
def o53 : Obj := uO #[sv "data" 264]
def o54 : Obj := fN (nth (clsB (nth B 4)) 0) "hashlib.sha256"
def o55 : Obj := cO "sha256" 261 "hashlib.sha256" 262 263 21 1 0 0 3 71 true 181 72 .none (.ref 73) (.ref 74) (.ref 75) 265 21 266
def o56 : Obj := ⟨(.type "function"), none, (fnD (nth (clsB (nth B 4)) 0) (Str.ofString "hashlib.sha256") (.ref 70) .none .none (sv "embit.misc" 194) (some 80) (.ref 76) .none 3 0), #[]⟩
def o57 : Obj := ⟨(.type "dict"), none, (.dict #[de P "__module__" 268 (sv "embit.misc" 194), de P "__name__" 271 (sv "sha256" 270), de P "__qualname__" 274 (sv "hashlib.sha256" 273), de P "__doc__" 276 .none, dr P "__annotations__" 278 80] 5), #[]⟩
noncomputable def o58 : Obj := ⟨(.type "staticmethod"), (some 78), (.fields #[(.ref 77), (.bool false)]), #[]⟩
def o59 : Obj := ⟨(.type "dict"), none, (.dict #[de P "__module__" 255 (sv "embit.misc" 194), de P "__firstlineno__" 259 (.int 19 258), dr P "sha256" 279 79, dr P "__static_attributes__" 280 81, dr P "__dict__" 282 84, dr P "__weakref__" 284 85, de P "__doc__" 285 .none] 4), #[]⟩
noncomputable def o60 : Obj := ⟨(.type "type"), none, (.cls ⟨(Str.ofString "hashlib"), [(.type "object")], [(.ref 83), (.type "object")], 82, (Str.ofString "hashlib"), true, [], [], false, none, false⟩), #[none, none, (some (sv "hashlib" 248)), (some (sv "hashlib" 256)), (some (.builtin "object.__new__")), (some (.bool true))]⟩
noncomputable def o61 : Obj := ⟨(.type "getset_descriptor"), none, (.fields #[(sv "__dict__" 281), (.ref 83), (.builtin "function.__dict__"), (.builtin "function.__dict__#set")]), #[]⟩
noncomputable def o62 : Obj := ⟨(.type "getset_descriptor"), none, (.fields #[(sv "__weakref__" 283), (.ref 83), (.builtin "ExceptionGroup.__weakref__"), .none]), #[]⟩
noncomputable def o63 : Obj := ⟨(.type "super"), none, (.fields #[(.ref 83), (.ref 83), (.ref 83)]), #[]⟩
noncomputable def o64 : Obj := ⟨(.type "builtin_function_or_method"), none, (.fields #[(.builtin "object.__init_subclass__"), (.ref 83)]), #[]⟩
def o65 : Obj := uO #[sv "i" 293, sv "order" 294]
def o66 : Obj := fN (nth B 6) "to_bytes"
def o67 : Obj := cO "to_bytes" 290 "to_bytes" 291 292 25 1 0 0 3 88 true 181 89 .none (.ref 90) (.ref 91) (.ref 92) 295 25 296
def o68 : Obj := gN (nth B 6) "to_bytes" .none .none .none "embit.compact" 288 (.ref 93) .none 3 0
def o69 : Obj := uO #[sv "n" 303, sv "what" 304]
def o70 : Obj := fN (nth B 8) "_whence"
def o71 : Obj := cO "_whence" 300 "_whence" 301 302 39 2 0 0 3 95 true 181 96 .none (.ref 97) (.ref 98) (.ref 99) 305 39 306
def o72 : Obj := gN (nth B 8) "_whence" .none .none .none "io" 298 (.ref 100) .none 3 0
def o73 : Obj := uO #[sv "n" 311, sv "what" 312]
def o74 : Obj := fN (nth B 9) "_index"
def o75 : Obj := cO "_index" 308 "_index" 309 310 44 2 0 0 3 102 true 181 103 .none (.ref 104) (.ref 105) (.ref 106) 313 44 314
def o76 : Obj := gN (nth B 9) "_index" .none .none .none "io" 298 (.ref 107) .none 3 0
def o77 : Obj := uO #[(.type "OSError"), (.type "ValueError")]
def o78 : Obj := ⟨(.type "dict"), none, (.dict #[de P "__module__" 323 (sv "io" 328), de P "__qualname__" 325 (sv "UnsupportedOperation" 324), de P "__firstlineno__" 327 (.int 51 326), dr P "__static_attributes__" 330 116] 4), #[]⟩
def o79 : Obj := cO "UnsupportedOperation" 318 "UnsupportedOperation" 319 320 51 0 0 0 0 112 false 181 113 .none .none .none .none 321 51 322
noncomputable def o80 : Obj := ⟨(.type "frame"), none, .plain, #[(some (.ref 114)), (some (.ref 3)), (some (.ref 111)), none, (some (sv "io" 298)), none, (some (.ref 0))]⟩
def o81 : Obj := ⟨(.type "dict"), none, (.dict #[de P "__module__" 323 (sv "io" 328), de P "__firstlineno__" 327 (.int 51 326), dr P "__static_attributes__" 330 116, dr P "__weakref__" 332 119, de P "__doc__" 333 .none] 3), #[]⟩
noncomputable def o82 : Obj := ⟨(.type "type"), none, (.cls ⟨(Str.ofString "UnsupportedOperation"), [(.type "OSError"), (.type "ValueError")], [(.ref 118), (.type "OSError"), (.type "ValueError"), (.type "Exception"), (.type "BaseException"), (.type "object")], 117, (Str.ofString "UnsupportedOperation"), true, [], [], false, none, false⟩), #[(some (.ref 109)), none, (some (sv "UnsupportedOperation" 316)), (some (sv "UnsupportedOperation" 324)), (some (.builtin "OSError.__new__")), (some (.bool true))]⟩
noncomputable def o83 : Obj := ⟨(.type "getset_descriptor"), none, (.fields #[(sv "__weakref__" 331), (.ref 118), (.builtin "ExceptionGroup.__weakref__"), .none]), #[]⟩
noncomputable def o84 : Obj := ⟨(.type "super"), none, (.fields #[(.ref 118), (.ref 118), (.ref 118)]), #[]⟩
noncomputable def o85 : Obj := ⟨(.type "builtin_function_or_method"), none, (.fields #[(.builtin "object.__init_subclass__"), (.ref 118)]), #[]⟩
def o86 : Obj := ⟨(.type "dict"), none, (.dict #[de P "__module__" 345 (sv "io" 350), de P "__qualname__" 347 (sv "IOBase" 346), de P "__firstlineno__" 349 (.int 53 348), dr P "__new__" 360 135, dr P "__static_attributes__" 361 136] 5), #[]⟩
noncomputable def o87 : Obj := ⟨.none, none, (.fields #[(.int 56 0), (.int 4 0), (.ref 134)]), #[]⟩
def o88 : Obj := cO "IOBase" 340 "IOBase" 341 342 53 0 0 0 0 125 false 181 126 .none .none .none .none 343 53 344
noncomputable def o89 : Obj := ⟨(.type "frame"), none, .plain, #[(some (.ref 127)), (some (.ref 3)), (some (.ref 124)), none, (some (sv "io" 298)), none, (some (.ref 0))]⟩
def o90 : Obj := uO #[sv "cls" 355, sv "args" 356, sv "kwargs" 357]
def o91 : Obj := fN (nth (clsB (nth B 11)) 1) "IOBase.__new__"
def o92 : Obj := cO "__new__" 352 "IOBase.__new__" 353 354 56 1 1 0 15 129 true 181 130 .none (.ref 131) (.ref 132) (.ref 133) 358 56 359
def o93 : Obj := gN (nth (clsB (nth B 11)) 1) "IOBase.__new__" .none .none .none "io" 298 (.ref 134) .none 3 0
def o94 : Obj := ⟨(.type "dict"), none, (.dict #[de P "__module__" 345 (sv "io" 350), de P "__firstlineno__" 349 (.int 53 348), dr P "__new__" 360 139, dr P "__static_attributes__" 361 136, dr P "__dict__" 364 140, dr P "__weakref__" 366 141, de P "__doc__" 367 .none] 4), #[]⟩
noncomputable def o95 : Obj := ⟨(.type "type"), none, (.cls ⟨(Str.ofString "IOBase"), [(.type "object")], [(.ref 138), (.type "object")], 137, (Str.ofString "IOBase"), true, [], [], false, none, false⟩), #[none, none, (some (sv "IOBase" 338)), (some (sv "IOBase" 346)), (some .none), (some (.bool true))]⟩
noncomputable def o96 : Obj := ⟨(.type "staticmethod"), none, (.fields #[(.ref 135)]), #[]⟩
noncomputable def o97 : Obj := ⟨(.type "getset_descriptor"), none, (.fields #[(sv "__dict__" 363), (.ref 138), (.builtin "function.__dict__"), (.builtin "function.__dict__#set")]), #[]⟩
noncomputable def o98 : Obj := ⟨(.type "getset_descriptor"), none, (.fields #[(sv "__weakref__" 365), (.ref 138), (.builtin "ExceptionGroup.__weakref__"), .none]), #[]⟩
noncomputable def o99 : Obj := ⟨(.type "super"), none, (.fields #[(.ref 138), (.ref 138), (.ref 138)]), #[]⟩
noncomputable def o100 : Obj := ⟨(.type "builtin_function_or_method"), none, (.fields #[(.builtin "object.__init_subclass__"), (.ref 138)]), #[]⟩
def t7 : BT := (.node o7 (lf o88) .nil)
def t8 : BT := (.node o58 (lf o100) .nil)
def t10 : BT := (.node o7 (lf o93) .nil)
def t13 : BT := (.node o7 (.node o7 (.node o25 t7 t0) (.node o35 t8 (lf (o78 P)))) (.node o8 (.node o30 t10 t3) (.node o40 (lf o64) (lf o83))))
def t14 : BT := (.node o49 (lf o90) .nil)
def t18 : BT := (.node o54 (lf o96) .nil)
def t20 : BT := (lf o23)
def t21 : BT := (.node o7 (.node o17 (.node o7 t14 (lf o70)) (.node o37 (lf o60) (lf o80))) (.node o7 (.node o8 t18 (lf o75)) (.node o44 t0 t20)))
def t22 : BT := (.node (o48 P) (lf o7) .nil)
def t24 : BT := (.node o53 (lf (o94 P)) .nil)
def t26 : BT := (.node o9 (.node o16 (.node o27 (t22 P) (lf o69)) (.node o7 t0 t3)) (.node o21 (.node o32 (t24 P) t0) (.node (o42 P) t3 (lf o85))))
def t27 : BT := (.node o51 (lf o91) .nil)
def t31 : BT := (.node o56 (lf o98) .nil)
def t34 : BT := (.node o11 (.node o19 (.node o29 t27 (lf o72)) (.node o38 (lf o62) (lf (o81 P)))) (.node (o24 P) (.node o7 t31 (lf o77)) (.node o46 (lf o67) t0)))
def t35 : BT := (.node o23 (lf o89) .nil)
def t36 : BT := (lf o6)
def t37 : BT := (.node o8 (lf o7) .nil)
def t40 : BT := (.node o8 (.node o8 (.node o26 t35 t3) (.node o36 t36 t0)) (.node o20 (.node o31 t37 (lf o73)) (.node o41 t0 (lf o84))))
def t41 : BT := (.node o50 (lf o7) .nil)
def t44 : BT := (.node o55 (lf o97) .nil)
def t48 : BT := (.node o15 (.node o18 (.node o8 t41 (lf o71)) (.node o7 (lf o61) t0)) (.node o23 (.node o33 t44 (lf o76)) (.node o45 (lf o66) (lf (o86 P)))))
def t49 : BT := (.node o7 (lf o8) .nil)
def t52 : BT := (.node o7 (lf o95) .nil)
def t55 : BT := (.node o10 (.node o7 (.node o28 t49 t0) (.node o8 (lf (o59 P)) (lf o79))) (.node o22 (.node o7 t52 (lf o74)) (.node o43 (lf o65) t0)))
def t56 : BT := (.node o52 (lf o92) .nil)
def t59 : BT := (.node (o57 P) (lf o99) .nil)
def t62 : BT := (.node o12 (.node o7 (.node o7 t56 t0) (.node o39 (lf o63) (lf o82))) (.node o7 (.node o34 (t59 P) t20) (.node o47 (lf o68) (lf o87))))
def t63 : BT := (.node (o0 P) (.node (o1 P) (.node (o14 P) (t13 P) t21) (.node o5 (t26 P) (t34 P))) (.node (o13 P) (.node o4 t40 (t48 P)) (.node o6 (t55 P) (t62 P))))
end
noncomputable def T1 (P : Params) : BT := (t63 P)
theorem p_0 : ∀ (w : World) (os : OsState), segRunT treeTable pw w 11 ann 1 1262 ⟨T0 w.params, 15, {}, #[], ⟨0, 0, 0, 0⟩, 187, os⟩ (piecesOf ((B.drop 0).take 12) env cE ⟨0, 0, 0, 0⟩ fr0) = some (.next, ⟨T1 w.params, 144, {}, #[], ⟨0, 0, 0, 0⟩, 370, os⟩, cE, ⟨53, 0, 59, 34⟩) := by
  intro w os
  rw [PySem.W.Fast.te10110043849684766642, PySem.W.Fast.te14364793385576792824]
  kernel_rfl
section
variable (P : Params)
def o101 : Obj := ⟨(.type "dict"), none, (.dict #[de P "__name__" 165 (sv "io" 298), de P "__doc__" 166 .none, de P "__package__" 167 .none, de P "__loader__" 168 (.builtin "__main__.__loader__#opaque"), de P "__spec__" 169 .none, dr P "__annotations__" 170 6, dr P "__builtins__" 171 4, de P "__file__" 173 (sv "/claim/cut.py" 172), de P "__cached__" 174 .none, dr P "_wall" 193 21, dr P "hexlify" 201 26, dr P "Sha256" 247 58, dr P "hashlib" 287 83, dr P "to_bytes" 297 94, dr P "_whence" 307 101, dr P "_index" 315 108, dr P "UnsupportedOperation" 337 118, dr P "IOBase" 369 138, dr P "BufferedIOBase" 387 153, dr P "TextIOBase" 405 165] 20), #[]⟩
noncomputable def o102 : Obj := ⟨.none, none, (.fields #[(.int 1 0), (.int 0 0), (.ref 20), (.int 5 0), (.int 0 0), (.ref 25), (.int 8 0), (.int 0 0), (.ref 32), (.int 19 0), (.int 0 0), (.ref 68), (.int 25 0), (.int 0 0), (.ref 93), (.int 39 0), (.int 0 0), (.ref 100), (.int 44 0), (.int 0 0), (.ref 107), (.int 51 0), (.int 0 0), (.ref 114), (.int 53 0), (.int 0 0), (.ref 127), (.int 60 0), (.int 0 0), (.ref 149), (.int 62 0), (.int 0 0), (.ref 161)]), #[]⟩
noncomputable def o103 : Obj := ⟨(.type "type"), none, (.cls ⟨(Str.ofString "IOBase"), [(.type "object")], [(.ref 138), (.type "object")], 137, (Str.ofString "IOBase"), true, [], [(.ref 153), (.ref 165)], false, none, false⟩), #[none, none, (some (sv "IOBase" 338)), (some (sv "IOBase" 346)), (some .none), (some (.bool true))]⟩
def o104 : Obj := uO #[(.ref 138)]
def o105 : Obj := ⟨(.type "dict"), none, (.dict #[de P "__module__" 377 (sv "io" 382), de P "__qualname__" 379 (sv "BufferedIOBase" 378), de P "__firstlineno__" 381 (.int 60 380), dr P "__static_attributes__" 384 151] 4), #[]⟩
def o106 : Obj := cO "BufferedIOBase" 372 "BufferedIOBase" 373 374 60 0 0 0 0 147 false 181 148 .none .none .none .none 375 60 376
noncomputable def o107 : Obj := ⟨(.type "frame"), none, .plain, #[(some (.ref 149)), (some (.ref 3)), (some (.ref 146)), none, (some (sv "io" 298)), none, (some (.ref 0))]⟩
def o108 : Obj := ⟨(.type "dict"), none, (.dict #[de P "__module__" 377 (sv "io" 382), de P "__firstlineno__" 381 (.int 60 380), dr P "__static_attributes__" 384 151, de P "__doc__" 385 .none] 2), #[]⟩
noncomputable def o109 : Obj := ⟨(.type "type"), none, (.cls ⟨(Str.ofString "BufferedIOBase"), [(.ref 138)], [(.ref 153), (.ref 138), (.type "object")], 152, (Str.ofString "BufferedIOBase"), true, [], [], false, none, false⟩), #[(some (.ref 144)), none, (some (sv "BufferedIOBase" 370)), (some (sv "BufferedIOBase" 378)), (some .none), (some (.bool true))]⟩
noncomputable def o110 : Obj := ⟨(.type "super"), none, (.fields #[(.ref 153), (.ref 153), (.ref 153)]), #[]⟩
noncomputable def o111 : Obj := ⟨(.type "builtin_function_or_method"), none, (.fields #[(.builtin "object.__init_subclass__"), (.ref 153)]), #[]⟩
def o112 : Obj := ⟨(.type "dict"), none, (.dict #[de P "__module__" 395 (sv "io" 400), de P "__qualname__" 397 (sv "TextIOBase" 396), de P "__firstlineno__" 399 (.int 62 398), dr P "__static_attributes__" 402 163] 4), #[]⟩
def o113 : Obj := cO "TextIOBase" 390 "TextIOBase" 391 392 62 0 0 0 0 159 false 181 160 .none .none .none .none 393 62 394
noncomputable def o114 : Obj := ⟨(.type "frame"), none, .plain, #[(some (.ref 161)), (some (.ref 3)), (some (.ref 158)), none, (some (sv "io" 298)), none, (some (.ref 0))]⟩
def o115 : Obj := ⟨(.type "dict"), none, (.dict #[de P "__module__" 395 (sv "io" 400), de P "__firstlineno__" 399 (.int 62 398), dr P "__static_attributes__" 402 163, de P "__doc__" 403 .none] 2), #[]⟩
noncomputable def o116 : Obj := ⟨(.type "type"), none, (.cls ⟨(Str.ofString "TextIOBase"), [(.ref 138)], [(.ref 165), (.ref 138), (.type "object")], 164, (Str.ofString "TextIOBase"), true, [], [], false, none, false⟩), #[(some (.ref 156)), none, (some (sv "TextIOBase" 388)), (some (sv "TextIOBase" 396)), (some .none), (some (.bool true))]⟩
noncomputable def o117 : Obj := ⟨(.type "super"), none, (.fields #[(.ref 165), (.ref 165), (.ref 165)]), #[]⟩
noncomputable def o118 : Obj := ⟨(.type "builtin_function_or_method"), none, (.fields #[(.builtin "object.__init_subclass__"), (.ref 165)]), #[]⟩
def t64 : BT := (.node o7 (lf o7) .nil)
def t65 : BT := (.node o8 (lf o118) .nil)
def t66 : BT := (.node o64 (lf o7) .nil)
def t67 : BT := (.node o7 (.node o7 (.node o25 t7 t64) (.node o35 t8 (lf (o78 P)))) (.node o8 (.node o30 t10 t65) (.node o40 t66 (lf o83))))
def t68 : BT := (.node o70 (lf o7) .nil)
def t69 : BT := (.node o60 (lf o7) .nil)
def t70 : BT := (.node o7 (lf o111) .nil)
def t71 : BT := (.node o7 (.node o17 (.node o7 t14 t68) (.node o37 t69 (lf o80))) (.node o7 (.node o8 t18 (lf o75)) (.node o44 t70 t20)))
def t72 : BT := (.node o69 (lf o113) .nil)
def t73 : BT := (.node o7 (lf o23) .nil)
def t74 : BT := (.node o8 (lf o109) .nil)
def t75 : BT := (.node o9 (.node o16 (.node o27 (t22 P) t72) (.node o7 t73 t3)) (.node o21 (.node o32 (t24 P) t0) (.node (o42 P) t74 (lf o85))))
def t76 : BT := (.node o72 (lf o116) .nil)
def t77 : BT := (.node o62 (lf o106) .nil)
def t78 : BT := (.node o67 (lf o23) .nil)
def t79 : BT := (.node o11 (.node o19 (.node o29 t27 t76) (.node o38 t77 (lf (o81 P)))) (.node (o24 P) (.node o7 t31 (lf o77)) (.node o46 t78 t0)))
def t80 : BT := (.node o8 (lf o8) .nil)
def t81 : BT := (.node o6 (lf o104) .nil)
def t82 : BT := (.node o7 (lf (o108 P)) .nil)
def t83 : BT := (.node o8 (.node o8 (.node o26 t35 t80) (.node o36 t81 t0)) (.node o20 (.node o31 t37 (lf o73)) (.node o41 (t82 P) (lf o84))))
def t84 : BT := (.node o71 (lf (o115 P)) .nil)
def t85 : BT := (.node o61 (lf o8) .nil)
def t86 : BT := (.node o66 (lf o104) .nil)
def t87 : BT := (.node o102 (.node o18 (.node o8 t41 (t84 P)) (.node o7 t85 t0)) (.node o23 (.node o33 t44 (lf o76)) (.node o45 t86 (lf (o86 P)))))
def t88 : BT := (.node o7 (lf o114) .nil)
def t89 : BT := (.node (o59 P) (lf (o105 P)) .nil)
def t90 : BT := (.node o7 (lf o103) .nil)
def t91 : BT := (.node o65 (lf o110) .nil)
def t92 : BT := (.node o10 (.node o7 (.node o28 t49 t88) (.node o8 (t89 P) (lf o79))) (.node o22 (.node o7 t90 (lf o74)) (.node o43 t91 t0)))
def t93 : BT := (.node o7 (lf o117) .nil)
def t94 : BT := (.node o63 (lf o107) .nil)
def t95 : BT := (.node o68 (lf (o112 P)) .nil)
def t96 : BT := (.node o12 (.node o7 (.node o7 t56 t93) (.node o39 t94 (lf o82))) (.node o7 (.node o34 (t59 P) t20) (.node o47 (t95 P) (lf o87))))
def t97 : BT := (.node (o0 P) (.node (o1 P) (.node (o101 P) (t67 P) t71) (.node o5 (t75 P) (t79 P))) (.node (o13 P) (.node o4 (t83 P) (t87 P)) (.node o6 (t92 P) (t96 P))))
end
noncomputable def T2 (P : Params) : BT := (t97 P)
theorem p_1 : ∀ (w : World) (os : OsState), segRunT treeTable pw w 11 ann 1 447 ⟨T1 w.params, 144, {}, #[], ⟨0, 0, 0, 0⟩, 370, os⟩ (piecesOf ((B.drop 12).take 2) env cE ⟨53, 0, 59, 34⟩ fr0) = some (.next, ⟨T2 w.params, 168, {}, #[], ⟨0, 0, 0, 0⟩, 406, os⟩, cE, ⟨62, 0, 63, 21⟩) := by
  intro w os
  rw [PySem.W.Fast.te10110043849684766642, PySem.W.Fast.te14364793385576792824]
  kernel_rfl
section
variable (P : Params)
def o119 : Obj := ⟨(.type "dict"), none, (.dict #[de P "__name__" 165 (sv "io" 298), de P "__doc__" 166 .none, de P "__package__" 167 .none, de P "__loader__" 168 (.builtin "__main__.__loader__#opaque"), de P "__spec__" 169 .none, dr P "__annotations__" 170 6, dr P "__builtins__" 171 4, de P "__file__" 173 (sv "/claim/cut.py" 172), de P "__cached__" 174 .none, dr P "_wall" 193 21, dr P "hexlify" 201 26, dr P "Sha256" 247 58, dr P "hashlib" 287 83, dr P "to_bytes" 297 94, dr P "_whence" 307 101, dr P "_index" 315 108, dr P "UnsupportedOperation" 337 118, dr P "IOBase" 369 138, dr P "BufferedIOBase" 387 153, dr P "TextIOBase" 405 165, dr P "BytesIO" 667 395] 21), #[]⟩
noncomputable def o120 : Obj := ⟨.none, none, (.fields #[(.int 1 0), (.int 0 0), (.ref 20), (.int 5 0), (.int 0 0), (.ref 25), (.int 8 0), (.int 0 0), (.ref 32), (.int 19 0), (.int 0 0), (.ref 68), (.int 25 0), (.int 0 0), (.ref 93), (.int 39 0), (.int 0 0), (.ref 100), (.int 44 0), (.int 0 0), (.ref 107), (.int 51 0), (.int 0 0), (.ref 114), (.int 53 0), (.int 0 0), (.ref 127), (.int 60 0), (.int 0 0), (.ref 149), (.int 62 0), (.int 0 0), (.ref 161), (.int 64 0), (.int 0 0), (.ref 173)]), #[]⟩
noncomputable def o121 : Obj := ⟨(.type "type"), none, (.cls ⟨(Str.ofString "BufferedIOBase"), [(.ref 138)], [(.ref 153), (.ref 138), (.type "object")], 152, (Str.ofString "BufferedIOBase"), true, [], [(.ref 395)], false, none, false⟩), #[(some (.ref 144)), none, (some (sv "BufferedIOBase" 370)), (some (sv "BufferedIOBase" 378)), (some .none), (some (.bool true))]⟩
def o122 : Obj := uO #[(.ref 153)]
def o123 : Obj := ⟨(.type "dict"), none, (.dict #[de P "__module__" 413 (sv "_io" 418), de P "__qualname__" 415 (sv "BytesIO" 414), de P "__firstlineno__" 417 (.int 64 416), dr P "__init__" 427 182, dr P "_BytesIO__check" 434 189, dr P "_BytesIO__line" 445 196, dr P "closed" 453 204, dr P "close" 460 211, dr P "__enter__" 467 218, dr P "__exit__" 475 225, dr P "readable" 482 232, dr P "writable" 489 239, dr P "seekable" 496 246, dr P "isatty" 503 253, dr P "flush" 510 260, dr P "fileno" 517 267, dr P "detach" 524 274, dr P "getvalue" 531 281, dr P "getbuffer" 538 288, dr P "tell" 545 295, dr P "seek" 555 303, dr P "truncate" 563 311, dr P "read" 575 319, dr P "read1" 585 327, dr P "readinto" 595 334, dr P "readinto1" 603 341, dr P "readline" 613 349, dr P "readlines" 621 357, dr P "__iter__" 628 364, dr P "__next__" 636 371, dr P "write" 646 378, dr P "writelines" 654 385, dr P "__repr__" 661 392, dr P "__static_attributes__" 664 393] 34), #[]⟩
noncomputable def o124 : Obj := ⟨.none, none, (.fields #[(.int 67 0), (.int 4 0), (.ref 181), (.int 73 0), (.int 4 0), (.ref 188), (.int 77 0), (.int 4 0), (.ref 195), (.int 91 0), (.int 4 0), (.ref 202), (.int 94 0), (.int 4 0), (.ref 210), (.int 97 0), (.int 4 0), (.ref 217), (.int 101 0), (.int 4 0), (.ref 224), (.int 104 0), (.int 4 0), (.ref 231), (.int 108 0), (.int 4 0), (.ref 238), (.int 112 0), (.int 4 0), (.ref 245), (.int 116 0), (.int 4 0), (.ref 252), (.int 120 0), (.int 4 0), (.ref 259), (.int 123 0), (.int 4 0), (.ref 266), (.int 126 0), (.int 4 0), (.ref 273), (.int 129 0), (.int 4 0), (.ref 280), (.int 133 0), (.int 4 0), (.ref 287), (.int 136 0), (.int 4 0), (.ref 294), (.int 140 0), (.int 4 0), (.ref 302), (.int 157 0), (.int 4 0), (.ref 310), (.int 160 0), (.int 4 0), (.ref 318), (.int 174 0), (.int 4 0), (.ref 326), (.int 177 0), (.int 4 0), (.ref 333), (.int 191 0), (.int 4 0), (.ref 340), (.int 194 0), (.int 4 0), (.ref 348), (.int 201 0), (.int 4 0), (.ref 356), (.int 204 0), (.int 4 0), (.ref 363), (.int 207 0), (.int 4 0), (.ref 370), (.int 214 0), (.int 4 0), (.ref 377), (.int 230 0), (.int 4 0), (.ref 384), (.int 233 0), (.int 4 0), (.ref 391)]), #[]⟩
def o125 : Obj := cO "BytesIO" 408 "BytesIO" 409 410 64 0 0 0 0 171 false 181 172 .none .none .none .none 411 64 412
noncomputable def o126 : Obj := ⟨(.type "frame"), none, .plain, #[(some (.ref 173)), (some (.ref 3)), (some (.ref 170)), none, (some (sv "io" 298)), none, (some (.ref 0))]⟩
def o127 : Obj := uO #[.none]
def o128 : Obj := uO #[sv "self" 423, sv "initial_bytes" 424]
def o129 : Obj := fN (nth (clsB (nth B 14)) 1) "BytesIO.__init__"
def o130 : Obj := cO "__init__" 420 "BytesIO.__init__" 421 422 67 2 0 0 3 176 true 181 177 .none (.ref 178) (.ref 179) (.ref 180) 425 67 426
def o131 : Obj := gN (nth (clsB (nth B 14)) 1) "BytesIO.__init__" (.ref 175) .none .none "io" 298 (.ref 181) .none 3 0
def o132 : Obj := uO #[sv "self" 431]
def o133 : Obj := fN (nth (clsB (nth B 14)) 2) "BytesIO.__check"
def o134 : Obj := cO "__check" 428 "BytesIO.__check" 429 430 73 1 0 0 3 183 true 181 184 .none (.ref 185) (.ref 186) (.ref 187) 432 73 433
def o135 : Obj := gN (nth (clsB (nth B 14)) 2) "BytesIO.__check" .none .none .none "io" 298 (.ref 188) .none 3 0
def o136 : Obj := uO #[sv "self" 438, sv "limit" 439, sv "start" 440, sv "stop" 441, sv "i" 442]
def o137 : Obj := fN (nth (clsB (nth B 14)) 3) "BytesIO.__line"
def o138 : Obj := cO "__line" 435 "BytesIO.__line" 436 437 77 2 0 0 3 190 true 181 191 .none (.ref 192) (.ref 193) (.ref 194) 443 77 444
def o139 : Obj := gN (nth (clsB (nth B 14)) 3) "BytesIO.__line" .none .none .none "io" 298 (.ref 195) .none 3 0
def o140 : Obj := uO #[sv "self" 449]
def o141 : Obj := fN (nth (clsB (nth B 14)) 4) "BytesIO.closed"
def o142 : Obj := cO "closed" 446 "BytesIO.closed" 447 448 90 1 0 0 3 197 true 181 198 .none (.ref 199) (.ref 200) (.ref 201) 450 90 451
def o143 : Obj := gN (nth (clsB (nth B 14)) 4) "BytesIO.closed" .none .none .none "io" 298 (.ref 202) .none 3 0
noncomputable def o144 : Obj := ⟨(.type "property"), none, (.fields #[(.ref 203), .none, .none, .none, (sv "closed" 453), (.bool false)]), #[]⟩
def o145 : Obj := uO #[sv "self" 457]
def o146 : Obj := fN (nth (clsB (nth B 14)) 5) "BytesIO.close"
def o147 : Obj := cO "close" 454 "BytesIO.close" 455 456 94 1 0 0 3 205 true 181 206 .none (.ref 207) (.ref 208) (.ref 209) 458 94 459
def o148 : Obj := gN (nth (clsB (nth B 14)) 5) "BytesIO.close" .none .none .none "io" 298 (.ref 210) .none 3 0
def o149 : Obj := uO #[sv "self" 464]
def o150 : Obj := fN (nth (clsB (nth B 14)) 6) "BytesIO.__enter__"
def o151 : Obj := cO "__enter__" 461 "BytesIO.__enter__" 462 463 97 1 0 0 3 212 true 181 213 .none (.ref 214) (.ref 215) (.ref 216) 465 97 466
def o152 : Obj := gN (nth (clsB (nth B 14)) 6) "BytesIO.__enter__" .none .none .none "io" 298 (.ref 217) .none 3 0
def o153 : Obj := uO #[sv "self" 471, sv "args" 472]
def o154 : Obj := fN (nth (clsB (nth B 14)) 7) "BytesIO.__exit__"
def o155 : Obj := cO "__exit__" 468 "BytesIO.__exit__" 469 470 101 1 0 0 7 219 true 181 220 .none (.ref 221) (.ref 222) (.ref 223) 473 101 474
def o156 : Obj := gN (nth (clsB (nth B 14)) 7) "BytesIO.__exit__" .none .none .none "io" 298 (.ref 224) .none 3 0
def o157 : Obj := uO #[sv "self" 479]
def o158 : Obj := fN (nth (clsB (nth B 14)) 8) "BytesIO.readable"
def o159 : Obj := cO "readable" 476 "BytesIO.readable" 477 478 104 1 0 0 3 226 true 181 227 .none (.ref 228) (.ref 229) (.ref 230) 480 104 481
def o160 : Obj := gN (nth (clsB (nth B 14)) 8) "BytesIO.readable" .none .none .none "io" 298 (.ref 231) .none 3 0
def o161 : Obj := uO #[sv "self" 486]
def o162 : Obj := fN (nth (clsB (nth B 14)) 9) "BytesIO.writable"
def o163 : Obj := cO "writable" 483 "BytesIO.writable" 484 485 108 1 0 0 3 233 true 181 234 .none (.ref 235) (.ref 236) (.ref 237) 487 108 488
def o164 : Obj := gN (nth (clsB (nth B 14)) 9) "BytesIO.writable" .none .none .none "io" 298 (.ref 238) .none 3 0
def o165 : Obj := uO #[sv "self" 493]
def o166 : Obj := fN (nth (clsB (nth B 14)) 10) "BytesIO.seekable"
def o167 : Obj := cO "seekable" 490 "BytesIO.seekable" 491 492 112 1 0 0 3 240 true 181 241 .none (.ref 242) (.ref 243) (.ref 244) 494 112 495
def o168 : Obj := gN (nth (clsB (nth B 14)) 10) "BytesIO.seekable" .none .none .none "io" 298 (.ref 245) .none 3 0
def o169 : Obj := uO #[sv "self" 500]
def o170 : Obj := fN (nth (clsB (nth B 14)) 11) "BytesIO.isatty"
def o171 : Obj := cO "isatty" 497 "BytesIO.isatty" 498 499 116 1 0 0 3 247 true 181 248 .none (.ref 249) (.ref 250) (.ref 251) 501 116 502
def o172 : Obj := gN (nth (clsB (nth B 14)) 11) "BytesIO.isatty" .none .none .none "io" 298 (.ref 252) .none 3 0
def o173 : Obj := uO #[sv "self" 507]
def o174 : Obj := fN (nth (clsB (nth B 14)) 12) "BytesIO.flush"
def o175 : Obj := cO "flush" 504 "BytesIO.flush" 505 506 120 1 0 0 3 254 true 181 255 .none (.ref 256) (.ref 257) (.ref 258) 508 120 509
def o176 : Obj := gN (nth (clsB (nth B 14)) 12) "BytesIO.flush" .none .none .none "io" 298 (.ref 259) .none 3 0
def o177 : Obj := uO #[sv "self" 514]
def o178 : Obj := fN (nth (clsB (nth B 14)) 13) "BytesIO.fileno"
def o179 : Obj := cO "fileno" 511 "BytesIO.fileno" 512 513 123 1 0 0 3 261 true 181 262 .none (.ref 263) (.ref 264) (.ref 265) 515 123 516
def o180 : Obj := gN (nth (clsB (nth B 14)) 13) "BytesIO.fileno" .none .none .none "io" 298 (.ref 266) .none 3 0
def o181 : Obj := uO #[sv "self" 521]
def o182 : Obj := fN (nth (clsB (nth B 14)) 14) "BytesIO.detach"
def o183 : Obj := cO "detach" 518 "BytesIO.detach" 519 520 126 1 0 0 3 268 true 181 269 .none (.ref 270) (.ref 271) (.ref 272) 522 126 523
def o184 : Obj := gN (nth (clsB (nth B 14)) 14) "BytesIO.detach" .none .none .none "io" 298 (.ref 273) .none 3 0
def o185 : Obj := uO #[sv "self" 528]
def o186 : Obj := fN (nth (clsB (nth B 14)) 15) "BytesIO.getvalue"
def o187 : Obj := cO "getvalue" 525 "BytesIO.getvalue" 526 527 129 1 0 0 3 275 true 181 276 .none (.ref 277) (.ref 278) (.ref 279) 529 129 530
def o188 : Obj := gN (nth (clsB (nth B 14)) 15) "BytesIO.getvalue" .none .none .none "io" 298 (.ref 280) .none 3 0
def o189 : Obj := uO #[sv "self" 535]
def o190 : Obj := fN (nth (clsB (nth B 14)) 16) "BytesIO.getbuffer"
def o191 : Obj := cO "getbuffer" 532 "BytesIO.getbuffer" 533 534 133 1 0 0 3 282 true 181 283 .none (.ref 284) (.ref 285) (.ref 286) 536 133 537
def o192 : Obj := gN (nth (clsB (nth B 14)) 16) "BytesIO.getbuffer" .none .none .none "io" 298 (.ref 287) .none 3 0
def o193 : Obj := uO #[sv "self" 542]
def o194 : Obj := fN (nth (clsB (nth B 14)) 17) "BytesIO.tell"
def o195 : Obj := cO "tell" 539 "BytesIO.tell" 540 541 136 1 0 0 3 289 true 181 290 .none (.ref 291) (.ref 292) (.ref 293) 543 136 544
def o196 : Obj := gN (nth (clsB (nth B 14)) 17) "BytesIO.tell" .none .none .none "io" 298 (.ref 294) .none 3 0
def o197 : Obj := uO #[(.int 0 546)]
def o198 : Obj := uO #[sv "self" 550, sv "pos" 551, sv "whence" 552]
def o199 : Obj := fN (nth (clsB (nth B 14)) 18) "BytesIO.seek"
def o200 : Obj := cO "seek" 547 "BytesIO.seek" 548 549 140 3 3 0 3 297 true 181 298 .none (.ref 299) (.ref 300) (.ref 301) 553 140 554
def o201 : Obj := gN (nth (clsB (nth B 14)) 18) "BytesIO.seek" (.ref 296) .none .none "io" 298 (.ref 302) .none 3 0
def o202 : Obj := uO #[sv "self" 559, sv "size" 560]
def o203 : Obj := fN (nth (clsB (nth B 14)) 19) "BytesIO.truncate"
def o204 : Obj := cO "truncate" 556 "BytesIO.truncate" 557 558 157 2 2 0 3 305 true 181 306 .none (.ref 307) (.ref 308) (.ref 309) 561 157 562
def o205 : Obj := gN (nth (clsB (nth B 14)) 19) "BytesIO.truncate" (.ref 304) .none .none "io" 298 (.ref 310) .none 3 0
def o206 : Obj := uO #[(.int (-1) 565)]
def o207 : Obj := uO #[sv "self" 569, sv "size" 570, sv "start" 571, sv "stop" 572]
def o208 : Obj := fN (nth (clsB (nth B 14)) 20) "BytesIO.read"
def o209 : Obj := cO "read" 566 "BytesIO.read" 567 568 160 2 2 0 3 313 true 181 314 .none (.ref 315) (.ref 316) (.ref 317) 573 160 574
def o210 : Obj := gN (nth (clsB (nth B 14)) 20) "BytesIO.read" (.ref 312) .none .none "io" 298 (.ref 318) .none 3 0
def o211 : Obj := uO #[(.int (-1) 577)]
def o212 : Obj := uO #[sv "self" 581, sv "size" 582]
def o213 : Obj := fN (nth (clsB (nth B 14)) 21) "BytesIO.read1"
def o214 : Obj := cO "read1" 578 "BytesIO.read1" 579 580 174 2 2 0 3 321 true 181 322 .none (.ref 323) (.ref 324) (.ref 325) 583 174 584
def o215 : Obj := gN (nth (clsB (nth B 14)) 21) "BytesIO.read1" (.ref 320) .none .none "io" 298 (.ref 326) .none 3 0
def o216 : Obj := uO #[sv "self" 589, sv "buffer" 590, sv "start" 591, sv "n" 592]
def o217 : Obj := fN (nth (clsB (nth B 14)) 22) "BytesIO.readinto"
def o218 : Obj := cO "readinto" 586 "BytesIO.readinto" 587 588 177 2 2 0 3 328 true 181 329 .none (.ref 330) (.ref 331) (.ref 332) 593 177 594
def o219 : Obj := gN (nth (clsB (nth B 14)) 22) "BytesIO.readinto" .none .none .none "io" 298 (.ref 333) .none 3 0
def o220 : Obj := uO #[sv "self" 599, sv "buffer" 600]
def o221 : Obj := fN (nth (clsB (nth B 14)) 23) "BytesIO.readinto1"
def o222 : Obj := cO "readinto1" 596 "BytesIO.readinto1" 597 598 191 2 2 0 3 335 true 181 336 .none (.ref 337) (.ref 338) (.ref 339) 601 191 602
def o223 : Obj := gN (nth (clsB (nth B 14)) 23) "BytesIO.readinto1" .none .none .none "io" 298 (.ref 340) .none 3 0
def o224 : Obj := uO #[(.int (-1) 605)]
def o225 : Obj := uO #[sv "self" 609, sv "size" 610]
def o226 : Obj := fN (nth (clsB (nth B 14)) 24) "BytesIO.readline"
def o227 : Obj := cO "readline" 606 "BytesIO.readline" 607 608 194 2 2 0 3 343 true 181 344 .none (.ref 345) (.ref 346) (.ref 347) 611 194 612
def o228 : Obj := gN (nth (clsB (nth B 14)) 24) "BytesIO.readline" (.ref 342) .none .none "io" 298 (.ref 348) .none 3 0
def o229 : Obj := uO #[sv "self" 617, sv "size" 618]
def o230 : Obj := fN (nth (clsB (nth B 14)) 25) "BytesIO.readlines"
def o231 : Obj := cO "readlines" 614 "BytesIO.readlines" 615 616 201 2 2 0 3 351 true 181 352 .none (.ref 353) (.ref 354) (.ref 355) 619 201 620
def o232 : Obj := gN (nth (clsB (nth B 14)) 25) "BytesIO.readlines" (.ref 350) .none .none "io" 298 (.ref 356) .none 3 0
def o233 : Obj := uO #[sv "self" 625]
def o234 : Obj := fN (nth (clsB (nth B 14)) 26) "BytesIO.__iter__"
def o235 : Obj := cO "__iter__" 622 "BytesIO.__iter__" 623 624 204 1 0 0 3 358 true 181 359 .none (.ref 360) (.ref 361) (.ref 362) 626 204 627
def o236 : Obj := gN (nth (clsB (nth B 14)) 26) "BytesIO.__iter__" .none .none .none "io" 298 (.ref 363) .none 3 0
def o237 : Obj := uO #[sv "self" 632, sv "line" 633]
def o238 : Obj := fN (nth (clsB (nth B 14)) 27) "BytesIO.__next__"
def o239 : Obj := cO "__next__" 629 "BytesIO.__next__" 630 631 207 1 0 0 3 365 true 181 366 .none (.ref 367) (.ref 368) (.ref 369) 634 207 635
def o240 : Obj := gN (nth (clsB (nth B 14)) 27) "BytesIO.__next__" .none .none .none "io" 298 (.ref 370) .none 3 0
def o241 : Obj := uO #[sv "self" 640, sv "b" 641, sv "n" 642, sv "start" 643]
def o242 : Obj := fN (nth (clsB (nth B 14)) 28) "BytesIO.write"
def o243 : Obj := cO "write" 637 "BytesIO.write" 638 639 214 2 2 0 3 372 true 181 373 .none (.ref 374) (.ref 375) (.ref 376) 644 214 645
def o244 : Obj := gN (nth (clsB (nth B 14)) 28) "BytesIO.write" .none .none .none "io" 298 (.ref 377) .none 3 0
def o245 : Obj := uO #[sv "self" 650, sv "lines" 651]
def o246 : Obj := fN (nth (clsB (nth B 14)) 29) "BytesIO.writelines"
def o247 : Obj := cO "writelines" 647 "BytesIO.writelines" 648 649 230 2 2 0 3 379 true 181 380 .none (.ref 381) (.ref 382) (.ref 383) 652 230 653
def o248 : Obj := gN (nth (clsB (nth B 14)) 29) "BytesIO.writelines" .none .none .none "io" 298 (.ref 384) .none 3 0
def o249 : Obj := uO #[sv "self" 658]
def o250 : Obj := fN (nth (clsB (nth B 14)) 30) "BytesIO.__repr__"
def o251 : Obj := cO "__repr__" 655 "BytesIO.__repr__" 656 657 233 1 0 0 3 386 true 181 387 .none (.ref 388) (.ref 389) (.ref 390) 659 233 660
def o252 : Obj := gN (nth (clsB (nth B 14)) 30) "BytesIO.__repr__" .none .none .none "io" 298 (.ref 391) .none 3 0
def o253 : Obj := uO #[sv "__buf" 662, sv "__pos" 663]
def o254 : Obj := ⟨(.type "dict"), none, (.dict #[de P "__module__" 413 (sv "_io" 418), de P "__firstlineno__" 417 (.int 64 416), dr P "__init__" 427 182, dr P "_BytesIO__check" 434 189, dr P "_BytesIO__line" 445 196, dr P "closed" 453 204, dr P "close" 460 211, dr P "__enter__" 467 218, dr P "__exit__" 475 225, dr P "readable" 482 232, dr P "writable" 489 239, dr P "seekable" 496 246, dr P "isatty" 503 253, dr P "flush" 510 260, dr P "fileno" 517 267, dr P "detach" 524 274, dr P "getvalue" 531 281, dr P "getbuffer" 538 288, dr P "tell" 545 295, dr P "seek" 555 303, dr P "truncate" 563 311, dr P "read" 575 319, dr P "read1" 585 327, dr P "readinto" 595 334, dr P "readinto1" 603 341, dr P "readline" 613 349, dr P "readlines" 621 357, dr P "__iter__" 628 364, dr P "__next__" 636 371, dr P "write" 646 378, dr P "writelines" 654 385, dr P "__repr__" 661 392, dr P "__static_attributes__" 664 393, de P "__doc__" 665 .none] 2), #[]⟩
noncomputable def o255 : Obj := ⟨(.type "type"), none, (.cls ⟨(Str.ofString "BytesIO"), [(.ref 153)], [(.ref 395), (.ref 153), (.ref 138), (.type "object")], 394, (Str.ofString "BytesIO"), true, [], [], false, none, false⟩), #[(some (.ref 168)), none, (some (sv "BytesIO" 406)), (some (sv "BytesIO" 414)), (some .none), (some (.bool true))]⟩
noncomputable def o256 : Obj := ⟨(.type "super"), none, (.fields #[(.ref 395), (.ref 395), (.ref 395)]), #[]⟩
noncomputable def o257 : Obj := ⟨(.type "builtin_function_or_method"), none, (.fields #[(.builtin "object.__init_subclass__"), (.ref 395)]), #[]⟩
def t98 : BT := (.node o7 (.node o88 (lf o8) (lf o246)) (.node o8 (lf o210) .nil))
def t99 : BT := (.node o7 (.node o7 (lf o191) .nil) (.node o154 (lf o7) .nil))
def t100 : BT := (.node o58 (.node o100 (lf o7) .nil) (.node o145 (lf o7) .nil))
def t101 : BT := (.node (o78 P) (.node o127 (lf o201) .nil) (.node o164 (lf o237) .nil))
def t102 : BT := (.node o7 (.node o93 (lf o177) (lf o251)) (.node o140 (lf o215) .nil))
def t103 : BT := (.node o8 (.node o118 (lf o196) .nil) (.node o159 (lf o8) .nil))
def t104 : BT := (.node o64 (.node o7 (lf o186) .nil) (.node o7 (lf o7) .nil))
def t105 : BT := (.node o83 (.node o7 (lf o205) .nil) (.node o7 (lf o7) .nil))
def t106 : BT := (.node o7 (.node o7 (.node o25 t98 t99) (.node o35 t100 (t101 P))) (.node o8 (.node o30 t102 t103) (.node o40 t104 t105)))
def t107 : BT := (.node o49 (.node o90 (lf o175) (lf o8)) (.node o138 (lf o212) .nil))
def t108 : BT := (.node o70 (.node o7 (lf o193) .nil) (.node o8 (lf o230) .nil))
def t109 : BT := (.node o60 (.node o7 (lf o7) .nil) (.node o148 (lf o221) .nil))
def t110 : BT := (.node o80 (.node o7 (lf o202) .nil) (.node o7 (lf o240) .nil))
def t111 : BT := (.node o54 (.node o96 (lf o180) (lf o255)) (.node o143 (lf o7) .nil))
def t112 : BT := (.node o75 (.node o7 (lf o198) .nil) (.node o161 (lf o235) .nil))
def t113 : BT := (.node o7 (.node o111 (lf o8) .nil) (.node o7 (lf o226) .nil))
def t114 : BT := (.node o23 (.node o133 (lf o207) .nil) (.node o170 (lf o7) .nil))
def t115 : BT := (.node o7 (.node o17 (.node o7 t107 t108) (.node o37 t109 t110)) (.node o7 (.node o8 t111 t112) (.node o44 t113 t114)))
def t116 : BT := (.node (o48 P) (.node o7 (lf o7) (lf o248)) (.node o7 (lf o7) .nil))
def t117 : BT := (.node o69 (.node o113 (lf o7) .nil) (.node o156 (lf o229) .nil))
def t118 : BT := (.node o7 (.node o23 (lf o183) .nil) (.node o146 (lf o220) .nil))
def t119 : BT := (.node o8 (.node o8 (lf o7) .nil) (.node o8 (lf o238) .nil))
def t120 : BT := (.node o53 (.node (o94 P) (lf o178) (lf o253)) (.node o141 (lf o8) .nil))
def t121 : BT := (.node o7 (.node o23 (lf o7) .nil) (.node o7 (lf o7) .nil))
def t122 : BT := (.node o8 (.node o121 (lf o188) .nil) (.node o151 (lf o225) .nil))
def t123 : BT := (.node o85 (.node o132 (lf o7) .nil) (.node o169 (lf o243) .nil))
def t124 : BT := (.node o9 (.node o16 (.node o27 (t116 P) t117) (.node o7 t118 t119)) (.node o21 (.node o32 (t120 P) t121) (.node (o42 P) t122 t123)))
def t125 : BT := (.node o51 (.node o91 (lf o7) (lf o7)) (.node o7 (lf o213) .nil))
def t126 : BT := (.node o72 (.node o116 (lf o194) .nil) (.node o7 (lf o232) .nil))
def t127 : BT := (.node o62 (.node o106 (lf o185) .nil) (.node o8 (lf o223) .nil))
def t128 : BT := (.node (o81 P) (.node o130 (lf o203) .nil) (.node o167 (lf o8) .nil))
def t129 : BT := (.node o56 (.node o98 (lf o8) (lf o257)) (.node o7 (lf o218) .nil))
def t130 : BT := (.node o77 (.node o125 (lf o199) .nil) (.node o162 (lf o7) .nil))
def t131 : BT := (.node o67 (.node o23 (lf o7) .nil) (.node o153 (lf o228) .nil))
def t132 : BT := (.node o7 (.node o135 (lf o208) .nil) (.node o172 (lf o245) .nil))
def t133 : BT := (.node o11 (.node o19 (.node o29 t125 t126) (.node o38 t127 (t128 P))) (.node (o24 P) (.node o7 t129 t130) (.node o46 t131 t132)))
def t134 : BT := (.node o23 (.node o89 (lf o173) (lf o247)) (.node o136 (lf o211) .nil))
def t135 : BT := (.node o8 (.node o8 (lf o192) .nil) (.node o155 (lf o8) .nil))
def t136 : BT := (.node o6 (.node o104 (lf o182) .nil) (.node o7 (lf o8) .nil))
def t137 : BT := (.node o7 (.node o7 (lf o127) .nil) (.node o7 (lf o7) .nil))
def t138 : BT := (.node o8 (.node o7 (lf o7) (lf o252)) (.node o7 (lf o7) .nil))
def t139 : BT := (.node o73 (.node o122 (lf o197) .nil) (.node o160 (lf o233) .nil))
def t140 : BT := (.node o7 (.node (o108 P) (lf o187) .nil) (.node o150 (lf o8) .nil))
def t141 : BT := (.node o84 (.node o8 (lf o206) .nil) (.node o8 (lf o242) .nil))
def t142 : BT := (.node o8 (.node o8 (.node o26 t134 t135) (.node o36 t136 t137)) (.node o20 (.node o31 t138 t139) (.node o41 (t140 P) t141)))
def t143 : BT := (.node o50 (.node o7 (lf o176) (lf o249)) (.node o139 (lf o7) .nil))
def t144 : BT := (.node o71 (.node (o115 P) (lf o7) .nil) (.node o157 (lf o231) .nil))
def t145 : BT := (.node o61 (.node o8 (lf o8) .nil) (.node o7 (lf o222) .nil))
def t146 : BT := (.node o7 (.node o129 (lf o7) .nil) (.node o166 (lf o7) .nil))
def t147 : BT := (.node o55 (.node o97 (lf o7) (lf o256)) (.node o144 (lf o217) .nil))
def t148 : BT := (.node o76 (.node o124 (lf o7) .nil) (.node o7 (lf o236) .nil))
def t149 : BT := (.node o66 (.node o104 (lf o189) .nil) (.node o8 (lf o227) .nil))
def t150 : BT := (.node (o86 P) (.node o134 (lf o7) .nil) (.node o171 (lf o8) .nil))
def t151 : BT := (.node o120 (.node o18 (.node o8 t143 (t144 P)) (.node o7 t145 t146)) (.node o23 (.node o33 t147 t148) (.node o45 t149 (t150 P))))
def t152 : BT := (.node o7 (.node o8 (lf o174) (lf o7)) (.node o137 (lf o8) .nil))
def t153 : BT := (.node o7 (.node o114 (lf o8) .nil) (.node o7 (lf o7) .nil))
def t154 : BT := (.node (o59 P) (.node (o105 P) (lf o184) .nil) (.node o147 (lf o7) .nil))
def t155 : BT := (.node o79 (.node o128 (lf o8) .nil) (.node o165 (lf o239) .nil))
def t156 : BT := (.node o7 (.node o103 (lf o179) (lf (o254 P))) (.node o142 (lf o216) .nil))
def t157 : BT := (.node o74 (.node (o123 P) (lf o8) .nil) (.node o8 (lf o234) .nil))
def t158 : BT := (.node o65 (.node o110 (lf o7) .nil) (.node o152 (lf o7) .nil))
def t159 : BT := (.node o7 (.node o7 (lf o8) .nil) (.node o7 (lf o244) .nil))
def t160 : BT := (.node o10 (.node o7 (.node o28 t152 t153) (.node o8 (t154 P) t155)) (.node o22 (.node o7 (t156 P) (t157 P)) (.node o43 t158 t159)))
def t161 : BT := (.node o52 (.node o92 (lf o8) (lf o250)) (.node o8 (lf o214) .nil))
def t162 : BT := (.node o7 (.node o117 (lf o195) .nil) (.node o158 (lf o7) .nil))
def t163 : BT := (.node o63 (.node o107 (lf o7) .nil) (.node o149 (lf o224) .nil))
def t164 : BT := (.node o82 (.node o131 (lf o204) .nil) (.node o168 (lf o241) .nil))
def t165 : BT := (.node (o57 P) (.node o99 (lf o181) .nil) (.node o8 (lf o219) .nil))
def t166 : BT := (.node o23 (.node o126 (lf o200) .nil) (.node o163 (lf o8) .nil))
def t167 : BT := (.node o68 (.node (o112 P) (lf o190) .nil) (.node o7 (lf o127) .nil))
def t168 : BT := (.node o87 (.node o7 (lf o209) .nil) (.node o7 (lf o7) .nil))
def t169 : BT := (.node o12 (.node o7 (.node o7 t161 t162) (.node o39 t163 t164)) (.node o7 (.node o34 (t165 P) t166) (.node o47 (t167 P) t168)))
def t170 : BT := (.node (o0 P) (.node (o1 P) (.node (o119 P) (t106 P) t115) (.node o5 (t124 P) (t133 P))) (.node (o13 P) (.node o4 (t142 P) (t151 P)) (.node o6 (t160 P) (t169 P))))
end
noncomputable def T3 (P : Params) : BT := (t170 P)
theorem p_2 : ∀ (w : World) (os : OsState), segRunT treeTable pw w 11 ann 1 1278 ⟨T2 w.params, 168, {}, #[], ⟨0, 0, 0, 0⟩, 406, os⟩ (piecesOf ((B.drop 14).take 1) env cE ⟨62, 0, 63, 21⟩ fr0) = some (.next, ⟨T3 w.params, 398, {}, #[], ⟨0, 0, 0, 0⟩, 668, os⟩, cE, ⟨64, 0, 234, 17⟩) := by
  intro w os
  rw [PySem.W.Fast.te10110043849684766642, PySem.W.Fast.te14364793385576792824]
  kernel_rfl
section
variable (P : Params)
def o258 : Obj := ⟨(.type "dict"), none, (.dict #[de P "__name__" 165 (sv "io" 298), de P "__doc__" 166 .none, de P "__package__" 167 .none, de P "__loader__" 168 (.builtin "__main__.__loader__#opaque"), de P "__spec__" 169 .none, dr P "__annotations__" 170 6, dr P "__builtins__" 171 4, de P "__file__" 173 (sv "/claim/cut.py" 172), de P "__cached__" 174 .none, dr P "_wall" 193 21, dr P "hexlify" 201 26, dr P "Sha256" 247 58, dr P "hashlib" 287 83, dr P "to_bytes" 297 94, dr P "_whence" 307 101, dr P "_index" 315 108, dr P "UnsupportedOperation" 337 118, dr P "IOBase" 369 138, dr P "BufferedIOBase" 387 153, dr P "TextIOBase" 405 165, dr P "BytesIO" 667 395, dr P "StringIO" 954 642] 22), #[]⟩
noncomputable def o259 : Obj := ⟨.none, none, (.fields #[(.int 1 0), (.int 0 0), (.ref 20), (.int 5 0), (.int 0 0), (.ref 25), (.int 8 0), (.int 0 0), (.ref 32), (.int 19 0), (.int 0 0), (.ref 68), (.int 25 0), (.int 0 0), (.ref 93), (.int 39 0), (.int 0 0), (.ref 100), (.int 44 0), (.int 0 0), (.ref 107), (.int 51 0), (.int 0 0), (.ref 114), (.int 53 0), (.int 0 0), (.ref 127), (.int 60 0), (.int 0 0), (.ref 149), (.int 62 0), (.int 0 0), (.ref 161), (.int 64 0), (.int 0 0), (.ref 173), (.int 235 0), (.int 0 0), (.ref 403)]), #[]⟩
noncomputable def o260 : Obj := ⟨(.type "type"), none, (.cls ⟨(Str.ofString "TextIOBase"), [(.ref 138)], [(.ref 165), (.ref 138), (.type "object")], 164, (Str.ofString "TextIOBase"), true, [], [(.ref 642)], false, none, false⟩), #[(some (.ref 156)), none, (some (sv "TextIOBase" 388)), (some (sv "TextIOBase" 396)), (some .none), (some (.bool true))]⟩
def o261 : Obj := uO #[(.ref 165)]
def o262 : Obj := ⟨(.type "dict"), none, (.dict #[de P "__module__" 675 (sv "_io" 680), de P "__qualname__" 677 (sv "StringIO" 676), de P "__firstlineno__" 679 (.int 235 678), dr P "__init__" 692 412, dr P "_StringIO__translated" 701 419, dr P "_StringIO__check" 708 426, dr P "_StringIO__check_dot" 715 433, dr P "_StringIO__line" 730 440, dr P "closed" 738 448, dr P "line_buffering" 746 456, dr P "newlines" 754 464, dr P "encoding" 762 472, dr P "errors" 770 480, dr P "close" 777 487, dr P "__enter__" 784 494, dr P "__exit__" 792 501, dr P "readable" 799 508, dr P "writable" 806 515, dr P "seekable" 813 522, dr P "isatty" 820 529, dr P "flush" 827 536, dr P "fileno" 834 543, dr P "detach" 841 550, dr P "getvalue" 848 557, dr P "tell" 855 564, dr P "seek" 865 572, dr P "truncate" 873 580, dr P "read" 885 588, dr P "readline" 895 596, dr P "readlines" 905 604, dr P "__iter__" 912 611, dr P "__next__" 920 618, dr P "write" 932 625, dr P "writelines" 940 632, dr P "__repr__" 947 639, dr P "__static_attributes__" 951 640] 36), #[]⟩
noncomputable def o263 : Obj := ⟨.none, none, (.fields #[(.int 238 0), (.int 4 0), (.ref 411), (.int 251 0), (.int 4 0), (.ref 418), (.int 259 0), (.int 4 0), (.ref 425), (.int 263 0), (.int 4 0), (.ref 432), (.int 267 0), (.int 4 0), (.ref 439), (.int 300 0), (.int 4 0), (.ref 446), (.int 304 0), (.int 4 0), (.ref 454), (.int 308 0), (.int 4 0), (.ref 462), (.int 312 0), (.int 4 0), (.ref 470), (.int 316 0), (.int 4 0), (.ref 478), (.int 319 0), (.int 4 0), (.ref 486), (.int 322 0), (.int 4 0), (.ref 493), (.int 326 0), (.int 4 0), (.ref 500), (.int 329 0), (.int 4 0), (.ref 507), (.int 333 0), (.int 4 0), (.ref 514), (.int 337 0), (.int 4 0), (.ref 521), (.int 341 0), (.int 4 0), (.ref 528), (.int 345 0), (.int 4 0), (.ref 535), (.int 348 0), (.int 4 0), (.ref 542), (.int 351 0), (.int 4 0), (.ref 549), (.int 354 0), (.int 4 0), (.ref 556), (.int 358 0), (.int 4 0), (.ref 563), (.int 362 0), (.int 4 0), (.ref 571), (.int 379 0), (.int 4 0), (.ref 579), (.int 382 0), (.int 4 0), (.ref 587), (.int 396 0), (.int 4 0), (.ref 595), (.int 403 0), (.int 4 0), (.ref 603), (.int 406 0), (.int 4 0), (.ref 610), (.int 410 0), (.int 4 0), (.ref 617), (.int 417 0), (.int 4 0), (.ref 624), (.int 436 0), (.int 4 0), (.ref 631), (.int 439 0), (.int 4 0), (.ref 638)]), #[]⟩
def o264 : Obj := cO "StringIO" 670 "StringIO" 671 672 235 0 0 0 0 401 false 181 402 .none .none .none .none 673 235 674
noncomputable def o265 : Obj := ⟨(.type "frame"), none, .plain, #[(some (.ref 403)), (some (.ref 3)), (some (.ref 400)), none, (some (sv "io" 298)), none, (some (.ref 0))]⟩
def o266 : Obj := uO #[sv "" 682, sv "\n" 683]
def o267 : Obj := uO #[sv "self" 687, sv "initial_value" 688, sv "newline" 689]
def o268 : Obj := fN (nth (clsB (nth B 15)) 1) "StringIO.__init__"
def o269 : Obj := cO "__init__" 684 "StringIO.__init__" 685 686 238 3 0 0 3 406 true 181 407 .none (.ref 408) (.ref 409) (.ref 410) 690 238 691
def o270 : Obj := gN (nth (clsB (nth B 15)) 1) "StringIO.__init__" (.ref 405) .none .none "io" 298 (.ref 411) .none 3 0
def o271 : Obj := uO #[sv "self" 696, sv "s" 697, sv "newline" 698]
def o272 : Obj := fN (nth (clsB (nth B 15)) 2) "StringIO.__translated"
def o273 : Obj := cO "__translated" 693 "StringIO.__translated" 694 695 251 2 0 0 3 413 true 181 414 .none (.ref 415) (.ref 416) (.ref 417) 699 251 700
def o274 : Obj := gN (nth (clsB (nth B 15)) 2) "StringIO.__translated" .none .none .none "io" 298 (.ref 418) .none 3 0
def o275 : Obj := uO #[sv "self" 705]
def o276 : Obj := fN (nth (clsB (nth B 15)) 3) "StringIO.__check"
def o277 : Obj := cO "__check" 702 "StringIO.__check" 703 704 259 1 0 0 3 420 true 181 421 .none (.ref 422) (.ref 423) (.ref 424) 706 259 707
def o278 : Obj := gN (nth (clsB (nth B 15)) 3) "StringIO.__check" .none .none .none "io" 298 (.ref 425) .none 3 0
def o279 : Obj := uO #[sv "self" 712]
def o280 : Obj := fN (nth (clsB (nth B 15)) 4) "StringIO.__check_dot"
def o281 : Obj := cO "__check_dot" 709 "StringIO.__check_dot" 710 711 263 1 0 0 3 427 true 181 428 .none (.ref 429) (.ref 430) (.ref 431) 713 263 714
def o282 : Obj := gN (nth (clsB (nth B 15)) 4) "StringIO.__check_dot" .none .none .none "io" 298 (.ref 432) .none 3 0
def o283 : Obj := uO #[sv "self" 719, sv "limit" 720, sv "start" 721, sv "stop" 722, sv "cut" 723, sv "newline" 724, sv "i" 725, sv "j" 726, sv "end" 727]
def o284 : Obj := fN (nth (clsB (nth B 15)) 5) "StringIO.__line"
def o285 : Obj := cO "__line" 716 "StringIO.__line" 717 718 267 2 0 0 3 434 true 181 435 .none (.ref 436) (.ref 437) (.ref 438) 728 267 729
def o286 : Obj := gN (nth (clsB (nth B 15)) 5) "StringIO.__line" .none .none .none "io" 298 (.ref 439) .none 3 0
def o287 : Obj := uO #[sv "self" 734]
def o288 : Obj := fN (nth (clsB (nth B 15)) 6) "StringIO.closed"
def o289 : Obj := cO "closed" 731 "StringIO.closed" 732 733 299 1 0 0 3 441 true 181 442 .none (.ref 443) (.ref 444) (.ref 445) 735 299 736
def o290 : Obj := gN (nth (clsB (nth B 15)) 6) "StringIO.closed" .none .none .none "io" 298 (.ref 446) .none 3 0
noncomputable def o291 : Obj := ⟨(.type "property"), none, (.fields #[(.ref 447), .none, .none, .none, (sv "closed" 738), (.bool false)]), #[]⟩
def o292 : Obj := uO #[sv "self" 742]
def o293 : Obj := fN (nth (clsB (nth B 15)) 7) "StringIO.line_buffering"
def o294 : Obj := cO "line_buffering" 739 "StringIO.line_buffering" 740 741 303 1 0 0 3 449 true 181 450 .none (.ref 451) (.ref 452) (.ref 453) 743 303 744
def o295 : Obj := gN (nth (clsB (nth B 15)) 7) "StringIO.line_buffering" .none .none .none "io" 298 (.ref 454) .none 3 0
noncomputable def o296 : Obj := ⟨(.type "property"), none, (.fields #[(.ref 455), .none, .none, .none, (sv "line_buffering" 746), (.bool false)]), #[]⟩
def o297 : Obj := uO #[sv "self" 750]
def o298 : Obj := fN (nth (clsB (nth B 15)) 8) "StringIO.newlines"
def o299 : Obj := cO "newlines" 747 "StringIO.newlines" 748 749 307 1 0 0 3 457 true 181 458 .none (.ref 459) (.ref 460) (.ref 461) 751 307 752
def o300 : Obj := gN (nth (clsB (nth B 15)) 8) "StringIO.newlines" .none .none .none "io" 298 (.ref 462) .none 3 0
noncomputable def o301 : Obj := ⟨(.type "property"), none, (.fields #[(.ref 463), .none, .none, .none, (sv "newlines" 754), (.bool false)]), #[]⟩
def o302 : Obj := uO #[sv "self" 758]
def o303 : Obj := fN (nth (clsB (nth B 15)) 9) "StringIO.encoding"
def o304 : Obj := cO "encoding" 755 "StringIO.encoding" 756 757 311 1 0 0 3 465 true 181 466 .none (.ref 467) (.ref 468) (.ref 469) 759 311 760
def o305 : Obj := gN (nth (clsB (nth B 15)) 9) "StringIO.encoding" .none .none .none "io" 298 (.ref 470) .none 3 0
noncomputable def o306 : Obj := ⟨(.type "property"), none, (.fields #[(.ref 471), .none, .none, .none, (sv "encoding" 762), (.bool false)]), #[]⟩
def o307 : Obj := uO #[sv "self" 766]
def o308 : Obj := fN (nth (clsB (nth B 15)) 10) "StringIO.errors"
def o309 : Obj := cO "errors" 763 "StringIO.errors" 764 765 315 1 0 0 3 473 true 181 474 .none (.ref 475) (.ref 476) (.ref 477) 767 315 768
def o310 : Obj := gN (nth (clsB (nth B 15)) 10) "StringIO.errors" .none .none .none "io" 298 (.ref 478) .none 3 0
noncomputable def o311 : Obj := ⟨(.type "property"), none, (.fields #[(.ref 479), .none, .none, .none, (sv "errors" 770), (.bool false)]), #[]⟩
def o312 : Obj := uO #[sv "self" 774]
def o313 : Obj := fN (nth (clsB (nth B 15)) 11) "StringIO.close"
def o314 : Obj := cO "close" 771 "StringIO.close" 772 773 319 1 0 0 3 481 true 181 482 .none (.ref 483) (.ref 484) (.ref 485) 775 319 776
def o315 : Obj := gN (nth (clsB (nth B 15)) 11) "StringIO.close" .none .none .none "io" 298 (.ref 486) .none 3 0
def o316 : Obj := uO #[sv "self" 781]
def o317 : Obj := fN (nth (clsB (nth B 15)) 12) "StringIO.__enter__"
def o318 : Obj := cO "__enter__" 778 "StringIO.__enter__" 779 780 322 1 0 0 3 488 true 181 489 .none (.ref 490) (.ref 491) (.ref 492) 782 322 783
def o319 : Obj := gN (nth (clsB (nth B 15)) 12) "StringIO.__enter__" .none .none .none "io" 298 (.ref 493) .none 3 0
def o320 : Obj := uO #[sv "self" 788, sv "args" 789]
def o321 : Obj := fN (nth (clsB (nth B 15)) 13) "StringIO.__exit__"
def o322 : Obj := cO "__exit__" 785 "StringIO.__exit__" 786 787 326 1 0 0 7 495 true 181 496 .none (.ref 497) (.ref 498) (.ref 499) 790 326 791
def o323 : Obj := gN (nth (clsB (nth B 15)) 13) "StringIO.__exit__" .none .none .none "io" 298 (.ref 500) .none 3 0
def o324 : Obj := uO #[sv "self" 796]
def o325 : Obj := fN (nth (clsB (nth B 15)) 14) "StringIO.readable"
def o326 : Obj := cO "readable" 793 "StringIO.readable" 794 795 329 1 0 0 3 502 true 181 503 .none (.ref 504) (.ref 505) (.ref 506) 797 329 798
def o327 : Obj := gN (nth (clsB (nth B 15)) 14) "StringIO.readable" .none .none .none "io" 298 (.ref 507) .none 3 0
def o328 : Obj := uO #[sv "self" 803]
def o329 : Obj := fN (nth (clsB (nth B 15)) 15) "StringIO.writable"
def o330 : Obj := cO "writable" 800 "StringIO.writable" 801 802 333 1 0 0 3 509 true 181 510 .none (.ref 511) (.ref 512) (.ref 513) 804 333 805
def o331 : Obj := gN (nth (clsB (nth B 15)) 15) "StringIO.writable" .none .none .none "io" 298 (.ref 514) .none 3 0
def o332 : Obj := uO #[sv "self" 810]
def o333 : Obj := fN (nth (clsB (nth B 15)) 16) "StringIO.seekable"
def o334 : Obj := cO "seekable" 807 "StringIO.seekable" 808 809 337 1 0 0 3 516 true 181 517 .none (.ref 518) (.ref 519) (.ref 520) 811 337 812
def o335 : Obj := gN (nth (clsB (nth B 15)) 16) "StringIO.seekable" .none .none .none "io" 298 (.ref 521) .none 3 0
def o336 : Obj := uO #[sv "self" 817]
def o337 : Obj := fN (nth (clsB (nth B 15)) 17) "StringIO.isatty"
def o338 : Obj := cO "isatty" 814 "StringIO.isatty" 815 816 341 1 0 0 3 523 true 181 524 .none (.ref 525) (.ref 526) (.ref 527) 818 341 819
def o339 : Obj := gN (nth (clsB (nth B 15)) 17) "StringIO.isatty" .none .none .none "io" 298 (.ref 528) .none 3 0
def o340 : Obj := uO #[sv "self" 824]
def o341 : Obj := fN (nth (clsB (nth B 15)) 18) "StringIO.flush"
def o342 : Obj := cO "flush" 821 "StringIO.flush" 822 823 345 1 0 0 3 530 true 181 531 .none (.ref 532) (.ref 533) (.ref 534) 825 345 826
def o343 : Obj := gN (nth (clsB (nth B 15)) 18) "StringIO.flush" .none .none .none "io" 298 (.ref 535) .none 3 0
def o344 : Obj := uO #[sv "self" 831]
def o345 : Obj := fN (nth (clsB (nth B 15)) 19) "StringIO.fileno"
def o346 : Obj := cO "fileno" 828 "StringIO.fileno" 829 830 348 1 0 0 3 537 true 181 538 .none (.ref 539) (.ref 540) (.ref 541) 832 348 833
def o347 : Obj := gN (nth (clsB (nth B 15)) 19) "StringIO.fileno" .none .none .none "io" 298 (.ref 542) .none 3 0
def o348 : Obj := uO #[sv "self" 838]
def o349 : Obj := fN (nth (clsB (nth B 15)) 20) "StringIO.detach"
def o350 : Obj := cO "detach" 835 "StringIO.detach" 836 837 351 1 0 0 3 544 true 181 545 .none (.ref 546) (.ref 547) (.ref 548) 839 351 840
def o351 : Obj := gN (nth (clsB (nth B 15)) 20) "StringIO.detach" .none .none .none "io" 298 (.ref 549) .none 3 0
def o352 : Obj := uO #[sv "self" 845]
def o353 : Obj := fN (nth (clsB (nth B 15)) 21) "StringIO.getvalue"
def o354 : Obj := cO "getvalue" 842 "StringIO.getvalue" 843 844 354 1 0 0 3 551 true 181 552 .none (.ref 553) (.ref 554) (.ref 555) 846 354 847
def o355 : Obj := gN (nth (clsB (nth B 15)) 21) "StringIO.getvalue" .none .none .none "io" 298 (.ref 556) .none 3 0
def o356 : Obj := uO #[sv "self" 852]
def o357 : Obj := fN (nth (clsB (nth B 15)) 22) "StringIO.tell"
def o358 : Obj := cO "tell" 849 "StringIO.tell" 850 851 358 1 0 0 3 558 true 181 559 .none (.ref 560) (.ref 561) (.ref 562) 853 358 854
def o359 : Obj := gN (nth (clsB (nth B 15)) 22) "StringIO.tell" .none .none .none "io" 298 (.ref 563) .none 3 0
def o360 : Obj := uO #[(.int 0 856)]
def o361 : Obj := uO #[sv "self" 860, sv "pos" 861, sv "whence" 862]
def o362 : Obj := fN (nth (clsB (nth B 15)) 23) "StringIO.seek"
def o363 : Obj := cO "seek" 857 "StringIO.seek" 858 859 362 3 3 0 3 566 true 181 567 .none (.ref 568) (.ref 569) (.ref 570) 863 362 864
def o364 : Obj := gN (nth (clsB (nth B 15)) 23) "StringIO.seek" (.ref 565) .none .none "io" 298 (.ref 571) .none 3 0
def o365 : Obj := uO #[sv "self" 869, sv "pos" 870]
def o366 : Obj := fN (nth (clsB (nth B 15)) 24) "StringIO.truncate"
def o367 : Obj := cO "truncate" 866 "StringIO.truncate" 867 868 379 2 2 0 3 574 true 181 575 .none (.ref 576) (.ref 577) (.ref 578) 871 379 872
def o368 : Obj := gN (nth (clsB (nth B 15)) 24) "StringIO.truncate" (.ref 573) .none .none "io" 298 (.ref 579) .none 3 0
def o369 : Obj := uO #[(.int (-1) 875)]
def o370 : Obj := uO #[sv "self" 879, sv "size" 880, sv "start" 881, sv "stop" 882]
def o371 : Obj := fN (nth (clsB (nth B 15)) 25) "StringIO.read"
def o372 : Obj := cO "read" 876 "StringIO.read" 877 878 382 2 2 0 3 582 true 181 583 .none (.ref 584) (.ref 585) (.ref 586) 883 382 884
def o373 : Obj := gN (nth (clsB (nth B 15)) 25) "StringIO.read" (.ref 581) .none .none "io" 298 (.ref 587) .none 3 0
def o374 : Obj := uO #[(.int (-1) 887)]
def o375 : Obj := uO #[sv "self" 891, sv "size" 892]
def o376 : Obj := fN (nth (clsB (nth B 15)) 26) "StringIO.readline"
def o377 : Obj := cO "readline" 888 "StringIO.readline" 889 890 396 2 2 0 3 590 true 181 591 .none (.ref 592) (.ref 593) (.ref 594) 893 396 894
def o378 : Obj := gN (nth (clsB (nth B 15)) 26) "StringIO.readline" (.ref 589) .none .none "io" 298 (.ref 595) .none 3 0
def o379 : Obj := uO #[(.int (-1) 897)]
def o380 : Obj := uO #[sv "self" 901, sv "hint" 902]
def o381 : Obj := fN (nth (clsB (nth B 15)) 27) "StringIO.readlines"
def o382 : Obj := cO "readlines" 898 "StringIO.readlines" 899 900 403 2 2 0 3 598 true 181 599 .none (.ref 600) (.ref 601) (.ref 602) 903 403 904
def o383 : Obj := gN (nth (clsB (nth B 15)) 27) "StringIO.readlines" (.ref 597) .none .none "io" 298 (.ref 603) .none 3 0
def o384 : Obj := uO #[sv "self" 909]
def o385 : Obj := fN (nth (clsB (nth B 15)) 28) "StringIO.__iter__"
def o386 : Obj := cO "__iter__" 906 "StringIO.__iter__" 907 908 406 1 0 0 3 605 true 181 606 .none (.ref 607) (.ref 608) (.ref 609) 910 406 911
def o387 : Obj := gN (nth (clsB (nth B 15)) 28) "StringIO.__iter__" .none .none .none "io" 298 (.ref 610) .none 3 0
def o388 : Obj := uO #[sv "self" 916, sv "line" 917]
def o389 : Obj := fN (nth (clsB (nth B 15)) 29) "StringIO.__next__"
def o390 : Obj := cO "__next__" 913 "StringIO.__next__" 914 915 410 1 0 0 3 612 true 181 613 .none (.ref 614) (.ref 615) (.ref 616) 918 410 919
def o391 : Obj := gN (nth (clsB (nth B 15)) 29) "StringIO.__next__" .none .none .none "io" 298 (.ref 617) .none 3 0
def o392 : Obj := uO #[sv "self" 924, sv "s" 925, sv "n" 926, sv "m" 927, sv "start" 928, sv "buf" 929]
def o393 : Obj := fN (nth (clsB (nth B 15)) 30) "StringIO.write"
def o394 : Obj := cO "write" 921 "StringIO.write" 922 923 417 2 2 0 3 619 true 181 620 .none (.ref 621) (.ref 622) (.ref 623) 930 417 931
def o395 : Obj := gN (nth (clsB (nth B 15)) 30) "StringIO.write" .none .none .none "io" 298 (.ref 624) .none 3 0
def o396 : Obj := uO #[sv "self" 936, sv "lines" 937]
def o397 : Obj := fN (nth (clsB (nth B 15)) 31) "StringIO.writelines"
def o398 : Obj := cO "writelines" 933 "StringIO.writelines" 934 935 436 2 2 0 3 626 true 181 627 .none (.ref 628) (.ref 629) (.ref 630) 938 436 939
def o399 : Obj := gN (nth (clsB (nth B 15)) 31) "StringIO.writelines" .none .none .none "io" 298 (.ref 631) .none 3 0
def o400 : Obj := uO #[sv "self" 944]
def o401 : Obj := fN (nth (clsB (nth B 15)) 32) "StringIO.__repr__"
def o402 : Obj := cO "__repr__" 941 "StringIO.__repr__" 942 943 439 1 0 0 3 633 true 181 634 .none (.ref 635) (.ref 636) (.ref 637) 945 439 946
def o403 : Obj := gN (nth (clsB (nth B 15)) 32) "StringIO.__repr__" .none .none .none "io" 298 (.ref 638) .none 3 0
def o404 : Obj := uO #[sv "__buf" 948, sv "__newline" 949, sv "__pos" 950]
def o405 : Obj := ⟨(.type "dict"), none, (.dict #[de P "__module__" 675 (sv "_io" 680), de P "__firstlineno__" 679 (.int 235 678), dr P "__init__" 692 412, dr P "_StringIO__translated" 701 419, dr P "_StringIO__check" 708 426, dr P "_StringIO__check_dot" 715 433, dr P "_StringIO__line" 730 440, dr P "closed" 738 448, dr P "line_buffering" 746 456, dr P "newlines" 754 464, dr P "encoding" 762 472, dr P "errors" 770 480, dr P "close" 777 487, dr P "__enter__" 784 494, dr P "__exit__" 792 501, dr P "readable" 799 508, dr P "writable" 806 515, dr P "seekable" 813 522, dr P "isatty" 820 529, dr P "flush" 827 536, dr P "fileno" 834 543, dr P "detach" 841 550, dr P "getvalue" 848 557, dr P "tell" 855 564, dr P "seek" 865 572, dr P "truncate" 873 580, dr P "read" 885 588, dr P "readline" 895 596, dr P "readlines" 905 604, dr P "__iter__" 912 611, dr P "__next__" 920 618, dr P "write" 932 625, dr P "writelines" 940 632, dr P "__repr__" 947 639, dr P "__static_attributes__" 951 640, de P "__doc__" 952 .none] 2), #[]⟩
noncomputable def o406 : Obj := ⟨(.type "type"), none, (.cls ⟨(Str.ofString "StringIO"), [(.ref 165)], [(.ref 642), (.ref 165), (.ref 138), (.type "object")], 641, (Str.ofString "StringIO"), true, [], [], false, none, false⟩), #[(some (.ref 398)), none, (some (sv "StringIO" 668)), (some (sv "StringIO" 676)), (some .none), (some (.bool true))]⟩
noncomputable def o407 : Obj := ⟨(.type "super"), none, (.fields #[(.ref 642), (.ref 642), (.ref 642)]), #[]⟩
noncomputable def o408 : Obj := ⟨(.type "builtin_function_or_method"), none, (.fields #[(.builtin "object.__init_subclass__"), (.ref 642)]), #[]⟩
def t173 : BT := (.node o7 (.node o88 (.node o8 (lf o328) .nil) (.node o246 (lf o403) .nil)) (.node o8 (.node o210 t3 .nil) (lf o290)))
def t176 : BT := (.node o7 (.node o7 (.node o191 (lf o347) .nil) (lf o271)) (.node o154 (.node o7 (lf o384) .nil) (lf o310)))
def t178 : BT := (.node o58 (.node o100 (.node o7 (lf o337) .nil) (lf o23)) (.node o145 (.node o7 t3 .nil) (lf o300)))
def t180 : BT := (.node (o78 P) (.node o127 (.node o201 t3 .nil) (lf o280)) (.node o164 (.node o237 (lf o393) .nil) (lf o7)))
def t181 : BT := (.node o7 (.node o93 (.node o177 t0 .nil) (lf o251)) (.node o140 (.node o215 t3 .nil) (lf o295)))
def t182 : BT := (.node o8 (.node o118 (.node o196 t0 .nil) (lf o7)) (.node o159 (.node o8 t0 .nil) (lf o315)))
def t184 : BT := (.node o64 (.node o7 (.node o186 (lf o342) .nil) (lf o8)) (.node o7 (.node o7 t3 .nil) (lf o305)))
def t185 : BT := (lf o398)
def t186 : BT := (.node o83 (.node o7 (.node o205 t3 .nil) (lf o285)) (.node o7 (.node o7 t185 .nil) (lf o8)))
def t187 : BT := (.node o7 (.node o7 (.node o25 t173 t176) (.node o35 t178 (t180 P))) (.node o8 (.node o30 t181 t182) (.node o40 t184 t186)))
def t191 : BT := (.node o49 (.node o90 (.node o175 (lf o331) .nil) (.node o8 (lf o407) .nil)) (.node o138 (.node o212 (lf o367) .nil) (lf o292)))
def t193 : BT := (.node o70 (.node o7 (.node o193 t0 .nil) (lf o274)) (.node o8 (.node o230 (lf o387) .nil) (lf o312)))
def t195 : BT := (.node o60 (.node o7 (.node o7 t3 .nil) (lf o264)) (.node o148 (.node o221 (lf o377) .nil) (lf o302)))
def t197 : BT := (.node o80 (.node o7 (.node o202 (lf o358) .nil) (lf o8)) (.node o7 (.node o240 t3 .nil) (lf o321)))
def t199 : BT := (.node o54 (.node o96 (.node o180 t0 .nil) (lf o255)) (.node o143 (.node o7 (lf o372) .nil) (lf o297)))
def t201 : BT := (.node o75 (.node o7 (.node o198 (lf o353) .nil) (lf o7)) (.node o161 (.node o235 t0 .nil) (lf o7)))
def t204 : BT := (.node o7 (.node o111 (.node o8 (lf o344) .nil) (lf o269)) (.node o7 (.node o226 (lf o382) .nil) (lf o307)))
def t207 : BT := (.node o23 (.node o133 (.node o207 (lf o363) .nil) (lf o287)) (.node o170 (.node o7 (lf o400) .nil) (lf o326)))
def t208 : BT := (.node o7 (.node o17 (.node o7 t191 t193) (.node o37 t195 t197)) (.node o7 (.node o8 t199 t201) (.node o44 t204 t207)))
def t211 : BT := (.node (o48 P) (.node o7 (.node o7 (lf o329) .nil) (.node o248 (lf (o405 P)) .nil)) (.node o7 (.node o7 t0 .nil) (lf o7)))
def t213 : BT := (.node o69 (.node o113 (.node o7 t3 .nil) (lf o272)) (.node o156 (.node o229 (lf o385) .nil) (lf o7)))
def t215 : BT := (.node o7 (.node o23 (.node o183 (lf o339) .nil) (lf o7)) (.node o146 (.node o220 t0 .nil) (lf o7)))
def t217 : BT := (.node o8 (.node o8 (.node o7 t0 .nil) (lf o282)) (.node o8 (.node o238 (lf o395) .nil) (lf o320)))
def t219 : BT := (.node o53 (.node (o94 P) (.node o178 (lf o334) .nil) (lf o253)) (.node o141 (.node o8 t0 .nil) (lf o7)))
def t222 : BT := (.node o7 (.node o23 (.node o7 (lf o352) .nil) (lf o277)) (.node o7 (.node o7 (lf o390) .nil) (lf o8)))
def t223 : BT := (.node o8 (.node o121 (.node o188 t0 .nil) (lf o7)) (.node o151 (.node o225 t0 .nil) (lf o7)))
def t224 : BT := (.node o85 (.node o132 (.node o7 t0 .nil) (lf o7)) (.node o169 (.node o243 t0 .nil) (lf o7)))
def t225 : BT := (.node o9 (.node o16 (.node o27 (t211 P) t213) (.node o7 t215 t217)) (.node o21 (.node o32 (t219 P) t222) (.node (o42 P) t223 t224)))
def t227 : BT := (.node o51 (.node o91 (.node o7 t3 .nil) (lf o7)) (.node o7 (.node o213 (lf o369) .nil) (lf o293)))
def t229 : BT := (.node o72 (.node o260 (.node o194 (lf o350) .nil) (lf o8)) (.node o7 (.node o232 t3 .nil) (lf o313)))
def t231 : BT := (.node o62 (.node o106 (.node o185 t0 .nil) (lf o266)) (.node o8 (.node o223 (lf o379) .nil) (lf o303)))
def t233 : BT := (.node (o81 P) (.node o130 (.node o203 (lf o360) .nil) (lf o7)) (.node o167 (.node o8 t0 .nil) (lf o323)))
def t236 : BT := (.node o56 (.node o98 (.node o8 (lf o336) .nil) (lf o257)) (.node o7 (.node o218 (lf o374) .nil) (lf o298)))
def t239 : BT := (.node o77 (.node o125 (.node o199 (lf o355) .nil) (lf o279)) (.node o162 (.node o7 (lf o392) .nil) (lf o318)))
def t241 : BT := (.node o67 (.node o23 (.node o7 (lf o345) .nil) (lf o7)) (.node o153 (.node o228 t0 .nil) (lf o308)))
def t244 : BT := (.node o7 (.node o135 (.node o208 (lf o127) .nil) (lf o288)) (.node o172 (.node o245 (lf o401) .nil) (lf o7)))
def t245 : BT := (.node o11 (.node o19 (.node o29 t227 t229) (.node o38 t231 (t233 P))) (.node (o24 P) (.node o7 t236 t239) (.node o46 t241 t244)))
def t248 : BT := (.node o23 (.node o89 (.node o173 t0 .nil) (.node o247 (lf o404) .nil)) (.node o136 (.node o211 (lf o365) .nil) (lf o291)))
def t249 : BT := (.node o8 (.node o8 (.node o192 t0 .nil) (lf o7)) (.node o155 (.node o8 t0 .nil) (lf o311)))
def t252 : BT := (.node o6 (.node o104 (.node o182 (lf o338) .nil) (lf (o262 P))) (.node o7 (.node o8 (lf o375) .nil) (lf o301)))
def t255 : BT := (.node o7 (.node o7 (.node o127 (lf o356) .nil) (lf o281)) (.node o7 (.node o7 (lf o394) .nil) (lf o8)))
def t258 : BT := (.node o8 (.node o7 (.node o7 (lf o333) .nil) (lf o252)) (.node o7 (.node o7 (lf o370) .nil) (lf o296)))
def t260 : BT := (.node o73 (.node o122 (.node o197 t3 .nil) (lf o276)) (.node o160 (.node o233 (lf o389) .nil) (lf o7)))
def t263 : BT := (.node o7 (.node (o108 P) (.node o187 (lf o343) .nil) (lf o267)) (.node o150 (.node o8 (lf o380) .nil) (lf o306)))
def t264 : BT := (lf o361)
def t265 : BT := (lf o399)
def t266 : BT := (.node o84 (.node o8 (.node o206 t264 .nil) (lf o286)) (.node o8 (.node o242 t265 .nil) (lf o324)))
def t267 : BT := (.node o8 (.node o8 (.node o26 t248 t249) (.node o36 (t252 P) t255)) (.node o20 (.node o31 t258 t260) (.node o41 (t263 P) t266)))
def t270 : BT := (.node o50 (.node o7 (.node o176 t0 .nil) (.node o249 (lf o408) .nil)) (.node o139 (.node o7 (lf o368) .nil) (lf o7)))
def t272 : BT := (.node o71 (.node (o115 P) (.node o7 (lf o349) .nil) (lf o7)) (.node o157 (.node o231 t0 .nil) (lf o7)))
def t275 : BT := (.node o61 (.node o8 (.node o8 (lf o340) .nil) (lf o265)) (.node o7 (.node o222 (lf o378) .nil) (lf o7)))
def t278 : BT := (.node o7 (.node o129 (.node o7 (lf o359) .nil) (lf o283)) (.node o166 (.node o7 (lf o396) .nil) (lf o322)))
def t280 : BT := (.node o55 (.node o97 (.node o7 t3 .nil) (lf o256)) (.node o144 (.node o217 (lf o373) .nil) (lf o7)))
def t282 : BT := (.node o76 (.node o124 (.node o7 (lf o354) .nil) (lf o8)) (.node o7 (.node o236 t3 .nil) (lf o317)))
def t284 : BT := (.node o66 (.node o104 (.node o189 t0 .nil) (lf o270)) (.node o8 (.node o227 (lf o383) .nil) (lf o7)))
def t286 : BT := (.node (o86 P) (.node o134 (.node o7 (lf o364) .nil) (lf o7)) (.node o171 (.node o8 t0 .nil) (lf o327)))
def t287 : BT := (.node o259 (.node o18 (.node o8 t270 (t272 P)) (.node o7 t275 t278)) (.node o23 (.node o33 t280 t282) (.node o45 t284 (t286 P))))
def t291 : BT := (.node o7 (.node o8 (.node o174 (lf o330) .nil) (.node o7 (lf o406) .nil)) (.node o137 (.node o8 (lf o366) .nil) (lf o8)))
def t294 : BT := (.node o7 (.node o114 (.node o8 (lf o348) .nil) (lf o273)) (.node o7 (.node o7 (lf o386) .nil) (lf o8)))
def t296 : BT := (.node (o59 P) (.node (o105 P) (.node o184 t0 .nil) (lf o263)) (.node o147 (.node o7 (lf o376) .nil) (lf o8)))
def t298 : BT := (.node o79 (.node o128 (.node o8 (lf o357) .nil) (lf o7)) (.node o165 (.node o239 t0 .nil) (lf o7)))
def t301 : BT := (.node o7 (.node o103 (.node o179 (lf o335) .nil) (lf (o254 P))) (.node o142 (.node o216 (lf o371) .nil) (lf o8)))
def t303 : BT := (.node o74 (.node (o123 P) (.node o8 t0 .nil) (lf o278)) (.node o8 (.node o234 (lf o391) .nil) (lf o316)))
def t305 : BT := (.node o65 (.node o110 (.node o7 t3 .nil) (lf o268)) (.node o152 (.node o7 (lf o381) .nil) (lf o8)))
def t306 : BT := (lf o362)
def t307 : BT := (.node o7 (.node o7 (.node o8 t306 .nil) (lf o8)) (.node o7 (.node o244 t3 .nil) (lf o325)))
def t308 : BT := (.node o10 (.node o7 (.node o28 t291 t294) (.node o8 (t296 P) t298)) (.node o22 (.node o7 (t301 P) (t303 P)) (.node o43 t305 t307)))
def t310 : BT := (.node o52 (.node o92 (.node o8 (lf o332) .nil) (lf o250)) (.node o8 (.node o214 t0 .nil) (lf o294)))
def t313 : BT := (.node o7 (.node o117 (.node o195 (lf o351) .nil) (lf o275)) (.node o158 (.node o7 (lf o388) .nil) (lf o314)))
def t315 : BT := (.node o63 (.node o107 (.node o7 (lf o341) .nil) (lf o7)) (.node o149 (.node o224 t0 .nil) (lf o304)))
def t316 : BT := (lf o397)
def t317 : BT := (.node o82 (.node o131 (.node o204 t0 .nil) (lf o284)) (.node o168 (.node o241 t316 .nil) (lf o7)))
def t318 : BT := (.node (o57 P) (.node o99 (.node o181 t0 .nil) (lf o261)) (.node o8 (.node o219 t0 .nil) (lf o299)))
def t319 : BT := (.node o23 (.node o126 (.node o200 t0 .nil) (lf o7)) (.node o163 (.node o8 t0 .nil) (lf o319)))
def t321 : BT := (.node o68 (.node (o112 P) (.node o190 (lf o346) .nil) (lf o8)) (.node o7 (.node o127 t3 .nil) (lf o309)))
def t323 : BT := (.node o87 (.node o7 (.node o209 t0 .nil) (lf o289)) (.node o7 (.node o7 (lf o402) .nil) (lf o8)))
def t324 : BT := (.node o12 (.node o7 (.node o7 t310 t313) (.node o39 t315 t317)) (.node o7 (.node o34 (t318 P) t319) (.node o47 (t321 P) t323)))
def t325 : BT := (.node (o0 P) (.node (o1 P) (.node (o258 P) (t187 P) t208) (.node o5 (t225 P) (t245 P))) (.node (o13 P) (.node o4 (t267 P) (t287 P)) (.node o6 (t308 P) (t324 P))))
end
noncomputable def T4 (P : Params) : BT := (t325 P)
theorem p_3 : ∀ (w : World) (os : OsState), segRunT treeTable pw w 11 ann 1 1578 ⟨T3 w.params, 398, {}, #[], ⟨0, 0, 0, 0⟩, 668, os⟩ (piecesOf ((B.drop 15).take 1) env cE ⟨64, 0, 234, 17⟩ fr0) = some (.next, ⟨T4 w.params, 645, {}, #[], ⟨0, 0, 0, 0⟩, 955, os⟩, cE, ⟨235, 0, 440, 17⟩) := by
  intro w os
  rw [PySem.W.Fast.te10110043849684766642, PySem.W.Fast.te14364793385576792824]
  kernel_rfl
section
variable (P : Params)
def o409 : Obj := ⟨.none, none, (.dict #[de P "type.__subclasses__.OSError.0" 334 (.int 118 0), de P "type.__subclasses__.OSError.n" 335 (.int 1 0), de P "type.__subclasses__.Exception.0" 995 (.int 668 0), de P "type.__subclasses__.Exception.n" 996 (.int 1 0)] 4), #[]⟩
def o410 : Obj := ⟨(.type "dict"), none, (.dict #[de P "__name__" 165 (sv "embit.base" 977), de P "__doc__" 166 .none, de P "__package__" 167 .none, de P "__loader__" 168 (.builtin "__main__.__loader__#opaque"), de P "__spec__" 169 .none, dr P "__annotations__" 170 6, dr P "__builtins__" 171 4, de P "__file__" 173 (sv "/claim/cut.py" 172), de P "__cached__" 174 .none, dr P "_wall" 193 21, dr P "hexlify" 201 26, dr P "Sha256" 247 58, dr P "hashlib" 287 83, dr P "to_bytes" 297 94, dr P "_whence" 307 101, dr P "_index" 315 108, dr P "UnsupportedOperation" 337 118, dr P "IOBase" 369 138, dr P "BufferedIOBase" 387 153, dr P "TextIOBase" 405 165, dr P "BytesIO" 667 395, dr P "StringIO" 954 642, dr P "read_from" 966 651, dr P "read_from_compact" 967 651, dr P "double_sha256" 976 658, dr P "EmbitError" 998 668, dr P "EmbitBase" 1140 753] 27), #[]⟩
noncomputable def o411 : Obj := ⟨.none, none, (.fields #[(.int 1 0), (.int 0 0), (.ref 20), (.int 5 0), (.int 0 0), (.ref 25), (.int 8 0), (.int 0 0), (.ref 32), (.int 19 0), (.int 0 0), (.ref 68), (.int 25 0), (.int 0 0), (.ref 93), (.int 39 0), (.int 0 0), (.ref 100), (.int 44 0), (.int 0 0), (.ref 107), (.int 51 0), (.int 0 0), (.ref 114), (.int 53 0), (.int 0 0), (.ref 127), (.int 60 0), (.int 0 0), (.ref 149), (.int 62 0), (.int 0 0), (.ref 161), (.int 64 0), (.int 0 0), (.ref 173), (.int 235 0), (.int 0 0), (.ref 403), (.int 442 0), (.int 0 0), (.ref 650), (.int 456 0), (.int 0 0), (.ref 657), (.int 459 0), (.int 0 0), (.ref 664), (.int 461 0), (.int 0 0), (.ref 677)]), #[]⟩
def o412 : Obj := uO #[sv "stream" 960, sv "c" 961, sv "i" 962, sv "bytes_to_read" 963]
def o413 : Obj := fN (nth B 17) "read_from"
def o414 : Obj := cO "read_from" 957 "read_from" 958 959 442 1 0 0 3 645 true 181 646 .none (.ref 647) (.ref 648) (.ref 649) 964 442 965
def o415 : Obj := gN (nth B 17) "read_from" .none .none .none "embit.compact" 955 (.ref 650) .none 3 0
def o416 : Obj := uO #[sv "msg" 973]
def o417 : Obj := fN (nth B 20) "double_sha256"
def o418 : Obj := cO "double_sha256" 970 "double_sha256" 971 972 456 1 0 0 3 652 true 181 653 .none (.ref 654) (.ref 655) (.ref 656) 974 456 975
def o419 : Obj := gN (nth B 20) "double_sha256" .none .none .none "embit.hashes" 968 (.ref 657) .none 3 0
def o420 : Obj := uO #[(.type "Exception")]
def o421 : Obj := ⟨(.type "dict"), none, (.dict #[de P "__module__" 986 (sv "embit.base" 977), de P "__qualname__" 988 (sv "EmbitError" 987), de P "__firstlineno__" 990 (.int 459 989), dr P "__static_attributes__" 991 666] 4), #[]⟩
def o422 : Obj := cO "EmbitError" 981 "EmbitError" 982 983 459 0 0 0 0 662 false 181 663 .none .none .none .none 984 459 985
noncomputable def o423 : Obj := ⟨(.type "frame"), none, .plain, #[(some (.ref 664)), (some (.ref 3)), (some (.ref 661)), none, (some (sv "embit.base" 977)), none, (some (.ref 0))]⟩
def o424 : Obj := ⟨(.type "dict"), none, (.dict #[de P "__module__" 986 (sv "embit.base" 977), de P "__firstlineno__" 990 (.int 459 989), dr P "__static_attributes__" 991 666, dr P "__weakref__" 993 669, de P "__doc__" 994 .none] 3), #[]⟩
noncomputable def o425 : Obj := ⟨(.type "type"), none, (.cls ⟨(Str.ofString "EmbitError"), [(.type "Exception")], [(.ref 668), (.type "Exception"), (.type "BaseException"), (.type "object")], 667, (Str.ofString "EmbitError"), true, [], [], false, none, false⟩), #[(some (.ref 659)), none, (some (sv "EmbitError" 979)), (some (sv "EmbitError" 987)), (some (.builtin "Exception.__new__")), (some (.bool true))]⟩
noncomputable def o426 : Obj := ⟨(.type "getset_descriptor"), none, (.fields #[(sv "__weakref__" 992), (.ref 668), (.builtin "ExceptionGroup.__weakref__"), .none]), #[]⟩
noncomputable def o427 : Obj := ⟨(.type "super"), none, (.fields #[(.ref 668), (.ref 668), (.ref 668)]), #[]⟩
noncomputable def o428 : Obj := ⟨(.type "builtin_function_or_method"), none, (.fields #[(.builtin "object.__init_subclass__"), (.ref 668)]), #[]⟩
def o429 : Obj := ⟨(.type "dict"), none, (.dict #[de P "__module__" 1006 (sv "embit.base" 977), de P "__qualname__" 1008 (sv "EmbitBase" 1007), de P "__firstlineno__" 1010 (.int 461 1009), dr P "read_from" 1032 687, dr P "parse" 1056 697, dr P "write_to" 1066 705, dr P "serialize" 1076 712, dr P "to_string" 1086 719, dr P "from_string" 1108 728, dr P "__str__" 1115 736, dr P "__eq__" 1123 743, dr P "__ne__" 1131 750, dr P "__static_attributes__" 1132 751] 13), #[]⟩
noncomputable def o430 : Obj := ⟨.none, none, (.fields #[(.int 464 0), (.int 4 0), (.ref 684), (.int 468 0), (.int 4 0), (.ref 694), (.int 475 0), (.int 4 0), (.ref 704), (.int 478 0), (.int 4 0), (.ref 711), (.int 483 0), (.int 4 0), (.ref 718), (.int 492 0), (.int 4 0), (.ref 725), (.int 495 0), (.int 4 0), (.ref 735), (.int 498 0), (.int 4 0), (.ref 742), (.int 503 0), (.int 4 0), (.ref 749)]), #[]⟩
def o431 : Obj := cO "EmbitBase" 1001 "EmbitBase" 1002 1003 461 0 0 0 0 675 false 181 676 .none .none .none .none 1004 461 1005
noncomputable def o432 : Obj := ⟨(.type "frame"), none, .plain, #[(some (.ref 677)), (some (.ref 3)), (some (.ref 674)), none, (some (sv "embit.base" 977)), none, (some (.ref 0))]⟩
def o433 : Obj := uO #[sv "cls" 1014, sv "stream" 1015, sv "args" 1016, sv "kwargs" 1017]
def o434 : Obj := fN (nth (clsB (nth B 23)) 0) "EmbitBase.read_from"
def o435 : Obj := cO "read_from" 1011 "EmbitBase.read_from" 1012 1013 463 2 0 0 15 679 true 181 680 .none (.ref 681) (.ref 682) (.ref 683) 1018 463 1019
def o436 : Obj := ⟨(.type "function"), none, (fnD (nth (clsB (nth B 23)) 0) (Str.ofString "EmbitBase.read_from") .none .none .none (sv "embit.base" 977) (some 688) (.ref 684) .none 3 0), #[]⟩
def o437 : Obj := ⟨(.type "dict"), none, (.dict #[de P "__module__" 1021 (sv "embit.base" 977), de P "__name__" 1024 (sv "read_from" 1023), de P "__qualname__" 1027 (sv "EmbitBase.read_from" 1026), de P "__doc__" 1029 .none, dr P "__annotations__" 1031 688] 5), #[]⟩
noncomputable def o438 : Obj := ⟨(.type "classmethod"), (some 686), (.fields #[(.ref 685), (.bool false)]), #[]⟩
def o439 : Obj := uO #[sv "cls" 1036, sv "s" 1037, sv "args" 1038, sv "kwargs" 1039, sv "stream" 1040, sv "res" 1041]
def o440 : Obj := fN (nth (clsB (nth B 23)) 1) "EmbitBase.parse"
def o441 : Obj := cO "parse" 1033 "EmbitBase.parse" 1034 1035 467 2 0 0 15 689 true 181 690 .none (.ref 691) (.ref 692) (.ref 693) 1042 467 1043
def o442 : Obj := ⟨(.type "function"), none, (fnD (nth (clsB (nth B 23)) 1) (Str.ofString "EmbitBase.parse") .none .none .none (sv "embit.base" 977) (some 698) (.ref 694) .none 3 0), #[]⟩
def o443 : Obj := ⟨(.type "dict"), none, (.dict #[de P "__module__" 1045 (sv "embit.base" 977), de P "__name__" 1048 (sv "parse" 1047), de P "__qualname__" 1051 (sv "EmbitBase.parse" 1050), de P "__doc__" 1053 .none, dr P "__annotations__" 1055 698] 5), #[]⟩
noncomputable def o444 : Obj := ⟨(.type "classmethod"), (some 696), (.fields #[(.ref 695), (.bool false)]), #[]⟩
def o445 : Obj := uO #[sv "self" 1060, sv "stream" 1061, sv "args" 1062, sv "kwargs" 1063]
def o446 : Obj := fN (nth (clsB (nth B 23)) 2) "EmbitBase.write_to"
def o447 : Obj := cO "write_to" 1057 "EmbitBase.write_to" 1058 1059 475 2 0 0 15 699 true 181 700 .none (.ref 701) (.ref 702) (.ref 703) 1064 475 1065
def o448 : Obj := gN (nth (clsB (nth B 23)) 2) "EmbitBase.write_to" .none .none .none "embit.base" 977 (.ref 704) .none 3 0
def o449 : Obj := uO #[sv "self" 1070, sv "args" 1071, sv "kwargs" 1072, sv "stream" 1073]
def o450 : Obj := fN (nth (clsB (nth B 23)) 3) "EmbitBase.serialize"
def o451 : Obj := cO "serialize" 1067 "EmbitBase.serialize" 1068 1069 478 1 0 0 15 706 true 181 707 .none (.ref 708) (.ref 709) (.ref 710) 1074 478 1075
def o452 : Obj := gN (nth (clsB (nth B 23)) 3) "EmbitBase.serialize" .none .none .none "embit.base" 977 (.ref 711) .none 3 0
def o453 : Obj := uO #[sv "self" 1080, sv "args" 1081, sv "kwargs" 1082, sv "res" 1083]
def o454 : Obj := fN (nth (clsB (nth B 23)) 4) "EmbitBase.to_string"
def o455 : Obj := cO "to_string" 1077 "EmbitBase.to_string" 1078 1079 483 1 0 0 15 713 true 181 714 .none (.ref 715) (.ref 716) (.ref 717) 1084 483 1085
def o456 : Obj := gN (nth (clsB (nth B 23)) 4) "EmbitBase.to_string" .none .none .none "embit.base" 977 (.ref 718) .none 3 0
def o457 : Obj := uO #[sv "cls" 1090, sv "s" 1091, sv "args" 1092, sv "kwargs" 1093]
def o458 : Obj := fN (nth (clsB (nth B 23)) 5) "EmbitBase.from_string"
def o459 : Obj := cO "from_string" 1087 "EmbitBase.from_string" 1088 1089 491 2 0 0 15 720 true 181 721 .none (.ref 722) (.ref 723) (.ref 724) 1094 491 1095
def o460 : Obj := ⟨(.type "function"), none, (fnD (nth (clsB (nth B 23)) 5) (Str.ofString "EmbitBase.from_string") .none .none .none (sv "embit.base" 977) (some 729) (.ref 725) .none 3 0), #[]⟩
def o461 : Obj := ⟨(.type "dict"), none, (.dict #[de P "__module__" 1097 (sv "embit.base" 977), de P "__name__" 1100 (sv "from_string" 1099), de P "__qualname__" 1103 (sv "EmbitBase.from_string" 1102), de P "__doc__" 1105 .none, dr P "__annotations__" 1107 729] 5), #[]⟩
noncomputable def o462 : Obj := ⟨(.type "classmethod"), (some 727), (.fields #[(.ref 726), (.bool false)]), #[]⟩
def o463 : Obj := uO #[sv "self" 1112]
def o464 : Obj := fN (nth (clsB (nth B 23)) 6) "EmbitBase.__str__"
def o465 : Obj := cO "__str__" 1109 "EmbitBase.__str__" 1110 1111 495 1 0 0 3 730 true 181 731 .none (.ref 732) (.ref 733) (.ref 734) 1113 495 1114
def o466 : Obj := gN (nth (clsB (nth B 23)) 6) "EmbitBase.__str__" .none .none .none "embit.base" 977 (.ref 735) .none 3 0
def o467 : Obj := uO #[sv "self" 1119, sv "other" 1120]
def o468 : Obj := fN (nth (clsB (nth B 23)) 7) "EmbitBase.__eq__"
def o469 : Obj := cO "__eq__" 1116 "EmbitBase.__eq__" 1117 1118 498 2 0 0 3 737 true 181 738 .none (.ref 739) (.ref 740) (.ref 741) 1121 498 1122
def o470 : Obj := gN (nth (clsB (nth B 23)) 7) "EmbitBase.__eq__" .none .none .none "embit.base" 977 (.ref 742) .none 3 0
def o471 : Obj := uO #[sv "self" 1127, sv "other" 1128]
def o472 : Obj := fN (nth (clsB (nth B 23)) 8) "EmbitBase.__ne__"
def o473 : Obj := cO "__ne__" 1124 "EmbitBase.__ne__" 1125 1126 503 2 0 0 3 744 true 181 745 .none (.ref 746) (.ref 747) (.ref 748) 1129 503 1130
def o474 : Obj := gN (nth (clsB (nth B 23)) 8) "EmbitBase.__ne__" .none .none .none "embit.base" 977 (.ref 749) .none 3 0
def o475 : Obj := ⟨(.type "dict"), none, (.dict #[de P "__module__" 1006 (sv "embit.base" 977), de P "__firstlineno__" 1010 (.int 461 1009), dr P "read_from" 1032 687, dr P "parse" 1056 697, dr P "write_to" 1066 705, dr P "serialize" 1076 712, dr P "to_string" 1086 719, dr P "from_string" 1108 728, dr P "__str__" 1115 736, dr P "__eq__" 1123 743, dr P "__ne__" 1131 750, dr P "__static_attributes__" 1132 751, dr P "__dict__" 1134 754, dr P "__weakref__" 1136 755, de P "__doc__" 1137 .none, de P "__hash__" 1138 .none] 5), #[]⟩
noncomputable def o476 : Obj := ⟨(.type "type"), none, (.cls ⟨(Str.ofString "EmbitBase"), [(.type "object")], [(.ref 753), (.type "object")], 752, (Str.ofString "EmbitBase"), true, [], [], false, none, false⟩), #[none, none, (some (sv "EmbitBase" 999)), (some (sv "EmbitBase" 1007)), (some (.builtin "object.__new__")), (some (.bool true))]⟩
noncomputable def o477 : Obj := ⟨(.type "getset_descriptor"), none, (.fields #[(sv "__dict__" 1133), (.ref 753), (.builtin "function.__dict__"), (.builtin "function.__dict__#set")]), #[]⟩
noncomputable def o478 : Obj := ⟨(.type "getset_descriptor"), none, (.fields #[(sv "__weakref__" 1135), (.ref 753), (.builtin "ExceptionGroup.__weakref__"), .none]), #[]⟩
noncomputable def o479 : Obj := ⟨(.type "super"), none, (.fields #[(.ref 753), (.ref 753), (.ref 753)]), #[]⟩
noncomputable def o480 : Obj := ⟨(.type "builtin_function_or_method"), none, (.fields #[(.builtin "object.__init_subclass__"), (.ref 753)]), #[]⟩
def t327 : BT := (.node o7 (.node o88 (.node o8 (lf o328) .nil) (.node o246 (lf o403) .nil)) (.node o8 (.node o210 t3 .nil) (.node o290 (lf o446) .nil)))
def t330 : BT := (.node o7 (.node o7 (.node o191 (lf o347) .nil) (.node o271 (lf o428) .nil)) (.node o154 (.node o7 (lf o384) .nil) (.node o310 (lf o465) .nil)))
def t332 : BT := (.node o58 (.node o100 (.node o7 (lf o337) .nil) (.node o23 t0 .nil)) (.node o145 (.node o7 t3 .nil) (.node o300 (lf o456) .nil)))
def t334 : BT := (.node (o78 P) (.node o127 (.node o201 t3 .nil) (.node o280 (lf o438) .nil)) (.node o164 (.node o237 (lf o393) .nil) (.node o7 t0 .nil)))
def t337 : BT := (.node o7 (.node o93 (.node o177 t0 .nil) (.node o251 (lf o412) .nil)) (.node o140 (.node o215 t3 .nil) (.node o295 (lf o451) .nil)))
def t339 : BT := (.node o8 (.node o118 (.node o196 t0 .nil) (.node o7 t0 .nil)) (.node o159 (.node o8 t0 .nil) (.node o315 (lf o470) .nil)))
def t341 : BT := (.node o64 (.node o7 (.node o186 (lf o342) .nil) (.node o8 t3 .nil)) (.node o7 (.node o7 t3 .nil) (.node o305 (lf (o461 P)) .nil)))
def t342 : BT := (lf o442)
def t343 : BT := (.node o83 (.node o7 (.node o205 t3 .nil) (.node o285 t342 .nil)) (.node o7 (.node o7 t185 .nil) (lf o8)))
def t344 : BT := (.node o7 (.node o7 (.node o25 t327 t330) (.node o35 t332 (t334 P))) (.node o8 (.node o30 t337 t339) (.node o40 (t341 P) t343)))
def t345 : BT := (.node o49 (.node o90 (.node o175 (lf o331) .nil) (.node o8 (lf o407) .nil)) (.node o138 (.node o212 (lf o367) .nil) (.node o292 t3 .nil)))
def t347 : BT := (.node o70 (.node o7 (.node o193 t0 .nil) (.node o274 t0 .nil)) (.node o8 (.node o230 (lf o387) .nil) (.node o312 (lf o467) .nil)))
def t349 : BT := (.node o60 (.node o7 (.node o7 t3 .nil) (.node o264 (lf o420) .nil)) (.node o148 (.node o221 (lf o377) .nil) (.node o302 t0 .nil)))
def t352 : BT := (.node o80 (.node o7 (.node o202 (lf o358) .nil) (.node o8 (lf o439) .nil)) (.node o7 (.node o240 t3 .nil) (.node o321 (lf o478) .nil)))
def t355 : BT := (.node o54 (.node o96 (.node o180 t0 .nil) (.node o255 (lf o415) .nil)) (.node o143 (.node o7 (lf o372) .nil) (.node o297 (lf o453) .nil)))
def t357 : BT := (.node o75 (.node o7 (.node o198 (lf o353) .nil) (.node o7 (lf o434) .nil)) (.node o161 (.node o235 t0 .nil) (.node o7 t0 .nil)))
def t359 : BT := (.node o7 (.node o111 (.node o8 (lf o344) .nil) (.node o269 (lf (o424 P)) .nil)) (.node o7 (.node o226 (lf o382) .nil) (.node o307 t3 .nil)))
def t360 : BT := (.node o23 (.node o133 (.node o207 (lf o363) .nil) (.node o287 t0 .nil)) (.node o170 (.node o7 (lf o400) .nil) (lf o326)))
def t361 : BT := (.node o7 (.node o17 (.node o7 t345 t347) (.node o37 t349 t352)) (.node o7 (.node o8 t355 t357) (.node o44 (t359 P) t360)))
def t363 : BT := (.node (o48 P) (.node o7 (.node o7 (lf o329) .nil) (.node o248 (lf (o405 P)) .nil)) (.node o7 (.node o7 t0 .nil) (.node o7 (lf o448) .nil)))
def t364 : BT := (.node o69 (.node o113 (.node o7 t3 .nil) (.node o272 t20 .nil)) (.node o156 (.node o229 (lf o385) .nil) (.node o7 t0 .nil)))
def t366 : BT := (.node o7 (.node o23 (.node o183 (lf o339) .nil) (.node o7 (lf o418) .nil)) (.node o146 (.node o220 t0 .nil) (.node o7 t3 .nil)))
def t368 : BT := (.node o8 (.node o8 (.node o7 t0 .nil) (.node o282 t0 .nil)) (.node o8 (.node o238 (lf o395) .nil) (.node o320 (lf o476) .nil)))
def t370 : BT := (.node o53 (.node (o94 P) (.node o178 (lf o334) .nil) (.node o253 (lf o413) .nil)) (.node o141 (.node o8 t0 .nil) (.node o7 t0 .nil)))
def t372 : BT := (.node o7 (.node o23 (.node o7 (lf o352) .nil) (.node o277 (lf o433) .nil)) (.node o7 (.node o7 (lf o390) .nil) (.node o8 t3 .nil)))
def t374 : BT := (.node o8 (.node o121 (.node o188 t0 .nil) (.node o7 (lf o423) .nil)) (.node o151 (.node o225 t0 .nil) (.node o7 t36 .nil)))
def t375 : BT := (lf o444)
def t376 : BT := (.node o85 (.node o132 (.node o7 t0 .nil) (.node o7 t375 .nil)) (.node o169 (.node o243 t0 .nil) (lf o7)))
def t377 : BT := (.node o9 (.node o16 (.node o27 (t363 P) t364) (.node o7 t366 t368)) (.node o21 (.node o32 (t370 P) t372) (.node (o42 P) t374 t376)))
def t378 : BT := (.node o51 (.node o91 (.node o7 t3 .nil) (.node o7 t0 .nil)) (.node o7 (.node o213 (lf o369) .nil) (.node o293 t0 .nil)))
def t381 : BT := (.node o72 (.node o260 (.node o194 (lf o350) .nil) (.node o8 (lf o431) .nil)) (.node o7 (.node o232 t3 .nil) (.node o313 (lf o468) .nil)))
def t384 : BT := (.node o62 (.node o106 (.node o185 t0 .nil) (.node o266 (lf (o421 P)) .nil)) (.node o8 (.node o223 (lf o379) .nil) (.node o303 (lf o459) .nil)))
def t387 : BT := (.node (o81 P) (.node o130 (.node o203 (lf o360) .nil) (.node o7 (lf o440) .nil)) (.node o167 (.node o8 t0 .nil) (.node o323 (lf o480) .nil)))
def t389 : BT := (.node o56 (.node o98 (.node o8 (lf o336) .nil) (.node o257 t3 .nil)) (.node o7 (.node o218 (lf o374) .nil) (.node o298 (lf o454) .nil)))
def t392 : BT := (.node o77 (.node o125 (.node o199 (lf o355) .nil) (.node o279 (lf o436) .nil)) (.node o162 (.node o7 (lf o392) .nil) (.node o318 (lf o473) .nil)))
def t394 : BT := (.node o67 (.node o23 (.node o7 (lf o345) .nil) (.node o7 (lf o426) .nil)) (.node o153 (.node o228 t0 .nil) (.node o308 t0 .nil)))
def t396 : BT := (.node o7 (.node o135 (.node o208 (lf o127) .nil) (.node o288 (lf o445) .nil)) (.node o172 (.node o245 (lf o401) .nil) (lf o7)))
def t397 : BT := (.node o11 (.node o19 (.node o29 t378 t381) (.node o38 (t384 P) (t387 P))) (.node (o24 P) (.node o7 t389 t392) (.node o46 t394 t396)))
def t399 : BT := (.node o23 (.node o89 (.node o173 t0 .nil) (.node o247 (lf o404) .nil)) (.node o136 (.node o211 (lf o365) .nil) (.node o291 (lf o447) .nil)))
def t401 : BT := (.node o8 (.node o8 (.node o192 t0 .nil) (.node o7 t0 .nil)) (.node o155 (.node o8 t0 .nil) (.node o311 (lf o466) .nil)))
def t403 : BT := (.node o6 (.node o104 (.node o182 (lf o338) .nil) (.node (o262 P) (lf o417) .nil)) (.node o7 (.node o8 (lf o375) .nil) (.node o301 t0 .nil)))
def t405 : BT := (.node o7 (.node o7 (.node o127 (lf o356) .nil) (.node o281 t36 .nil)) (.node o7 (.node o7 (lf o394) .nil) (.node o8 (lf (o475 P)) .nil)))
def t407 : BT := (.node o8 (.node o7 (.node o7 (lf o333) .nil) (.node o252 t0 .nil)) (.node o7 (.node o7 (lf o370) .nil) (.node o296 (lf o452) .nil)))
def t408 : BT := (.node o73 (.node o122 (.node o197 t3 .nil) (.node o276 t3 .nil)) (.node o160 (.node o233 (lf o389) .nil) (.node o7 t0 .nil)))
def t411 : BT := (.node o7 (.node (o108 P) (.node o187 (lf o343) .nil) (.node o267 (lf o422) .nil)) (.node o150 (.node o8 (lf o380) .nil) (.node o306 (lf o462) .nil)))
def t412 : BT := (lf (o443 P))
def t413 : BT := (.node o84 (.node o8 (.node o206 t264 .nil) (.node o286 (t412 P) .nil)) (.node o8 (.node o242 t265 .nil) (lf o324)))
def t414 : BT := (.node o8 (.node o8 (.node o26 t399 t401) (.node o36 (t403 P) (t405 P))) (.node o20 (.node o31 t407 t408) (.node o41 (t411 P) (t413 P))))
def t416 : BT := (.node o50 (.node o7 (.node o176 t0 .nil) (.node o249 (lf o408) .nil)) (.node o139 (.node o7 (lf o368) .nil) (.node o7 (lf o449) .nil)))
def t418 : BT := (.node o71 (.node (o115 P) (.node o7 (lf o349) .nil) (.node o7 (lf o430) .nil)) (.node o157 (.node o231 t0 .nil) (.node o7 t0 .nil)))
def t420 : BT := (.node o61 (.node o8 (.node o8 (lf o340) .nil) (.node o265 t20 .nil)) (.node o7 (.node o222 (lf o378) .nil) (.node o7 (lf o458) .nil)))
def t422 : BT := (.node o7 (.node o129 (.node o7 (lf o359) .nil) (.node o283 t0 .nil)) (.node o166 (.node o7 (lf o396) .nil) (.node o322 (lf o479) .nil)))
def t423 : BT := (.node o55 (.node o97 (.node o7 t3 .nil) (.node o256 t0 .nil)) (.node o144 (.node o217 (lf o373) .nil) (.node o7 t0 .nil)))
def t426 : BT := (.node o76 (.node o124 (.node o7 (lf o354) .nil) (.node o8 (lf o435) .nil)) (.node o7 (.node o236 t3 .nil) (.node o317 (lf o472) .nil)))
def t429 : BT := (.node o66 (.node o104 (.node o189 t0 .nil) (.node o270 (lf o425) .nil)) (.node o8 (.node o227 (lf o383) .nil) (.node o7 (lf o463) .nil)))
def t430 : BT := (.node (o86 P) (.node o134 (.node o7 (lf o364) .nil) (.node o7 t3 .nil)) (.node o171 (.node o8 t0 .nil) (lf o327)))
def t431 : BT := (.node o411 (.node o18 (.node o8 t416 (t418 P)) (.node o7 t420 t422)) (.node o23 (.node o33 t423 t426) (.node o45 t429 (t430 P))))
def t432 : BT := (.node o7 (.node o8 (.node o174 (lf o330) .nil) (.node o7 (lf o406) .nil)) (.node o137 (.node o8 (lf o366) .nil) (.node o8 t0 .nil)))
def t434 : BT := (.node o7 (.node o114 (.node o8 (lf o348) .nil) (.node o273 (lf (o429 P)) .nil)) (.node o7 (.node o7 (lf o386) .nil) (.node o8 t3 .nil)))
def t437 : BT := (.node (o59 P) (.node (o105 P) (.node o184 t0 .nil) (.node o263 (lf o419) .nil)) (.node o147 (.node o7 (lf o376) .nil) (.node o8 (lf o457) .nil)))
def t439 : BT := (.node o79 (.node o128 (.node o8 (lf o357) .nil) (.node o7 t3 .nil)) (.node o165 (.node o239 t0 .nil) (.node o7 (lf o477) .nil)))
def t441 : BT := (.node o7 (.node o103 (.node o179 (lf o335) .nil) (.node (o254 P) (lf o414) .nil)) (.node o142 (.node o216 (lf o371) .nil) (.node o8 t3 .nil)))
def t443 : BT := (.node o74 (.node (o123 P) (.node o8 t0 .nil) (.node o278 t0 .nil)) (.node o8 (.node o234 (lf o391) .nil) (.node o316 (lf o471) .nil)))
def t444 : BT := (.node o65 (.node o110 (.node o7 t3 .nil) (.node o268 t0 .nil)) (.node o152 (.node o7 (lf o381) .nil) (.node o8 t0 .nil)))
def t445 : BT := (.node o7 (.node o7 (.node o8 t306 .nil) (.node o8 t36 .nil)) (.node o7 (.node o244 t3 .nil) (lf o325)))
def t446 : BT := (.node o10 (.node o7 (.node o28 t432 (t434 P)) (.node o8 (t437 P) t439)) (.node o22 (.node o7 (t441 P) (t443 P)) (.node o43 t444 t445)))
def t448 : BT := (.node o52 (.node o92 (.node o8 (lf o332) .nil) (.node o250 t3 .nil)) (.node o8 (.node o214 t0 .nil) (.node o294 (lf o450) .nil)))
def t451 : BT := (.node o7 (.node o117 (.node o195 (lf o351) .nil) (.node o275 (lf o432) .nil)) (.node o158 (.node o7 (lf o388) .nil) (.node o314 (lf o469) .nil)))
def t453 : BT := (.node o63 (.node o107 (.node o7 (lf o341) .nil) (.node o7 t0 .nil)) (.node o149 (.node o224 t0 .nil) (.node o304 (lf o460) .nil)))
def t454 : BT := (lf o441)
def t455 : BT := (.node o82 (.node o131 (.node o204 t0 .nil) (.node o284 t454 .nil)) (.node o168 (.node o241 t316 .nil) (lf o7)))
def t458 : BT := (.node (o57 P) (.node o99 (.node o181 t0 .nil) (.node o261 (lf o416) .nil)) (.node o8 (.node o219 t0 .nil) (.node o299 (lf o455) .nil)))
def t461 : BT := (.node o23 (.node o126 (.node o200 t0 .nil) (.node o7 (lf (o437 P)) .nil)) (.node o163 (.node o8 t0 .nil) (.node o319 (lf o474) .nil)))
def t464 : BT := (.node o68 (.node (o112 P) (.node o190 (lf o346) .nil) (.node o8 (lf o427) .nil)) (.node o7 (.node o127 t3 .nil) (.node o309 (lf o464) .nil)))
def t465 : BT := (.node o87 (.node o7 (.node o209 t0 .nil) (.node o289 t0 .nil)) (.node o7 (.node o7 (lf o402) .nil) (lf o8)))
def t466 : BT := (.node o12 (.node o7 (.node o7 t448 t451) (.node o39 t453 t455)) (.node o7 (.node o34 (t458 P) (t461 P)) (.node o47 (t464 P) t465)))
def t467 : BT := (.node (o0 P) (.node (o1 P) (.node (o410 P) (t344 P) (t361 P)) (.node o5 (t377 P) (t397 P))) (.node (o409 P) (.node o4 (t414 P) (t431 P)) (.node o6 (t446 P) (t466 P))))
end
noncomputable def T5 (P : Params) : BT := (t467 P)
theorem p_4 : ∀ (w : World) (os : OsState), segRunT treeTable pw w 11 ann 1 1187 ⟨T4 w.params, 645, {}, #[], ⟨0, 0, 0, 0⟩, 955, os⟩ (piecesOf ((B.drop 16).take 8) env cE ⟨235, 0, 440, 17⟩ fr0) = some (.next, ⟨T5 w.params, 758, {}, #[], ⟨0, 0, 0, 0⟩, 1141, os⟩, cE, ⟨461, 0, 504, 37⟩) := by
  intro w os
  rw [PySem.W.Fast.te10110043849684766642, PySem.W.Fast.te14364793385576792824]
  kernel_rfl
section
variable (P : Params)
def o481 : Obj := ⟨(.type "dict"), none, (.dict #[de P "__name__" 165 (sv "embit.script" 1330), de P "__doc__" 166 .none, de P "__package__" 167 .none, de P "__loader__" 168 (.builtin "__main__.__loader__#opaque"), de P "__spec__" 169 .none, dr P "__annotations__" 170 6, dr P "__builtins__" 171 4, de P "__file__" 173 (sv "/claim/cut.py" 172), de P "__cached__" 174 .none, dr P "_wall" 193 21, dr P "hexlify" 201 26, dr P "Sha256" 247 58, dr P "hashlib" 287 83, dr P "to_bytes" 297 94, dr P "_whence" 307 101, dr P "_index" 315 108, dr P "UnsupportedOperation" 337 118, dr P "IOBase" 369 138, dr P "BufferedIOBase" 387 153, dr P "TextIOBase" 405 165, dr P "BytesIO" 667 395, dr P "StringIO" 954 642, dr P "read_from" 966 651, dr P "read_from_compact" 967 651, dr P "double_sha256" 976 658, dr P "EmbitError" 998 668, dr P "EmbitBase" 1140 753, dr P "NETWORKS" 1329 758] 28), #[]⟩
def o482 : Obj := ⟨(.type "dict"), none, (.dict #[dr P "main" 1141 759, dr P "test" 1187 760, dr P "regtest" 1233 761, dr P "signet" 1279 762] 4), #[]⟩
def o483 : Obj := ⟨(.type "dict"), none, (.dict #[de P "name" 1142 (sv "Mainnet" 1143), de P "wif" 1144 (.bytes #[128] 1145), de P "p2pkh" 1146 (.bytes #[0] 1147), de P "p2sh" 1148 (.bytes #[5] 1149), de P "bech32" 1150 (sv "bc" 1151), de P "xprv" 1152 (.bytes #[4, 136, 173, 228] 1153), de P "xpub" 1154 (.bytes #[4, 136, 178, 30] 1155), de P "yprv" 1156 (.bytes #[4, 157, 120, 120] 1157), de P "zprv" 1158 (.bytes #[4, 178, 67, 12] 1159), de P "Yprv" 1160 (.bytes #[2, 149, 176, 5] 1161), de P "Zprv" 1162 (.bytes #[2, 170, 122, 153] 1163), de P "ypub" 1164 (.bytes #[4, 157, 124, 178] 1165), de P "zpub" 1166 (.bytes #[4, 178, 71, 70] 1167), de P "Ypub" 1168 (.bytes #[2, 149, 180, 63] 1169), de P "Zpub" 1170 (.bytes #[2, 170, 126, 211] 1171)] 15), #[]⟩
def o484 : Obj := ⟨(.type "dict"), none, (.dict #[de P "name" 1188 (sv "Testnet" 1189), de P "wif" 1190 (.bytes #[239] 1191), de P "p2pkh" 1192 (.bytes #[111] 1193), de P "p2sh" 1194 (.bytes #[196] 1195), de P "bech32" 1196 (sv "tb" 1197), de P "xprv" 1198 (.bytes #[4, 53, 131, 148] 1199), de P "xpub" 1200 (.bytes #[4, 53, 135, 207] 1201), de P "yprv" 1202 (.bytes #[4, 74, 78, 40] 1203), de P "zprv" 1204 (.bytes #[4, 95, 24, 188] 1205), de P "Yprv" 1206 (.bytes #[2, 66, 133, 181] 1207), de P "Zprv" 1208 (.bytes #[2, 87, 80, 72] 1209), de P "ypub" 1210 (.bytes #[4, 74, 82, 98] 1211), de P "zpub" 1212 (.bytes #[4, 95, 28, 246] 1213), de P "Ypub" 1214 (.bytes #[2, 66, 137, 239] 1215), de P "Zpub" 1216 (.bytes #[2, 87, 84, 131] 1217)] 15), #[]⟩
def o485 : Obj := ⟨(.type "dict"), none, (.dict #[de P "name" 1234 (sv "Regtest" 1235), de P "wif" 1236 (.bytes #[239] 1237), de P "p2pkh" 1238 (.bytes #[111] 1239), de P "p2sh" 1240 (.bytes #[196] 1241), de P "bech32" 1242 (sv "bcrt" 1243), de P "xprv" 1244 (.bytes #[4, 53, 131, 148] 1245), de P "xpub" 1246 (.bytes #[4, 53, 135, 207] 1247), de P "yprv" 1248 (.bytes #[4, 74, 78, 40] 1249), de P "zprv" 1250 (.bytes #[4, 95, 24, 188] 1251), de P "Yprv" 1252 (.bytes #[2, 66, 133, 181] 1253), de P "Zprv" 1254 (.bytes #[2, 87, 80, 72] 1255), de P "ypub" 1256 (.bytes #[4, 74, 82, 98] 1257), de P "zpub" 1258 (.bytes #[4, 95, 28, 246] 1259), de P "Ypub" 1260 (.bytes #[2, 66, 137, 239] 1261), de P "Zpub" 1262 (.bytes #[2, 87, 84, 131] 1263)] 15), #[]⟩
def o486 : Obj := ⟨(.type "dict"), none, (.dict #[de P "name" 1280 (sv "Signet" 1281), de P "wif" 1282 (.bytes #[239] 1283), de P "p2pkh" 1284 (.bytes #[111] 1285), de P "p2sh" 1286 (.bytes #[196] 1287), de P "bech32" 1288 (sv "tb" 1289), de P "xprv" 1290 (.bytes #[4, 53, 131, 148] 1291), de P "xpub" 1292 (.bytes #[4, 53, 135, 207] 1293), de P "yprv" 1294 (.bytes #[4, 74, 78, 40] 1295), de P "zprv" 1296 (.bytes #[4, 95, 24, 188] 1297), de P "Yprv" 1298 (.bytes #[2, 66, 133, 181] 1299), de P "Zprv" 1300 (.bytes #[2, 87, 80, 72] 1301), de P "ypub" 1302 (.bytes #[4, 74, 82, 98] 1303), de P "zpub" 1304 (.bytes #[4, 95, 28, 246] 1305), de P "Ypub" 1306 (.bytes #[2, 66, 137, 239] 1307), de P "Zpub" 1308 (.bytes #[2, 87, 84, 131] 1309)] 15), #[]⟩
def t469 : BT := (.node o83 (.node o7 (.node o205 t3 .nil) (.node o285 t342 .nil)) (.node o7 (.node o7 t185 .nil) (.node o8 (lf (o483 P)) .nil)))
def t470 : BT := (.node o7 (.node o7 (.node o25 t327 t330) (.node o35 t332 (t334 P))) (.node o8 (.node o30 t337 t339) (.node o40 (t341 P) (t469 P))))
def t472 : BT := (.node o85 (.node o132 (.node o7 t0 .nil) (.node o7 t375 .nil)) (.node o169 (.node o243 t0 .nil) (.node o7 (lf (o485 P)) .nil)))
def t473 : BT := (.node o9 (.node o16 (.node o27 (t363 P) t364) (.node o7 t366 t368)) (.node o21 (.node o32 (t370 P) t372) (.node (o42 P) t374 (t472 P))))
def t475 : BT := (.node o84 (.node o8 (.node o206 t264 .nil) (.node o286 (t412 P) .nil)) (.node o8 (.node o242 t265 .nil) (.node o324 (lf (o484 P)) .nil)))
def t476 : BT := (.node o8 (.node o8 (.node o26 t399 t401) (.node o36 (t403 P) (t405 P))) (.node o20 (.node o31 t407 t408) (.node o41 (t411 P) (t475 P))))
def t478 : BT := (.node o7 (.node o7 (.node o8 t306 .nil) (.node o8 t36 .nil)) (.node o7 (.node o244 t3 .nil) (.node o325 (lf (o486 P)) .nil)))
def t479 : BT := (.node o10 (.node o7 (.node o28 t432 (t434 P)) (.node o8 (t437 P) t439)) (.node o22 (.node o7 (t441 P) (t443 P)) (.node o43 t444 (t478 P))))
def t481 : BT := (.node o82 (.node o131 (.node o204 t0 .nil) (.node o284 t454 .nil)) (.node o168 (.node o241 t316 .nil) (.node o7 (lf (o482 P)) .nil)))
def t482 : BT := (.node o12 (.node o7 (.node o7 t448 t451) (.node o39 t453 (t481 P))) (.node o7 (.node o34 (t458 P) (t461 P)) (.node o47 (t464 P) t465)))
def t483 : BT := (.node (o0 P) (.node (o1 P) (.node (o481 P) (t470 P) (t361 P)) (.node o5 (t473 P) (t397 P))) (.node (o409 P) (.node o4 (t476 P) (t431 P)) (.node o6 (t479 P) (t482 P))))
end
noncomputable def T6 (P : Params) : BT := (t483 P)
theorem p_5 : ∀ (w : World) (os : OsState), segRunT treeTable pw w 11 ann 1 984 ⟨T5 w.params, 758, {}, #[], ⟨0, 0, 0, 0⟩, 1141, os⟩ (piecesOf ((B.drop 24).take 2) env cE ⟨461, 0, 504, 37⟩ fr0) = some (.next, ⟨T6 w.params, 763, {}, #[], ⟨0, 0, 0, 0⟩, 1332, os⟩, cE, ⟨506, 0, 506, 8⟩) := by
  refine byRow2 "special-get-raises" ?_ ?_
  all_goals (intro w os; rw [PySem.W.Fast.te10110043849684766642, PySem.W.Fast.te14364793385576792824]; kernel_rfl)
section
variable (P : Params)
def o487 : Obj := ⟨(.type "dict"), none, (.dict #[de P "__name__" 165 (sv "embit.script" 1330), de P "__doc__" 166 .none, de P "__package__" 167 .none, de P "__loader__" 168 (.builtin "__main__.__loader__#opaque"), de P "__spec__" 169 .none, dr P "__annotations__" 170 6, dr P "__builtins__" 171 4, de P "__file__" 173 (sv "/claim/cut.py" 172), de P "__cached__" 174 .none, dr P "_wall" 193 21, dr P "hexlify" 201 26, dr P "Sha256" 247 58, dr P "hashlib" 287 83, dr P "to_bytes" 297 94, dr P "_whence" 307 101, dr P "_index" 315 108, dr P "UnsupportedOperation" 337 118, dr P "IOBase" 369 138, dr P "BufferedIOBase" 387 153, dr P "TextIOBase" 405 165, dr P "BytesIO" 667 395, dr P "StringIO" 954 642, dr P "read_from" 966 651, dr P "read_from_compact" 967 651, dr P "double_sha256" 976 658, dr P "EmbitError" 998 668, dr P "EmbitBase" 1140 753, dr P "NETWORKS" 1329 758, dr P "Script" 1457 850] 29), #[]⟩
noncomputable def o488 : Obj := ⟨.none, none, (.fields #[(.int 1 0), (.int 0 0), (.ref 20), (.int 5 0), (.int 0 0), (.ref 25), (.int 8 0), (.int 0 0), (.ref 32), (.int 19 0), (.int 0 0), (.ref 68), (.int 25 0), (.int 0 0), (.ref 93), (.int 39 0), (.int 0 0), (.ref 100), (.int 44 0), (.int 0 0), (.ref 107), (.int 51 0), (.int 0 0), (.ref 114), (.int 53 0), (.int 0 0), (.ref 127), (.int 60 0), (.int 0 0), (.ref 149), (.int 62 0), (.int 0 0), (.ref 161), (.int 64 0), (.int 0 0), (.ref 173), (.int 235 0), (.int 0 0), (.ref 403), (.int 442 0), (.int 0 0), (.ref 650), (.int 456 0), (.int 0 0), (.ref 657), (.int 459 0), (.int 0 0), (.ref 664), (.int 461 0), (.int 0 0), (.ref 677), (.int 507 0), (.int 0 0), (.ref 768)]), #[]⟩
noncomputable def o489 : Obj := ⟨(.type "type"), none, (.cls ⟨(Str.ofString "EmbitBase"), [(.type "object")], [(.ref 753), (.type "object")], 752, (Str.ofString "EmbitBase"), true, [], [(.ref 850)], false, none, false⟩), #[none, none, (some (sv "EmbitBase" 999)), (some (sv "EmbitBase" 1007)), (some (.builtin "object.__new__")), (some (.bool true))]⟩
def o490 : Obj := uO #[(.ref 753)]
def o491 : Obj := ⟨(.type "dict"), none, (.dict #[de P "__module__" 1339 (sv "embit.script" 1330), de P "__qualname__" 1341 (sv "Script" 1340), de P "__firstlineno__" 1343 (.int 507 1342), dr P "__init__" 1352 777, dr P "address" 1362 785, dr P "push" 1370 792, dr P "script_type" 1377 799, dr P "write_to" 1386 806, dr P "read_from" 1408 815, dr P "from_address" 1428 825, dr P "__eq__" 1436 833, dr P "__ne__" 1444 840, dr P "__len__" 1451 847, dr P "__static_attributes__" 1453 848] 14), #[]⟩
noncomputable def o492 : Obj := ⟨.none, none, (.fields #[(.int 509 0), (.int 4 0), (.ref 776), (.int 512 0), (.int 4 0), (.ref 784), (.int 515 0), (.int 4 0), (.ref 791), (.int 518 0), (.int 4 0), (.ref 798), (.int 521 0), (.int 4 0), (.ref 805), (.int 527 0), (.int 4 0), (.ref 812), (.int 535 0), (.int 4 0), (.ref 822), (.int 538 0), (.int 4 0), (.ref 832), (.int 541 0), (.int 4 0), (.ref 839), (.int 544 0), (.int 4 0), (.ref 846)]), #[]⟩
def o493 : Obj := cO "Script" 1334 "Script" 1335 1336 507 0 0 0 0 766 false 181 767 .none .none .none .none 1337 507 1338
noncomputable def o494 : Obj := ⟨(.type "frame"), none, .plain, #[(some (.ref 768)), (some (.ref 3)), (some (.ref 765)), none, (some (sv "embit.script" 1330)), none, (some (.ref 0))]⟩
def o495 : Obj := uO #[(.bytes #[] 1344)]
def o496 : Obj := uO #[sv "self" 1348, sv "data" 1349]
def o497 : Obj := fN (nth (clsB (nth B 26)) 0) "Script.__init__"
def o498 : Obj := cO "__init__" 1345 "Script.__init__" 1346 1347 509 2 0 0 3 771 true 181 772 .none (.ref 773) (.ref 774) (.ref 775) 1350 509 1351
def o499 : Obj := gN (nth (clsB (nth B 26)) 0) "Script.__init__" (.ref 770) .none .none "embit.script" 1330 (.ref 776) .none 3 0
def o500 : Obj := uO #[(.ref 759)]
def o501 : Obj := uO #[sv "self" 1358, sv "network" 1359]
def o502 : Obj := fN (nth (clsB (nth B 26)) 1) "Script.address"
def o503 : Obj := cO "address" 1355 "Script.address" 1356 1357 512 2 0 0 3 779 true 181 780 .none (.ref 781) (.ref 782) (.ref 783) 1360 512 1361
def o504 : Obj := gN (nth (clsB (nth B 26)) 1) "Script.address" (.ref 778) .none .none "embit.script" 1330 (.ref 784) .none 3 0
def o505 : Obj := uO #[sv "self" 1366, sv "data" 1367]
def o506 : Obj := fN (nth (clsB (nth B 26)) 2) "Script.push"
def o507 : Obj := cO "push" 1363 "Script.push" 1364 1365 515 2 0 0 3 786 true 181 787 .none (.ref 788) (.ref 789) (.ref 790) 1368 515 1369
def o508 : Obj := gN (nth (clsB (nth B 26)) 2) "Script.push" .none .none .none "embit.script" 1330 (.ref 791) .none 3 0
def o509 : Obj := uO #[sv "self" 1374]
def o510 : Obj := fN (nth (clsB (nth B 26)) 3) "Script.script_type"
def o511 : Obj := cO "script_type" 1371 "Script.script_type" 1372 1373 518 1 0 0 3 793 true 181 794 .none (.ref 795) (.ref 796) (.ref 797) 1375 518 1376
def o512 : Obj := gN (nth (clsB (nth B 26)) 3) "Script.script_type" .none .none .none "embit.script" 1330 (.ref 798) .none 3 0
def o513 : Obj := uO #[sv "self" 1381, sv "stream" 1382, sv "res" 1383]
def o514 : Obj := fN (nth (clsB (nth B 26)) 4) "Script.write_to"
def o515 : Obj := cO "write_to" 1378 "Script.write_to" 1379 1380 521 2 0 0 3 800 true 181 801 .none (.ref 802) (.ref 803) (.ref 804) 1384 521 1385
def o516 : Obj := gN (nth (clsB (nth B 26)) 4) "Script.write_to" .none .none .none "embit.script" 1330 (.ref 805) .none 3 0
def o517 : Obj := uO #[sv "cls" 1390, sv "stream" 1391, sv "l" 1392, sv "data" 1393]
def o518 : Obj := fN (nth (clsB (nth B 26)) 5) "Script.read_from"
def o519 : Obj := cO "read_from" 1387 "Script.read_from" 1388 1389 526 2 0 0 3 807 true 181 808 .none (.ref 809) (.ref 810) (.ref 811) 1394 526 1395
def o520 : Obj := ⟨(.type "function"), none, (fnD (nth (clsB (nth B 26)) 5) (Str.ofString "Script.read_from") .none .none .none (sv "embit.script" 1330) (some 816) (.ref 812) .none 3 0), #[]⟩
def o521 : Obj := ⟨(.type "dict"), none, (.dict #[de P "__module__" 1397 (sv "embit.script" 1330), de P "__name__" 1400 (sv "read_from" 1399), de P "__qualname__" 1403 (sv "Script.read_from" 1402), de P "__doc__" 1405 .none, dr P "__annotations__" 1407 816] 5), #[]⟩
noncomputable def o522 : Obj := ⟨(.type "classmethod"), (some 814), (.fields #[(.ref 813), (.bool false)]), #[]⟩
def o523 : Obj := uO #[sv "cls" 1412, sv "addr" 1413]
def o524 : Obj := fN (nth (clsB (nth B 26)) 6) "Script.from_address"
def o525 : Obj := cO "from_address" 1409 "Script.from_address" 1410 1411 534 2 0 0 3 817 true 181 818 .none (.ref 819) (.ref 820) (.ref 821) 1414 534 1415
def o526 : Obj := ⟨(.type "function"), none, (fnD (nth (clsB (nth B 26)) 6) (Str.ofString "Script.from_address") .none .none .none (sv "embit.script" 1330) (some 826) (.ref 822) .none 3 0), #[]⟩
def o527 : Obj := ⟨(.type "dict"), none, (.dict #[de P "__module__" 1417 (sv "embit.script" 1330), de P "__name__" 1420 (sv "from_address" 1419), de P "__qualname__" 1423 (sv "Script.from_address" 1422), de P "__doc__" 1425 .none, dr P "__annotations__" 1427 826] 5), #[]⟩
noncomputable def o528 : Obj := ⟨(.type "classmethod"), (some 824), (.fields #[(.ref 823), (.bool false)]), #[]⟩
def o529 : Obj := uO #[sv "self" 1432, sv "other" 1433]
def o530 : Obj := fN (nth (clsB (nth B 26)) 7) "Script.__eq__"
def o531 : Obj := cO "__eq__" 1429 "Script.__eq__" 1430 1431 538 2 0 0 3 827 true 181 828 .none (.ref 829) (.ref 830) (.ref 831) 1434 538 1435
def o532 : Obj := gN (nth (clsB (nth B 26)) 7) "Script.__eq__" .none .none .none "embit.script" 1330 (.ref 832) .none 3 0
def o533 : Obj := uO #[sv "self" 1440, sv "other" 1441]
def o534 : Obj := fN (nth (clsB (nth B 26)) 8) "Script.__ne__"
def o535 : Obj := cO "__ne__" 1437 "Script.__ne__" 1438 1439 541 2 0 0 3 834 true 181 835 .none (.ref 836) (.ref 837) (.ref 838) 1442 541 1443
def o536 : Obj := gN (nth (clsB (nth B 26)) 8) "Script.__ne__" .none .none .none "embit.script" 1330 (.ref 839) .none 3 0
def o537 : Obj := uO #[sv "self" 1448]
def o538 : Obj := fN (nth (clsB (nth B 26)) 9) "Script.__len__"
def o539 : Obj := cO "__len__" 1445 "Script.__len__" 1446 1447 544 1 0 0 3 841 true 181 842 .none (.ref 843) (.ref 844) (.ref 845) 1449 544 1450
def o540 : Obj := gN (nth (clsB (nth B 26)) 9) "Script.__len__" .none .none .none "embit.script" 1330 (.ref 846) .none 3 0
def o541 : Obj := uO #[sv "data" 1452]
def o542 : Obj := ⟨(.type "dict"), none, (.dict #[de P "__module__" 1339 (sv "embit.script" 1330), de P "__firstlineno__" 1343 (.int 507 1342), dr P "__init__" 1352 777, dr P "address" 1362 785, dr P "push" 1370 792, dr P "script_type" 1377 799, dr P "write_to" 1386 806, dr P "read_from" 1408 815, dr P "from_address" 1428 825, dr P "__eq__" 1436 833, dr P "__ne__" 1444 840, dr P "__len__" 1451 847, dr P "__static_attributes__" 1453 848, de P "__doc__" 1454 .none, de P "__hash__" 1455 .none] 3), #[]⟩
noncomputable def o543 : Obj := ⟨(.type "type"), none, (.cls ⟨(Str.ofString "Script"), [(.ref 753)], [(.ref 850), (.ref 753), (.type "object")], 849, (Str.ofString "Script"), true, [], [], false, none, false⟩), #[(some (.ref 763)), none, (some (sv "Script" 1332)), (some (sv "Script" 1340)), (some (.builtin "object.__new__")), (some (.bool true))]⟩
noncomputable def o544 : Obj := ⟨(.type "super"), none, (.fields #[(.ref 850), (.ref 850), (.ref 850)]), #[]⟩
noncomputable def o545 : Obj := ⟨(.type "builtin_function_or_method"), none, (.fields #[(.builtin "object.__init_subclass__"), (.ref 850)]), #[]⟩
def t486 : BT := (.node o7 (.node o88 (.node o8 (lf o328) (lf o492)) (.node o246 (lf o403) .nil)) (.node o8 (.node o210 t3 (lf o530)) (.node o290 (lf o446) .nil)))
def t488 : BT := (.node o7 (.node o7 (.node o191 (lf o347) (lf o512)) (.node o271 (lf o428) .nil)) (.node o154 (.node o7 (lf o384) .nil) (.node o310 (lf o465) .nil)))
def t491 : BT := (.node o58 (.node o100 (.node o7 (lf o337) (lf o502)) (.node o23 t0 .nil)) (.node o145 (.node o7 t3 (lf o540)) (.node o300 (lf o456) .nil)))
def t493 : BT := (.node (o78 P) (.node o127 (.node o201 t3 (lf o522)) (.node o280 (lf o438) .nil)) (.node o164 (.node o237 (lf o393) .nil) (.node o7 t0 .nil)))
def t496 : BT := (.node o7 (.node o93 (.node o177 t0 (lf o497)) (.node o251 (lf o412) .nil)) (.node o140 (.node o215 t3 (lf o535)) (.node o295 (lf o451) .nil)))
def t497 : BT := (.node o8 (.node o118 (.node o196 t0 t0) (.node o7 t0 .nil)) (.node o159 (.node o8 t0 .nil) (.node o315 (lf o470) .nil)))
def t499 : BT := (.node o64 (.node o7 (.node o186 (lf o342) (lf o507)) (.node o8 t3 .nil)) (.node o7 (.node o7 t3 .nil) (.node o305 (lf (o461 P)) .nil)))
def t501 : BT := (.node o83 (.node o7 (.node o205 t3 (lf o526)) (.node o285 t342 .nil)) (.node o7 (.node o7 t185 .nil) (.node o8 (lf (o483 P)) .nil)))
def t502 : BT := (.node o7 (.node o7 (.node o25 t486 t488) (.node o35 t491 (t493 P))) (.node o8 (.node o30 t496 t497) (.node o40 (t499 P) (t501 P))))
def t503 : BT := (.node o49 (.node o90 (.node o175 (lf o331) t0) (.node o8 (lf o407) .nil)) (.node o138 (.node o212 (lf o367) t3) (.node o292 t3 .nil)))
def t504 : BT := (.node o70 (.node o7 (.node o193 t0 t0) (.node o274 t0 .nil)) (.node o8 (.node o230 (lf o387) .nil) (.node o312 (lf o467) .nil)))
def t506 : BT := (.node o60 (.node o7 (.node o7 t3 t3) (.node o264 (lf o420) .nil)) (.node o148 (.node o221 (lf o377) (lf o544)) (.node o302 t0 .nil)))
def t508 : BT := (.node o80 (.node o7 (.node o202 (lf o358) (lf o523)) (.node o8 (lf o439) .nil)) (.node o7 (.node o240 t3 .nil) (.node o321 (lf o478) .nil)))
def t510 : BT := (.node o54 (.node o96 (.node o180 t0 t0) (.node o255 (lf o415) .nil)) (.node o143 (.node o7 (lf o372) (lf o537)) (.node o297 (lf o453) .nil)))
def t512 : BT := (.node o75 (.node o7 (.node o198 (lf o353) (lf o518)) (.node o7 (lf o434) .nil)) (.node o161 (.node o235 t0 .nil) (.node o7 t0 .nil)))
def t514 : BT := (.node o7 (.node o111 (.node o8 (lf o344) (lf o509)) (.node o269 (lf (o424 P)) .nil)) (.node o7 (.node o226 (lf o382) .nil) (.node o307 t3 .nil)))
def t515 : BT := (lf o490)
def t516 : BT := (.node o23 (.node o133 (.node o207 (lf o363) t0) (.node o287 t0 .nil)) (.node o170 (.node o7 (lf o400) .nil) (.node o326 t515 .nil)))
def t517 : BT := (.node o7 (.node o17 (.node o7 t503 t504) (.node o37 t506 t508)) (.node o7 (.node o8 t510 t512) (.node o44 (t514 P) t516)))
def t520 : BT := (.node (o48 P) (.node o7 (.node o7 (lf o329) (lf o494)) (.node o248 (lf (o405 P)) .nil)) (.node o7 (.node o7 t0 (lf o532)) (.node o7 (lf o448) .nil)))
def t521 : BT := (.node o69 (.node o113 (.node o7 t3 t3) (.node o272 t20 .nil)) (.node o156 (.node o229 (lf o385) .nil) (.node o7 t0 .nil)))
def t524 : BT := (.node o7 (.node o23 (.node o183 (lf o339) (lf o504)) (.node o7 (lf o418) .nil)) (.node o146 (.node o220 t0 (lf (o542 P))) (.node o7 t3 .nil)))
def t526 : BT := (.node o8 (.node o8 (.node o7 t0 t0) (.node o282 t0 .nil)) (.node o8 (.node o238 (lf o395) .nil) (.node o320 (lf o489) .nil)))
def t528 : BT := (.node o53 (.node (o94 P) (.node o178 (lf o334) (lf o499)) (.node o253 (lf o413) .nil)) (.node o141 (.node o8 t0 t0) (.node o7 t0 .nil)))
def t530 : BT := (.node o7 (.node o23 (.node o7 (lf o352) (lf o517)) (.node o277 (lf o433) .nil)) (.node o7 (.node o7 (lf o390) .nil) (.node o8 t3 .nil)))
def t531 : BT := (.node o8 (.node o121 (.node o188 t0 t0) (.node o7 (lf o423) .nil)) (.node o151 (.node o225 t0 .nil) (.node o7 t36 .nil)))
def t533 : BT := (.node o85 (.node o132 (.node o7 t0 (lf o528)) (.node o7 t375 .nil)) (.node o169 (.node o243 t0 .nil) (.node o7 (lf (o485 P)) .nil)))
def t534 : BT := (.node o9 (.node o16 (.node o27 (t520 P) t521) (.node o7 (t524 P) t526)) (.node o21 (.node o32 (t528 P) t530) (.node (o42 P) t531 (t533 P))))
def t536 : BT := (.node o51 (.node o91 (.node o7 t3 (lf o496)) (.node o7 t0 .nil)) (.node o7 (.node o213 (lf o369) t0) (.node o293 t0 .nil)))
def t538 : BT := (.node o72 (.node o260 (.node o194 (lf o350) (lf o515)) (.node o8 (lf o431) .nil)) (.node o7 (.node o232 t3 .nil) (.node o313 (lf o468) .nil)))
def t539 : BT := (.node o62 (.node o106 (.node o185 t0 t0) (.node o266 (lf (o421 P)) .nil)) (.node o8 (.node o223 (lf o379) .nil) (.node o303 (lf o459) .nil)))
def t541 : BT := (.node (o81 P) (.node o130 (.node o203 (lf o360) (lf o524)) (.node o7 (lf o440) .nil)) (.node o167 (.node o8 t0 .nil) (.node o323 (lf o480) .nil)))
def t544 : BT := (.node o56 (.node o98 (.node o8 (lf o336) (lf o501)) (.node o257 t3 .nil)) (.node o7 (.node o218 (lf o374) (lf o538)) (.node o298 (lf o454) .nil)))
def t546 : BT := (.node o77 (.node o125 (.node o199 (lf o355) (lf o520)) (.node o279 (lf o436) .nil)) (.node o162 (.node o7 (lf o392) .nil) (.node o318 (lf o473) .nil)))
def t548 : BT := (.node o67 (.node o23 (.node o7 (lf o345) (lf o510)) (.node o7 (lf o426) .nil)) (.node o153 (.node o228 t0 .nil) (.node o308 t0 .nil)))
def t551 : BT := (.node o7 (.node o135 (.node o208 (lf o127) (lf o529)) (.node o288 (lf o445) .nil)) (.node o172 (.node o245 (lf o401) .nil) (.node o7 (lf (o491 P)) .nil)))
def t552 : BT := (.node o11 (.node o19 (.node o29 t536 t538) (.node o38 (t539 P) (t541 P))) (.node (o24 P) (.node o7 t544 t546) (.node o46 t548 (t551 P))))
def t555 : BT := (.node o23 (.node o89 (.node o173 t0 (lf o493)) (.node o247 (lf o404) .nil)) (.node o136 (.node o211 (lf o365) (lf o531)) (.node o291 (lf o447) .nil)))
def t556 : BT := (.node o8 (.node o8 (.node o192 t0 t0) (.node o7 t0 .nil)) (.node o155 (.node o8 t0 .nil) (.node o311 (lf o466) .nil)))
def t559 : BT := (.node o6 (.node o104 (.node o182 (lf o338) (lf o503)) (.node (o262 P) (lf o417) .nil)) (.node o7 (.node o8 (lf o375) (lf o541)) (.node o301 t0 .nil)))
def t560 : BT := (.node o7 (.node o7 (.node o127 (lf o356) t36) (.node o281 t36 .nil)) (.node o7 (.node o7 (lf o394) .nil) (.node o8 (lf (o475 P)) .nil)))
def t563 : BT := (.node o8 (.node o7 (.node o7 (lf o333) (lf o498)) (.node o252 t0 .nil)) (.node o7 (.node o7 (lf o370) (lf o536)) (.node o296 (lf o452) .nil)))
def t564 : BT := (.node o73 (.node o122 (.node o197 t3 t3) (.node o276 t3 .nil)) (.node o160 (.node o233 (lf o389) .nil) (.node o7 t0 .nil)))
def t566 : BT := (.node o7 (.node (o108 P) (.node o187 (lf o343) (lf o508)) (.node o267 (lf o422) .nil)) (.node o150 (.node o8 (lf o380) .nil) (.node o306 (lf o462) .nil)))
def t568 : BT := (.node o84 (.node o8 (.node o206 t264 (lf (o527 P))) (.node o286 (t412 P) .nil)) (.node o8 (.node o242 t265 .nil) (.node o324 (lf (o484 P)) .nil)))
def t569 : BT := (.node o8 (.node o8 (.node o26 t555 t556) (.node o36 (t559 P) (t560 P))) (.node o20 (.node o31 t563 t564) (.node o41 (t566 P) (t568 P))))
def t571 : BT := (.node o50 (.node o7 (.node o176 t0 t3) (.node o249 (lf o408) .nil)) (.node o139 (.node o7 (lf o368) (lf o533)) (.node o7 (lf o449) .nil)))
def t573 : BT := (.node o71 (.node (o115 P) (.node o7 (lf o349) (lf o514)) (.node o7 (lf o430) .nil)) (.node o157 (.node o231 t0 .nil) (.node o7 t0 .nil)))
def t576 : BT := (.node o61 (.node o8 (.node o8 (lf o340) (lf o505)) (.node o265 t20 .nil)) (.node o7 (.node o222 (lf o378) (lf o545)) (.node o7 (lf o458) .nil)))
def t577 : BT := (.node o7 (.node o129 (.node o7 (lf o359) t0) (.node o283 t0 .nil)) (.node o166 (.node o7 (lf o396) .nil) (.node o322 (lf o479) .nil)))
def t578 : BT := (.node o55 (.node o97 (.node o7 t3 t3) (.node o256 t0 .nil)) (.node o144 (.node o217 (lf o373) t0) (.node o7 t0 .nil)))
def t580 : BT := (.node o76 (.node o124 (.node o7 (lf o354) (lf o519)) (.node o8 (lf o435) .nil)) (.node o7 (.node o236 t3 .nil) (.node o317 (lf o472) .nil)))
def t581 : BT := (.node o66 (.node o104 (.node o189 t0 t0) (.node o270 (lf o425) .nil)) (.node o8 (.node o227 (lf o383) .nil) (.node o7 (lf o463) .nil)))
def t582 : BT := (.node (o86 P) (.node o134 (.node o7 (lf o364) t3) (.node o7 t3 .nil)) (.node o171 (.node o8 t0 .nil) (.node o327 t20 .nil)))
def t583 : BT := (.node o488 (.node o18 (.node o8 t571 (t573 P)) (.node o7 t576 t577)) (.node o23 (.node o33 t578 t580) (.node o45 t581 (t582 P))))
def t585 : BT := (.node o7 (.node o8 (.node o174 (lf o330) (lf o495)) (.node o7 (lf o406) .nil)) (.node o137 (.node o8 (lf o366) t0) (.node o8 t0 .nil)))
def t587 : BT := (.node o7 (.node o114 (.node o8 (lf o348) (lf o513)) (.node o273 (lf (o429 P)) .nil)) (.node o7 (.node o7 (lf o386) .nil) (.node o8 t3 .nil)))
def t589 : BT := (.node (o59 P) (.node (o105 P) (.node o184 t0 t0) (.node o263 (lf o419) .nil)) (.node o147 (.node o7 (lf o376) (lf o543)) (.node o8 (lf o457) .nil)))
def t590 : BT := (.node o79 (.node o128 (.node o8 (lf o357) t3) (.node o7 t3 .nil)) (.node o165 (.node o239 t0 .nil) (.node o7 (lf o477) .nil)))
def t592 : BT := (.node o7 (.node o103 (.node o179 (lf o335) (lf o500)) (.node (o254 P) (lf o414) .nil)) (.node o142 (.node o216 (lf o371) t3) (.node o8 t3 .nil)))
def t593 : BT := (.node o74 (.node (o123 P) (.node o8 t0 t0) (.node o278 t0 .nil)) (.node o8 (.node o234 (lf o391) .nil) (.node o316 (lf o471) .nil)))
def t594 : BT := (.node o65 (.node o110 (.node o7 t3 t3) (.node o268 t0 .nil)) (.node o152 (.node o7 (lf o381) .nil) (.node o8 t0 .nil)))
def t595 : BT := (.node o7 (.node o7 (.node o8 t306 t36) (.node o8 t36 .nil)) (.node o7 (.node o244 t3 .nil) (.node o325 (lf (o486 P)) .nil)))
def t596 : BT := (.node o10 (.node o7 (.node o28 t585 (t587 P)) (.node o8 (t589 P) t590)) (.node o22 (.node o7 (t592 P) (t593 P)) (.node o43 t594 (t595 P))))
def t598 : BT := (.node o52 (.node o92 (.node o8 (lf o332) t0) (.node o250 t3 .nil)) (.node o8 (.node o214 t0 (lf o534)) (.node o294 (lf o450) .nil)))
def t600 : BT := (.node o7 (.node o117 (.node o195 (lf o351) (lf o516)) (.node o275 (lf o432) .nil)) (.node o158 (.node o7 (lf o388) .nil) (.node o314 (lf o469) .nil)))
def t602 : BT := (.node o63 (.node o107 (.node o7 (lf o341) (lf o506)) (.node o7 t0 .nil)) (.node o149 (.node o224 t0 .nil) (.node o304 (lf o460) .nil)))
def t604 : BT := (.node o82 (.node o131 (.node o204 t0 (lf o525)) (.node o284 t454 .nil)) (.node o168 (.node o241 t316 .nil) (.node o7 (lf (o482 P)) .nil)))
def t606 : BT := (.node (o57 P) (.node o99 (.node o181 t0 t0) (.node o261 (lf o416) .nil)) (.node o8 (.node o219 t0 (lf o539)) (.node o299 (lf o455) .nil)))
def t608 : BT := (.node o23 (.node o126 (.node o200 t0 (lf (o521 P))) (.node o7 (lf (o437 P)) .nil)) (.node o163 (.node o8 t0 .nil) (.node o319 (lf o474) .nil)))
def t610 : BT := (.node o68 (.node (o112 P) (.node o190 (lf o346) (lf o511)) (.node o8 (lf o427) .nil)) (.node o7 (.node o127 t3 .nil) (.node o309 (lf o464) .nil)))
def t611 : BT := (.node o87 (.node o7 (.node o209 t0 t0) (.node o289 t0 .nil)) (.node o7 (.node o7 (lf o402) .nil) (.node o8 t0 .nil)))
def t612 : BT := (.node o12 (.node o7 (.node o7 t598 t600) (.node o39 t602 (t604 P))) (.node o7 (.node o34 (t606 P) (t608 P)) (.node o47 (t610 P) t611)))
def t613 : BT := (.node (o0 P) (.node (o1 P) (.node (o487 P) (t502 P) (t517 P)) (.node o5 (t534 P) (t552 P))) (.node (o409 P) (.node o4 (t569 P) (t583 P)) (.node o6 (t596 P) (t612 P))))
end
noncomputable def T7 (P : Params) : BT := (t613 P)
theorem p_6 : ∀ (w : World) (os : OsState), segRunT treeTable pw w 11 ann 1 837 ⟨T6 w.params, 763, {}, #[], ⟨0, 0, 0, 0⟩, 1332, os⟩ (piecesOf ((B.drop 26).take 1) env cE ⟨506, 0, 506, 8⟩ fr0) = some (.next, ⟨T7 w.params, 853, {}, #[], ⟨0, 0, 0, 0⟩, 1458, os⟩, cE, ⟨507, 0, 545, 29⟩) := by
  refine byRow2 "special-get-raises" ?_ ?_
  all_goals (intro w os; rw [PySem.W.Fast.te10110043849684766642, PySem.W.Fast.te14364793385576792824]; kernel_rfl)
section
variable (P : Params)
def o546 : Obj := ⟨(.type "dict"), none, (.dict #[de P "__name__" 165 (sv "embit.transaction" 1525), de P "__doc__" 166 .none, de P "__package__" 167 .none, de P "__loader__" 168 (.builtin "__main__.__loader__#opaque"), de P "__spec__" 169 .none, dr P "__annotations__" 170 6, dr P "__builtins__" 171 4, de P "__file__" 173 (sv "/claim/cut.py" 172), de P "__cached__" 174 .none, dr P "_wall" 193 21, dr P "hexlify" 201 26, dr P "Sha256" 247 58, dr P "hashlib" 287 83, dr P "to_bytes" 297 94, dr P "_whence" 307 101, dr P "_index" 315 108, dr P "UnsupportedOperation" 337 118, dr P "IOBase" 369 138, dr P "BufferedIOBase" 387 153, dr P "TextIOBase" 405 165, dr P "BytesIO" 667 395, dr P "StringIO" 954 642, dr P "read_from" 966 651, dr P "read_from_compact" 967 651, dr P "double_sha256" 976 658, dr P "EmbitError" 998 668, dr P "EmbitBase" 1140 753, dr P "NETWORKS" 1329 758, dr P "Script" 1457 850, dr P "Witness" 1524 895, dr P "TransactionError" 1542 907, dr P "SIGHASH" 1593 929] 32), #[]⟩
noncomputable def o547 : Obj := ⟨.none, none, (.fields #[(.int 1 0), (.int 0 0), (.ref 20), (.int 5 0), (.int 0 0), (.ref 25), (.int 8 0), (.int 0 0), (.ref 32), (.int 19 0), (.int 0 0), (.ref 68), (.int 25 0), (.int 0 0), (.ref 93), (.int 39 0), (.int 0 0), (.ref 100), (.int 44 0), (.int 0 0), (.ref 107), (.int 51 0), (.int 0 0), (.ref 114), (.int 53 0), (.int 0 0), (.ref 127), (.int 60 0), (.int 0 0), (.ref 149), (.int 62 0), (.int 0 0), (.ref 161), (.int 64 0), (.int 0 0), (.ref 173), (.int 235 0), (.int 0 0), (.ref 403), (.int 442 0), (.int 0 0), (.ref 650), (.int 456 0), (.int 0 0), (.ref 657), (.int 459 0), (.int 0 0), (.ref 664), (.int 461 0), (.int 0 0), (.ref 677), (.int 507 0), (.int 0 0), (.ref 768), (.int 546 0), (.int 0 0), (.ref 858), (.int 571 0), (.int 0 0), (.ref 903), (.int 573 0), (.int 0 0), (.ref 915)]), #[]⟩
noncomputable def o548 : Obj := ⟨(.type "type"), none, (.cls ⟨(Str.ofString "EmbitError"), [(.type "Exception")], [(.ref 668), (.type "Exception"), (.type "BaseException"), (.type "object")], 667, (Str.ofString "EmbitError"), true, [], [(.ref 907)], false, none, false⟩), #[(some (.ref 659)), none, (some (sv "EmbitError" 979)), (some (sv "EmbitError" 987)), (some (.builtin "Exception.__new__")), (some (.bool true))]⟩
noncomputable def o549 : Obj := ⟨(.type "type"), none, (.cls ⟨(Str.ofString "EmbitBase"), [(.type "object")], [(.ref 753), (.type "object")], 752, (Str.ofString "EmbitBase"), true, [], [(.ref 850), (.ref 895)], false, none, false⟩), #[none, none, (some (sv "EmbitBase" 999)), (some (sv "EmbitBase" 1007)), (some (.builtin "object.__new__")), (some (.bool true))]⟩
def o550 : Obj := ⟨(.type "dict"), none, (.dict #[de P "__module__" 1465 (sv "embit.script" 1330), de P "__qualname__" 1467 (sv "Witness" 1466), de P "__firstlineno__" 1469 (.int 546 1468), dr P "__init__" 1477 868, dr P "write_to" 1487 875, dr P "read_from" 1512 884, dr P "__len__" 1519 892, dr P "__static_attributes__" 1521 893] 8), #[]⟩
noncomputable def o551 : Obj := ⟨.none, none, (.fields #[(.int 548 0), (.int 4 0), (.ref 867), (.int 551 0), (.int 4 0), (.ref 874), (.int 559 0), (.int 4 0), (.ref 881), (.int 568 0), (.int 4 0), (.ref 891)]), #[]⟩
def o552 : Obj := cO "Witness" 1460 "Witness" 1461 1462 546 0 0 0 0 856 false 181 857 .none .none .none .none 1463 546 1464
noncomputable def o553 : Obj := ⟨(.type "frame"), none, .plain, #[(some (.ref 858)), (some (.ref 3)), (some (.ref 855)), none, (some (sv "embit.script" 1330)), none, (some (.ref 0))]⟩
noncomputable def o554 : Obj := ⟨(.type "list"), none, (.seq #[] 0), #[]⟩
def o555 : Obj := uO #[(.ref 860)]
def o556 : Obj := uO #[sv "self" 1473, sv "items" 1474]
def o557 : Obj := fN (nth (clsB (nth B 27)) 0) "Witness.__init__"
def o558 : Obj := cO "__init__" 1470 "Witness.__init__" 1471 1472 548 2 0 0 3 862 true 181 863 .none (.ref 864) (.ref 865) (.ref 866) 1475 548 1476
def o559 : Obj := gN (nth (clsB (nth B 27)) 0) "Witness.__init__" (.ref 861) .none .none "embit.script" 1330 (.ref 867) .none 3 0
def o560 : Obj := uO #[sv "self" 1481, sv "stream" 1482, sv "res" 1483, sv "item" 1484]
def o561 : Obj := fN (nth (clsB (nth B 27)) 1) "Witness.write_to"
def o562 : Obj := cO "write_to" 1478 "Witness.write_to" 1479 1480 551 2 0 0 3 869 true 181 870 .none (.ref 871) (.ref 872) (.ref 873) 1485 551 1486
def o563 : Obj := gN (nth (clsB (nth B 27)) 1) "Witness.write_to" .none .none .none "embit.script" 1330 (.ref 874) .none 3 0
def o564 : Obj := uO #[sv "cls" 1491, sv "stream" 1492, sv "num" 1493, sv "items" 1494, sv "i" 1495, sv "l" 1496, sv "data" 1497]
def o565 : Obj := fN (nth (clsB (nth B 27)) 2) "Witness.read_from"
def o566 : Obj := cO "read_from" 1488 "Witness.read_from" 1489 1490 558 2 0 0 3 876 true 181 877 .none (.ref 878) (.ref 879) (.ref 880) 1498 558 1499
def o567 : Obj := ⟨(.type "function"), none, (fnD (nth (clsB (nth B 27)) 2) (Str.ofString "Witness.read_from") .none .none .none (sv "embit.script" 1330) (some 885) (.ref 881) .none 3 0), #[]⟩
def o568 : Obj := ⟨(.type "dict"), none, (.dict #[de P "__module__" 1501 (sv "embit.script" 1330), de P "__name__" 1504 (sv "read_from" 1503), de P "__qualname__" 1507 (sv "Witness.read_from" 1506), de P "__doc__" 1509 .none, dr P "__annotations__" 1511 885] 5), #[]⟩
noncomputable def o569 : Obj := ⟨(.type "classmethod"), (some 883), (.fields #[(.ref 882), (.bool false)]), #[]⟩
def o570 : Obj := uO #[sv "self" 1516]
def o571 : Obj := fN (nth (clsB (nth B 27)) 3) "Witness.__len__"
def o572 : Obj := cO "__len__" 1513 "Witness.__len__" 1514 1515 568 1 0 0 3 886 true 181 887 .none (.ref 888) (.ref 889) (.ref 890) 1517 568 1518
def o573 : Obj := gN (nth (clsB (nth B 27)) 3) "Witness.__len__" .none .none .none "embit.script" 1330 (.ref 891) .none 3 0
def o574 : Obj := uO #[sv "items" 1520]
def o575 : Obj := ⟨(.type "dict"), none, (.dict #[de P "__module__" 1465 (sv "embit.script" 1330), de P "__firstlineno__" 1469 (.int 546 1468), dr P "__init__" 1477 868, dr P "write_to" 1487 875, dr P "read_from" 1512 884, dr P "__len__" 1519 892, dr P "__static_attributes__" 1521 893, de P "__doc__" 1522 .none] 2), #[]⟩
noncomputable def o576 : Obj := ⟨(.type "type"), none, (.cls ⟨(Str.ofString "Witness"), [(.ref 753)], [(.ref 895), (.ref 753), (.type "object")], 894, (Str.ofString "Witness"), true, [], [], false, none, false⟩), #[(some (.ref 853)), none, (some (sv "Witness" 1458)), (some (sv "Witness" 1466)), (some (.builtin "object.__new__")), (some (.bool true))]⟩
noncomputable def o577 : Obj := ⟨(.type "super"), none, (.fields #[(.ref 895), (.ref 895), (.ref 895)]), #[]⟩
noncomputable def o578 : Obj := ⟨(.type "builtin_function_or_method"), none, (.fields #[(.builtin "object.__init_subclass__"), (.ref 895)]), #[]⟩
def o579 : Obj := uO #[(.ref 668)]
def o580 : Obj := ⟨(.type "dict"), none, (.dict #[de P "__module__" 1534 (sv "embit.transaction" 1525), de P "__qualname__" 1536 (sv "TransactionError" 1535), de P "__firstlineno__" 1538 (.int 571 1537), dr P "__static_attributes__" 1539 905] 4), #[]⟩
def o581 : Obj := cO "TransactionError" 1529 "TransactionError" 1530 1531 571 0 0 0 0 901 false 181 902 .none .none .none .none 1532 571 1533
noncomputable def o582 : Obj := ⟨(.type "frame"), none, .plain, #[(some (.ref 903)), (some (.ref 3)), (some (.ref 900)), none, (some (sv "embit.transaction" 1525)), none, (some (.ref 0))]⟩
def o583 : Obj := ⟨(.type "dict"), none, (.dict #[de P "__module__" 1534 (sv "embit.transaction" 1525), de P "__firstlineno__" 1538 (.int 571 1537), dr P "__static_attributes__" 1539 905, de P "__doc__" 1540 .none] 2), #[]⟩
noncomputable def o584 : Obj := ⟨(.type "type"), none, (.cls ⟨(Str.ofString "TransactionError"), [(.ref 668)], [(.ref 907), (.ref 668), (.type "Exception"), (.type "BaseException"), (.type "object")], 906, (Str.ofString "TransactionError"), true, [], [], false, none, false⟩), #[(some (.ref 898)), none, (some (sv "TransactionError" 1527)), (some (sv "TransactionError" 1535)), (some (.builtin "Exception.__new__")), (some (.bool true))]⟩
noncomputable def o585 : Obj := ⟨(.type "super"), none, (.fields #[(.ref 907), (.ref 907), (.ref 907)]), #[]⟩
noncomputable def o586 : Obj := ⟨(.type "builtin_function_or_method"), none, (.fields #[(.builtin "object.__init_subclass__"), (.ref 907)]), #[]⟩
def o587 : Obj := ⟨(.type "dict"), none, (.dict #[de P "__module__" 1550 (sv "embit.transaction" 1525), de P "__qualname__" 1552 (sv "SIGHASH" 1551), de P "__firstlineno__" 1554 (.int 573 1553), de P "DEFAULT" 1556 (.int 0 1555), de P "ALL" 1558 (.int 1 1557), de P "NONE" 1560 (.int 2 1559), de P "SINGLE" 1562 (.int 3 1561), de P "ANYONECANPAY" 1564 (.int 128 1563), dr P "check" 1585 925, dr P "__static_attributes__" 1586 927] 10), #[]⟩
noncomputable def o588 : Obj := ⟨.none, none, (.fields #[(.int 581 0), (.int 4 0), (.ref 922)]), #[]⟩
def o589 : Obj := cO "SIGHASH" 1545 "SIGHASH" 1546 1547 573 0 0 0 0 913 false 181 914 .none .none .none .none 1548 573 1549
noncomputable def o590 : Obj := ⟨(.type "frame"), none, .plain, #[(some (.ref 915)), (some (.ref 3)), (some (.ref 912)), none, (some (sv "embit.transaction" 1525)), none, (some (.ref 0))]⟩
def o591 : Obj := uO #[sv "cls" 1568, sv "sighash" 1569, sv "anyonecanpay" 1570]
def o592 : Obj := fN (nth (clsB (nth B 30)) 5) "SIGHASH.check"
def o593 : Obj := cO "check" 1565 "SIGHASH.check" 1566 1567 580 2 0 0 3 917 true 181 918 .none (.ref 919) (.ref 920) (.ref 921) 1571 580 1572
def o594 : Obj := ⟨(.type "function"), none, (fnD (nth (clsB (nth B 30)) 5) (Str.ofString "SIGHASH.check") .none .none .none (sv "embit.transaction" 1525) (some 926) (.ref 922) .none 3 0), #[]⟩
def o595 : Obj := ⟨(.type "dict"), none, (.dict #[de P "__module__" 1574 (sv "embit.transaction" 1525), de P "__name__" 1577 (sv "check" 1576), de P "__qualname__" 1580 (sv "SIGHASH.check" 1579), de P "__doc__" 1582 .none, dr P "__annotations__" 1584 926] 5), #[]⟩
noncomputable def o596 : Obj := ⟨(.type "classmethod"), (some 924), (.fields #[(.ref 923), (.bool false)]), #[]⟩
def o597 : Obj := ⟨(.type "dict"), none, (.dict #[de P "__module__" 1550 (sv "embit.transaction" 1525), de P "__firstlineno__" 1554 (.int 573 1553), de P "DEFAULT" 1556 (.int 0 1555), de P "ALL" 1558 (.int 1 1557), de P "NONE" 1560 (.int 2 1559), de P "SINGLE" 1562 (.int 3 1561), de P "ANYONECANPAY" 1564 (.int 128 1563), dr P "check" 1585 925, dr P "__static_attributes__" 1586 927, dr P "__dict__" 1588 930, dr P "__weakref__" 1590 931, de P "__doc__" 1591 .none] 4), #[]⟩
noncomputable def o598 : Obj := ⟨(.type "type"), none, (.cls ⟨(Str.ofString "SIGHASH"), [(.type "object")], [(.ref 929), (.type "object")], 928, (Str.ofString "SIGHASH"), true, [], [], false, none, false⟩), #[none, none, (some (sv "SIGHASH" 1543)), (some (sv "SIGHASH" 1551)), (some (.builtin "object.__new__")), (some (.bool true))]⟩
noncomputable def o599 : Obj := ⟨(.type "getset_descriptor"), none, (.fields #[(sv "__dict__" 1587), (.ref 929), (.builtin "function.__dict__"), (.builtin "function.__dict__#set")]), #[]⟩
noncomputable def o600 : Obj := ⟨(.type "getset_descriptor"), none, (.fields #[(sv "__weakref__" 1589), (.ref 929), (.builtin "ExceptionGroup.__weakref__"), .none]), #[]⟩
noncomputable def o601 : Obj := ⟨(.type "super"), none, (.fields #[(.ref 929), (.ref 929), (.ref 929)]), #[]⟩
noncomputable def o602 : Obj := ⟨(.type "builtin_function_or_method"), none, (.fields #[(.builtin "object.__init_subclass__"), (.ref 929)]), #[]⟩
def t615 : BT := (.node o7 (.node o88 (.node o8 (lf o328) (lf o492)) (.node o246 (lf o403) (lf o576))) (.node o8 (.node o210 t3 (lf o530)) (.node o290 (lf o446) .nil)))
def t616 : BT := (.node o7 (.node o7 (.node o191 (lf o347) (lf o512)) (.node o271 (lf o428) t0)) (.node o154 (.node o7 (lf o384) t3) (.node o310 (lf o465) .nil)))
def t617 : BT := (.node o58 (.node o100 (.node o7 (lf o337) (lf o502)) (.node o23 t0 t20)) (.node o145 (.node o7 t3 (lf o540)) (.node o300 (lf o456) .nil)))
def t618 : BT := (.node (o78 P) (.node o127 (.node o201 t3 (lf o522)) (.node o280 (lf o438) .nil)) (.node o164 (.node o237 (lf o393) t0) (.node o7 t0 .nil)))
def t620 : BT := (.node o7 (.node o93 (.node o177 t0 (lf o497)) (.node o251 (lf o412) (lf o581))) (.node o140 (.node o215 t3 (lf o535)) (.node o295 (lf o451) .nil)))
def t622 : BT := (.node o8 (.node o118 (.node o196 t0 t0) (.node o7 t0 .nil)) (.node o159 (.node o8 t0 (lf o560)) (.node o315 (lf o470) .nil)))
def t625 : BT := (.node o64 (.node o7 (.node o186 (lf o342) (lf o507)) (.node o8 t3 (lf o591))) (.node o7 (.node o7 t3 (lf (o550 P))) (.node o305 (lf (o461 P)) .nil)))
def t626 : BT := (.node o83 (.node o7 (.node o205 t3 (lf o526)) (.node o285 t342 .nil)) (.node o7 (.node o7 t185 t3) (.node o8 (lf (o483 P)) .nil)))
def t627 : BT := (.node o7 (.node o7 (.node o25 t615 t616) (.node o35 t617 (t618 P))) (.node o8 (.node o30 t620 t622) (.node o40 (t625 P) (t626 P))))
def t628 : BT := (.node o49 (.node o90 (.node o175 (lf o331) t0) (.node o8 (lf o407) t20)) (.node o138 (.node o212 (lf o367) t3) (.node o292 t3 .nil)))
def t631 : BT := (.node o70 (.node o7 (.node o193 t0 t0) (.node o274 t0 (lf o600))) (.node o8 (.node o230 (lf o387) (lf o558)) (.node o312 (lf o467) .nil)))
def t633 : BT := (.node o60 (.node o7 (.node o7 t3 t3) (.node o264 (lf o420) (lf o589))) (.node o148 (.node o221 (lf o377) (lf o544)) (.node o302 t0 .nil)))
def t635 : BT := (.node o80 (.node o7 (.node o202 (lf o358) (lf o523)) (.node o8 (lf o439) .nil)) (.node o7 (.node o240 t3 (lf (o568 P))) (.node o321 (lf o478) .nil)))
def t637 : BT := (.node o54 (.node o96 (.node o180 t0 t0) (.node o255 (lf o415) (lf o584))) (.node o143 (.node o7 (lf o372) (lf o537)) (.node o297 (lf o453) .nil)))
def t639 : BT := (.node o75 (.node o7 (.node o198 (lf o353) (lf o518)) (.node o7 (lf o434) .nil)) (.node o161 (.node o235 t0 (lf o563)) (.node o7 t0 .nil)))
def t642 : BT := (.node o7 (.node o111 (.node o8 (lf o344) (lf o509)) (.node o269 (lf (o424 P)) (lf o594))) (.node o7 (.node o226 (lf o382) (lf o553)) (.node o307 t3 .nil)))
def t644 : BT := (.node o23 (.node o133 (.node o207 (lf o363) t0) (.node o287 t0 .nil)) (.node o170 (.node o7 (lf o400) (lf o572)) (.node o326 t515 .nil)))
def t645 : BT := (.node o7 (.node o17 (.node o7 t628 t631) (.node o37 t633 (t635 P))) (.node o7 (.node o8 t637 t639) (.node o44 (t642 P) t644)))
def t647 : BT := (.node (o48 P) (.node o7 (.node o7 (lf o329) (lf o494)) (.node o248 (lf (o405 P)) (lf o578))) (.node o7 (.node o7 t0 (lf o532)) (.node o7 (lf o448) .nil)))
def t649 : BT := (.node o69 (.node o113 (.node o7 t3 t3) (.node o272 t20 (lf o598))) (.node o156 (.node o229 (lf o385) t0) (.node o7 t0 .nil)))
def t650 : BT := (.node o7 (.node o23 (.node o183 (lf o339) (lf o504)) (.node o7 (lf o418) t0)) (.node o146 (.node o220 t0 (lf (o542 P))) (.node o7 t3 .nil)))
def t653 : BT := (.node o8 (.node o8 (.node o7 t0 t0) (.node o282 t0 .nil)) (.node o8 (.node o238 (lf o395) (lf o566)) (.node o320 (lf o549) .nil)))
def t654 : BT := (.node o53 (.node (o94 P) (.node o178 (lf o334) (lf o499)) (.node o253 (lf o413) t0)) (.node o141 (.node o8 t0 t0) (.node o7 t0 .nil)))
def t656 : BT := (.node o7 (.node o23 (.node o7 (lf o352) (lf o517)) (.node o277 (lf o433) .nil)) (.node o7 (.node o7 (lf o390) (lf o561)) (.node o8 t3 .nil)))
def t659 : BT := (.node o8 (.node o121 (.node o188 t0 t0) (.node o7 (lf o423) (lf o592))) (.node o151 (.node o225 t0 (lf o551)) (.node o7 t36 .nil)))
def t660 : BT := (.node o85 (.node o132 (.node o7 t0 (lf o528)) (.node o7 t375 .nil)) (.node o169 (.node o243 t0 t0) (.node o7 (lf (o485 P)) .nil)))
def t661 : BT := (.node o9 (.node o16 (.node o27 (t647 P) t649) (.node o7 (t650 P) t653)) (.node o21 (.node o32 (t654 P) t656) (.node (o42 P) t659 (t660 P))))
def t662 : BT := (.node o51 (.node o91 (.node o7 t3 (lf o496)) (.node o7 t0 t0)) (.node o7 (.node o213 (lf o369) t0) (.node o293 t0 .nil)))
def t664 : BT := (.node o72 (.node o260 (.node o194 (lf o350) (lf o515)) (.node o8 (lf o431) (lf o602))) (.node o7 (.node o232 t3 t0) (.node o313 (lf o468) .nil)))
def t665 : BT := (.node o62 (.node o106 (.node o185 t0 t0) (.node o266 (lf (o421 P)) t0)) (.node o8 (.node o223 (lf o379) t515) (.node o303 (lf o459) .nil)))
def t666 : BT := (.node (o81 P) (.node o130 (.node o203 (lf o360) (lf o524)) (.node o7 (lf o440) .nil)) (.node o167 (.node o8 t0 t36) (.node o323 (lf o480) .nil)))
def t668 : BT := (.node o56 (.node o98 (.node o8 (lf o336) (lf o501)) (.node o257 t3 (lf o586))) (.node o7 (.node o218 (lf o374) (lf o538)) (.node o298 (lf o454) .nil)))
def t669 : BT := (.node o77 (.node o125 (.node o199 (lf o355) (lf o520)) (.node o279 (lf o436) .nil)) (.node o162 (.node o7 (lf o392) t3) (.node o318 (lf o473) .nil)))
def t672 : BT := (.node o67 (.node o23 (.node o7 (lf o345) (lf o510)) (.node o7 (lf o426) (lf o596))) (.node o153 (.node o228 t0 (lf o555)) (.node o308 t0 .nil)))
def t674 : BT := (.node o7 (.node o135 (.node o208 (lf o127) (lf o529)) (.node o288 (lf o445) .nil)) (.node o172 (.node o245 (lf o401) (lf o574)) (.node o7 (lf (o491 P)) .nil)))
def t675 : BT := (.node o11 (.node o19 (.node o29 t662 t664) (.node o38 (t665 P) (t666 P))) (.node (o24 P) (.node o7 t668 t669) (.node o46 t672 (t674 P))))
def t677 : BT := (.node o23 (.node o89 (.node o173 t0 (lf o493)) (.node o247 (lf o404) (lf o577))) (.node o136 (.node o211 (lf o365) (lf o531)) (.node o291 (lf o447) .nil)))
def t680 : BT := (.node o8 (.node o8 (.node o192 t0 t0) (.node o7 t0 (lf (o597 P)))) (.node o155 (.node o8 t0 (lf o556)) (.node o311 (lf o466) .nil)))
def t682 : BT := (.node o6 (.node o104 (.node o182 (lf o338) (lf o503)) (.node (o262 P) (lf o417) (lf (o587 P)))) (.node o7 (.node o8 (lf o375) (lf o541)) (.node o301 t0 .nil)))
def t684 : BT := (.node o7 (.node o7 (.node o127 (lf o356) t36) (.node o281 t36 .nil)) (.node o7 (.node o7 (lf o394) (lf o565)) (.node o8 (lf (o475 P)) .nil)))
def t686 : BT := (.node o8 (.node o7 (.node o7 (lf o333) (lf o498)) (.node o252 t0 (lf o582))) (.node o7 (.node o7 (lf o370) (lf o536)) (.node o296 (lf o452) .nil)))
def t687 : BT := (.node o73 (.node o122 (.node o197 t3 t3) (.node o276 t3 .nil)) (.node o160 (.node o233 (lf o389) t0) (.node o7 t0 .nil)))
def t688 : BT := (.node o7 (.node (o108 P) (.node o187 (lf o343) (lf o508)) (.node o267 (lf o422) t0)) (.node o150 (.node o8 (lf o380) t0) (.node o306 (lf o462) .nil)))
def t690 : BT := (.node o84 (.node o8 (.node o206 t264 (lf (o527 P))) (.node o286 (t412 P) .nil)) (.node o8 (.node o242 t265 (lf o570)) (.node o324 (lf (o484 P)) .nil)))
def t691 : BT := (.node o8 (.node o8 (.node o26 t677 (t680 P)) (.node o36 (t682 P) (t684 P))) (.node o20 (.node o31 t686 t687) (.node o41 (t688 P) (t690 P))))
def t693 : BT := (.node o50 (.node o7 (.node o176 t0 t3) (.node o249 (lf o408) (lf (o580 P)))) (.node o139 (.node o7 (lf o368) (lf o533)) (.node o7 (lf o449) .nil)))
def t696 : BT := (.node o71 (.node (o115 P) (.node o7 (lf o349) (lf o514)) (.node o7 (lf o430) (lf o601))) (.node o157 (.node o231 t0 (lf o559)) (.node o7 t0 .nil)))
def t698 : BT := (.node o61 (.node o8 (.node o8 (lf o340) (lf o505)) (.node o265 t20 (lf o590))) (.node o7 (.node o222 (lf o378) (lf o545)) (.node o7 (lf o458) .nil)))
def t700 : BT := (.node o7 (.node o129 (.node o7 (lf o359) t0) (.node o283 t0 .nil)) (.node o166 (.node o7 (lf o396) (lf o569)) (.node o322 (lf o479) .nil)))
def t702 : BT := (.node o55 (.node o97 (.node o7 t3 t3) (.node o256 t0 (lf o585))) (.node o144 (.node o217 (lf o373) t0) (.node o7 t0 .nil)))
def t703 : BT := (.node o76 (.node o124 (.node o7 (lf o354) (lf o519)) (.node o8 (lf o435) .nil)) (.node o7 (.node o236 t3 t0) (.node o317 (lf o472) .nil)))
def t706 : BT := (lf o554)
def t707 : BT := (.node o66 (.node o104 (.node o189 t0 t0) (.node o270 (lf o548) (lf (o595 P)))) (.node o8 (.node o227 (lf o383) t706) (.node o7 (lf o463) .nil)))
def t709 : BT := (.node (o86 P) (.node o134 (.node o7 (lf o364) t3) (.node o7 t3 .nil)) (.node o171 (.node o8 t0 (lf o573)) (.node o327 t20 .nil)))
def t710 : BT := (.node o547 (.node o18 (.node o8 (t693 P) (t696 P)) (.node o7 t698 t700)) (.node o23 (.node o33 t702 t703) (.node o45 (t707 P) (t709 P))))
def t712 : BT := (.node o7 (.node o8 (.node o174 (lf o330) (lf o495)) (.node o7 (lf o406) (lf o579))) (.node o137 (.node o8 (lf o366) t0) (.node o8 t0 .nil)))
def t715 : BT := (.node o7 (.node o114 (.node o8 (lf o348) (lf o513)) (.node o273 (lf (o429 P)) (lf o599))) (.node o7 (.node o7 (lf o386) (lf o557)) (.node o8 t3 .nil)))
def t717 : BT := (.node (o59 P) (.node (o105 P) (.node o184 t0 t0) (.node o263 (lf o419) (lf o588))) (.node o147 (.node o7 (lf o376) (lf o543)) (.node o8 (lf o457) .nil)))
def t719 : BT := (.node o79 (.node o128 (.node o8 (lf o357) t3) (.node o7 t3 .nil)) (.node o165 (.node o239 t0 (lf o567)) (.node o7 (lf o477) .nil)))
def t721 : BT := (.node o7 (.node o103 (.node o179 (lf o335) (lf o500)) (.node (o254 P) (lf o414) (lf (o583 P)))) (.node o142 (.node o216 (lf o371) t3) (.node o8 t3 .nil)))
def t723 : BT := (.node o74 (.node (o123 P) (.node o8 t0 t0) (.node o278 t0 .nil)) (.node o8 (.node o234 (lf o391) (lf o562)) (.node o316 (lf o471) .nil)))
def t726 : BT := (.node o65 (.node o110 (.node o7 t3 t3) (.node o268 t0 (lf o593))) (.node o152 (.node o7 (lf o381) (lf o552)) (.node o8 t0 .nil)))
def t728 : BT := (.node o7 (.node o7 (.node o8 t306 t36) (.node o8 t36 .nil)) (.node o7 (.node o244 t3 (lf o571)) (.node o325 (lf (o486 P)) .nil)))
def t729 : BT := (.node o10 (.node o7 (.node o28 t712 (t715 P)) (.node o8 (t717 P) t719)) (.node o22 (.node o7 (t721 P) (t723 P)) (.node o43 t726 (t728 P))))
def t730 : BT := (.node o52 (.node o92 (.node o8 (lf o332) t0) (.node o250 t3 t3)) (.node o8 (.node o214 t0 (lf o534)) (.node o294 (lf o450) .nil)))
def t731 : BT := (.node o7 (.node o117 (.node o195 (lf o351) (lf o516)) (.node o275 (lf o432) .nil)) (.node o158 (.node o7 (lf o388) t3) (.node o314 (lf o469) .nil)))
def t732 : BT := (.node o63 (.node o107 (.node o7 (lf o341) (lf o506)) (.node o7 t0 t3)) (.node o149 (.node o224 t0 t20) (.node o304 (lf o460) .nil)))
def t733 : BT := (.node o82 (.node o131 (.node o204 t0 (lf o525)) (.node o284 t454 .nil)) (.node o168 (.node o241 t316 t0) (.node o7 (lf (o482 P)) .nil)))
def t734 : BT := (.node (o57 P) (.node o99 (.node o181 t0 t0) (.node o261 (lf o416) t0)) (.node o8 (.node o219 t0 (lf o539)) (.node o299 (lf o455) .nil)))
def t736 : BT := (.node o23 (.node o126 (.node o200 t0 (lf (o521 P))) (.node o7 (lf (o437 P)) .nil)) (.node o163 (.node o8 t0 (lf o564)) (.node o319 (lf o474) .nil)))
def t737 : BT := (.node o68 (.node (o112 P) (.node o190 (lf o346) (lf o511)) (.node o8 (lf o427) t36)) (.node o7 (.node o127 t3 t0) (.node o309 (lf o464) .nil)))
def t739 : BT := (.node o87 (.node o7 (.node o209 t0 t0) (.node o289 t0 .nil)) (.node o7 (.node o7 (lf o402) (lf (o575 P))) (.node o8 t0 .nil)))
def t740 : BT := (.node o12 (.node o7 (.node o7 t730 t731) (.node o39 t732 (t733 P))) (.node o7 (.node o34 (t734 P) (t736 P)) (.node o47 (t737 P) (t739 P))))
def t741 : BT := (.node (o0 P) (.node (o1 P) (.node (o546 P) (t627 P) (t645 P)) (.node o5 (t661 P) (t675 P))) (.node (o409 P) (.node o4 (t691 P) (t710 P)) (.node o6 (t729 P) (t740 P))))
end
noncomputable def T8 (P : Params) : BT := (t741 P)
theorem p_7 : ∀ (w : World) (os : OsState), segRunT treeTable pw w 11 ann 1 1109 ⟨T7 w.params, 853, {}, #[], ⟨0, 0, 0, 0⟩, 1458, os⟩ (piecesOf ((B.drop 27).take 4) env cE ⟨507, 0, 545, 29⟩ fr0) = some (.next, ⟨T8 w.params, 934, {}, #[], ⟨0, 0, 0, 0⟩, 1594, os⟩, cE, ⟨573, 0, 588, 38⟩) := by
  intro w os
  rw [PySem.W.Fast.te10110043849684766642, PySem.W.Fast.te14364793385576792824]
  kernel_rfl
section
variable (P : Params)
def o603 : Obj := ⟨(.type "dict"), none, (.dict #[de P "__name__" 165 (sv "embit.transaction" 1525), de P "__doc__" 166 .none, de P "__package__" 167 .none, de P "__loader__" 168 (.builtin "__main__.__loader__#opaque"), de P "__spec__" 169 .none, dr P "__annotations__" 170 6, dr P "__builtins__" 171 4, de P "__file__" 173 (sv "/claim/cut.py" 172), de P "__cached__" 174 .none, dr P "_wall" 193 21, dr P "hexlify" 201 26, dr P "Sha256" 247 58, dr P "hashlib" 287 83, dr P "to_bytes" 297 94, dr P "_whence" 307 101, dr P "_index" 315 108, dr P "UnsupportedOperation" 337 118, dr P "IOBase" 369 138, dr P "BufferedIOBase" 387 153, dr P "TextIOBase" 405 165, dr P "BytesIO" 667 395, dr P "StringIO" 954 642, dr P "read_from" 966 651, dr P "read_from_compact" 967 651, dr P "double_sha256" 976 658, dr P "EmbitError" 998 668, dr P "EmbitBase" 1140 753, dr P "NETWORKS" 1329 758, dr P "Script" 1457 850, dr P "Witness" 1524 895, dr P "TransactionError" 1542 907, dr P "SIGHASH" 1593 929, dr P "Transaction" 1806 1068] 33), #[]⟩
noncomputable def o604 : Obj := ⟨.none, none, (.fields #[(.int 1 0), (.int 0 0), (.ref 20), (.int 5 0), (.int 0 0), (.ref 25), (.int 8 0), (.int 0 0), (.ref 32), (.int 19 0), (.int 0 0), (.ref 68), (.int 25 0), (.int 0 0), (.ref 93), (.int 39 0), (.int 0 0), (.ref 100), (.int 44 0), (.int 0 0), (.ref 107), (.int 51 0), (.int 0 0), (.ref 114), (.int 53 0), (.int 0 0), (.ref 127), (.int 60 0), (.int 0 0), (.ref 149), (.int 62 0), (.int 0 0), (.ref 161), (.int 64 0), (.int 0 0), (.ref 173), (.int 235 0), (.int 0 0), (.ref 403), (.int 442 0), (.int 0 0), (.ref 650), (.int 456 0), (.int 0 0), (.ref 657), (.int 459 0), (.int 0 0), (.ref 664), (.int 461 0), (.int 0 0), (.ref 677), (.int 507 0), (.int 0 0), (.ref 768), (.int 546 0), (.int 0 0), (.ref 858), (.int 571 0), (.int 0 0), (.ref 903), (.int 573 0), (.int 0 0), (.ref 915), (.int 589 0), (.int 0 0), (.ref 939)]), #[]⟩
noncomputable def o605 : Obj := ⟨(.type "type"), none, (.cls ⟨(Str.ofString "EmbitBase"), [(.type "object")], [(.ref 753), (.type "object")], 752, (Str.ofString "EmbitBase"), true, [], [(.ref 850), (.ref 895), (.ref 1068)], false, none, false⟩), #[none, none, (some (sv "EmbitBase" 999)), (some (sv "EmbitBase" 1007)), (some (.builtin "object.__new__")), (some (.bool true))]⟩
def o606 : Obj := ⟨(.type "dict"), none, (.dict #[de P "__module__" 1601 (sv "embit.transaction" 1525), de P "__qualname__" 1603 (sv "Transaction" 1602), de P "__firstlineno__" 1605 (.int 589 1604), dr P "__init__" 1618 950, dr P "clear_cache" 1625 957, dr P "is_segwit" 1634 965, dr P "write_to" 1645 972, dr P "hash" 1656 979, dr P "txid" 1663 986, dr P "read_vout" 1684 995, dr P "read_from" 1714 1005, dr P "hash_prevouts" 1721 1013, dr P "hash_sequence" 1728 1020, dr P "hash_outputs" 1735 1027, dr P "hash_amounts" 1743 1034, dr P "hash_script_pubkeys" 1751 1041, dr P "sighash_taproot" 1770 1049, dr P "sighash_segwit" 1782 1057, dr P "sighash_legacy" 1793 1065, dr P "__static_attributes__" 1803 1066] 20), #[]⟩
noncomputable def o607 : Obj := ⟨.none, none, (.fields #[(.int 591 0), (.int 4 0), (.ref 949), (.int 598 0), (.int 4 0), (.ref 956), (.int 606 0), (.int 4 0), (.ref 963), (.int 612 0), (.int 4 0), (.ref 971), (.int 628 0), (.int 4 0), (.ref 978), (.int 641 0), (.int 4 0), (.ref 985), (.int 645 0), (.int 4 0), (.ref 992), (.int 649 0), (.int 4 0), (.ref 1002), (.int 671 0), (.int 4 0), (.ref 1012), (.int 674 0), (.int 4 0), (.ref 1019), (.int 677 0), (.int 4 0), (.ref 1026), (.int 680 0), (.int 4 0), (.ref 1033), (.int 683 0), (.int 4 0), (.ref 1040), (.int 686 0), (.int 4 0), (.ref 1048), (.int 689 0), (.int 4 0), (.ref 1056), (.int 692 0), (.int 4 0), (.ref 1064)]), #[]⟩
def o608 : Obj := cO "Transaction" 1596 "Transaction" 1597 1598 589 0 0 0 0 937 false 181 938 .none .none .none .none 1599 589 1600
noncomputable def o609 : Obj := ⟨(.type "frame"), none, .plain, #[(some (.ref 939)), (some (.ref 3)), (some (.ref 936)), none, (some (sv "embit.transaction" 1525)), none, (some (.ref 0))]⟩
def o610 : Obj := uO #[(.int 2 1606), (.ref 941), (.ref 942), (.int 0 1607)]
def o611 : Obj := uO #[sv "self" 1611, sv "version" 1612, sv "vin" 1613, sv "vout" 1614, sv "locktime" 1615]
def o612 : Obj := fN (nth (clsB (nth B 31)) 0) "Transaction.__init__"
def o613 : Obj := cO "__init__" 1608 "Transaction.__init__" 1609 1610 591 5 0 0 3 944 true 181 945 .none (.ref 946) (.ref 947) (.ref 948) 1616 591 1617
def o614 : Obj := gN (nth (clsB (nth B 31)) 0) "Transaction.__init__" (.ref 943) .none .none "embit.transaction" 1525 (.ref 949) .none 3 0
def o615 : Obj := uO #[sv "self" 1622]
def o616 : Obj := fN (nth (clsB (nth B 31)) 1) "Transaction.clear_cache"
def o617 : Obj := cO "clear_cache" 1619 "Transaction.clear_cache" 1620 1621 598 1 0 0 3 951 true 181 952 .none (.ref 953) (.ref 954) (.ref 955) 1623 598 1624
def o618 : Obj := gN (nth (clsB (nth B 31)) 1) "Transaction.clear_cache" .none .none .none "embit.transaction" 1525 (.ref 956) .none 3 0
def o619 : Obj := uO #[sv "self" 1629, sv "inp" 1630]
def o620 : Obj := fN (nth (clsB (nth B 31)) 2) "Transaction.is_segwit"
def o621 : Obj := cO "is_segwit" 1626 "Transaction.is_segwit" 1627 1628 605 1 0 0 3 958 true 181 959 .none (.ref 960) (.ref 961) (.ref 962) 1631 605 1632
def o622 : Obj := gN (nth (clsB (nth B 31)) 2) "Transaction.is_segwit" .none .none .none "embit.transaction" 1525 (.ref 963) .none 3 0
noncomputable def o623 : Obj := ⟨(.type "property"), none, (.fields #[(.ref 964), .none, .none, .none, (sv "is_segwit" 1634), (.bool false)]), #[]⟩
def o624 : Obj := uO #[sv "self" 1638, sv "stream" 1639, sv "res" 1640, sv "inp" 1641, sv "out" 1642]
def o625 : Obj := fN (nth (clsB (nth B 31)) 3) "Transaction.write_to"
def o626 : Obj := cO "write_to" 1635 "Transaction.write_to" 1636 1637 612 2 0 0 3 966 true 181 967 .none (.ref 968) (.ref 969) (.ref 970) 1643 612 1644
def o627 : Obj := gN (nth (clsB (nth B 31)) 3) "Transaction.write_to" .none .none .none "embit.transaction" 1525 (.ref 971) .none 3 0
def o628 : Obj := uO #[sv "self" 1649, sv "h" 1650, sv "inp" 1651, sv "out" 1652, sv "hsh" 1653]
def o629 : Obj := fN (nth (clsB (nth B 31)) 4) "Transaction.hash"
def o630 : Obj := cO "hash" 1646 "Transaction.hash" 1647 1648 628 1 0 0 3 973 true 181 974 .none (.ref 975) (.ref 976) (.ref 977) 1654 628 1655
def o631 : Obj := gN (nth (clsB (nth B 31)) 4) "Transaction.hash" .none .none .none "embit.transaction" 1525 (.ref 978) .none 3 0
def o632 : Obj := uO #[sv "self" 1660]
def o633 : Obj := fN (nth (clsB (nth B 31)) 5) "Transaction.txid"
def o634 : Obj := cO "txid" 1657 "Transaction.txid" 1658 1659 641 1 0 0 3 980 true 181 981 .none (.ref 982) (.ref 983) (.ref 984) 1661 641 1662
def o635 : Obj := gN (nth (clsB (nth B 31)) 5) "Transaction.txid" .none .none .none "embit.transaction" 1525 (.ref 985) .none 3 0
def o636 : Obj := uO #[sv "cls" 1667, sv "stream" 1668, sv "idx" 1669]
def o637 : Obj := fN (nth (clsB (nth B 31)) 6) "Transaction.read_vout"
def o638 : Obj := cO "read_vout" 1664 "Transaction.read_vout" 1665 1666 644 3 0 0 3 987 true 181 988 .none (.ref 989) (.ref 990) (.ref 991) 1670 644 1671
def o639 : Obj := ⟨(.type "function"), none, (fnD (nth (clsB (nth B 31)) 6) (Str.ofString "Transaction.read_vout") .none .none .none (sv "embit.transaction" 1525) (some 996) (.ref 992) .none 3 0), #[]⟩
def o640 : Obj := ⟨(.type "dict"), none, (.dict #[de P "__module__" 1673 (sv "embit.transaction" 1525), de P "__name__" 1676 (sv "read_vout" 1675), de P "__qualname__" 1679 (sv "Transaction.read_vout" 1678), de P "__doc__" 1681 .none, dr P "__annotations__" 1683 996] 5), #[]⟩
noncomputable def o641 : Obj := ⟨(.type "classmethod"), (some 994), (.fields #[(.ref 993), (.bool false)]), #[]⟩
def o642 : Obj := uO #[sv "cls" 1688, sv "stream" 1689, sv "ver" 1690, sv "num_vin" 1691, sv "is_segwit" 1692, sv "marker" 1693, sv "vin" 1694, sv "i" 1695, sv "num_vout" 1696, sv "vout" 1697, sv "inp" 1698, sv "locktime" 1699]
def o643 : Obj := fN (nth (clsB (nth B 31)) 7) "Transaction.read_from"
def o644 : Obj := cO "read_from" 1685 "Transaction.read_from" 1686 1687 648 2 0 0 3 997 true 181 998 .none (.ref 999) (.ref 1000) (.ref 1001) 1700 648 1701
def o645 : Obj := ⟨(.type "function"), none, (fnD (nth (clsB (nth B 31)) 7) (Str.ofString "Transaction.read_from") .none .none .none (sv "embit.transaction" 1525) (some 1006) (.ref 1002) .none 3 0), #[]⟩
def o646 : Obj := ⟨(.type "dict"), none, (.dict #[de P "__module__" 1703 (sv "embit.transaction" 1525), de P "__name__" 1706 (sv "read_from" 1705), de P "__qualname__" 1709 (sv "Transaction.read_from" 1708), de P "__doc__" 1711 .none, dr P "__annotations__" 1713 1006] 5), #[]⟩
noncomputable def o647 : Obj := ⟨(.type "classmethod"), (some 1004), (.fields #[(.ref 1003), (.bool false)]), #[]⟩
def o648 : Obj := uO #[sv "self" 1718]
def o649 : Obj := fN (nth (clsB (nth B 31)) 8) "Transaction.hash_prevouts"
def o650 : Obj := cO "hash_prevouts" 1715 "Transaction.hash_prevouts" 1716 1717 671 1 0 0 3 1007 true 181 1008 .none (.ref 1009) (.ref 1010) (.ref 1011) 1719 671 1720
def o651 : Obj := gN (nth (clsB (nth B 31)) 8) "Transaction.hash_prevouts" .none .none .none "embit.transaction" 1525 (.ref 1012) .none 3 0
def o652 : Obj := uO #[sv "self" 1725]
def o653 : Obj := fN (nth (clsB (nth B 31)) 9) "Transaction.hash_sequence"
def o654 : Obj := cO "hash_sequence" 1722 "Transaction.hash_sequence" 1723 1724 674 1 0 0 3 1014 true 181 1015 .none (.ref 1016) (.ref 1017) (.ref 1018) 1726 674 1727
def o655 : Obj := gN (nth (clsB (nth B 31)) 9) "Transaction.hash_sequence" .none .none .none "embit.transaction" 1525 (.ref 1019) .none 3 0
def o656 : Obj := uO #[sv "self" 1732]
def o657 : Obj := fN (nth (clsB (nth B 31)) 10) "Transaction.hash_outputs"
def o658 : Obj := cO "hash_outputs" 1729 "Transaction.hash_outputs" 1730 1731 677 1 0 0 3 1021 true 181 1022 .none (.ref 1023) (.ref 1024) (.ref 1025) 1733 677 1734
def o659 : Obj := gN (nth (clsB (nth B 31)) 10) "Transaction.hash_outputs" .none .none .none "embit.transaction" 1525 (.ref 1026) .none 3 0
def o660 : Obj := uO #[sv "self" 1739, sv "amounts" 1740]
def o661 : Obj := fN (nth (clsB (nth B 31)) 11) "Transaction.hash_amounts"
def o662 : Obj := cO "hash_amounts" 1736 "Transaction.hash_amounts" 1737 1738 680 2 0 0 3 1028 true 181 1029 .none (.ref 1030) (.ref 1031) (.ref 1032) 1741 680 1742
def o663 : Obj := gN (nth (clsB (nth B 31)) 11) "Transaction.hash_amounts" .none .none .none "embit.transaction" 1525 (.ref 1033) .none 3 0
def o664 : Obj := uO #[sv "self" 1747, sv "script_pubkeys" 1748]
def o665 : Obj := fN (nth (clsB (nth B 31)) 12) "Transaction.hash_script_pubkeys"
def o666 : Obj := cO "hash_script_pubkeys" 1744 "Transaction.hash_script_pubkeys" 1745 1746 683 2 0 0 3 1035 true 181 1036 .none (.ref 1037) (.ref 1038) (.ref 1039) 1749 683 1750
def o667 : Obj := gN (nth (clsB (nth B 31)) 12) "Transaction.hash_script_pubkeys" .none .none .none "embit.transaction" 1525 (.ref 1040) .none 3 0
def o668 : Obj := uO #[(.int 0 1555), (.int 0 1753), .none, .none, (.int 192 1754), .none]
def o669 : Obj := uO #[sv "self" 1758, sv "input_index" 1759, sv "script_pubkeys" 1760, sv "values" 1761, sv "sighash" 1762, sv "ext_flag" 1763, sv "annex" 1764, sv "script" 1765, sv "leaf_version" 1766, sv "codeseparator_pos" 1767]
def o670 : Obj := fN (nth (clsB (nth B 31)) 13) "Transaction.sighash_taproot"
def o671 : Obj := cO "sighash_taproot" 1755 "Transaction.sighash_taproot" 1756 1757 686 10 0 0 3 1043 true 181 1044 .none (.ref 1045) (.ref 1046) (.ref 1047) 1768 686 1769
def o672 : Obj := gN (nth (clsB (nth B 31)) 13) "Transaction.sighash_taproot" (.ref 1042) .none .none "embit.transaction" 1525 (.ref 1048) .none 3 0
def o673 : Obj := uO #[(.int 1 1557)]
def o674 : Obj := uO #[sv "self" 1775, sv "input_index" 1776, sv "script_pubkey" 1777, sv "value" 1778, sv "sighash" 1779]
def o675 : Obj := fN (nth (clsB (nth B 31)) 14) "Transaction.sighash_segwit"
def o676 : Obj := cO "sighash_segwit" 1772 "Transaction.sighash_segwit" 1773 1774 689 5 0 0 3 1051 true 181 1052 .none (.ref 1053) (.ref 1054) (.ref 1055) 1780 689 1781
def o677 : Obj := gN (nth (clsB (nth B 31)) 14) "Transaction.sighash_segwit" (.ref 1050) .none .none "embit.transaction" 1525 (.ref 1056) .none 3 0
def o678 : Obj := uO #[sv "self" 1787, sv "input_index" 1788, sv "script_pubkey" 1789, sv "sighash" 1790]
def o679 : Obj := fN (nth (clsB (nth B 31)) 15) "Transaction.sighash_legacy"
def o680 : Obj := cO "sighash_legacy" 1784 "Transaction.sighash_legacy" 1785 1786 692 4 0 0 3 1059 true 181 1060 .none (.ref 1061) (.ref 1062) (.ref 1063) 1791 692 1792
def o681 : Obj := gN (nth (clsB (nth B 31)) 15) "Transaction.sighash_legacy" (.ref 1058) .none .none "embit.transaction" 1525 (.ref 1064) .none 3 0
def o682 : Obj := uO #[sv "_hash_amounts" 1794, sv "_hash_outputs" 1795, sv "_hash_prevouts" 1796, sv "_hash_script_pubkeys" 1797, sv "_hash_sequence" 1798, sv "locktime" 1799, sv "version" 1800, sv "vin" 1801, sv "vout" 1802]
def o683 : Obj := ⟨(.type "dict"), none, (.dict #[de P "__module__" 1601 (sv "embit.transaction" 1525), de P "__firstlineno__" 1605 (.int 589 1604), dr P "__init__" 1618 950, dr P "clear_cache" 1625 957, dr P "is_segwit" 1634 965, dr P "write_to" 1645 972, dr P "hash" 1656 979, dr P "txid" 1663 986, dr P "read_vout" 1684 995, dr P "read_from" 1714 1005, dr P "hash_prevouts" 1721 1013, dr P "hash_sequence" 1728 1020, dr P "hash_outputs" 1735 1027, dr P "hash_amounts" 1743 1034, dr P "hash_script_pubkeys" 1751 1041, dr P "sighash_taproot" 1770 1049, dr P "sighash_segwit" 1782 1057, dr P "sighash_legacy" 1793 1065, dr P "__static_attributes__" 1803 1066, de P "__doc__" 1804 .none] 2), #[]⟩
noncomputable def o684 : Obj := ⟨(.type "type"), none, (.cls ⟨(Str.ofString "Transaction"), [(.ref 753)], [(.ref 1068), (.ref 753), (.type "object")], 1067, (Str.ofString "Transaction"), true, [], [], false, none, false⟩), #[(some (.ref 934)), none, (some (sv "Transaction" 1594)), (some (sv "Transaction" 1602)), (some (.builtin "object.__new__")), (some (.bool true))]⟩
noncomputable def o685 : Obj := ⟨(.type "super"), none, (.fields #[(.ref 1068), (.ref 1068), (.ref 1068)]), #[]⟩
noncomputable def o686 : Obj := ⟨(.type "builtin_function_or_method"), none, (.fields #[(.builtin "object.__init_subclass__"), (.ref 1068)]), #[]⟩
def t742 : BT := (.node o328 (lf o656) .nil)
def t743 : BT := (.node o7 (.node o88 (.node o8 t742 (lf o492)) (.node o246 (lf o403) (lf o576))) (.node o8 (.node o210 t3 (lf o530)) (.node o290 (lf o446) t3)))
def t744 : BT := (.node o347 (lf o675) .nil)
def t746 : BT := (.node o7 (.node o7 (.node o191 t744 (lf o512)) (.node o271 (lf o428) t0)) (.node o154 (.node o7 (lf o384) t3) (.node o310 (lf o465) (lf o637))))
def t747 : BT := (.node o337 (lf o665) .nil)
def t749 : BT := (.node o58 (.node o100 (.node o7 t747 (lf o502)) (.node o23 t0 t20)) (.node o145 (.node o7 t3 (lf o540)) (.node o300 (lf o456) (lf o628))))
def t751 : BT := (.node (o78 P) (.node o127 (.node o201 t3 (lf o522)) (.node o280 (lf o438) (lf o610))) (.node o164 (.node o237 (lf o393) t0) (.node o7 t0 t0)))
def t752 : BT := (.node o7 (.node o93 (.node o177 t64 (lf o497)) (.node o251 (lf o412) (lf o581))) (.node o140 (.node o215 t3 (lf o535)) (.node o295 (lf o451) t3)))
def t753 : BT := (.node o7 (lf o679) .nil)
def t755 : BT := (.node o8 (.node o118 (.node o196 t753 t0) (.node o7 t0 t20)) (.node o159 (.node o8 t0 (lf o560)) (.node o315 (lf o470) (lf o642))))
def t756 : BT := (.node o342 (lf o670) .nil)
def t757 : BT := (.node o64 (.node o7 (.node o186 t756 (lf o507)) (.node o8 t3 (lf o591))) (.node o7 (.node o7 t3 (lf (o550 P))) (.node o305 (lf (o461 P)) t0)))
def t758 : BT := (.node o83 (.node o7 (.node o205 t3 (lf o526)) (.node o285 t342 t0)) (.node o7 (.node o7 t185 t3) (.node o8 (lf (o483 P)) t3)))
def t759 : BT := (.node o7 (.node o7 (.node o25 t743 t746) (.node o35 t749 (t751 P))) (.node o8 (.node o30 t752 t755) (.node o40 (t757 P) (t758 P))))
def t760 : BT := (.node o331 (lf o659) .nil)
def t762 : BT := (.node o49 (.node o90 (.node o175 t760 t0) (.node o8 (lf o407) t20)) (.node o138 (.node o212 (lf o367) t3) (.node o292 t3 (lf o621))))
def t764 : BT := (.node o70 (.node o7 (.node o193 t64 t0) (.node o274 t0 (lf o600))) (.node o8 (.node o230 (lf o387) (lf o558)) (.node o312 (lf o467) (lf o641))))
def t766 : BT := (.node o60 (.node o7 (.node o7 t37 t3) (.node o264 (lf o420) (lf o589))) (.node o148 (.node o221 (lf o377) (lf o544)) (.node o302 t0 (lf o631))))
def t768 : BT := (.node o80 (.node o7 (.node o202 (lf o358) (lf o523)) (.node o8 (lf o439) t0)) (.node o7 (.node o240 t3 (lf (o568 P))) (.node o321 (lf o478) (lf o649))))
def t770 : BT := (.node o54 (.node o96 (.node o180 t64 t0) (.node o255 (lf o415) (lf o584))) (.node o143 (.node o7 (lf o372) (lf o537)) (.node o297 (lf o453) (lf o626))))
def t771 : BT := (.node o353 (lf (o683 P)) .nil)
def t774 : BT := (.node o75 (.node o7 (.node o198 (t771 P) (lf o518)) (.node o7 (lf o434) (lf o608))) (.node o161 (.node o235 t0 (lf o563)) (.node o7 t0 (lf o645))))
def t775 : BT := (.node o344 (lf o7) .nil)
def t776 : BT := (.node o7 (.node o111 (.node o8 t775 (lf o509)) (.node o269 (lf (o424 P)) (lf o594))) (.node o7 (.node o226 (lf o382) (lf o553)) (.node o307 t3 t0)))
def t779 : BT := (.node o23 (.node o133 (.node o207 (lf o363) t0) (.node o287 t0 (lf o616))) (.node o170 (.node o7 (lf o400) (lf o572)) (.node o326 t515 (lf o654))))
def t780 : BT := (.node o7 (.node o17 (.node o7 t762 t764) (.node o37 t766 (t768 P))) (.node o7 (.node o8 t770 (t774 P)) (.node o44 (t776 P) t779)))
def t781 : BT := (.node o329 (lf o657) .nil)
def t782 : BT := (.node (o48 P) (.node o7 (.node o7 t781 (lf o494)) (.node o248 (lf (o405 P)) (lf o578))) (.node o7 (.node o7 t0 (lf o532)) (.node o7 (lf o448) t0)))
def t783 : BT := (.node o8 (lf o677) .nil)
def t785 : BT := (.node o69 (.node o113 (.node o7 t783 t3) (.node o272 t20 (lf o598))) (.node o156 (.node o229 (lf o385) t0) (.node o7 t0 (lf o639))))
def t786 : BT := (.node o339 (lf o667) .nil)
def t788 : BT := (.node o7 (.node o23 (.node o183 t786 (lf o504)) (.node o7 (lf o418) t0)) (.node o146 (.node o220 t0 (lf (o542 P))) (.node o7 t3 (lf o629))))
def t791 : BT := (.node o8 (.node o8 (.node o7 t0 t0) (.node o282 t0 t3)) (.node o8 (.node o238 (lf o395) (lf o566)) (.node o320 (lf o605) (lf o648))))
def t792 : BT := (.node o334 (lf o662) .nil)
def t793 : BT := (.node o53 (.node (o94 P) (.node o178 t792 (lf o499)) (.node o253 (lf o413) t0)) (.node o141 (.node o8 t0 t0) (.node o7 t0 t0)))
def t794 : BT := (.node o352 (lf o681) .nil)
def t796 : BT := (.node o7 (.node o23 (.node o7 t794 (lf o517)) (.node o277 (lf o433) t0)) (.node o7 (.node o7 (lf o390) (lf o561)) (.node o8 t3 (lf o643))))
def t797 : BT := (.node o7 (lf o672) .nil)
def t799 : BT := (.node o8 (.node o121 (.node o188 t797 t0) (.node o7 (lf o423) (lf o592))) (.node o151 (.node o225 t0 (lf o551)) (.node o7 t36 (lf o634))))
def t801 : BT := (.node o85 (.node o132 (.node o7 t0 (lf o528)) (.node o7 t375 (lf o615))) (.node o169 (.node o243 t0 t0) (.node o7 (lf (o485 P)) t0)))
def t802 : BT := (.node o9 (.node o16 (.node o27 (t782 P) t785) (.node o7 (t788 P) t791)) (.node o21 (.node o32 (t793 P) t796) (.node (o42 P) t799 (t801 P))))
def t804 : BT := (.node o51 (.node o91 (.node o7 t80 (lf o496)) (.node o7 t0 t0)) (.node o7 (.node o213 (lf o369) t0) (.node o293 t0 (lf o623))))
def t805 : BT := (.node o350 (lf o678) .nil)
def t806 : BT := (.node o72 (.node o260 (.node o194 t805 (lf o515)) (.node o8 (lf o431) (lf o602))) (.node o7 (.node o232 t3 t0) (.node o313 (lf o468) t0)))
def t807 : BT := (.node o7 (lf o669) .nil)
def t808 : BT := (.node o62 (.node o106 (.node o185 t807 t0) (.node o266 (lf (o421 P)) t0)) (.node o8 (.node o223 (lf o379) t515) (.node o303 (lf o459) t3)))
def t811 : BT := (.node (o81 P) (.node o130 (.node o203 (lf o360) (lf o524)) (.node o7 (lf o440) (lf o613))) (.node o167 (.node o8 t0 t36) (.node o323 (lf o480) (lf o651))))
def t812 : BT := (.node o336 (lf o664) .nil)
def t813 : BT := (.node o56 (.node o98 (.node o8 t812 (lf o501)) (.node o257 t3 (lf o586))) (.node o7 (.node o218 (lf o374) (lf o538)) (.node o298 (lf o454) t0)))
def t814 : BT := (.node o355 (lf o685) .nil)
def t816 : BT := (.node o77 (.node o125 (.node o199 t814 (lf o520)) (.node o279 (lf o436) t706)) (.node o162 (.node o7 (lf o392) t3) (.node o318 (lf o473) (lf o647))))
def t817 : BT := (.node o345 (lf o674) .nil)
def t819 : BT := (.node o67 (.node o23 (.node o7 t817 (lf o510)) (.node o7 (lf o426) (lf o596))) (.node o153 (.node o228 t0 (lf o555)) (.node o308 t0 (lf o636))))
def t821 : BT := (.node o7 (.node o135 (.node o208 (lf o127) (lf o529)) (.node o288 (lf o445) (lf o618))) (.node o172 (.node o245 (lf o401) (lf o574)) (.node o7 (lf (o491 P)) t0)))
def t822 : BT := (.node o11 (.node o19 (.node o29 t804 t806) (.node o38 (t808 P) (t811 P))) (.node (o24 P) (.node o7 t813 t816) (.node o46 t819 (t821 P))))
def t824 : BT := (.node o23 (.node o89 (.node o173 t64 (lf o493)) (.node o247 (lf o404) (lf o577))) (.node o136 (.node o211 (lf o365) (lf o531)) (.node o291 (lf o447) (lf o619))))
def t825 : BT := (.node o7 (lf o676) .nil)
def t827 : BT := (.node o8 (.node o8 (.node o192 t825 t0) (.node o7 t0 (lf (o597 P)))) (.node o155 (.node o8 t0 (lf o556)) (.node o311 (lf o466) (lf o638))))
def t828 : BT := (.node o338 (lf o666) .nil)
def t829 : BT := (.node o6 (.node o104 (.node o182 t828 (lf o503)) (.node (o262 P) (lf o417) (lf (o587 P)))) (.node o7 (.node o8 (lf o375) (lf o541)) (.node o301 t0 t0)))
def t830 : BT := (.node o7 (.node o7 (.node o127 (lf o356) t36) (.node o281 t36 t0)) (.node o7 (.node o7 (lf o394) (lf o565)) (.node o8 (lf (o475 P)) t3)))
def t831 : BT := (.node o333 (lf o661) .nil)
def t833 : BT := (.node o8 (.node o7 (.node o7 t831 (lf o498)) (.node o252 t0 (lf o582))) (.node o7 (.node o7 (lf o370) (lf o536)) (.node o296 (lf o452) (lf o624))))
def t834 : BT := (.node o8 (lf o680) .nil)
def t836 : BT := (.node o73 (.node o122 (.node o197 t834 t3) (.node o276 t3 (lf (o606 P)))) (.node o160 (.node o233 (lf o389) t0) (.node o7 t0 t0)))
def t837 : BT := (.node o343 (lf o671) .nil)
def t839 : BT := (.node o7 (.node (o108 P) (.node o187 t837 (lf o508)) (.node o267 (lf o422) t0)) (.node o150 (.node o8 (lf o380) t0) (.node o306 (lf o462) (lf o633))))
def t841 : BT := (.node o84 (.node o8 (.node o206 t264 (lf (o527 P))) (.node o286 (t412 P) t3)) (.node o8 (.node o242 t265 (lf o570)) (.node o324 (lf (o484 P)) (lf o652))))
def t842 : BT := (.node o8 (.node o8 (.node o26 t824 (t827 P)) (.node o36 (t829 P) (t830 P))) (.node o20 (.node o31 t833 (t836 P)) (.node o41 (t839 P) (t841 P))))
def t844 : BT := (.node o50 (.node o7 (.node o176 t64 t3) (.node o249 (lf o408) (lf (o580 P)))) (.node o139 (.node o7 (lf o368) (lf o533)) (.node o7 (lf o449) (lf o622))))
def t845 : BT := (.node o349 (lf o8) .nil)
def t846 : BT := (.node o71 (.node (o115 P) (.node o7 t845 (lf o514)) (.node o7 (lf o430) (lf o601))) (.node o157 (.node o231 t0 (lf o559)) (.node o7 t0 t36)))
def t847 : BT := (.node o340 (lf o8) .nil)
def t848 : BT := (.node o61 (.node o8 (.node o8 t847 (lf o505)) (.node o265 t20 (lf o590))) (.node o7 (.node o222 (lf o378) (lf o545)) (.node o7 (lf o458) t0)))
def t851 : BT := (.node o7 (.node o129 (.node o7 (lf o359) t0) (.node o283 t0 (lf o612))) (.node o166 (.node o7 (lf o396) (lf o569)) (.node o322 (lf o479) (lf o650))))
def t853 : BT := (.node o55 (.node o97 (.node o7 t80 t3) (.node o256 t0 (lf o585))) (.node o144 (.node o217 (lf o373) t0) (.node o7 t0 (lf o627))))
def t854 : BT := (.node o354 (lf o684) .nil)
def t857 : BT := (.node o76 (.node o124 (.node o7 t854 (lf o519)) (.node o8 (lf o435) (lf o609))) (.node o7 (.node o236 t3 t0) (.node o317 (lf o472) (lf (o646 P)))))
def t858 : BT := (.node o66 (.node o104 (.node o189 t49 t0) (.node o270 (lf o548) (lf (o595 P)))) (.node o8 (.node o227 (lf o383) t706) (.node o7 (lf o463) t3)))
def t861 : BT := (.node (o86 P) (.node o134 (.node o7 (lf o364) t3) (.node o7 t3 (lf o617))) (.node o171 (.node o8 t0 (lf o573)) (.node o327 t20 (lf o655))))
def t862 : BT := (.node o604 (.node o18 (.node o8 (t844 P) (t846 P)) (.node o7 t848 t851)) (.node o23 (.node o33 t853 (t857 P)) (.node o45 (t858 P) (t861 P))))
def t863 : BT := (.node o330 (lf o658) .nil)
def t865 : BT := (.node o7 (.node o8 (.node o174 t863 (lf o495)) (.node o7 (lf o406) (lf o579))) (.node o137 (.node o8 (lf o366) t0) (.node o8 t0 (lf o620))))
def t866 : BT := (.node o348 (lf o673) .nil)
def t868 : BT := (.node o7 (.node o114 (.node o8 t866 (lf o513)) (.node o273 (lf (o429 P)) (lf o599))) (.node o7 (.node o7 (lf o386) (lf o557)) (.node o8 t3 (lf (o640 P)))))
def t869 : BT := (.node o7 (lf o668) .nil)
def t871 : BT := (.node (o59 P) (.node (o105 P) (.node o184 t869 t0) (.node o263 (lf o419) (lf o588))) (.node o147 (.node o7 (lf o376) (lf o543)) (.node o8 (lf o457) (lf o630))))
def t873 : BT := (.node o79 (.node o128 (.node o8 (lf o357) t3) (.node o7 t3 (lf o611))) (.node o165 (.node o239 t0 (lf o567)) (.node o7 (lf o477) t0)))
def t874 : BT := (.node o335 (lf o663) .nil)
def t876 : BT := (.node o7 (.node o103 (.node o179 t874 (lf o500)) (.node (o254 P) (lf o414) (lf (o583 P)))) (.node o142 (.node o216 (lf o371) t3) (.node o8 t3 (lf o625))))
def t877 : BT := (.node o7 (lf o682) .nil)
def t880 : BT := (.node o74 (.node (o123 P) (.node o8 t877 t0) (.node o278 t0 (lf o607))) (.node o8 (.node o234 (lf o391) (lf o562)) (.node o316 (lf o471) (lf o644))))
def t881 : BT := (.node o8 (lf o673) .nil)
def t883 : BT := (.node o65 (.node o110 (.node o7 t881 t3) (.node o268 t0 (lf o593))) (.node o152 (.node o7 (lf o381) (lf o552)) (.node o8 t0 (lf o635))))
def t885 : BT := (.node o7 (.node o7 (.node o8 t306 t36) (.node o8 t36 t0)) (.node o7 (.node o244 t3 (lf o571)) (.node o325 (lf (o486 P)) (lf o653))))
def t886 : BT := (.node o10 (.node o7 (.node o28 t865 (t868 P)) (.node o8 (t871 P) t873)) (.node o22 (.node o7 (t876 P) (t880 P)) (.node o43 t883 (t885 P))))
def t887 : BT := (.node o332 (lf o660) .nil)
def t888 : BT := (.node o52 (.node o92 (.node o8 t887 t0) (.node o250 t3 t3)) (.node o8 (.node o214 t0 (lf o534)) (.node o294 (lf o450) t0)))
def t889 : BT := (.node o351 (lf o7) .nil)
def t890 : BT := (.node o7 (.node o117 (.node o195 t889 (lf o516)) (.node o275 (lf o432) t515)) (.node o158 (.node o7 (lf o388) t3) (.node o314 (lf o469) t3)))
def t891 : BT := (.node o341 (lf o7) .nil)
def t893 : BT := (.node o63 (.node o107 (.node o7 t891 (lf o506)) (.node o7 t0 t3)) (.node o149 (.node o224 t0 t20) (.node o304 (lf o460) (lf o632))))
def t895 : BT := (.node o82 (.node o131 (.node o204 t0 (lf o525)) (.node o284 t454 (lf o614))) (.node o168 (.node o241 t316 t0) (.node o7 (lf (o482 P)) t0)))
def t896 : BT := (.node (o57 P) (.node o99 (.node o181 t64 t0) (.node o261 (lf o416) t0)) (.node o8 (.node o219 t0 (lf o539)) (.node o299 (lf o455) t3)))
def t897 : BT := (.node o7 (lf o686) .nil)
def t898 : BT := (.node o23 (.node o126 (.node o200 t897 (lf (o521 P))) (.node o7 (lf (o437 P)) t706)) (.node o163 (.node o8 t0 (lf o564)) (.node o319 (lf o474) t36)))
def t899 : BT := (.node o346 (lf o7) .nil)
def t900 : BT := (.node o68 (.node (o112 P) (.node o190 t899 (lf o511)) (.node o8 (lf o427) t36)) (.node o7 (.node o127 t3 t0) (.node o309 (lf o464) t0)))
def t901 : BT := (.node o87 (.node o7 (.node o209 t0 t0) (.node o289 t0 t0)) (.node o7 (.node o7 (lf o402) (lf (o575 P))) (.node o8 t0 t3)))
def t902 : BT := (.node o12 (.node o7 (.node o7 t888 t890) (.node o39 t893 (t895 P))) (.node o7 (.node o34 (t896 P) (t898 P)) (.node o47 (t900 P) (t901 P))))
def t903 : BT := (.node (o0 P) (.node (o1 P) (.node (o603 P) (t759 P) (t780 P)) (.node o5 (t802 P) (t822 P))) (.node (o409 P) (.node o4 (t842 P) (t862 P)) (.node o6 (t886 P) (t902 P))))
end
noncomputable def T9 (P : Params) : BT := (t903 P)
theorem p_8 : ∀ (w : World) (os : OsState), segRunT treeTable pw w 11 ann 1 1144 ⟨T8 w.params, 934, {}, #[], ⟨0, 0, 0, 0⟩, 1594, os⟩ (piecesOf ((B.drop 31).take 1) env cE ⟨573, 0, 588, 38⟩ fr0) = some (.next, ⟨T9 w.params, 1071, {}, #[], ⟨0, 0, 0, 0⟩, 1807, os⟩, cE, ⟨589, 0, 693, 17⟩) := by
  intro w os
  rw [PySem.W.Fast.te10110043849684766642, PySem.W.Fast.te14364793385576792824]
  kernel_rfl
section
variable (P : Params)
def o687 : Obj := ⟨(.type "dict"), none, (.dict #[de P "__name__" 165 (sv "law_bd0011_03" 1946), de P "__doc__" 166 .none, de P "__package__" 167 .none, de P "__loader__" 168 (.builtin "__main__.__loader__#opaque"), de P "__spec__" 169 .none, dr P "__annotations__" 170 6, dr P "__builtins__" 171 4, de P "__file__" 173 (sv "/claim/cut.py" 172), de P "__cached__" 174 .none, dr P "_wall" 193 21, dr P "hexlify" 201 26, dr P "Sha256" 247 58, dr P "hashlib" 287 83, dr P "to_bytes" 297 94, dr P "_whence" 307 101, dr P "_index" 315 108, dr P "UnsupportedOperation" 337 118, dr P "IOBase" 369 138, dr P "BufferedIOBase" 387 153, dr P "TextIOBase" 405 165, dr P "BytesIO" 667 395, dr P "StringIO" 954 642, dr P "read_from" 966 651, dr P "read_from_compact" 967 651, dr P "double_sha256" 976 658, dr P "EmbitError" 998 668, dr P "EmbitBase" 1140 753, dr P "NETWORKS" 1329 758, dr P "Script" 1457 850, dr P "Witness" 1524 895, dr P "TransactionError" 1542 907, dr P "SIGHASH" 1593 929, dr P "Transaction" 1806 1068, dr P "TransactionInput" 1887 1114, dr P "TransactionOutput" 1945 1150, dr P "_law_number" 1955 1159, dr P "_law_octets" 1963 1166, dr P "_law_inputs" 1969 1171, dr P "_law_outputs" 1975 1176, dr P "_law_kept" 1981 1181, dr P "law" 1987 1186] 41), #[]⟩
noncomputable def o688 : Obj := ⟨.none, none, (.fields #[(.int 1 0), (.int 0 0), (.ref 20), (.int 5 0), (.int 0 0), (.ref 25), (.int 8 0), (.int 0 0), (.ref 32), (.int 19 0), (.int 0 0), (.ref 68), (.int 25 0), (.int 0 0), (.ref 93), (.int 39 0), (.int 0 0), (.ref 100), (.int 44 0), (.int 0 0), (.ref 107), (.int 51 0), (.int 0 0), (.ref 114), (.int 53 0), (.int 0 0), (.ref 127), (.int 60 0), (.int 0 0), (.ref 149), (.int 62 0), (.int 0 0), (.ref 161), (.int 64 0), (.int 0 0), (.ref 173), (.int 235 0), (.int 0 0), (.ref 403), (.int 442 0), (.int 0 0), (.ref 650), (.int 456 0), (.int 0 0), (.ref 657), (.int 459 0), (.int 0 0), (.ref 664), (.int 461 0), (.int 0 0), (.ref 677), (.int 507 0), (.int 0 0), (.ref 768), (.int 546 0), (.int 0 0), (.ref 858), (.int 571 0), (.int 0 0), (.ref 903), (.int 573 0), (.int 0 0), (.ref 915), (.int 589 0), (.int 0 0), (.ref 939), (.int 694 0), (.int 0 0), (.ref 1076), (.int 733 0), (.int 0 0), (.ref 1122), (.int 750 0), (.int 0 0), (.ref 1158), (.int 752 0), (.int 0 0), (.ref 1165), (.int 754 0), (.int 0 0), (.ref 1170), (.int 761 0), (.int 0 0), (.ref 1175), (.int 763 0), (.int 0 0), (.ref 1180), (.int 765 0), (.int 0 0), (.ref 1185)]), #[]⟩
noncomputable def o689 : Obj := ⟨(.type "type"), none, (.cls ⟨(Str.ofString "EmbitBase"), [(.type "object")], [(.ref 753), (.type "object")], 752, (Str.ofString "EmbitBase"), true, [], [(.ref 850), (.ref 895), (.ref 1068), (.ref 1114), (.ref 1150)], false, none, false⟩), #[none, none, (some (sv "EmbitBase" 999)), (some (sv "EmbitBase" 1007)), (some (.builtin "object.__new__")), (some (.bool true))]⟩
def o690 : Obj := ⟨(.type "dict"), none, (.dict #[de P "__module__" 1814 (sv "embit.transaction" 1525), de P "__qualname__" 1816 (sv "TransactionInput" 1815), de P "__firstlineno__" 1818 (.int 694 1817), dr P "__init__" 1831 1085, dr P "is_segwit" 1839 1093, dr P "write_to" 1854 1101, dr P "read_from" 1878 1110, dr P "__static_attributes__" 1884 1112] 8), #[]⟩
noncomputable def o691 : Obj := ⟨.none, none, (.fields #[(.int 696 0), (.int 4 0), (.ref 1084), (.int 708 0), (.int 4 0), (.ref 1091), (.int 711 0), (.int 4 0), (.ref 1100), (.int 727 0), (.int 4 0), (.ref 1107)]), #[]⟩
def o692 : Obj := cO "TransactionInput" 1809 "TransactionInput" 1810 1811 694 0 0 0 0 1074 false 181 1075 .none .none .none .none 1812 694 1813
noncomputable def o693 : Obj := ⟨(.type "frame"), none, .plain, #[(some (.ref 1076)), (some (.ref 3)), (some (.ref 1073)), none, (some (sv "embit.transaction" 1525)), none, (some (.ref 0))]⟩
def o694 : Obj := uO #[.none, (.int 4294967295 1819), .none]
def o695 : Obj := uO #[sv "self" 1823, sv "txid" 1824, sv "vout" 1825, sv "script_sig" 1826, sv "sequence" 1827, sv "witness" 1828]
def o696 : Obj := fN (nth (clsB (nth B 32)) 0) "TransactionInput.__init__"
def o697 : Obj := cO "__init__" 1820 "TransactionInput.__init__" 1821 1822 696 6 0 0 3 1079 true 181 1080 .none (.ref 1081) (.ref 1082) (.ref 1083) 1829 696 1830
def o698 : Obj := gN (nth (clsB (nth B 32)) 0) "TransactionInput.__init__" (.ref 1078) .none .none "embit.transaction" 1525 (.ref 1084) .none 3 0
def o699 : Obj := uO #[sv "self" 1835]
def o700 : Obj := fN (nth (clsB (nth B 32)) 1) "TransactionInput.is_segwit"
def o701 : Obj := cO "is_segwit" 1832 "TransactionInput.is_segwit" 1833 1834 707 1 0 0 3 1086 true 181 1087 .none (.ref 1088) (.ref 1089) (.ref 1090) 1836 707 1837
def o702 : Obj := gN (nth (clsB (nth B 32)) 1) "TransactionInput.is_segwit" .none .none .none "embit.transaction" 1525 (.ref 1091) .none 3 0
noncomputable def o703 : Obj := ⟨(.type "property"), none, (.fields #[(.ref 1092), .none, .none, .none, (sv "is_segwit" 1839), (.bool false)]), #[]⟩
def o704 : Obj := uO #[.none, (.int 1 1557)]
def o705 : Obj := uO #[sv "self" 1844, sv "stream" 1845, sv "script_sig" 1846, sv "sighash" 1847, sv "sh" 1848, sv "anyonecanpay" 1849, sv "sequence" 1850, sv "res" 1851]
def o706 : Obj := fN (nth (clsB (nth B 32)) 2) "TransactionInput.write_to"
def o707 : Obj := cO "write_to" 1841 "TransactionInput.write_to" 1842 1843 711 4 0 0 3 1095 true 181 1096 .none (.ref 1097) (.ref 1098) (.ref 1099) 1852 711 1853
def o708 : Obj := gN (nth (clsB (nth B 32)) 2) "TransactionInput.write_to" (.ref 1094) .none .none "embit.transaction" 1525 (.ref 1100) .none 3 0
def o709 : Obj := uO #[sv "cls" 1858, sv "stream" 1859, sv "txid" 1860, sv "vout" 1861, sv "script_sig" 1862, sv "sequence" 1863]
def o710 : Obj := fN (nth (clsB (nth B 32)) 3) "TransactionInput.read_from"
def o711 : Obj := cO "read_from" 1855 "TransactionInput.read_from" 1856 1857 726 2 0 0 3 1102 true 181 1103 .none (.ref 1104) (.ref 1105) (.ref 1106) 1864 726 1865
def o712 : Obj := ⟨(.type "function"), none, (fnD (nth (clsB (nth B 32)) 3) (Str.ofString "TransactionInput.read_from") .none .none .none (sv "embit.transaction" 1525) (some 1111) (.ref 1107) .none 3 0), #[]⟩
def o713 : Obj := ⟨(.type "dict"), none, (.dict #[de P "__module__" 1867 (sv "embit.transaction" 1525), de P "__name__" 1870 (sv "read_from" 1869), de P "__qualname__" 1873 (sv "TransactionInput.read_from" 1872), de P "__doc__" 1875 .none, dr P "__annotations__" 1877 1111] 5), #[]⟩
noncomputable def o714 : Obj := ⟨(.type "classmethod"), (some 1109), (.fields #[(.ref 1108), (.bool false)]), #[]⟩
def o715 : Obj := uO #[sv "script_sig" 1879, sv "sequence" 1880, sv "txid" 1881, sv "vout" 1882, sv "witness" 1883]
def o716 : Obj := ⟨(.type "dict"), none, (.dict #[de P "__module__" 1814 (sv "embit.transaction" 1525), de P "__firstlineno__" 1818 (.int 694 1817), dr P "__init__" 1831 1085, dr P "is_segwit" 1839 1093, dr P "write_to" 1854 1101, dr P "read_from" 1878 1110, dr P "__static_attributes__" 1884 1112, de P "__doc__" 1885 .none] 2), #[]⟩
noncomputable def o717 : Obj := ⟨(.type "type"), none, (.cls ⟨(Str.ofString "TransactionInput"), [(.ref 753)], [(.ref 1114), (.ref 753), (.type "object")], 1113, (Str.ofString "TransactionInput"), true, [], [], false, none, false⟩), #[(some (.ref 1071)), none, (some (sv "TransactionInput" 1807)), (some (sv "TransactionInput" 1815)), (some (.builtin "object.__new__")), (some (.bool true))]⟩
noncomputable def o718 : Obj := ⟨(.type "super"), none, (.fields #[(.ref 1114), (.ref 1114), (.ref 1114)]), #[]⟩
noncomputable def o719 : Obj := ⟨(.type "builtin_function_or_method"), none, (.fields #[(.builtin "object.__init_subclass__"), (.ref 1114)]), #[]⟩
def o720 : Obj := ⟨(.type "dict"), none, (.dict #[de P "__module__" 1895 (sv "embit.transaction" 1525), de P "__qualname__" 1897 (sv "TransactionOutput" 1896), de P "__firstlineno__" 1899 (.int 733 1898), dr P "__init__" 1908 1130, dr P "write_to" 1917 1137, dr P "read_from" 1939 1146, dr P "__static_attributes__" 1942 1148] 7), #[]⟩
noncomputable def o721 : Obj := ⟨.none, none, (.fields #[(.int 735 0), (.int 4 0), (.ref 1129), (.int 739 0), (.int 4 0), (.ref 1136), (.int 745 0), (.int 4 0), (.ref 1143)]), #[]⟩
def o722 : Obj := cO "TransactionOutput" 1890 "TransactionOutput" 1891 1892 733 0 0 0 0 1120 false 181 1121 .none .none .none .none 1893 733 1894
noncomputable def o723 : Obj := ⟨(.type "frame"), none, .plain, #[(some (.ref 1122)), (some (.ref 3)), (some (.ref 1119)), none, (some (sv "embit.transaction" 1525)), none, (some (.ref 0))]⟩
def o724 : Obj := uO #[sv "self" 1903, sv "value" 1904, sv "script_pubkey" 1905]
def o725 : Obj := fN (nth (clsB (nth B 33)) 0) "TransactionOutput.__init__"
def o726 : Obj := cO "__init__" 1900 "TransactionOutput.__init__" 1901 1902 735 3 0 0 3 1124 true 181 1125 .none (.ref 1126) (.ref 1127) (.ref 1128) 1906 735 1907
def o727 : Obj := gN (nth (clsB (nth B 33)) 0) "TransactionOutput.__init__" .none .none .none "embit.transaction" 1525 (.ref 1129) .none 3 0
def o728 : Obj := uO #[sv "self" 1912, sv "stream" 1913, sv "res" 1914]
def o729 : Obj := fN (nth (clsB (nth B 33)) 1) "TransactionOutput.write_to"
def o730 : Obj := cO "write_to" 1909 "TransactionOutput.write_to" 1910 1911 739 2 0 0 3 1131 true 181 1132 .none (.ref 1133) (.ref 1134) (.ref 1135) 1915 739 1916
def o731 : Obj := gN (nth (clsB (nth B 33)) 1) "TransactionOutput.write_to" .none .none .none "embit.transaction" 1525 (.ref 1136) .none 3 0
def o732 : Obj := uO #[sv "cls" 1921, sv "stream" 1922, sv "value" 1923, sv "script_pubkey" 1924]
def o733 : Obj := fN (nth (clsB (nth B 33)) 2) "TransactionOutput.read_from"
def o734 : Obj := cO "read_from" 1918 "TransactionOutput.read_from" 1919 1920 744 2 0 0 3 1138 true 181 1139 .none (.ref 1140) (.ref 1141) (.ref 1142) 1925 744 1926
def o735 : Obj := ⟨(.type "function"), none, (fnD (nth (clsB (nth B 33)) 2) (Str.ofString "TransactionOutput.read_from") .none .none .none (sv "embit.transaction" 1525) (some 1147) (.ref 1143) .none 3 0), #[]⟩
def o736 : Obj := ⟨(.type "dict"), none, (.dict #[de P "__module__" 1928 (sv "embit.transaction" 1525), de P "__name__" 1931 (sv "read_from" 1930), de P "__qualname__" 1934 (sv "TransactionOutput.read_from" 1933), de P "__doc__" 1936 .none, dr P "__annotations__" 1938 1147] 5), #[]⟩
noncomputable def o737 : Obj := ⟨(.type "classmethod"), (some 1145), (.fields #[(.ref 1144), (.bool false)]), #[]⟩
def o738 : Obj := uO #[sv "script_pubkey" 1940, sv "value" 1941]
def o739 : Obj := ⟨(.type "dict"), none, (.dict #[de P "__module__" 1895 (sv "embit.transaction" 1525), de P "__firstlineno__" 1899 (.int 733 1898), dr P "__init__" 1908 1130, dr P "write_to" 1917 1137, dr P "read_from" 1939 1146, dr P "__static_attributes__" 1942 1148, de P "__doc__" 1943 .none] 2), #[]⟩
noncomputable def o740 : Obj := ⟨(.type "type"), none, (.cls ⟨(Str.ofString "TransactionOutput"), [(.ref 753)], [(.ref 1150), (.ref 753), (.type "object")], 1149, (Str.ofString "TransactionOutput"), true, [], [], false, none, false⟩), #[(some (.ref 1117)), none, (some (sv "TransactionOutput" 1888)), (some (sv "TransactionOutput" 1896)), (some (.builtin "object.__new__")), (some (.bool true))]⟩
noncomputable def o741 : Obj := ⟨(.type "super"), none, (.fields #[(.ref 1150), (.ref 1150), (.ref 1150)]), #[]⟩
noncomputable def o742 : Obj := ⟨(.type "builtin_function_or_method"), none, (.fields #[(.builtin "object.__init_subclass__"), (.ref 1150)]), #[]⟩
def o743 : Obj := uO #[sv "script" 1951, sv "place" 1952]
def o744 : Obj := fN (nth B 35) "_law_number"
def o745 : Obj := cO "_law_number" 1948 "_law_number" 1949 1950 750 2 0 0 3 1153 true 181 1154 .none (.ref 1155) (.ref 1156) (.ref 1157) 1953 750 1954
def o746 : Obj := gN (nth B 35) "_law_number" .none .none .none "law_bd0011_03" 1946 (.ref 1158) .none 3 0
def o747 : Obj := uO #[sv "number" 1959, sv "size" 1960]
def o748 : Obj := fN (nth B 36) "_law_octets"
def o749 : Obj := cO "_law_octets" 1956 "_law_octets" 1957 1958 752 2 0 0 3 1160 true 181 1161 .none (.ref 1162) (.ref 1163) (.ref 1164) 1961 752 1962
def o750 : Obj := gN (nth B 36) "_law_octets" .none .none .none "law_bd0011_03" 1946 (.ref 1165) .none 3 0
def o751 : Obj := fN (nth B 37) "_law_inputs"
def o752 : Obj := cO "_law_inputs" 1964 "_law_inputs" 1965 1966 754 2 0 0 3 1167 true 181 1168 .none .none .none (.ref 1169) 1967 754 1968
def o753 : Obj := gN (nth B 37) "_law_inputs" .none .none .none "law_bd0011_03" 1946 (.ref 1170) .none 3 0
def o754 : Obj := fN (nth B 38) "_law_outputs"
def o755 : Obj := cO "_law_outputs" 1970 "_law_outputs" 1971 1972 761 2 0 0 3 1172 true 181 1173 .none .none .none (.ref 1174) 1973 761 1974
def o756 : Obj := gN (nth B 38) "_law_outputs" .none .none .none "law_bd0011_03" 1946 (.ref 1175) .none 3 0
def o757 : Obj := fN (nth B 39) "_law_kept"
def o758 : Obj := cO "_law_kept" 1976 "_law_kept" 1977 1978 763 1 0 0 3 1177 true 181 1178 .none .none .none (.ref 1179) 1979 763 1980
def o759 : Obj := gN (nth B 39) "_law_kept" .none .none .none "law_bd0011_03" 1946 (.ref 1180) .none 3 0
def o760 : Obj := fN (nth B 40) "law"
def o761 : Obj := cO "law" 1982 "law" 1983 1984 765 1 0 0 3 1182 true 181 1183 .none .none .none (.ref 1184) 1985 765 1986
def o762 : Obj := gN (nth B 40) "law" .none .none .none "law_bd0011_03" 1946 (.ref 1185) .none 3 0
def t904 : BT := (.node o403 (lf o741) .nil)
def t905 : BT := (.node o7 (.node o88 (.node o8 t742 (lf o492)) (.node o246 t904 (lf o576))) (.node o8 (.node o210 t80 (lf o530)) (.node o290 (lf o446) t3)))
def t906 : BT := (.node o428 (lf o8) .nil)
def t907 : BT := (.node o384 (lf (o720 P)) .nil)
def t908 : BT := (.node o7 (.node o7 (.node o191 t744 (lf o512)) (.node o271 t906 t0)) (.node o154 (.node o7 (t907 P) t3) (.node o310 (lf o465) (lf o637))))
def t909 : BT := (.node o58 (.node o100 (.node o7 t747 (lf o502)) (.node o23 t64 t20)) (.node o145 (.node o7 t80 (lf o540)) (.node o300 (lf o456) (lf o628))))
def t910 : BT := (.node o8 (lf o490) .nil)
def t911 : BT := (.node o393 (lf o729) .nil)
def t912 : BT := (.node (o78 P) (.node o127 (.node o201 t910 (lf o522)) (.node o280 (lf o438) (lf o610))) (.node o164 (.node o237 t911 t0) (.node o7 t0 t0)))
def t913 : BT := (.node o412 (lf o746) .nil)
def t914 : BT := (.node o7 (.node o93 (.node o177 t64 (lf o497)) (.node o251 t913 (lf o581))) (.node o140 (.node o215 t37 (lf o535)) (.node o295 (lf o451) t3)))
def t915 : BT := (.node o8 (.node o118 (.node o196 t753 t0) (.node o7 t0 t20)) (.node o159 (.node o8 t64 (lf o560)) (.node o315 (lf o470) (lf o642))))
def t916 : BT := (.node o8 (lf o755) .nil)
def t917 : BT := (.node o8 (lf o6) .nil)
def t918 : BT := (.node o64 (.node o7 (.node o186 t756 (lf o507)) (.node o8 t916 (lf o591))) (.node o7 (.node o7 t917 (lf (o550 P))) (.node o305 (lf (o461 P)) t0)))
def t919 : BT := (.node o398 (lf o734) .nil)
def t920 : BT := (.node o83 (.node o7 (.node o205 t37 (lf o526)) (.node o285 t342 t0)) (.node o7 (.node o7 t919 t3) (.node o8 (lf (o483 P)) t3)))
def t921 : BT := (.node o7 (.node o7 (.node o25 t905 (t908 P)) (.node o35 t909 (t912 P))) (.node o8 (.node o30 t914 t915) (.node o40 (t918 P) (t920 P))))
def t922 : BT := (.node o407 (lf o743) .nil)
def t923 : BT := (.node o367 (lf o701) .nil)
def t924 : BT := (.node o49 (.node o90 (.node o175 t760 t0) (.node o8 t922 t20)) (.node o138 (.node o212 t923 t3) (.node o292 t3 (lf o621))))
def t925 : BT := (.node o387 (lf o723) .nil)
def t926 : BT := (.node o70 (.node o7 (.node o193 t64 t0) (.node o274 t0 (lf o600))) (.node o8 (.node o230 t925 (lf o558)) (.node o312 (lf o467) (lf o641))))
def t927 : BT := (.node o420 (lf o753) .nil)
def t928 : BT := (.node o377 (lf o711) .nil)
def t929 : BT := (.node o60 (.node o7 (.node o7 t37 t3) (.node o264 t927 (lf o589))) (.node o148 (.node o221 t928 (lf o544)) (.node o302 t0 (lf o631))))
def t930 : BT := (.node o358 (lf o691) .nil)
def t931 : BT := (.node o80 (.node o7 (.node o202 t930 (lf o523)) (.node o8 (lf o439) t0)) (.node o7 (.node o240 t80 (lf (o568 P))) (.node o321 (lf o478) (lf o649))))
def t932 : BT := (.node o415 (lf o7) .nil)
def t933 : BT := (.node o372 (lf o706) .nil)
def t934 : BT := (.node o54 (.node o96 (.node o180 t64 t0) (.node o255 t932 (lf o584))) (.node o143 (.node o7 t933 (lf o537)) (.node o297 (lf o453) (lf o626))))
def t935 : BT := (.node o75 (.node o7 (.node o198 (t771 P) (lf o518)) (.node o7 (lf o434) (lf o608))) (.node o161 (.node o235 t64 (lf o563)) (.node o7 t0 (lf o645))))
def t936 : BT := (.node (o424 P) (lf o757) .nil)
def t937 : BT := (.node o382 (lf o718) .nil)
def t938 : BT := (.node o7 (.node o111 (.node o8 t775 (lf o509)) (.node o269 (t936 P) (lf o594))) (.node o7 (.node o226 t937 (lf o553)) (.node o307 t3 t0)))
def t939 : BT := (.node o363 (lf o696) .nil)
def t940 : BT := (.node o400 (lf o6) .nil)
def t941 : BT := (.node o23 (.node o133 (.node o207 t939 t0) (.node o287 t0 (lf o616))) (.node o170 (.node o7 t940 (lf o572)) (.node o326 t515 (lf o654))))
def t942 : BT := (.node o7 (.node o17 (.node o7 t924 t926) (.node o37 t929 (t931 P))) (.node o7 (.node o8 t934 (t935 P)) (.node o44 (t938 P) t941)))
def t943 : BT := (.node (o405 P) (lf o7) .nil)
def t944 : BT := (.node (o48 P) (.node o7 (.node o7 t781 (lf o494)) (.node o248 (t943 P) (lf o578))) (.node o7 (.node o7 t64 (lf o532)) (.node o7 (lf o448) t0)))
def t945 : BT := (.node o23 (lf o761) .nil)
def t946 : BT := (.node o385 (lf o721) .nil)
def t947 : BT := (.node o69 (.node o113 (.node o7 t783 t3) (.node o272 t945 (lf o598))) (.node o156 (.node o229 t946 t0) (.node o7 t0 (lf o639))))
def t948 : BT := (.node o418 (lf o751) .nil)
def t949 : BT := (.node o7 (.node o23 (.node o183 t786 (lf o504)) (.node o7 t948 t0)) (.node o146 (.node o220 t64 (lf (o542 P))) (.node o7 t3 (lf o629))))
def t950 : BT := (.node o7 (lf (o690 P)) .nil)
def t951 : BT := (.node o395 (lf o731) .nil)
def t953 : BT := (.node o8 (.node o8 (.node o7 (t950 P) t0) (.node o282 t0 t3)) (.node o8 (.node o238 t951 (lf o566)) (.node o320 (lf o689) (lf o648))))
def t954 : BT := (.node o413 (lf o8) .nil)
def t955 : BT := (.node o7 (lf o705) .nil)
def t956 : BT := (.node o53 (.node (o94 P) (.node o178 t792 (lf o499)) (.node o253 t954 t0)) (.node o141 (.node o8 t955 t0) (.node o7 t0 t0)))
def t957 : BT := (.node o390 (lf o726) .nil)
def t958 : BT := (.node o7 (.node o23 (.node o7 t794 (lf o517)) (.node o277 (lf o433) t0)) (.node o7 (.node o7 t957 (lf o561)) (.node o8 t3 (lf o643))))
def t959 : BT := (.node o423 (lf o7) .nil)
def t960 : BT := (.node o7 (lf (o716 P)) .nil)
def t961 : BT := (.node o8 (.node o121 (.node o188 t797 t0) (.node o7 t959 (lf o592))) (.node o151 (.node o225 (t960 P) (lf o551)) (.node o7 t36 (lf o634))))
def t962 : BT := (.node o7 (lf o695) .nil)
def t963 : BT := (.node o7 (lf (o736 P)) .nil)
def t964 : BT := (.node o85 (.node o132 (.node o7 t962 (lf o528)) (.node o7 t375 (lf o615))) (.node o169 (.node o243 (t963 P) t0) (.node o7 (lf (o485 P)) t0)))
def t965 : BT := (.node o9 (.node o16 (.node o27 (t944 P) t947) (.node o7 (t949 P) (t953 P))) (.node o21 (.node o32 (t956 P) t958) (.node (o42 P) (t961 P) (t964 P))))
def t966 : BT := (.node o7 (lf o744) .nil)
def t967 : BT := (.node o369 (lf o703) .nil)
def t968 : BT := (.node o51 (.node o91 (.node o7 t80 (lf o496)) (.node o7 t966 t0)) (.node o7 (.node o213 t967 t0) (.node o293 t0 (lf o623))))
def t969 : BT := (.node o72 (.node o260 (.node o194 t805 (lf o515)) (.node o8 (lf o431) (lf o602))) (.node o7 (.node o232 t80 t0) (.node o313 (lf o468) t0)))
def t970 : BT := (.node (o421 P) (lf o8) .nil)
def t971 : BT := (.node o379 (lf (o713 P)) .nil)
def t972 : BT := (.node o62 (.node o106 (.node o185 t807 t0) (.node o266 (t970 P) t0)) (.node o8 (.node o223 (t971 P) t515) (.node o303 (lf o459) t3)))
def t973 : BT := (.node o360 (lf o693) .nil)
def t974 : BT := (.node (o81 P) (.node o130 (.node o203 t973 (lf o524)) (.node o7 (lf o440) (lf o613))) (.node o167 (.node o8 t64 t36) (.node o323 (lf o480) (lf o651))))
def t975 : BT := (.node o8 (lf o749) .nil)
def t976 : BT := (.node o374 (lf o708) .nil)
def t977 : BT := (.node o56 (.node o98 (.node o8 t812 (lf o501)) (.node o257 t975 (lf o586))) (.node o7 (.node o218 t976 (lf o538)) (.node o298 (lf o454) t0)))
def t978 : BT := (.node o392 (lf o728) .nil)
def t979 : BT := (.node o77 (.node o125 (.node o199 t814 (lf o520)) (.node o279 (lf o436) t706)) (.node o162 (.node o7 t978 t3) (.node o318 (lf o473) (lf o647))))
def t980 : BT := (.node o426 (lf o759) .nil)
def t981 : BT := (.node o7 (lf o490) .nil)
def t982 : BT := (.node o67 (.node o23 (.node o7 t817 (lf o510)) (.node o7 t980 (lf o596))) (.node o153 (.node o228 t981 (lf o555)) (.node o308 t0 (lf o636))))
def t983 : BT := (.node o127 (lf o698) .nil)
def t984 : BT := (.node o401 (lf (o739 P)) .nil)
def t985 : BT := (.node o7 (.node o135 (.node o208 t983 (lf o529)) (.node o288 (lf o445) (lf o618))) (.node o172 (.node o245 (t984 P) (lf o574)) (.node o7 (lf (o491 P)) t0)))
def t986 : BT := (.node o11 (.node o19 (.node o29 t968 t969) (.node o38 (t972 P) (t974 P))) (.node (o24 P) (.node o7 t977 t979) (.node o46 t982 (t985 P))))
def t987 : BT := (.node o404 (lf o742) .nil)
def t988 : BT := (.node o365 (lf o699) .nil)
def t989 : BT := (.node o23 (.node o89 (.node o173 t64 (lf o493)) (.node o247 t987 (lf o577))) (.node o136 (.node o211 t988 (lf o531)) (.node o291 (lf o447) (lf o619))))
def t990 : BT := (.node o7 (lf o760) .nil)
def t991 : BT := (.node o8 (.node o8 (.node o192 t825 t0) (.node o7 t990 (lf (o597 P)))) (.node o155 (.node o8 t64 (lf o556)) (.node o311 (lf o466) (lf o638))))
def t992 : BT := (.node o417 (lf o8) .nil)
def t993 : BT := (.node o375 (lf o709) .nil)
def t994 : BT := (.node o6 (.node o104 (.node o182 t828 (lf o503)) (.node (o262 P) t992 (lf (o587 P)))) (.node o7 (.node o8 t993 (lf o541)) (.node o301 t0 t0)))
def t995 : BT := (.node o356 (lf o23) .nil)
def t996 : BT := (.node o394 (lf o730) .nil)
def t997 : BT := (.node o7 (.node o7 (.node o127 t995 t36) (.node o281 t36 t0)) (.node o7 (.node o7 t996 (lf o565)) (.node o8 (lf (o475 P)) t3)))
def t998 : BT := (.node o370 (lf o8) .nil)
def t999 : BT := (.node o8 (.node o7 (.node o7 t831 (lf o498)) (.node o252 t64 (lf o582))) (.node o7 (.node o7 t998 (lf o536)) (.node o296 (lf o452) (lf o624))))
def t1000 : BT := (.node o389 (lf o725) .nil)
def t1001 : BT := (.node o73 (.node o122 (.node o197 t834 t3) (.node o276 t3 (lf (o606 P)))) (.node o160 (.node o233 t1000 t0) (.node o7 t0 t0)))
def t1002 : BT := (.node o422 (lf o756) .nil)
def t1003 : BT := (.node o380 (lf o715) .nil)
def t1004 : BT := (.node o7 (.node (o108 P) (.node o187 t837 (lf o508)) (.node o267 t1002 t0)) (.node o150 (.node o8 t1003 t0) (.node o306 (lf o462) (lf o633))))
def t1005 : BT := (.node o361 (lf o8) .nil)
def t1006 : BT := (.node o399 (lf o735) .nil)
def t1007 : BT := (.node o84 (.node o8 (.node o206 t1005 (lf (o527 P))) (.node o286 (t412 P) t3)) (.node o8 (.node o242 t1006 (lf o570)) (.node o324 (lf (o484 P)) (lf o652))))
def t1008 : BT := (.node o8 (.node o8 (.node o26 t989 (t991 P)) (.node o36 (t994 P) (t997 P))) (.node o20 (.node o31 t999 (t1001 P)) (.node o41 (t1004 P) (t1007 P))))
def t1009 : BT := (.node o408 (lf o7) .nil)
def t1010 : BT := (.node o368 (lf o702) .nil)
def t1011 : BT := (.node o50 (.node o7 (.node o176 t64 t3) (.node o249 t1009 (lf (o580 P)))) (.node o139 (.node o7 t1010 (lf o533)) (.node o7 (lf o449) (lf o622))))
def t1012 : BT := (.node o71 (.node (o115 P) (.node o7 t845 (lf o514)) (.node o7 (lf o430) (lf o601))) (.node o157 (.node o231 t64 (lf o559)) (.node o7 t0 t36)))
def t1013 : BT := (.node o23 (lf o7) .nil)
def t1014 : BT := (.node o378 (lf o712) .nil)
def t1015 : BT := (.node o61 (.node o8 (.node o8 t847 (lf o505)) (.node o265 t1013 (lf o590))) (.node o7 (.node o222 t1014 (lf o545)) (.node o7 (lf o458) t0)))
def t1016 : BT := (.node o359 (lf o692) .nil)
def t1017 : BT := (.node o396 (lf o732) .nil)
def t1018 : BT := (.node o7 (.node o129 (.node o7 t1016 t0) (.node o283 t0 (lf o612))) (.node o166 (.node o7 t1017 (lf o569)) (.node o322 (lf o479) (lf o650))))
def t1019 : BT := (.node o7 (lf o748) .nil)
def t1020 : BT := (.node o373 (lf o707) .nil)
def t1021 : BT := (.node o55 (.node o97 (.node o7 t80 t3) (.node o256 t1019 (lf o585))) (.node o144 (.node o217 t1020 t0) (.node o7 t0 (lf o627))))
def t1022 : BT := (.node o76 (.node o124 (.node o7 t854 (lf o519)) (.node o8 (lf o435) (lf o609))) (.node o7 (.node o236 t80 t0) (.node o317 (lf o472) (lf (o646 P)))))
def t1023 : BT := (.node o548 (lf o758) .nil)
def t1024 : BT := (.node o383 (lf o719) .nil)
def t1025 : BT := (.node o66 (.node o104 (.node o189 t49 t0) (.node o270 t1023 (lf (o595 P)))) (.node o8 (.node o227 t1024 t706) (.node o7 (lf o463) t3)))
def t1026 : BT := (.node o364 (lf o697) .nil)
def t1027 : BT := (.node o7 (lf o738) .nil)
def t1028 : BT := (.node (o86 P) (.node o134 (.node o7 t1026 t3) (.node o7 t3 (lf o617))) (.node o171 (.node o8 t1027 (lf o573)) (.node o327 t20 (lf o655))))
def t1029 : BT := (.node o688 (.node o18 (.node o8 (t1011 P) (t1012 P)) (.node o7 t1015 t1018)) (.node o23 (.node o33 t1021 (t1022 P)) (.node o45 (t1025 P) (t1028 P))))
def t1030 : BT := (.node o406 (lf o8) .nil)
def t1031 : BT := (.node o366 (lf o700) .nil)
def t1032 : BT := (.node o7 (.node o8 (.node o174 t863 (lf o495)) (.node o7 t1030 (lf o579))) (.node o137 (.node o8 t1031 t0) (.node o8 t0 (lf o620))))
def t1033 : BT := (.node (o429 P) (lf o762) .nil)
def t1034 : BT := (.node o386 (lf o722) .nil)
def t1035 : BT := (.node o7 (.node o114 (.node o8 t866 (lf o513)) (.node o273 (t1033 P) (lf o599))) (.node o7 (.node o7 t1034 (lf o557)) (.node o8 t3 (lf (o640 P)))))
def t1036 : BT := (.node o419 (lf o752) .nil)
def t1037 : BT := (.node o376 (lf o710) .nil)
def t1038 : BT := (.node (o59 P) (.node (o105 P) (.node o184 t869 t0) (.node o263 t1036 (lf o588))) (.node o147 (.node o7 t1037 (lf o543)) (.node o8 (lf o457) (lf o630))))
def t1039 : BT := (.node o357 (lf o7) .nil)
def t1040 : BT := (.node o79 (.node o128 (.node o8 t1039 t3) (.node o7 t3 (lf o611))) (.node o165 (.node o239 t64 (lf o567)) (.node o7 (lf o477) t0)))
def t1041 : BT := (.node o414 (lf o747) .nil)
def t1042 : BT := (.node o371 (lf o7) .nil)
def t1043 : BT := (.node o7 (.node o103 (.node o179 t874 (lf o500)) (.node (o254 P) t1041 (lf (o583 P)))) (.node o142 (.node o216 t1042 t3) (.node o8 t3 (lf o625))))
def t1044 : BT := (.node o391 (lf o727) .nil)
def t1045 : BT := (.node o74 (.node (o123 P) (.node o8 t877 t0) (.node o278 t0 (lf o607))) (.node o8 (.node o234 t1044 (lf o562)) (.node o316 (lf o471) (lf o644))))
def t1046 : BT := (.node o381 (lf o717) .nil)
def t1047 : BT := (.node o65 (.node o110 (.node o7 t881 t3) (.node o268 t49 (lf o593))) (.node o152 (.node o7 t1046 (lf o552)) (.node o8 t0 (lf o635))))
def t1048 : BT := (.node o362 (lf o7) .nil)
def t1049 : BT := (.node o8 (lf o737) .nil)
def t1050 : BT := (.node o7 (.node o7 (.node o8 t1048 t36) (.node o8 t36 t0)) (.node o7 (.node o244 t1049 (lf o571)) (.node o325 (lf (o486 P)) (lf o653))))
def t1051 : BT := (.node o10 (.node o7 (.node o28 t1032 (t1035 P)) (.node o8 (t1038 P) t1040)) (.node o22 (.node o7 (t1043 P) (t1045 P)) (.node o43 t1047 (t1050 P))))
def t1052 : BT := (.node o8 (lf o745) .nil)
def t1053 : BT := (.node o7 (lf o704) .nil)
def t1054 : BT := (.node o52 (.node o92 (.node o8 t887 t0) (.node o250 t1052 t3)) (.node o8 (.node o214 t1053 (lf o534)) (.node o294 (lf o450) t0)))
def t1055 : BT := (.node o388 (lf o724) .nil)
def t1056 : BT := (.node o7 (.node o117 (.node o195 t889 (lf o516)) (.node o275 (lf o432) t515)) (.node o158 (.node o7 t1055 t3) (.node o314 (lf o469) t3)))
def t1057 : BT := (.node o7 (lf o754) .nil)
def t1058 : BT := (.node o7 (lf o714) .nil)
def t1059 : BT := (.node o63 (.node o107 (.node o7 t891 (lf o506)) (.node o7 t1057 t3)) (.node o149 (.node o224 t1058 t20) (.node o304 (lf o460) (lf o632))))
def t1060 : BT := (.node o7 (lf o694) .nil)
def t1061 : BT := (.node o397 (lf o733) .nil)
def t1062 : BT := (.node o82 (.node o131 (.node o204 t1060 (lf o525)) (.node o284 t454 (lf o614))) (.node o168 (.node o241 t1061 t0) (.node o7 (lf (o482 P)) t0)))
def t1063 : BT := (.node o416 (lf o750) .nil)
def t1064 : BT := (.node (o57 P) (.node o99 (.node o181 t64 t0) (.node o261 t1063 t0)) (.node o8 (.node o219 t64 (lf o539)) (.node o299 (lf o455) t3)))
def t1065 : BT := (.node o23 (.node o126 (.node o200 t897 (lf (o521 P))) (.node o7 (lf (o437 P)) t706)) (.node o163 (.node o8 t64 (lf o564)) (.node o319 (lf o474) t36)))
def t1066 : BT := (.node o427 (lf o7) .nil)
def t1067 : BT := (.node o8 (lf o23) .nil)
def t1068 : BT := (.node o68 (.node (o112 P) (.node o190 t899 (lf o511)) (.node o8 t1066 t36)) (.node o7 (.node o127 t1067 t0) (.node o309 (lf o464) t0)))
def t1069 : BT := (.node o402 (lf o740) .nil)
def t1070 : BT := (.node o87 (.node o7 (.node o209 t64 t0) (.node o289 t0 t0)) (.node o7 (.node o7 t1069 (lf (o575 P))) (.node o8 t0 t3)))
def t1071 : BT := (.node o12 (.node o7 (.node o7 t1054 t1056) (.node o39 t1059 (t1062 P))) (.node o7 (.node o34 (t1064 P) (t1065 P)) (.node o47 (t1068 P) (t1070 P))))
def t1072 : BT := (.node (o0 P) (.node (o1 P) (.node (o687 P) (t921 P) (t942 P)) (.node o5 (t965 P) (t986 P))) (.node (o409 P) (.node o4 (t1008 P) (t1029 P)) (.node o6 (t1051 P) (t1071 P))))
end
noncomputable def T10 (P : Params) : BT := (t1072 P)
theorem p_9 : ∀ (w : World) (os : OsState), segRunT treeTable pw w 11 ann 1 1187 ⟨T9 w.params, 1071, {}, #[], ⟨0, 0, 0, 0⟩, 1807, os⟩ (piecesOf ((B.drop 32).take 9) env cE ⟨589, 0, 693, 17⟩ fr0) = some (.next, ⟨T10 w.params, 1187, {}, #[], ⟨0, 0, 0, 0⟩, 1988, os⟩, cE, ⟨765, 0, 794, 162⟩) := by
  intro w os
  rw [PySem.W.Fast.te10110043849684766642, PySem.W.Fast.te14364793385576792824]
  kernel_rfl
noncomputable def L0 (P : Params) (r : List Obj) : List Obj := o0 P :: o1 P :: o409 P :: o687 P :: o4 :: o5 :: o6 :: o7 :: o8 :: o9 :: o10 :: o7 :: o688 :: o11 :: o12 :: o7 :: o8 :: o16 :: o7 :: o17 :: o18 :: o19 :: o7 :: o8 :: o20 :: o21 :: o22 :: o7 :: o23 :: o24 P :: o7 :: o25 :: o26 :: o27 :: o28 :: o7 :: o8 :: o29 :: o7 :: o30 :: o31 :: o32 :: o7 :: o8 :: o33 :: o7 :: o34 :: o35 :: r
noncomputable def L1 (P : Params) (r : List Obj) : List Obj := o36 :: o7 :: o8 :: o37 :: o7 :: o38 :: o39 :: o40 :: o41 :: o42 P :: o43 :: o44 :: o45 :: o46 :: o47 :: o7 :: o23 :: o48 P :: o7 :: o49 :: o50 :: o51 :: o52 :: o7 :: o8 :: o53 :: o7 :: o54 :: o55 :: o56 :: o57 P :: o58 :: o6 :: o7 :: o59 P :: o60 :: o61 :: o62 :: o63 :: o64 :: o7 :: o8 :: o65 :: o7 :: o66 :: o67 :: o68 :: o7 :: r
noncomputable def L2 (P : Params) (r : List Obj) : List Obj := o8 :: o69 :: o7 :: o70 :: o71 :: o72 :: o7 :: o8 :: o73 :: o7 :: o74 :: o75 :: o76 :: o77 :: o23 :: o78 P :: o7 :: o8 :: o79 :: o80 :: o7 :: o81 P :: o82 :: o83 :: o84 :: o85 :: o7 :: o23 :: o86 P :: o7 :: o87 :: o88 :: o89 :: o7 :: o8 :: o90 :: o7 :: o91 :: o92 :: o93 :: o7 :: o94 P :: o103 :: o96 :: o97 :: o98 :: o99 :: o100 :: r
noncomputable def L3 (P : Params) (r : List Obj) : List Obj := o104 :: o23 :: o105 P :: o7 :: o8 :: o106 :: o107 :: o7 :: o108 P :: o121 :: o110 :: o111 :: o104 :: o23 :: o112 P :: o7 :: o8 :: o113 :: o114 :: o7 :: o115 P :: o260 :: o117 :: o118 :: o122 :: o23 :: o123 P :: o7 :: o124 :: o125 :: o126 :: o127 :: o7 :: o8 :: o128 :: o7 :: o129 :: o130 :: o131 :: o7 :: o8 :: o132 :: o7 :: o133 :: o134 :: o135 :: o7 :: o8 :: r
noncomputable def L4 (P : Params) (r : List Obj) : List Obj := o136 :: o7 :: o137 :: o138 :: o139 :: o7 :: o8 :: o140 :: o7 :: o141 :: o142 :: o143 :: o144 :: o7 :: o8 :: o145 :: o7 :: o146 :: o147 :: o148 :: o7 :: o8 :: o149 :: o7 :: o150 :: o151 :: o152 :: o7 :: o8 :: o153 :: o7 :: o154 :: o155 :: o156 :: o7 :: o8 :: o157 :: o7 :: o158 :: o159 :: o160 :: o7 :: o8 :: o161 :: o7 :: o162 :: o163 :: o164 :: r
noncomputable def L5 (P : Params) (r : List Obj) : List Obj := o7 :: o8 :: o165 :: o7 :: o166 :: o167 :: o168 :: o7 :: o8 :: o169 :: o7 :: o170 :: o171 :: o172 :: o7 :: o8 :: o173 :: o7 :: o174 :: o175 :: o176 :: o7 :: o8 :: o177 :: o7 :: o178 :: o179 :: o180 :: o7 :: o8 :: o181 :: o7 :: o182 :: o183 :: o184 :: o7 :: o8 :: o185 :: o7 :: o186 :: o187 :: o188 :: o7 :: o8 :: o189 :: o7 :: o190 :: o191 :: r
noncomputable def L6 (P : Params) (r : List Obj) : List Obj := o192 :: o7 :: o8 :: o193 :: o7 :: o194 :: o195 :: o196 :: o197 :: o7 :: o8 :: o198 :: o7 :: o199 :: o200 :: o201 :: o127 :: o7 :: o8 :: o202 :: o7 :: o203 :: o204 :: o205 :: o206 :: o7 :: o8 :: o207 :: o7 :: o208 :: o209 :: o210 :: o211 :: o7 :: o8 :: o212 :: o7 :: o213 :: o214 :: o215 :: o7 :: o8 :: o216 :: o7 :: o217 :: o218 :: o219 :: o7 :: r
noncomputable def L7 (P : Params) (r : List Obj) : List Obj := o8 :: o220 :: o7 :: o221 :: o222 :: o223 :: o224 :: o7 :: o8 :: o225 :: o7 :: o226 :: o227 :: o228 :: o127 :: o7 :: o8 :: o229 :: o7 :: o230 :: o231 :: o232 :: o7 :: o8 :: o233 :: o7 :: o234 :: o235 :: o236 :: o7 :: o8 :: o237 :: o7 :: o238 :: o239 :: o240 :: o7 :: o8 :: o241 :: o7 :: o242 :: o243 :: o244 :: o7 :: o8 :: o245 :: o7 :: o246 :: r
noncomputable def L8 (P : Params) (r : List Obj) : List Obj := o247 :: o248 :: o7 :: o8 :: o249 :: o7 :: o250 :: o251 :: o252 :: o253 :: o254 P :: o255 :: o256 :: o257 :: o261 :: o23 :: o262 P :: o7 :: o263 :: o264 :: o265 :: o266 :: o7 :: o8 :: o267 :: o7 :: o268 :: o269 :: o270 :: o7 :: o8 :: o271 :: o7 :: o272 :: o273 :: o274 :: o7 :: o8 :: o275 :: o7 :: o276 :: o277 :: o278 :: o7 :: o8 :: o279 :: o7 :: o280 :: r
noncomputable def L9 (P : Params) (r : List Obj) : List Obj := o281 :: o282 :: o7 :: o8 :: o283 :: o7 :: o284 :: o285 :: o286 :: o7 :: o8 :: o287 :: o7 :: o288 :: o289 :: o290 :: o291 :: o7 :: o8 :: o292 :: o7 :: o293 :: o294 :: o295 :: o296 :: o7 :: o8 :: o297 :: o7 :: o298 :: o299 :: o300 :: o301 :: o7 :: o8 :: o302 :: o7 :: o303 :: o304 :: o305 :: o306 :: o7 :: o8 :: o307 :: o7 :: o308 :: o309 :: o310 :: r
noncomputable def L10 (P : Params) (r : List Obj) : List Obj := o311 :: o7 :: o8 :: o312 :: o7 :: o313 :: o314 :: o315 :: o7 :: o8 :: o316 :: o7 :: o317 :: o318 :: o319 :: o7 :: o8 :: o320 :: o7 :: o321 :: o322 :: o323 :: o7 :: o8 :: o324 :: o7 :: o325 :: o326 :: o327 :: o7 :: o8 :: o328 :: o7 :: o329 :: o330 :: o331 :: o7 :: o8 :: o332 :: o7 :: o333 :: o334 :: o335 :: o7 :: o8 :: o336 :: o7 :: o337 :: r
noncomputable def L11 (P : Params) (r : List Obj) : List Obj := o338 :: o339 :: o7 :: o8 :: o340 :: o7 :: o341 :: o342 :: o343 :: o7 :: o8 :: o344 :: o7 :: o345 :: o346 :: o347 :: o7 :: o8 :: o348 :: o7 :: o349 :: o350 :: o351 :: o7 :: o8 :: o352 :: o7 :: o353 :: o354 :: o355 :: o7 :: o8 :: o356 :: o7 :: o357 :: o358 :: o359 :: o360 :: o7 :: o8 :: o361 :: o7 :: o362 :: o363 :: o364 :: o127 :: o7 :: o8 :: r
noncomputable def L12 (P : Params) (r : List Obj) : List Obj := o365 :: o7 :: o366 :: o367 :: o368 :: o369 :: o7 :: o8 :: o370 :: o7 :: o371 :: o372 :: o373 :: o374 :: o7 :: o8 :: o375 :: o7 :: o376 :: o377 :: o378 :: o379 :: o7 :: o8 :: o380 :: o7 :: o381 :: o382 :: o383 :: o7 :: o8 :: o384 :: o7 :: o385 :: o386 :: o387 :: o7 :: o8 :: o388 :: o7 :: o389 :: o390 :: o391 :: o7 :: o8 :: o392 :: o7 :: o393 :: r
noncomputable def L13 (P : Params) (r : List Obj) : List Obj := o394 :: o395 :: o7 :: o8 :: o396 :: o7 :: o397 :: o398 :: o399 :: o7 :: o8 :: o400 :: o7 :: o401 :: o402 :: o403 :: o404 :: o405 P :: o406 :: o407 :: o408 :: o7 :: o8 :: o412 :: o7 :: o413 :: o414 :: o415 :: o7 :: o8 :: o416 :: o7 :: o417 :: o418 :: o419 :: o420 :: o23 :: o421 P :: o7 :: o8 :: o422 :: o423 :: o7 :: o424 P :: o548 :: o426 :: o427 :: o428 :: r
noncomputable def L14 (P : Params) (r : List Obj) : List Obj := o7 :: o23 :: o429 P :: o7 :: o430 :: o431 :: o432 :: o7 :: o8 :: o433 :: o7 :: o434 :: o435 :: o436 :: o437 P :: o438 :: o6 :: o7 :: o8 :: o439 :: o7 :: o440 :: o441 :: o442 :: o443 P :: o444 :: o6 :: o7 :: o8 :: o445 :: o7 :: o446 :: o447 :: o448 :: o7 :: o8 :: o449 :: o7 :: o450 :: o451 :: o452 :: o7 :: o8 :: o453 :: o7 :: o454 :: o455 :: o456 :: r
noncomputable def L15 (P : Params) (r : List Obj) : List Obj := o7 :: o8 :: o457 :: o7 :: o458 :: o459 :: o460 :: o461 P :: o462 :: o6 :: o7 :: o8 :: o463 :: o7 :: o464 :: o465 :: o466 :: o7 :: o8 :: o467 :: o7 :: o468 :: o469 :: o470 :: o7 :: o8 :: o471 :: o7 :: o472 :: o473 :: o474 :: o7 :: o475 P :: o689 :: o477 :: o478 :: o479 :: o480 :: o482 P :: o483 P :: o484 P :: o485 P :: o486 P :: o490 :: o23 :: o491 P :: o7 :: o492 :: r
noncomputable def L16 (P : Params) (r : List Obj) : List Obj := o493 :: o494 :: o495 :: o7 :: o8 :: o496 :: o7 :: o497 :: o498 :: o499 :: o500 :: o7 :: o8 :: o501 :: o7 :: o502 :: o503 :: o504 :: o7 :: o8 :: o505 :: o7 :: o506 :: o507 :: o508 :: o7 :: o8 :: o509 :: o7 :: o510 :: o511 :: o512 :: o7 :: o8 :: o513 :: o7 :: o514 :: o515 :: o516 :: o7 :: o8 :: o517 :: o7 :: o518 :: o519 :: o520 :: o521 P :: o522 :: r
noncomputable def L17 (P : Params) (r : List Obj) : List Obj := o6 :: o7 :: o8 :: o523 :: o7 :: o524 :: o525 :: o526 :: o527 P :: o528 :: o6 :: o7 :: o8 :: o529 :: o7 :: o530 :: o531 :: o532 :: o7 :: o8 :: o533 :: o7 :: o534 :: o535 :: o536 :: o7 :: o8 :: o537 :: o7 :: o538 :: o539 :: o540 :: o541 :: o542 P :: o543 :: o544 :: o545 :: o490 :: o23 :: o550 P :: o7 :: o551 :: o552 :: o553 :: o554 :: o555 :: o7 :: o8 :: r
noncomputable def L18 (P : Params) (r : List Obj) : List Obj := o556 :: o7 :: o557 :: o558 :: o559 :: o7 :: o8 :: o560 :: o7 :: o561 :: o562 :: o563 :: o7 :: o8 :: o564 :: o7 :: o565 :: o566 :: o567 :: o568 P :: o569 :: o6 :: o7 :: o8 :: o570 :: o7 :: o571 :: o572 :: o573 :: o574 :: o575 P :: o576 :: o577 :: o578 :: o579 :: o23 :: o580 P :: o7 :: o8 :: o581 :: o582 :: o7 :: o583 P :: o584 :: o585 :: o586 :: o7 :: o23 :: r
noncomputable def L19 (P : Params) (r : List Obj) : List Obj := o587 P :: o7 :: o588 :: o589 :: o590 :: o7 :: o8 :: o591 :: o7 :: o592 :: o593 :: o594 :: o595 P :: o596 :: o6 :: o7 :: o597 P :: o598 :: o599 :: o600 :: o601 :: o602 :: o490 :: o23 :: o606 P :: o7 :: o607 :: o608 :: o609 :: o554 :: o554 :: o610 :: o7 :: o8 :: o611 :: o7 :: o612 :: o613 :: o614 :: o7 :: o8 :: o615 :: o7 :: o616 :: o617 :: o618 :: o7 :: o8 :: r
noncomputable def L20 (P : Params) (r : List Obj) : List Obj := o619 :: o7 :: o620 :: o621 :: o622 :: o623 :: o7 :: o8 :: o624 :: o7 :: o625 :: o626 :: o627 :: o7 :: o8 :: o628 :: o7 :: o629 :: o630 :: o631 :: o7 :: o8 :: o632 :: o7 :: o633 :: o634 :: o635 :: o7 :: o8 :: o636 :: o7 :: o637 :: o638 :: o639 :: o640 P :: o641 :: o6 :: o7 :: o8 :: o642 :: o7 :: o643 :: o644 :: o645 :: o646 P :: o647 :: o6 :: o7 :: r
noncomputable def L21 (P : Params) (r : List Obj) : List Obj := o8 :: o648 :: o7 :: o649 :: o650 :: o651 :: o7 :: o8 :: o652 :: o7 :: o653 :: o654 :: o655 :: o7 :: o8 :: o656 :: o7 :: o657 :: o658 :: o659 :: o7 :: o8 :: o660 :: o7 :: o661 :: o662 :: o663 :: o7 :: o8 :: o664 :: o7 :: o665 :: o666 :: o667 :: o668 :: o7 :: o8 :: o669 :: o7 :: o670 :: o671 :: o672 :: o673 :: o7 :: o8 :: o674 :: o7 :: o675 :: r
noncomputable def L22 (P : Params) (r : List Obj) : List Obj := o676 :: o677 :: o673 :: o7 :: o8 :: o678 :: o7 :: o679 :: o680 :: o681 :: o682 :: o683 P :: o684 :: o685 :: o686 :: o490 :: o23 :: o690 P :: o7 :: o691 :: o692 :: o693 :: o694 :: o7 :: o8 :: o695 :: o7 :: o696 :: o697 :: o698 :: o7 :: o8 :: o699 :: o7 :: o700 :: o701 :: o702 :: o703 :: o704 :: o7 :: o8 :: o705 :: o7 :: o706 :: o707 :: o708 :: o7 :: o8 :: r
noncomputable def L23 (P : Params) (r : List Obj) : List Obj := o709 :: o7 :: o710 :: o711 :: o712 :: o713 P :: o714 :: o6 :: o715 :: o716 P :: o717 :: o718 :: o719 :: o490 :: o23 :: o720 P :: o7 :: o721 :: o722 :: o723 :: o7 :: o8 :: o724 :: o7 :: o725 :: o726 :: o727 :: o7 :: o8 :: o728 :: o7 :: o729 :: o730 :: o731 :: o7 :: o8 :: o732 :: o7 :: o733 :: o734 :: o735 :: o736 P :: o737 :: o6 :: o738 :: o739 P :: o740 :: o741 :: r
noncomputable def L24 (P : Params) (r : List Obj) : List Obj := o742 :: o7 :: o8 :: o743 :: o7 :: o744 :: o745 :: o746 :: o7 :: o8 :: o747 :: o7 :: o748 :: o749 :: o750 :: o7 :: o8 :: o751 :: o752 :: o753 :: o7 :: o8 :: o754 :: o755 :: o756 :: o7 :: o8 :: o757 :: o758 :: o759 :: o7 :: o8 :: o760 :: o761 :: o762 :: r
noncomputable def Hf (P : Params) : Heap := ⟨Array.mk ((L0 P (L1 P (L2 P (L3 P (L4 P (L5 P (L6 P (L7 P (L8 P (L9 P (L10 P (L11 P (L12 P (L13 P (L14 P (L15 P (L16 P (L17 P (L18 P (L19 P (L20 P (L21 P (L22 P (L23 P (L24 P [])))))))))))))))))))))))))), {}⟩
theorem p_fin : ∀ (w : World) (os : OsState), topRun treeTable pw w 11 ann 2 (SharedT.abs ⟨T10 w.params, 1187, {}, #[], ⟨0, 0, 0, 0⟩, 1988, os⟩) ⟨doneF .next, cE, ⟨765, 0, 794, 162⟩, fr0⟩ = some ⟨Hf w.params, #[], ⟨0, 0, 0, 0⟩, 1988, os⟩ := by
  intro w os
  rw [PySem.W.Fast.te14082659384304107361, PySem.W.Fast.te14364793385576792824]
  kernel_rfl
theorem piece_drop {n N : Nat} {w : World} {m₀ : Nat} {ann : Option Value} {q : Pos} {s s' r : Shared} {i j : Nat} {c : Code} {pos p' : Pos} (h : segRun treeTable pw w m₀ ann 1 n s (piecesOf ((B.drop i).take j) env c pos [topFrame q]) = some (.next, s', c, p'))
    (k : topRun treeTable pw w m₀ ann N s' (restOf (B.drop (i + j)) env c p' [topFrame q]) = some r) : topRun treeTable pw w m₀ ann (n + N) s (restOf (B.drop i) env c pos [topFrame q]) = some r := by
  have e : B.drop i = (B.drop i).take j ++ B.drop (i + j) := by rw [← List.drop_drop, List.take_append_drop]
  rw [e]
  exact piece_app h k
theorem p_run : ∀ (w : World) (os : OsState), topRun treeTable pw w 11 ann 11028 ⟨boot_heap w.params, Array.mk [], boot_drawn, boot_toks, os⟩ (topStub pw) = some ⟨Hf w.params, #[], ⟨0, 0, 0, 0⟩, 1988, os⟩ := fun w os =>
  go_top (p_pre w os) (piece_block (p_blk w os) (show topRun treeTable pw w _ _ _ _ (restOf (B.drop 0) env cE _ _) = _ from (piece_drop (segRun_of (p_0 w os)) (piece_drop (segRun_of (p_1 w os)) (piece_drop (segRun_of (p_2 w os)) (piece_drop (segRun_of (p_3 w os)) (piece_drop (segRun_of (p_4 w os)) (piece_drop (segRun_of (p_5 w os)) (piece_drop (segRun_of (p_6 w os)) (piece_drop (segRun_of (p_7 w os)) (piece_drop (segRun_of (p_8 w os)) (piece_drop (segRun_of (p_9 w os)) (p_fin w os)))))))))))))
theorem p_open : ∀ w : World, (fencedOpening treeTable pw w 22132).map (fun s => (s.heap, s.gens, s.drawn, s.toks)) = some (boot_heap w.params, Array.mk [], boot_drawn, boot_toks) :=
  boot_open (by kernel_rfl) (by decide) (fun s => by kernel_rfl)
noncomputable def keep : List Nat := [0, 2, 3, 4, 6, 8, 9, 10, 11, 12, 13, 14, 15, 17, 18, 20, 22, 23, 24, 26, 27, 29, 30, 31, 32, 33, 35, 36, 37, 38, 39, 40]
noncomputable def qv : Program := view pw keep
noncomputable def loose : List Str := [(Str.ofString "Sha256"), (Str.ofString "hashlib"), (Str.ofString "UnsupportedOperation"), (Str.ofString "IOBase"), (Str.ofString "BufferedIOBase"), (Str.ofString "TextIOBase"), (Str.ofString "BytesIO"), (Str.ofString "StringIO"), (Str.ofString "read_from_compact"), (Str.ofString "EmbitBase"), (Str.ofString "NETWORKS"), (Str.ofString "Script"), (Str.ofString "Witness"), (Str.ofString "SIGHASH"), (Str.ofString "Transaction"), (Str.ofString "TransactionInput"), (Str.ofString "TransactionOutput")]
noncomputable def kas : List Addr := [2, 3, 15, 17, 18, 20, 21, 22, 25, 26, 34, 35, 37, 38, 40, 41, 42, 44, 45, 47, 48, 49, 51, 52, 54, 55, 56, 57, 58, 59, 60, 70, 71, 73, 74, 76, 77, 78, 79, 80, 81, 82, 83, 84, 85, 88, 90, 91, 93, 94, 95, 97, 98, 100, 101, 102, 104, 105, 107, 108, 109, 116, 117, 118, 119, 129, 131, 132, 134, 135, 136, 137, 138, 139, 140, 141, 144, 151, 152, 153, 156, 163, 164, 165, 168, 175, 176, 178, 179, 181, 182, 183, 185, 186, 188, 189, 190, 192, 193, 195, 196, 197, 199, 200, 202, 203, 204, 205, 207, 208, 210, 211, 212, 214, 215, 217, 218, 219, 221, 222, 224, 225, 226, 228, 229, 231, 232, 233, 235, 236, 238, 239, 240, 242, 243, 245, 246, 247, 249, 250, 252, 253, 254, 256, 257, 259, 260, 261, 263, 264, 266, 267, 268, 270, 271, 273, 274, 275, 277, 278, 280, 281, 282, 284, 285, 287, 288, 289, 291, 292, 294, 295, 296, 297, 299, 300, 302, 303, 304, 305, 307, 308, 310, 311, 312, 313, 315, 316, 318, 319, 320, 321, 323, 324, 326, 327, 328, 330, 331, 333, 334, 335, 337, 338, 340, 341, 342, 343, 345, 346, 348, 349, 350, 351, 353, 354, 356, 357, 358, 360, 361, 363, 364, 365, 367, 368, 370, 371, 372, 374, 375, 377, 378, 379, 381, 382, 384, 385, 386, 388, 389, 391, 392, 393, 394, 395, 398, 405, 406, 408, 409, 411, 412, 413, 415, 416, 418, 419, 420, 422, 423, 425, 426, 427, 429, 430, 432, 433, 434, 436, 437, 439, 440, 441, 443, 444, 446, 447, 448, 449, 451, 452, 454, 455, 456, 457, 459, 460, 462, 463, 464, 465, 467, 468, 470, 471, 472, 473, 475, 476, 478, 479, 480, 481, 483, 484, 486, 487, 488, 490, 491, 493, 494, 495, 497, 498, 500, 501, 502, 504, 505, 507, 508, 509, 511, 512, 514, 515, 516, 518, 519, 521, 522, 523, 525, 526, 528, 529, 530, 532, 533, 535, 536, 537, 539, 540, 542, 543, 544, 546, 547, 549, 550, 551, 553, 554, 556, 557, 558, 560, 561, 563, 564, 565, 566, 568, 569, 571, 572, 573, 574, 576, 577, 579, 580, 581, 582, 584, 585, 587, 588, 589, 590, 592, 593, 595, 596, 597, 598, 600, 601, 603, 604, 605, 607, 608, 610, 611, 612, 614, 615, 617, 618, 619, 621, 622, 624, 625, 626, 628, 629, 631, 632, 633, 635, 636, 638, 639, 640, 641, 642, 645, 647, 648, 650, 651, 652, 654, 655, 657, 658, 659, 666, 667, 668, 669, 679, 681, 682, 684, 685, 686, 687, 688, 689, 691, 692, 694, 695, 696, 697, 698, 699, 701, 702, 704, 705, 706, 708, 709, 711, 712, 713, 715, 716, 718, 719, 720, 722, 723, 725, 726, 727, 728, 729, 730, 732, 733, 735, 736, 737, 739, 740, 742, 743, 744, 746, 747, 749, 750, 751, 752, 753, 754, 755, 759, 763, 770, 771, 773, 774, 776, 777, 778, 779, 781, 782, 784, 785, 786, 788, 789, 791, 792, 793, 795, 796, 798, 799, 800, 802, 803, 805, 806, 807, 809, 810, 812, 813, 814, 815, 816, 817, 819, 820, 822, 823, 824, 825, 826, 827, 829, 830, 832, 833, 834, 836, 837, 839, 840, 841, 843, 844, 846, 847, 848, 849, 850, 853, 860, 861, 862, 864, 865, 867, 868, 869, 871, 872, 874, 875, 876, 878, 879, 881, 882, 883, 884, 885, 886, 888, 889, 891, 892, 893, 894, 895, 898, 905, 906, 907, 917, 919, 920, 922, 923, 924, 925, 926, 927, 928, 929, 930, 931, 934, 941, 942, 943, 944, 946, 947, 949, 950, 951, 953, 954, 956, 957, 958, 960, 961, 963, 964, 965, 966, 968, 969, 971, 972, 973, 975, 976, 978, 979, 980, 982, 983, 985, 986, 987, 989, 990, 992, 993, 994, 995, 996, 997, 999, 1000, 1002, 1003, 1004, 1005, 1006, 1007, 1009, 1010, 1012, 1013, 1014, 1016, 1017, 1019, 1020, 1021, 1023, 1024, 1026, 1027, 1028, 1030, 1031, 1033, 1034, 1035, 1037, 1038, 1040, 1041, 1042, 1043, 1045, 1046, 1048, 1049, 1050, 1051, 1053, 1054, 1056, 1057, 1058, 1059, 1061, 1062, 1064, 1065, 1066, 1067, 1068, 1071, 1078, 1079, 1081, 1082, 1084, 1085, 1086, 1088, 1089, 1091, 1092, 1093, 1094, 1095, 1097, 1098, 1100, 1101, 1102, 1104, 1105, 1107, 1108, 1109, 1110, 1111, 1112, 1113, 1114, 1117, 1124, 1126, 1127, 1129, 1130, 1131, 1133, 1134, 1136, 1137, 1138, 1140, 1141, 1143, 1144, 1145, 1146, 1147, 1148, 1149, 1150, 1153, 1155, 1156, 1158, 1159, 1160, 1162, 1163, 1165, 1166, 1167, 1170, 1171, 1172, 1175, 1176, 1177, 1180, 1181, 1182, 1185, 1186]
noncomputable def K (P : Params) : Frag := (nat_lit 2, o409 P) :: (nat_lit 3, o687 P) :: (nat_lit 15, o7) :: (nat_lit 17, o16) :: (nat_lit 18, o7) :: (nat_lit 20, o18) :: (nat_lit 21, o19) :: (nat_lit 22, o7) :: (nat_lit 25, o21) :: (nat_lit 26, o22) :: (nat_lit 34, o28) :: (nat_lit 35, o7) :: (nat_lit 37, o29) :: (nat_lit 38, o7) :: (nat_lit 40, o31) :: (nat_lit 41, o32) :: (nat_lit 42, o7) :: (nat_lit 44, o33) :: (nat_lit 45, o7) :: (nat_lit 47, o35) :: (nat_lit 48, o36) :: (nat_lit 49, o7) :: (nat_lit 51, o37) :: (nat_lit 52, o7) :: (nat_lit 54, o39) :: (nat_lit 55, o40) :: (nat_lit 56, o41) :: (nat_lit 57, o42 P) :: (nat_lit 58, o43) :: (nat_lit 59, o44) :: (nat_lit 60, o45) :: (nat_lit 70, o52) :: (nat_lit 71, o7) :: (nat_lit 73, o53) :: (nat_lit 74, o7) :: (nat_lit 76, o55) :: (nat_lit 77, o56) :: (nat_lit 78, o57 P) :: (nat_lit 79, o58) :: (nat_lit 80, o6) :: (nat_lit 81, o7) :: (nat_lit 82, o59 P) :: (nat_lit 83, o60) :: (nat_lit 84, o61) :: (nat_lit 85, o62) :: (nat_lit 88, o7) :: (nat_lit 90, o65) :: (nat_lit 91, o7) :: (nat_lit 93, o67) :: (nat_lit 94, o68) :: (nat_lit 95, o7) :: (nat_lit 97, o69) :: (nat_lit 98, o7) :: (nat_lit 100, o71) :: (nat_lit 101, o72) :: (nat_lit 102, o7) :: (nat_lit 104, o73) :: (nat_lit 105, o7) :: (nat_lit 107, o75) :: (nat_lit 108, o76) :: (nat_lit 109, o77) :: (nat_lit 116, o7) :: (nat_lit 117, o81 P) :: (nat_lit 118, o82) :: (nat_lit 119, o83) :: (nat_lit 129, o7) :: (nat_lit 131, o90) :: (nat_lit 132, o7) :: (nat_lit 134, o92) :: (nat_lit 135, o93) :: (nat_lit 136, o7) :: (nat_lit 137, o94 P) :: (nat_lit 138, o103) :: (nat_lit 139, o96) :: (nat_lit 140, o97) :: (nat_lit 141, o98) :: (nat_lit 144, o104) :: (nat_lit 151, o7) :: (nat_lit 152, o108 P) :: (nat_lit 153, o121) :: (nat_lit 156, o104) :: (nat_lit 163, o7) :: (nat_lit 164, o115 P) :: (nat_lit 165, o260) :: (nat_lit 168, o122) :: (nat_lit 175, o127) :: (nat_lit 176, o7) :: (nat_lit 178, o128) :: (nat_lit 179, o7) :: (nat_lit 181, o130) :: (nat_lit 182, o131) :: (nat_lit 183, o7) :: (nat_lit 185, o132) :: (nat_lit 186, o7) :: (nat_lit 188, o134) :: (nat_lit 189, o135) :: (nat_lit 190, o7) :: (nat_lit 192, o136) :: (nat_lit 193, o7) :: (nat_lit 195, o138) :: (nat_lit 196, o139) :: (nat_lit 197, o7) :: (nat_lit 199, o140) :: (nat_lit 200, o7) :: (nat_lit 202, o142) :: (nat_lit 203, o143) :: (nat_lit 204, o144) :: (nat_lit 205, o7) :: (nat_lit 207, o145) :: (nat_lit 208, o7) :: (nat_lit 210, o147) :: (nat_lit 211, o148) :: (nat_lit 212, o7) :: (nat_lit 214, o149) :: (nat_lit 215, o7) :: (nat_lit 217, o151) :: (nat_lit 218, o152) :: (nat_lit 219, o7) :: (nat_lit 221, o153) :: (nat_lit 222, o7) :: (nat_lit 224, o155) :: (nat_lit 225, o156) :: (nat_lit 226, o7) :: (nat_lit 228, o157) :: (nat_lit 229, o7) :: (nat_lit 231, o159) :: (nat_lit 232, o160) :: (nat_lit 233, o7) :: (nat_lit 235, o161) :: (nat_lit 236, o7) :: (nat_lit 238, o163) :: (nat_lit 239, o164) :: (nat_lit 240, o7) :: (nat_lit 242, o165) :: (nat_lit 243, o7) :: (nat_lit 245, o167) :: (nat_lit 246, o168) :: (nat_lit 247, o7) :: (nat_lit 249, o169) :: (nat_lit 250, o7) :: (nat_lit 252, o171) :: (nat_lit 253, o172) :: (nat_lit 254, o7) :: (nat_lit 256, o173) :: (nat_lit 257, o7) :: (nat_lit 259, o175) :: (nat_lit 260, o176) :: (nat_lit 261, o7) :: (nat_lit 263, o177) :: (nat_lit 264, o7) :: (nat_lit 266, o179) :: (nat_lit 267, o180) :: (nat_lit 268, o7) :: (nat_lit 270, o181) :: (nat_lit 271, o7) :: (nat_lit 273, o183) :: (nat_lit 274, o184) :: (nat_lit 275, o7) :: (nat_lit 277, o185) :: (nat_lit 278, o7) :: (nat_lit 280, o187) :: (nat_lit 281, o188) :: (nat_lit 282, o7) :: (nat_lit 284, o189) :: (nat_lit 285, o7) :: (nat_lit 287, o191) :: (nat_lit 288, o192) :: (nat_lit 289, o7) :: (nat_lit 291, o193) :: (nat_lit 292, o7) :: (nat_lit 294, o195) :: (nat_lit 295, o196) :: (nat_lit 296, o197) :: (nat_lit 297, o7) :: (nat_lit 299, o198) :: (nat_lit 300, o7) :: (nat_lit 302, o200) :: (nat_lit 303, o201) :: (nat_lit 304, o127) :: (nat_lit 305, o7) :: (nat_lit 307, o202) :: (nat_lit 308, o7) :: (nat_lit 310, o204) :: (nat_lit 311, o205) :: (nat_lit 312, o206) :: (nat_lit 313, o7) :: (nat_lit 315, o207) :: (nat_lit 316, o7) :: (nat_lit 318, o209) :: (nat_lit 319, o210) :: (nat_lit 320, o211) :: (nat_lit 321, o7) :: (nat_lit 323, o212) :: (nat_lit 324, o7) :: (nat_lit 326, o214) :: (nat_lit 327, o215) :: (nat_lit 328, o7) :: (nat_lit 330, o216) :: (nat_lit 331, o7) :: (nat_lit 333, o218) :: (nat_lit 334, o219) :: (nat_lit 335, o7) :: (nat_lit 337, o220) :: (nat_lit 338, o7) :: (nat_lit 340, o222) :: (nat_lit 341, o223) :: (nat_lit 342, o224) :: (nat_lit 343, o7) :: (nat_lit 345, o225) :: (nat_lit 346, o7) :: (nat_lit 348, o227) :: (nat_lit 349, o228) :: (nat_lit 350, o127) :: (nat_lit 351, o7) :: (nat_lit 353, o229) :: (nat_lit 354, o7) :: (nat_lit 356, o231) :: (nat_lit 357, o232) :: (nat_lit 358, o7) :: (nat_lit 360, o233) :: (nat_lit 361, o7) :: (nat_lit 363, o235) :: (nat_lit 364, o236) :: (nat_lit 365, o7) :: (nat_lit 367, o237) :: (nat_lit 368, o7) :: (nat_lit 370, o239) :: (nat_lit 371, o240) :: (nat_lit 372, o7) :: (nat_lit 374, o241) :: (nat_lit 375, o7) :: (nat_lit 377, o243) :: (nat_lit 378, o244) :: (nat_lit 379, o7) :: (nat_lit 381, o245) :: (nat_lit 382, o7) :: (nat_lit 384, o247) :: (nat_lit 385, o248) :: (nat_lit 386, o7) :: (nat_lit 388, o249) :: (nat_lit 389, o7) :: (nat_lit 391, o251) :: (nat_lit 392, o252) :: (nat_lit 393, o253) :: (nat_lit 394, o254 P) :: (nat_lit 395, o255) :: (nat_lit 398, o261) :: (nat_lit 405, o266) :: (nat_lit 406, o7) :: (nat_lit 408, o267) :: (nat_lit 409, o7) :: (nat_lit 411, o269) :: (nat_lit 412, o270) :: (nat_lit 413, o7) :: (nat_lit 415, o271) :: (nat_lit 416, o7) :: (nat_lit 418, o273) :: (nat_lit 419, o274) :: (nat_lit 420, o7) :: (nat_lit 422, o275) :: (nat_lit 423, o7) :: (nat_lit 425, o277) :: (nat_lit 426, o278) :: (nat_lit 427, o7) :: (nat_lit 429, o279) :: (nat_lit 430, o7) :: (nat_lit 432, o281) :: (nat_lit 433, o282) :: (nat_lit 434, o7) :: (nat_lit 436, o283) :: (nat_lit 437, o7) :: (nat_lit 439, o285) :: (nat_lit 440, o286) :: (nat_lit 441, o7) :: (nat_lit 443, o287) :: (nat_lit 444, o7) :: (nat_lit 446, o289) :: (nat_lit 447, o290) :: (nat_lit 448, o291) :: (nat_lit 449, o7) :: (nat_lit 451, o292) :: (nat_lit 452, o7) :: (nat_lit 454, o294) :: (nat_lit 455, o295) :: (nat_lit 456, o296) :: (nat_lit 457, o7) :: (nat_lit 459, o297) :: (nat_lit 460, o7) :: (nat_lit 462, o299) :: (nat_lit 463, o300) :: (nat_lit 464, o301) :: (nat_lit 465, o7) :: (nat_lit 467, o302) :: (nat_lit 468, o7) :: (nat_lit 470, o304) :: (nat_lit 471, o305) :: (nat_lit 472, o306) :: (nat_lit 473, o7) :: (nat_lit 475, o307) :: (nat_lit 476, o7) :: (nat_lit 478, o309) :: (nat_lit 479, o310) :: (nat_lit 480, o311) :: (nat_lit 481, o7) :: (nat_lit 483, o312) :: (nat_lit 484, o7) :: (nat_lit 486, o314) :: (nat_lit 487, o315) :: (nat_lit 488, o7) :: (nat_lit 490, o316) :: (nat_lit 491, o7) :: (nat_lit 493, o318) :: (nat_lit 494, o319) :: (nat_lit 495, o7) :: (nat_lit 497, o320) :: (nat_lit 498, o7) :: (nat_lit 500, o322) :: (nat_lit 501, o323) :: (nat_lit 502, o7) :: (nat_lit 504, o324) :: (nat_lit 505, o7) :: (nat_lit 507, o326) :: (nat_lit 508, o327) :: (nat_lit 509, o7) :: (nat_lit 511, o328) :: (nat_lit 512, o7) :: (nat_lit 514, o330) :: (nat_lit 515, o331) :: (nat_lit 516, o7) :: (nat_lit 518, o332) :: (nat_lit 519, o7) :: (nat_lit 521, o334) :: (nat_lit 522, o335) :: (nat_lit 523, o7) :: (nat_lit 525, o336) :: (nat_lit 526, o7) :: (nat_lit 528, o338) :: (nat_lit 529, o339) :: (nat_lit 530, o7) :: (nat_lit 532, o340) :: (nat_lit 533, o7) :: (nat_lit 535, o342) :: (nat_lit 536, o343) :: (nat_lit 537, o7) :: (nat_lit 539, o344) :: (nat_lit 540, o7) :: (nat_lit 542, o346) :: (nat_lit 543, o347) :: (nat_lit 544, o7) :: (nat_lit 546, o348) :: (nat_lit 547, o7) :: (nat_lit 549, o350) :: (nat_lit 550, o351) :: (nat_lit 551, o7) :: (nat_lit 553, o352) :: (nat_lit 554, o7) :: (nat_lit 556, o354) :: (nat_lit 557, o355) :: (nat_lit 558, o7) :: (nat_lit 560, o356) :: (nat_lit 561, o7) :: (nat_lit 563, o358) :: (nat_lit 564, o359) :: (nat_lit 565, o360) :: (nat_lit 566, o7) :: (nat_lit 568, o361) :: (nat_lit 569, o7) :: (nat_lit 571, o363) :: (nat_lit 572, o364) :: (nat_lit 573, o127) :: (nat_lit 574, o7) :: (nat_lit 576, o365) :: (nat_lit 577, o7) :: (nat_lit 579, o367) :: (nat_lit 580, o368) :: (nat_lit 581, o369) :: (nat_lit 582, o7) :: (nat_lit 584, o370) :: (nat_lit 585, o7) :: (nat_lit 587, o372) :: (nat_lit 588, o373) :: (nat_lit 589, o374) :: (nat_lit 590, o7) :: (nat_lit 592, o375) :: (nat_lit 593, o7) :: (nat_lit 595, o377) :: (nat_lit 596, o378) :: (nat_lit 597, o379) :: (nat_lit 598, o7) :: (nat_lit 600, o380) :: (nat_lit 601, o7) :: (nat_lit 603, o382) :: (nat_lit 604, o383) :: (nat_lit 605, o7) :: (nat_lit 607, o384) :: (nat_lit 608, o7) :: (nat_lit 610, o386) :: (nat_lit 611, o387) :: (nat_lit 612, o7) :: (nat_lit 614, o388) :: (nat_lit 615, o7) :: (nat_lit 617, o390) :: (nat_lit 618, o391) :: (nat_lit 619, o7) :: (nat_lit 621, o392) :: (nat_lit 622, o7) :: (nat_lit 624, o394) :: (nat_lit 625, o395) :: (nat_lit 626, o7) :: (nat_lit 628, o396) :: (nat_lit 629, o7) :: (nat_lit 631, o398) :: (nat_lit 632, o399) :: (nat_lit 633, o7) :: (nat_lit 635, o400) :: (nat_lit 636, o7) :: (nat_lit 638, o402) :: (nat_lit 639, o403) :: (nat_lit 640, o404) :: (nat_lit 641, o405 P) :: (nat_lit 642, o406) :: (nat_lit 645, o7) :: (nat_lit 647, o412) :: (nat_lit 648, o7) :: (nat_lit 650, o414) :: (nat_lit 651, o415) :: (nat_lit 652, o7) :: (nat_lit 654, o416) :: (nat_lit 655, o7) :: (nat_lit 657, o418) :: (nat_lit 658, o419) :: (nat_lit 659, o420) :: (nat_lit 666, o7) :: (nat_lit 667, o424 P) :: (nat_lit 668, o548) :: (nat_lit 669, o426) :: (nat_lit 679, o7) :: (nat_lit 681, o433) :: (nat_lit 682, o7) :: (nat_lit 684, o435) :: (nat_lit 685, o436) :: (nat_lit 686, o437 P) :: (nat_lit 687, o438) :: (nat_lit 688, o6) :: (nat_lit 689, o7) :: (nat_lit 691, o439) :: (nat_lit 692, o7) :: (nat_lit 694, o441) :: (nat_lit 695, o442) :: (nat_lit 696, o443 P) :: (nat_lit 697, o444) :: (nat_lit 698, o6) :: (nat_lit 699, o7) :: (nat_lit 701, o445) :: (nat_lit 702, o7) :: (nat_lit 704, o447) :: (nat_lit 705, o448) :: (nat_lit 706, o7) :: (nat_lit 708, o449) :: (nat_lit 709, o7) :: (nat_lit 711, o451) :: (nat_lit 712, o452) :: (nat_lit 713, o7) :: (nat_lit 715, o453) :: (nat_lit 716, o7) :: (nat_lit 718, o455) :: (nat_lit 719, o456) :: (nat_lit 720, o7) :: (nat_lit 722, o457) :: (nat_lit 723, o7) :: (nat_lit 725, o459) :: (nat_lit 726, o460) :: (nat_lit 727, o461 P) :: (nat_lit 728, o462) :: (nat_lit 729, o6) :: (nat_lit 730, o7) :: (nat_lit 732, o463) :: (nat_lit 733, o7) :: (nat_lit 735, o465) :: (nat_lit 736, o466) :: (nat_lit 737, o7) :: (nat_lit 739, o467) :: (nat_lit 740, o7) :: (nat_lit 742, o469) :: (nat_lit 743, o470) :: (nat_lit 744, o7) :: (nat_lit 746, o471) :: (nat_lit 747, o7) :: (nat_lit 749, o473) :: (nat_lit 750, o474) :: (nat_lit 751, o7) :: (nat_lit 752, o475 P) :: (nat_lit 753, o689) :: (nat_lit 754, o477) :: (nat_lit 755, o478) :: (nat_lit 759, o483 P) :: (nat_lit 763, o490) :: (nat_lit 770, o495) :: (nat_lit 771, o7) :: (nat_lit 773, o496) :: (nat_lit 774, o7) :: (nat_lit 776, o498) :: (nat_lit 777, o499) :: (nat_lit 778, o500) :: (nat_lit 779, o7) :: (nat_lit 781, o501) :: (nat_lit 782, o7) :: (nat_lit 784, o503) :: (nat_lit 785, o504) :: (nat_lit 786, o7) :: (nat_lit 788, o505) :: (nat_lit 789, o7) :: (nat_lit 791, o507) :: (nat_lit 792, o508) :: (nat_lit 793, o7) :: (nat_lit 795, o509) :: (nat_lit 796, o7) :: (nat_lit 798, o511) :: (nat_lit 799, o512) :: (nat_lit 800, o7) :: (nat_lit 802, o513) :: (nat_lit 803, o7) :: (nat_lit 805, o515) :: (nat_lit 806, o516) :: (nat_lit 807, o7) :: (nat_lit 809, o517) :: (nat_lit 810, o7) :: (nat_lit 812, o519) :: (nat_lit 813, o520) :: (nat_lit 814, o521 P) :: (nat_lit 815, o522) :: (nat_lit 816, o6) :: (nat_lit 817, o7) :: (nat_lit 819, o523) :: (nat_lit 820, o7) :: (nat_lit 822, o525) :: (nat_lit 823, o526) :: (nat_lit 824, o527 P) :: (nat_lit 825, o528) :: (nat_lit 826, o6) :: (nat_lit 827, o7) :: (nat_lit 829, o529) :: (nat_lit 830, o7) :: (nat_lit 832, o531) :: (nat_lit 833, o532) :: (nat_lit 834, o7) :: (nat_lit 836, o533) :: (nat_lit 837, o7) :: (nat_lit 839, o535) :: (nat_lit 840, o536) :: (nat_lit 841, o7) :: (nat_lit 843, o537) :: (nat_lit 844, o7) :: (nat_lit 846, o539) :: (nat_lit 847, o540) :: (nat_lit 848, o541) :: (nat_lit 849, o542 P) :: (nat_lit 850, o543) :: (nat_lit 853, o490) :: (nat_lit 860, o554) :: (nat_lit 861, o555) :: (nat_lit 862, o7) :: (nat_lit 864, o556) :: (nat_lit 865, o7) :: (nat_lit 867, o558) :: (nat_lit 868, o559) :: (nat_lit 869, o7) :: (nat_lit 871, o560) :: (nat_lit 872, o7) :: (nat_lit 874, o562) :: (nat_lit 875, o563) :: (nat_lit 876, o7) :: (nat_lit 878, o564) :: (nat_lit 879, o7) :: (nat_lit 881, o566) :: (nat_lit 882, o567) :: (nat_lit 883, o568 P) :: (nat_lit 884, o569) :: (nat_lit 885, o6) :: (nat_lit 886, o7) :: (nat_lit 888, o570) :: (nat_lit 889, o7) :: (nat_lit 891, o572) :: (nat_lit 892, o573) :: (nat_lit 893, o574) :: (nat_lit 894, o575 P) :: (nat_lit 895, o576) :: (nat_lit 898, o579) :: (nat_lit 905, o7) :: (nat_lit 906, o583 P) :: (nat_lit 907, o584) :: (nat_lit 917, o7) :: (nat_lit 919, o591) :: (nat_lit 920, o7) :: (nat_lit 922, o593) :: (nat_lit 923, o594) :: (nat_lit 924, o595 P) :: (nat_lit 925, o596) :: (nat_lit 926, o6) :: (nat_lit 927, o7) :: (nat_lit 928, o597 P) :: (nat_lit 929, o598) :: (nat_lit 930, o599) :: (nat_lit 931, o600) :: (nat_lit 934, o490) :: (nat_lit 941, o554) :: (nat_lit 942, o554) :: (nat_lit 943, o610) :: (nat_lit 944, o7) :: (nat_lit 946, o611) :: (nat_lit 947, o7) :: (nat_lit 949, o613) :: (nat_lit 950, o614) :: (nat_lit 951, o7) :: (nat_lit 953, o615) :: (nat_lit 954, o7) :: (nat_lit 956, o617) :: (nat_lit 957, o618) :: (nat_lit 958, o7) :: (nat_lit 960, o619) :: (nat_lit 961, o7) :: (nat_lit 963, o621) :: (nat_lit 964, o622) :: (nat_lit 965, o623) :: (nat_lit 966, o7) :: (nat_lit 968, o624) :: (nat_lit 969, o7) :: (nat_lit 971, o626) :: (nat_lit 972, o627) :: (nat_lit 973, o7) :: (nat_lit 975, o628) :: (nat_lit 976, o7) :: (nat_lit 978, o630) :: (nat_lit 979, o631) :: (nat_lit 980, o7) :: (nat_lit 982, o632) :: (nat_lit 983, o7) :: (nat_lit 985, o634) :: (nat_lit 986, o635) :: (nat_lit 987, o7) :: (nat_lit 989, o636) :: (nat_lit 990, o7) :: (nat_lit 992, o638) :: (nat_lit 993, o639) :: (nat_lit 994, o640 P) :: (nat_lit 995, o641) :: (nat_lit 996, o6) :: (nat_lit 997, o7) :: (nat_lit 999, o642) :: (nat_lit 1000, o7) :: (nat_lit 1002, o644) :: (nat_lit 1003, o645) :: (nat_lit 1004, o646 P) :: (nat_lit 1005, o647) :: (nat_lit 1006, o6) :: (nat_lit 1007, o7) :: (nat_lit 1009, o648) :: (nat_lit 1010, o7) :: (nat_lit 1012, o650) :: (nat_lit 1013, o651) :: (nat_lit 1014, o7) :: (nat_lit 1016, o652) :: (nat_lit 1017, o7) :: (nat_lit 1019, o654) :: (nat_lit 1020, o655) :: (nat_lit 1021, o7) :: (nat_lit 1023, o656) :: (nat_lit 1024, o7) :: (nat_lit 1026, o658) :: (nat_lit 1027, o659) :: (nat_lit 1028, o7) :: (nat_lit 1030, o660) :: (nat_lit 1031, o7) :: (nat_lit 1033, o662) :: (nat_lit 1034, o663) :: (nat_lit 1035, o7) :: (nat_lit 1037, o664) :: (nat_lit 1038, o7) :: (nat_lit 1040, o666) :: (nat_lit 1041, o667) :: (nat_lit 1042, o668) :: (nat_lit 1043, o7) :: (nat_lit 1045, o669) :: (nat_lit 1046, o7) :: (nat_lit 1048, o671) :: (nat_lit 1049, o672) :: (nat_lit 1050, o673) :: (nat_lit 1051, o7) :: (nat_lit 1053, o674) :: (nat_lit 1054, o7) :: (nat_lit 1056, o676) :: (nat_lit 1057, o677) :: (nat_lit 1058, o673) :: (nat_lit 1059, o7) :: (nat_lit 1061, o678) :: (nat_lit 1062, o7) :: (nat_lit 1064, o680) :: (nat_lit 1065, o681) :: (nat_lit 1066, o682) :: (nat_lit 1067, o683 P) :: (nat_lit 1068, o684) :: (nat_lit 1071, o490) :: (nat_lit 1078, o694) :: (nat_lit 1079, o7) :: (nat_lit 1081, o695) :: (nat_lit 1082, o7) :: (nat_lit 1084, o697) :: (nat_lit 1085, o698) :: (nat_lit 1086, o7) :: (nat_lit 1088, o699) :: (nat_lit 1089, o7) :: (nat_lit 1091, o701) :: (nat_lit 1092, o702) :: (nat_lit 1093, o703) :: (nat_lit 1094, o704) :: (nat_lit 1095, o7) :: (nat_lit 1097, o705) :: (nat_lit 1098, o7) :: (nat_lit 1100, o707) :: (nat_lit 1101, o708) :: (nat_lit 1102, o7) :: (nat_lit 1104, o709) :: (nat_lit 1105, o7) :: (nat_lit 1107, o711) :: (nat_lit 1108, o712) :: (nat_lit 1109, o713 P) :: (nat_lit 1110, o714) :: (nat_lit 1111, o6) :: (nat_lit 1112, o715) :: (nat_lit 1113, o716 P) :: (nat_lit 1114, o717) :: (nat_lit 1117, o490) :: (nat_lit 1124, o7) :: (nat_lit 1126, o724) :: (nat_lit 1127, o7) :: (nat_lit 1129, o726) :: (nat_lit 1130, o727) :: (nat_lit 1131, o7) :: (nat_lit 1133, o728) :: (nat_lit 1134, o7) :: (nat_lit 1136, o730) :: (nat_lit 1137, o731) :: (nat_lit 1138, o7) :: (nat_lit 1140, o732) :: (nat_lit 1141, o7) :: (nat_lit 1143, o734) :: (nat_lit 1144, o735) :: (nat_lit 1145, o736 P) :: (nat_lit 1146, o737) :: (nat_lit 1147, o6) :: (nat_lit 1148, o738) :: (nat_lit 1149, o739 P) :: (nat_lit 1150, o740) :: (nat_lit 1153, o7) :: (nat_lit 1155, o743) :: (nat_lit 1156, o7) :: (nat_lit 1158, o745) :: (nat_lit 1159, o746) :: (nat_lit 1160, o7) :: (nat_lit 1162, o747) :: (nat_lit 1163, o7) :: (nat_lit 1165, o749) :: (nat_lit 1166, o750) :: (nat_lit 1167, o7) :: (nat_lit 1170, o752) :: (nat_lit 1171, o753) :: (nat_lit 1172, o7) :: (nat_lit 1175, o755) :: (nat_lit 1176, o756) :: (nat_lit 1177, o7) :: (nat_lit 1180, o758) :: (nat_lit 1181, o759) :: (nat_lit 1182, o7) :: (nat_lit 1185, o761) :: (nat_lit 1186, o762) :: []
end
end Mine
end
section
open PySem PySem.W PySem.Calls PyProof.Rows MineP
namespace Mine
theorem p_size : ∀ w : World, ((boot_heap w.params).isNs mainGlobals && (#[] : Array GenState).size == 0, (boot_heap w.params).objs.size, (boot_heap w.params).nsMap mainGlobals "__annotations__") = (true, 11, ann) := by
  intro w; kernel_rfl
theorem kas_eq : ∀ P, kas = (K P).map (·.1) := fun _ => by kernel_rfl
abbrev rw0 : OpenRow := PySem.Challenge.rw_bd0011_03.row
noncomputable abbrev Xt (s : Shared) : Bool := xlAt qv [] s && recOk (RowW.records rw0.toRowW) s
noncomputable abbrev Hk : Hook := kHook K kas kas_eq
noncomputable def Sf (w : World) (os : OsState) : Shared := ⟨Hf w.params, #[], ⟨0, 0, 0, 0⟩, 1988, os⟩
theorem pair_of {α β : Type} {a a' : α} {b b' : β} (x : a = a') (y : b = b') : (a, b) = (a', b') := by rw [x, y]
section
variable (w : World) (os : OsState)
theorem l_1 : (staticsOk (importedModules pw.main.body) (boot_heap w.params) (Hf w.params) && namesBound pw (Hf w.params) && gensDone (Sf w os) && laidKept (boot_heap w.params) (Hf w.params)) = true := by kernel_rfl
theorem l_2 : seen ((recsOf qv).map (·.name)) (ownsOf qv) [] { Sf w os with gens := #[] } = expectedOf qv := by kernel_rfl
theorem l_3 : (Sf w os).heap.bltView = bltViewBooted := by kernel_rfl
theorem l_4a : (Sf w os).heap.keysOk (looseW qv loose) ((recsOf qv).map (·.name)) ((litsOf qv).map (·.1)) ((clssOf qv (looseW qv loose)).map (·.name)) = true := by rw [PySem.W.Fast.te10880121769531294198, PySem.W.Fast.te821141287760084731]; kernel_rfl
theorem l_4b : (Sf w os).heap.accountedOkI (importedModules pw.main.body) = true := by kernel_rfl
theorem l_4c : ((Sf w os).heap.isNs mainGlobals && (Sf w os).heap.isNs builtinsNs) = true := by kernel_rfl
theorem l_4d : tablesOk qv (Sf w os).heap = true := by kernel_rfl
theorem l_4e : Xt (Sf w os) = true := by kernel_rfl
theorem l_5 : tabsOk qv (Sf w os) = true := by kernel_rfl
theorem l_6 : pinSeenD qv (drecsOf qv) (Sf w os) = pinGoodD (drecsOf qv) := by rw [PySem.W.Fast.te16090120013241838585]; kernel_rfl
theorem l_7 : plainSeenE qv (looseW qv loose) (Sf w os) = plainGoodE qv (looseW qv loose) := by rw [PySem.W.Fast.te2386780881361962483]; kernel_rfl
theorem l_8 : plainSeenD qv loose (Sf w os) = plainGoodD qv loose := by rw [PySem.W.Fast.te11698064438423848299]; kernel_rfl
theorem l_9 : wideSeen qv (Sf w os) = wideGood qv := by rw [PySem.W.Fast.te7317090234206586261]; kernel_rfl
theorem l_10 : clsSeenW qv loose (Sf w os) = clsGoodW qv loose := by rw [PySem.W.Fast.te7369524293546568484]; kernel_rfl
end
noncomputable def tget (T : BT) (n a : Nat) : Option Obj := match Nat.blt a n with
  | true => match T.get a with
    | some o => alive o
    | none => none
  | false => none
theorem tget_get {T : BT} {n : Nat} {life : Life} {a : Nat} {o : Obj} (e : tget T n a = some o) : (absHeap T n life).get? a = some o := by
  unfold tget at e
  cases h : Nat.blt a n with
  | false => rw [h] at e; cases e
  | true =>
    rw [h] at e
    have lt : a < n := Nat.le_of_ble_eq_true h
    cases g : T.get a with
    | none => rw [g] at e; cases e
    | some x => rw [g] at e; rw [abs_get lt g]; exact e
theorem obs_of {T : BT} {n : Nat} {life : Life} : ∀ (as : List Addr) (K : Frag), as.map (tget T n) = K.map (fun p => some p.2) → as.map (absHeap T n life).get? = K.map (fun p => some p.2)
  | [], [], _ => rfl
  | a :: as, p :: K, e => by
    rw [List.map_cons, List.map_cons] at e
    injection e with e1 e2
    rw [List.map_cons, List.map_cons, tget_get e1, obs_of as K e2]
  | [], _ :: _, e => by cases e
  | _ :: _, [], e => by cases e
theorem Hf_abs (P : Params) : Hf P = absHeap (T10 P) 1187 {} := by kernel_rfl
theorem l_11 (w : World) (os : OsState) : Hk.obs (Sf w os) = Hk.val w := by
  show kas.map (Hf w.params).get? = (K w.params).map fun p => some p.2
  rw [Hf_abs]
  exact obs_of kas (K w.params) (by kernel_rfl)
theorem looks : ∀ w : World, (fun os => ((staticsOk (importedModules pw.main.body) (boot_heap w.params) (Hf w.params) && namesBound pw (Hf w.params) && gensDone (Sf w os) && laidKept (boot_heap w.params) (Hf w.params)),
        openSeen qv loose (importedModules pw.main.body) Xt true (Sf w os), Hk.obs (Sf w os))) = fun _ => (true, openGood qv loose, Hk.val w) := by
  intro w
  funext os
  refine pair_of (l_1 w os) (pair_of (pair_of (l_2 w os) (pair_of (l_3 w os) (pair_of ?_ (pair_of (l_5 w os) (pair_of (l_6 w os) (pair_of (l_7 w os) (pair_of (l_8 w os) (pair_of (l_9 w os) (l_10 w os))))))))) (l_11 w os))
  have c := Bool.and_eq_true_iff.mp (l_4c w os)
  rw [l_4a w os, l_4b w os, c.1, c.2, l_4d w os, l_4e w os]
  rfl
theorem left : LeftO pw qv loose Xt Hk.obs Hk.val 22132 := LeftO.of_pieces p_open p_size p_run (by decide) looks
noncomputable def recD : Stmt → DefRec
  | .FunctionDef n a b _ _ _ sc _ _ p => ⟨n, a, b, sc, p⟩
  | _ => ⟨Str.ofString "", ⟨[], [], none, [], [], none, []⟩, [], ⟨.module, [], false, false, []⟩, ⟨0, 0, 0, 0⟩⟩
noncomputable def d0 : DefRec := recD (nth B 40)
theorem h_def : defOf qv rw0.name = some (d0, []) := by kernel_rfl
theorem h_the : rw0.prog.theDef rw0.name = some (d0.params, d0.body, d0.scope) := by kernel_rfl
theorem h_kw : kwWritten? d0.params.kwonlyargs d0.params.kw_defaults = some [] := by kernel_rfl
theorem said2 : PySem.Challenge.rw_bd0011_03.wellSaid = true := by rw [PySem.W.Fast.te9446332074065402090]; kernel_rfl
theorem h_ok : (chainsOk qv && opensWell rw0.prog && (frees rw0.toRowW && rw0.within.isEmpty)) = true := by kernel_rfl
theorem h_tab : rw0.prog.tablesWhole = true := by kernel_rfl
theorem hd (walk : WalkP qv loose (XL qv []) Hk.says rw0.toRowW d0 [] fun f vs => PySem.call f vs) : PySem.Challenge.rw_bd0011_03.Holds := by
  refine holds_law said2 fun said => ?_
  refine MineP.open_clean (r := rw0) (q := qv) (loose := loose) (Xt := Xt) (XP := XL qv []) (YP := Hk.says) left (Hook.of Hk) (Hook.keeps Hk) (fun s e => xl_of s (Bool.and_eq_true_iff.mp e).1) XL.keeps h_def h_the h_kw (fun s e => recFacts_of (Bool.and_eq_true_iff.mp e).2) rfl said h_ok ⟨rfl, rfl, rfl, rfl, rfl, h_tab⟩ ?_ walk
  w_witness2
end Mine
end
section
open PySem PySem.W PySem.Calls PyProof.Rows MineP
namespace Mine
theorem fillA : (fun (_ : OpenLaw) (_ : Params → Frag) => True) PySem.Challenge.rw_bd0011_03 K := by k_fill; trivial
structure Cx (w : World) (h : Heap) (dp un : Nat) (cs : Scope) (outer : List Env) (A₀ : Around) (base h₀ : Heap) (L : Addr) (m : Str → Option Value) (p : Program) (loose : List Str) (mean : ExcName → Option Value) (mg mb : Str → Option Value) (a b : Nat) : Prop where
  B : Below A₀ base outer h₀
  F : Fr h₀ L h m
  X : (K w.params).In h₀
  T : Top p loose mean mg mb h₀
  hk : cs.kind = .function
  hd : dp + a < recursionLimit
  hu : un + b < cLine
noncomputable abbrev kE (P : Params) (x : String) (t : Tok) (v : Value) : DictEntry := ⟨PyData.keyHash P (Str.ofString x), .str (Str.ofString x) t, v⟩
noncomputable abbrev strD (P : Params) (t1 t2 : Tok) (ba : Addr) (pos : Int) (t3 : Tok) : Obj := dictOf [kE P "_BytesIO__buf" t1 (.ref ba), kE P "_BytesIO__pos" t2 (.int pos t3)] 2
abbrev lim : Nat := 1000000
structure WriterW (w : World) (f st : Addr) (args : List Value) (out : Array UInt8) (a' b' kz : Nat) (Need : List (Addr × Obj) → Prop) : Prop where
  go : ∀ {p : Program} {loose : List Str} {mean : ExcName → Option Value} {mg mb : Str → Option Value} {dp un : Nat} {cn : Str} {cs : Scope} {a : Addr} {ccd : Value} {cl : List (Str × Addr)} {outer : List Env} {A₀ : Around} {base h₀ : Heap} {L : Addr} {m : Str → Option Value} {s : Shared} {Q E : Value → Shared → Prop}
    {sd ba : Addr} {t1 t2 t3 : Tok} {b0 : Array UInt8} {rest : List (Addr × Obj)},
    Cx w s.heap dp un cs outer A₀ base h₀ L m p loose mean mg mb a' b' → News h₀ L s.heap ((sd, strD w.params t1 t2 ba b0.size t3) :: (ba, baO b0) :: rest) → ND ((sd, strD w.params t1 t2 ba b0.size t3) :: (ba, baO b0) :: rest) → (st, instObj 395 sd) ∈ rest → Need rest → b0.size + kz ≤ lim →
    (∀ (t t' : Tok) (h' : Heap) (tk' : Nat), Fr h₀ L h' m → News h₀ L h' ((sd, strD w.params t1 t2 ba (b0 ++ out).size t') :: (ba, baO (b0 ++ out)) :: rest) → ND ((sd, strD w.params t1 t2 ba (b0 ++ out).size t') :: (ba, baO (b0 ++ out)) :: rest) → Q (.int out.size t) { s with heap := h', toks := tk' }) →
    codeP true (model pw w) (ktrTop dp un (some []) cn cs L a ccd cl outer) (.call (.ref f) ⟨args, []⟩) (wantsR Q E) s
structure WriterU (w : World) (f st : Addr) (args : List Value) (out : Array UInt8) (a' b' kz : Nat) (Need : List (Addr × Obj) → Prop) : Prop where
  go : ∀ {p : Program} {loose : List Str} {mean : ExcName → Option Value} {mg mb : Str → Option Value} {dp un : Nat} {cn : Str} {cs : Scope} {a : Addr} {ccd : Value} {cl : List (Str × Addr)} {outer : List Env} {A₀ : Around} {base h₀ : Heap} {L : Addr} {m : Str → Option Value} {s : Shared} {Q E : Value → Shared → Prop}
    {sd ba : Addr} {t1 t2 t3 : Tok} {b0 : Array UInt8} {news : List (Addr × Obj)} {n1 n2 : Tok → List (Addr × Obj)},
    Cx w s.heap dp un cs outer A₀ base h₀ L m p loose mean mg mb a' b' → News h₀ L s.heap news → ND news → (st, instObj 395 sd) ∈ news → Need news →
    (∀ t', Upd sd (strD w.params t1 t2 ba b0.size t3) (strD w.params t1 t2 ba (b0 ++ out).size t') news (n1 t')) → (∀ t', Upd ba (baO b0) (baO (b0 ++ out)) (n1 t') (n2 t')) → b0.size + kz ≤ lim →
    (∀ (t t' : Tok) (h' : Heap) (tk' : Nat), Fr h₀ L h' m → News h₀ L h' (n2 t') → ND (n2 t') → Q (.int out.size t) { s with heap := h', toks := tk' }) →
    codeP true (model pw w) (ktrTop dp un (some []) cn cs L a ccd cl outer) (.call (.ref f) ⟨args, []⟩) (wantsR Q E) s
local macro_rules | `(tactic| omega) => `(tactic| first | with_reducible exact Nat.zero_le _ | with_reducible exact Int.natCast_nonneg _ | with_reducible exact om5 (by assumption) | ((with_reducible refine om6 (by assumption) ?_); exact rfl) | ((with_reducible refine om7 (by assumption) ?_); exact rfl) | ((with_reducible refine om1 (by assumption) ?_); exact rfl) | ((with_reducible refine om2 (by assumption) ?_); exact rfl) | ((with_reducible refine om3 (by assumption) ?_); exact rfl) | ((with_reducible refine om4 (by assumption) ?_); exact rfl) | ((with_reducible refine om8 (by assumption) (by assumption) ?_); exact rfl) | ((with_reducible refine om9 (by assumption) ?_); exact rfl) | ((with_reducible refine omA (by assumption) ?_); exact rfl) | ((with_reducible refine omB (by assumption) ?_); exact rfl) | ((with_reducible refine omC (by assumption) ?_); exact rfl) | ((with_reducible refine omD (by assumption) ?_); exact rfl) | with_reducible exact Int.sub_zero _)
local macro_rules | `(tactic| ktr_room) => `(tactic| first | exact room1 (by assumption) rfl | exact room2 (by assumption) rfl | exact room3 (by assumption) rfl | with_reducible assumption)
local macro_rules | `(tactic| ktr_units) => `(tactic| first | exact room1 (by assumption) rfl | exact room2 (by assumption) rfl | exact room3 (by assumption) rfl | exact room4 (by assumption) rfl)
local macro_rules | `(tactic| k_room) => `(tactic| ktr_room)
local macro_rules | `(tactic| k_lt $h:ident) => `(tactic| replace $h := ltA_of $h)
local macro_rules | `(tactic| kfb_size) => `(tactic| first | assumption | exact nd_push (by assumption) (by kfb_size) | exact nd_push2 (by assumption) (by assumption) (by kfb_size))
local macro_rules | `(tactic| k_upd) => `(tactic| (refine' upd_nd ?nd ?ku; (case nd => kfb_size); (case ku => (intro n9; first | exact updH n9 | exact updT n9 (updH n9.2) | exact updT n9 (updT n9.2 (updH n9.2.2)) | exact updT n9 (updT n9.2 (updT n9.2.2 (updH n9.2.2.2))) | exact updT n9 (updT n9.2 (updT n9.2.2 (updT n9.2.2.2 (updH n9.2.2.2.2)))) | exact updT n9 (updT n9.2 (updT n9.2.2 (updT n9.2.2.2 (updT n9.2.2.2.2 (updH n9.2.2.2.2.2))))) | exact updT n9 (updT n9.2 (updT n9.2.2 (updT n9.2.2.2 (updT n9.2.2.2.2 (updT n9.2.2.2.2.2 (updH n9.2.2.2.2.2.2)))))) | exact updT n9 (updT n9.2 (updT n9.2.2 (updT n9.2.2.2 (updT n9.2.2.2.2 (updT n9.2.2.2.2.2 (updT n9.2.2.2.2.2.2 (updH n9.2.2.2.2.2.2.2))))))) | exact updT n9 (updT n9.2 (updT n9.2.2 (updT n9.2.2.2 (updT n9.2.2.2.2 (updT n9.2.2.2.2.2 (updT n9.2.2.2.2.2.2 (updT n9.2.2.2.2.2.2.2 (updH n9.2.2.2.2.2.2.2.2))))))))))))
local macro_rules | `(tactic| k_mem) => `(tactic| assumption)
local macro_rules | `(tactic| kspl_size) => `(tactic| first | with_reducible assumption | with_reducible exact Nat.le_of_eq (leB_size _ _) | with_reducible exact Nat.le_of_eq (rvA_size _) | with_reducible exact Nat.le_refl _)
local macro_rules | `(tactic| kob_size) => `(tactic| first | exact bud0 (by with_reducible assumption) rfl | ((with_reducible show Array.size (_ ++ _) + _ ≤ _); first | exact bud1 (by assumption) (by kspl_size) rfl | exact bud2 (by assumption) (by kspl_size) (by kspl_size) rfl | exact bud3 (by assumption) (by kspl_size) (by kspl_size) (by kspl_size) rfl | exact bud4 (by assumption) (by kspl_size) (by kspl_size) (by kspl_size) (by kspl_size) rfl))
local macro_rules | `(tactic| k_in) => `(tactic| exact Frag.In.keeps (by with_reducible assumption) (Fr.keep (by with_reducible assumption)))
local macro_rules | `(tactic| kxi_size) => `(tactic| ((with_reducible show (_ : Prop)); first | with_reducible assumption | (apply Cx.mk <;> first | k_asm | exact rfl | ktr_room | ktr_units) | k_mem | kfb_size | kspl_size | (intro t9; k_upd) | (intro t9 u9; k_upd) | kob_size | exact trivial | omega))
local macro_rules | `(tactic| ktr_unf) => `(tactic| (refine' p_def ?k1 ?k2 ?k3 ?k4 ?k5 ?kA ?kF ?kK ?k6 ?k7 ?k8 ?k9 ?kB ?_ ?c2 ?c3 ?c4 ?c5; (case kA => exact rfl); (case kF => exact rfl); (case kK => first | exact rfl | assumption); (case k1 => k_asm); (case k2 => k_asm); (case k3 => k_asm); (case k4 => k_asm); (case k5 => k_asm); (case k6 => k_is); (case k7 => k_is); (case k8 => ktr_room); (case k9 => first | exact BindsTo.of_eq rfl | exact binds_K (by k_in) rfl (by k_is) rfl rfl rfl); (case c5 => decide); (case kB => exact locs rfl); (case c2 => exact rfl); (case c3 => exact rfl); (case c4 => exact rfl); k_whole; intro g' L' h' FG' F' N' B' X' T'; (try dsimp only); (try k_lift B'); (try k_fold)))
local macro_rules | `(tactic| walk_at "call ref") => `(tactic| (k_here; (refine wpAny_call ?_); k_dflt (refine' code_def ?k1 ?k2 ?k3 ?k4 ?k5 ?kA ?kF ?kK ?k6 ?k7 ?k8 ?k9 ?kB ?_ ?c2 ?c3 ?c4 ?c5; (case kA => exact rfl); (case kF => exact rfl); (case kK => first | exact rfl | assumption); (case k1 => k_asm); (case k2 => k_asm); (case k3 => k_asm); (case k4 => k_asm); (case k5 => k_asm); (case k6 => k_is); (case k7 => k_is); (case k8 => ktr_room); (case k9 => first | exact BindsTo.of_eq rfl | exact binds_K (by k_in) rfl (by k_is) rfl rfl rfl); (case c5 => decide); (case kB => exact locs rfl); (case c2 => exact rfl); (case c3 => exact rfl); (case c4 => exact rfl); k_whole; intro g' L' h' FG' F' N' B' X' T'; (try dsimp only); (try k_lift B'); (try k_fold))))
local macro_rules | `(tactic| walk_at "call type:type") => `(tactic| ((with_reducible show wpAny _ _ (call _ [Value.bytes _ _]) _ _ _); refine call_type_of (typeIs_bytes _ _ _) (by decide +kernel) ?_))
local macro_rules | `(tactic| walk_at "call builtin:len") => `(tactic| (k_here; (with_reducible show wpAny _ _ (call (Value.builtin "len") [Value.bytes _ _]) _ _ _); (refine len_bytes (by omega) ?_)))
local macro_rules | `(tactic| walk_at "wpP") => `(tactic| refine p_any ?_)
local macro_rules | `(tactic| walk_at "wpP") => `(tactic| ((with_reducible show wpP _ _ _ (execs (_ :: _) _) _ _ _); refine p_stmt ?_))
local macro_rules | `(tactic| walk_at "wpP") => `(tactic| ((with_reducible show wpP _ _ _ (execs [] _) _ _ _); refine p_execs_nil ?_))
local macro_rules | `(tactic| walk_at "call builtin:len") => `(tactic| (k_here; (with_reducible show wpAny _ _ (call (Value.builtin "len") [Value.ref _]) _ _ _); k_dflt (refine' ba_len (News.get ?N ?m) ?z ?_; (case N => k_asm); (case m => k_mem); (case z => omega)); intro tl kl))
local macro_rules | `(tactic| walk_at "wpP") => `(tactic| ((with_reducible show wpP _ _ _ (execs (Stmt.Assign [Expr.Subscript _ _ _] _ _ :: _) _) _ _ _); k_dflt (refine p_execs (p_assignSub ?_))))
local macro_rules | `(tactic| walk_at "wpP") => `(tactic| ((with_reducible show wpP _ _ _ (setItem (Value.ref _) (Value.ref _) (Value.bytes _ _)) _ _ _); (try dsimp only); k_dflt (refine' p_baSet_K ?F ?N ?ma ?U ?hx ?hy ?hz ?_; (case F => k_asm); (case N => k_asm); (case ma => k_mem); (case U => k_upd); (case hx => omega); (case hy => omega); (case hz => omega); k_whole); intro h9 F9 N9; try dsimp only))
local macro_rules | `(tactic| walk_at "subscriptTail") => `(tactic| (k_here; (with_reducible show wpAny _ _ (subscriptTail _ (PySem.Expr.Slice _ _ none _) (Value.ref _) (Value.ref _)) _ _ _); (try dsimp only); k_dflt (refine' ba_cut_K ?F ?N ?ma ?h0 ?h1 ?h2 ?hz ?_ ?hs; (case F => k_asm); (case N => k_asm); (case ma => k_mem); (case h0 => omega); (case h1 => omega); (case h2 => omega); (case hz => omega); (case hs => (intro i9; with_unfolding_all rfl)); k_whole); intro d9 h9 tk9 F9 N9 l9; (try k_lt l9); try dsimp only))
local macro_rules | `(tactic| walk_at "call type:bytes") => `(tactic| (k_here; (with_reducible show wpAny _ _ (call (Value.type _) [Value.ref _]) _ _ _); k_dflt (refine' bytes_ba (News.get ?N ?m) ?z ?_; (case N => k_asm); (case m => k_mem); (case z => (try simp only [Array.size_extract]); omega)); intro tb kb))
local macro_rules | `(tactic| walk_at "call ref") => `(tactic| (k_here; (refine wpAny_call (g_code ?_)); k_dflt (refine' p_both0 ?k1 ?k2 ?k3 ?k4 ?k5 ?kA ?kF ?kK ?k6 ?k7 ?k8 ?kb ?kv ?kl ?_ ?c2 ?c3 ?c4 ?c5; (case kA => exact rfl); (case kF => exact rfl); (case kK => first | exact rfl | assumption); (case k1 => k_asm); (case k2 => k_asm); (case k3 => k_asm); (case k4 => k_asm); (case k5 => k_asm); (case k6 => k_is); (case k7 => k_is); (case k8 => ktr_room); (case kb => exact rfl); (case kv => exact Nat.le_of_ble_eq_true rfl); (case kl => exact fun _ _ => locs rfl); (case c5 => decide); (case c2 => exact rfl); (case c3 => exact rfl); (case c4 => exact rfl); k_whole; intro C' D' g' L' h' tk' l1 l2 hs' FG' F' N' B' X' T'; (try k_lt l1); (try k_lt2 l2); (try dsimp only); (try k_lift B'); (try k_fold))))
local macro_rules | `(tactic| walk_at "wpP") => `(tactic| ((with_reducible show wpP _ _ _ (execs (Stmt.Assign [Expr.Attribute _ _ _] (Expr.IfExp _ _ _ _) _ :: _) _) _ _ _); k_dflt (refine p_execs (p_assignAttr ?_))))
local macro_rules | `(tactic| walk_at "wpP") => `(tactic| ((with_reducible show wpP _ _ _ (eval (Expr.IfExp _ _ _ _) _) _ _ _); refine p_ifexp ?_))
local macro_rules | `(tactic| walk_at "wpP") => `(tactic| ((with_reducible show wpP _ _ _ (eval (Expr.Call (Expr.Name (PySem.Str.ofString "bytearray") _) _ [] _) _) _ _ _); k_dflt (refine p_fn ?_)))
local macro_rules | `(tactic| walk_at "wpP") => `(tactic| ((with_reducible show wpP _ _ _ (callWith _ (Value.type _) [] _ []) _ _ _); k_dflt (first | refine p_callWithT0 ?_ | refine p_callWithT1 ?_)))
theorem write_writer {w : World} {st : Addr} {b : Array UInt8} {t : Tok} {n : Nat} (hb : b.size ≤ n) : WriterW w 378 st [.ref st, .bytes b t] b 6 60 n (fun _ => True) := by
  constructor
  intro p loose mean mg mb dp un cn cs a ccd cl outer A₀ base h₀ L m s Q E sd ba t1 t2 t3 b0 rest cx N nd ms _ hz hret
  obtain ⟨B, F, X, T, hk, hd, hu⟩ := cx
  have hz' : b0.size + b.size ≤ 1000000 := Nat.le_trans (Nat.add_le_add_left hb _) hz
  have e : ((b0 ++ b).size : Int) = b0.size + b.size := by rw [Array.size_append]; rfl
  have hret0 : (b.size : Int) = 0 → ∀ (t : Tok) (h' : Heap) (tk' : Nat), Fr h₀ L h' m → News h₀ L h' ((sd, strD w.params t1 t2 ba b0.size t3) :: (ba, baO b0) :: rest) → Q (.int 0 t) { s with heap := h', toks := tk' } := by
    intro e t h' tk' F' N'
    have eb : b = #[] := Array.eq_empty_of_size_eq_zero (by omega)
    subst eb
    have := hret t t3 h' tk' F' (by simpa using N') (by simpa using nd)
    simpa using this
  rw [e] at hret
  unfold wantsR
  k_dflt ktr_unf
  k_steps
  all_goals first | exact hret0 (by assumption) _ _ _ (by assumption) (by assumption) | exact hret _ _ _ _ (by assumption) (by assumption) nd | (trace_state; walk_report)
local macro_rules | `(tactic| walk_at "codeP") => `(tactic| ((with_reducible show codeP _ _ _ (Code.call (Value.ref 378) _) _ _); (try dsimp only); k_dflt (refine' (write_u ?_).go ?_ ?_ ?_ ?_ ?_ ?_ ?_ ?_ ?_; any_goals kxi_size); all_goals (k_whole; intro t9 u9 h9 tk9 F9 N9 nd9); (try dsimp only)))
local macro_rules | `(tactic| walk_at "wpP") => `(tactic| ((with_reducible show wpP _ _ _ (call (Value.ref 378) _) _ _ _); refine p_callR ?_))
local macro_rules | `(tactic| walk_at "wpP") => `(tactic| ((with_reducible show wpP _ _ _ (eval (Expr.Call (Expr.Attribute _ _ _) _ [] _) _) _ _ _); k_dflt (refine p_meth ?_)))
local macro_rules | `(tactic| walk_at "wpP") => `(tactic| ((with_reducible show wpP _ _ _ (execs (Stmt.Assign [Expr.Name _ _] (Expr.Call _ _ _ _) _ :: _) _) _ _ _); k_dflt (refine p_execs (p_assign ?_))))
local macro_rules | `(tactic| walk_at "wpP") => `(tactic| ((with_reducible show wpP _ _ _ (execs (Stmt.AugAssign (Expr.Name _ _) _ (Expr.Call _ _ _ _) _ :: _) _) _ _ _); k_dflt (refine p_execs (p_aug ?_))))
local macro_rules | `(tactic| walk_at "wpP") => `(tactic| ((with_reducible show wpP _ _ _ (execs (Stmt.Return (some (Expr.Call _ _ _ _)) _ :: _) _) _ _ _); k_dflt (refine p_execs (p_ret ?_))))
local macro_rules | `(tactic| walk_at "wpP") => `(tactic| ((with_reducible show wpP _ _ _ (execs (Stmt.If _ _ _ _ :: _) _) _ _ _); k_dflt (refine p_execs (p_if ?_))))
local macro_rules | `(tactic| walk_at "wpP") => `(tactic| ((with_reducible show wpP _ _ _ (eval (Expr.Call (Expr.Name (PySem.Str.ofString "BytesIO") _) _ [] _) _) _ _ _); k_dflt (refine p_fn ?_)))
local macro_rules | `(tactic| walk_at "wpP") => `(tactic| ((with_reducible show wpP _ _ _ (callWith _ (Value.ref _) _ _ []) _ _ _); k_dflt (first | (refine' p_callWith_K1 ?k1 ?k2 ?_; (case k1 => k_asm); (case k2 => k_is); k_whole) | (refine' p_callWith_K0 ?k1 ?k2 ?_; (case k1 => k_in); (case k2 => k_is); k_whole; try dsimp only [List.nil_append, List.cons_append]))))
local macro_rules | `(tactic| walk_at "wpP") => `(tactic| ((with_reducible show wpP _ _ _ (execs (Stmt.While _ _ [] _ :: _) _) _ _ _); k_dflt (refine p_execs (p_while0 ?_))))
local macro_rules | `(tactic| walk_at "call builtin:len") => `(tactic| (k_here; (with_reducible show wpAny _ _ (call (Value.builtin "len") [Value.bytes (List.toArray [_]) _]) _ _ _); (refine len1 ?_); intro tl kl))
local macro_rules | `(tactic| walk_at "subscriptTail") => `(tactic| (k_here; (with_reducible show wpAny _ _ (subscriptTail _ _ (Value.bytes (List.toArray [_]) _) (Value.int 0 _)) _ _ _); k_dflt (refine item1 ?_); intro tl kl))
theorem bio_makes {w : World} {h : Heap} (X : (K w.params).In h) : MakesOwn (model pw w) h 395 135 182 where
  obj := ⟨_, _, _, _, X _ _ rfl, rfl, rfl⟩
  mro := ⟨.ref 395, [.ref 153, .ref 138, .type "object"], Looks.of_peek X (by kernel_rfl)⟩
  made := Looks.of_peek X (by kernel_rfl)
  base := Looks.of_peek X (by kernel_rfl)
  mo := Looks.of_peek X (by kernel_rfl)
  here := Looks.of_peek X (by kernel_rfl)
  self := Looks.of_peek X (by kernel_rfl)
  top := Looks.of_peek X (by kernel_rfl)
  call := Looks.of_peek X (by kernel_rfl)
  typ := Looks.of_peek X (by kernel_rfl)
  isTy := Looks.of_peek X (by kernel_rfl)
  nw := fun A Q E s k q => by
    have X' := X.keeps k
    refine' cls_sm0 (mc := .type "type") X' ?a ?b ?c ?d q
    case b => k_dflt k_is
    case c => k_dflt k_is
    case a => kernel_rfl
    case d => rfl
  init := Looks.of_peek X (by kernel_rfl)
  bnd := fun self => bind_fn X self (by kernel_rfl)
section
variable {w : World} {p : Program} {loose : List Str} {mean : ExcName → Option Value} {mg mb : Str → Option Value} {dp un : Nat} {gd : Option (List Code)} {cn : Str} {cs : Scope} {a : Addr} {ccd : Value} {cl : List (Str × Addr)} {outer : List Env} {A₀ : Around} {base h₀ : Heap} {L : Addr} {m : Str → Option Value} {s : Shared} {Q E : Value → Shared → Prop} {news : List (Addr × Obj)}
theorem read_w {st sd ba : Addr} {t1 t2 t3 t : Tok} {pos n : Int} {b : Array UInt8} {rest : List (Addr × Obj)} {y : List UInt8}
    (cx : Cx w s.heap dp un cs outer A₀ base h₀ L m p loose mean mg mb 6 60)
    (N : News h₀ L s.heap ((sd, strD w.params t1 t2 ba pos t3) :: rest)) (ms : (st, instObj 395 sd) ∈ rest) (mb' : (ba, baO b) ∈ rest) (nd : ND ((sd, strD w.params t1 t2 ba pos t3) :: rest)) (h0 : 0 ≤ pos) (h1 : pos ≤ b.size) (hn : 0 ≤ n) (hn2 : n ≤ 1000000) (hz : b.size ≤ 1000000) (hy : b.toList.drop pos.toNat = y)
    (hret : ∀ (t t' : Tok) (h' : Heap) (tk' : Nat) (pos' : Int), 0 ≤ pos' → pos' ≤ b.size → b.toList.drop pos'.toNat = y.drop n.toNat → Fr h₀ L h' m → News h₀ L h' ((sd, strD w.params t1 t2 ba pos' t') :: rest) → Q (.bytes (y.take n.toNat).toArray t) { s with heap := h', toks := tk' }) :
    wpAny (model pw w) (ktrTop dp un gd cn cs L a ccd cl outer) (call (.ref 319) [.ref st, .int n t]) Q E s := by
  obtain ⟨B, F, X, T, hk, hd, hu⟩ := cx
  have hl : b.toList.length = b.size := rfl
  have r1 : pos ≥ b.size → ∀ (t : Tok) (h' : Heap) (tk' : Nat), Fr h₀ L h' m → News h₀ L h' ((sd, strD w.params t1 t2 ba pos t3) :: rest) → Q (.bytes #[] t) { s with heap := h', toks := tk' } := by
    intro e t h' tk' F' N'
    have ey : y = [] := by rw [← hy]; exact List.drop_eq_nil_of_le (by omega)
    have := hret t t3 h' tk' pos h0 h1 (by rw [hy, ey]; simp) F' N'
    rw [ey] at this
    simpa using this
  have r2 : pos + n < b.size → ∀ (t t' : Tok) (h' : Heap) (tk' : Nat), Fr h₀ L h' m → News h₀ L h' ((sd, strD w.params t1 t2 ba (pos + n) t') :: rest) → Q (.bytes (b.extract pos.toNat (pos + n).toNat) t) { s with heap := h', toks := tk' } := by
    intro e t t' h' tk' F' N'
    have := hret t t' h' tk' (pos + n) (by omega) (by omega) (by rw [← hy, List.drop_drop]; congr 1; omega) F' N'
    have ee : b.extract pos.toNat (pos + n).toNat = (y.take n.toNat).toArray := by
      apply Array.ext'
      rw [← hy, Array.toList_extract, List.extract_eq_take_drop]
      simp only []
      congr 1; omega
    rw [ee]; exact this
  have r3 : ¬ (pos + n < b.size) → ¬ (pos ≥ b.size) → ∀ (t t' : Tok) (h' : Heap) (tk' : Nat), Fr h₀ L h' m → News h₀ L h' ((sd, strD w.params t1 t2 ba (b.size : Int) t') :: rest) → Q (.bytes (b.extract pos.toNat (b.size : Int).toNat) t) { s with heap := h', toks := tk' } := by
    intro e e' t t' h' tk' F' N'
    have := hret t t' h' tk' b.size (by omega) (by omega) (by rw [← hy, List.drop_drop]; rw [List.drop_eq_nil_of_le (by omega), List.drop_eq_nil_of_le (by omega)]) F' N'
    have ee : b.extract pos.toNat (b.size : Int).toNat = (y.take n.toNat).toArray := by
      apply Array.ext'
      rw [← hy, Array.toList_extract, List.extract_eq_take_drop]
      simp only []
      rw [List.take_of_length_le (by simp), List.take_of_length_le (by simp; omega)]
    rw [ee]; exact this
  k_steps
  all_goals first | exact r1 (by omega) _ _ _ (by assumption) (by assumption) | exact r2 (by omega) _ _ _ _ (by assumption) (drop1 (by assumption)) | exact r3 (by omega) (by omega) _ _ _ _ (by assumption) (drop1 (by assumption)) | walk_report
theorem read_u {st sd ba : Addr} {t1 t2 t3 t : Tok} {pos n : Int} {b : Array UInt8} {n1 : Int → Tok → List (Addr × Obj)} {y : List UInt8}
    (cx : Cx w s.heap dp un cs outer A₀ base h₀ L m p loose mean mg mb 6 60) (N : News h₀ L s.heap news) (nd : ND news) (ms : (st, instObj 395 sd) ∈ news)
    (u1 : ∀ pos' t', Upd sd (strD w.params t1 t2 ba pos t3) (strD w.params t1 t2 ba pos' t') news (n1 pos' t')) (mb' : (ba, baO b) ∈ news)
    (h0 : 0 ≤ pos) (h1 : pos ≤ b.size) (hn : 0 ≤ n) (hn2 : n ≤ 1000000) (hz : b.size ≤ 1000000) (hy : b.toList.drop pos.toNat = y)
    (hret : ∀ (t t' : Tok) (h' : Heap) (tk' : Nat) (pos' : Int), 0 ≤ pos' → pos' ≤ b.size → b.toList.drop pos'.toNat = y.drop n.toNat → Fr h₀ L h' m → News h₀ L h' (n1 pos' t') → ND (n1 pos' t') → Q (.bytes (y.take n.toNat).toArray t) { s with heap := h', toks := tk' }) :
    wpAny (model pw w) (ktrTop dp un gd cn cs L a ccd cl outer) (call (.ref 319) [.ref st, .int n t]) Q E s := by
  have m1 := upd_mem (u1 0 0)
  have d1 : @Ne Nat ba sd := news_ne N mb' m1 (cls_ne (fun e => by injection e with e; exact absurd e (by decide)))
  have d2 : @Ne Nat st sd := news_ne N ms m1 (cls_ne nofun)
  exact read_w cx (turn1 N m1) (in1 ms d2) (in1 mb' d1) (nd_turn1 nd) h0 h1 hn hn2 hz hy fun t t' h' tk' pos' a b c F' N' => hret t t' h' tk' pos' a b c F' (back1 (u1 pos' t') N') (nd_upd nd (u1 pos' t'))
theorem getvalue_u {st sd ba : Addr} {t1 t2 t3 : Tok} {pos : Int} {b : Array UInt8}
    (cx : Cx w s.heap dp un cs outer A₀ base h₀ L m p loose mean mg mb 6 60) (N : News h₀ L s.heap news) (nd : ND news) (ms : (st, instObj 395 sd) ∈ news) (md : (sd, strD w.params t1 t2 ba pos t3) ∈ news) (mb' : (ba, baO b) ∈ news) (hz : b.size ≤ 1000000)
    (hret : ∀ (t : Tok) (h' : Heap) (tk' : Nat), Fr h₀ L h' m → News h₀ L h' news → ND news → Q (.bytes b t) { s with heap := h', toks := tk' }) :
    wpAny (model pw w) (ktrTop dp un gd cn cs L a ccd cl outer) (call (.ref 281) [.ref st]) Q E s := by
  obtain ⟨B, F, X, T, hk, hd, hu⟩ := cx
  k_steps
  all_goals first | exact hret _ _ _ (by assumption) (by assumption) nd | walk_report
theorem objnew_bio {A : Around} (F : Fr h₀ L s.heap m) (N : News h₀ L s.heap news) (X : (K w.params).In h₀)
    (h : ∀ x dx h', Fr h₀ L h' m → News h₀ L h' ((x, instObj 395 dx) :: (dx, dictOf [] 0) :: news) → (∀ p ∈ news, p.1 < dx) → dx < x → Q (.ref x) { s with heap := h' }) :
    wpAny (model pw w) A (call (.builtin "object.__new__") [.ref 395]) Q E s := by
  obtain ⟨hh, g, d, t, os⟩ := s
  have N' := (N.push F emptyDict).push (F.push _) (instObj 395 hh.objs.size)
  rw [Heap.size_push] at N'
  exact wpAny_call (new_own (bio_makes (X.keeps F.keep)) (h _ hh.objs.size _ ((F.push _).push _) N' (fun p hp => Heap.lt_size (N p hp).1) (Nat.lt_succ_self _)))
local macro_rules | `(tactic| walk_at "call builtin:object.__new__") => `(tactic| (k_here; k_dflt (refine' objnew_bio ?F ?N ?X ?_; (case F => k_asm); (case N => k_asm); (case X => k_asm); k_whole); intro x9 d9 h9 F9 N9 l9 l8; (have l9c := l9); (try k_lt l9); (try k_lt2 l8); try dsimp only))
theorem ionew (rest : List Value) (hr : rest = [] ∨ ∃ b t, rest = [.bytes b t]) (cx : Cx w s.heap dp un cs outer A₀ base h₀ L m p loose mean mg mb 6 60) (N : News h₀ L s.heap news)
    (hret : ∀ x dx (h' : Heap) (tk' : Nat), Fr h₀ L h' m → News h₀ L h' ((x, instObj 395 dx) :: (dx, dictOf [] 0) :: news) → (∀ p ∈ news, p.1 < dx) → dx < x → Q (.ref x) { s with heap := h', toks := tk' }) :
    wpAny (model pw w) (ktrTop dp un gd cn cs L a ccd cl outer) (call (.ref 135) (.ref 395 :: rest)) Q E s := by
  obtain ⟨B, F, X, T, hk, hd, hu⟩ := cx
  rcases hr with rfl | ⟨b, t, rfl⟩
  · k_steps
    all_goals first | exact hret _ _ _ _ (by assumption) (drop22 (by assumption)) (fun p hp => LtA.all (n := _ :: _ :: news) (by assumption) p (.tail _ (.tail _ hp))) (by assumption) | walk_report
  · k_steps
    all_goals first | exact hret _ _ _ _ (by assumption) (drop22 (by assumption)) (fun p hp => LtA.all (n := _ :: _ :: news) (by assumption) p (.tail _ (.tail _ hp))) (by assumption) | walk_report
local macro_rules | `(tactic| walk_at "wpP") => `(tactic| ((with_reducible show wpP _ _ _ (call (Value.type "bytearray") []) _ _ _); (try dsimp only); k_dflt (refine' p_ba0K ?F ?N ?_; (case F => k_asm); (case N => k_asm); k_whole); intro b9 h9 F9 N9 l9; (have l9c := l9); (try k_lt l9); try dsimp only))
local macro_rules | `(tactic| walk_at "wpP") => `(tactic| ((with_reducible show wpP _ _ _ (call (Value.type "bytearray") [Value.bytes _ _]) _ _ _); (try dsimp only); k_dflt (refine' p_ba1K ?F ?N ?z ?_; (case F => k_asm); (case N => k_asm); (case z => omega); k_whole); intro b9 h9 F9 N9 l9; (have l9c := l9); (try k_lt l9); try dsimp only))
theorem bioinit_w {x dx : Addr} {b : Array UInt8} {t : Tok} {rest : List (Addr × Obj)} {R : Result → Shared → Prop} (vs : List Value) (hv : (vs = [] ∧ b = #[]) ∨ vs = [.bytes b t])
    (cx : Cx w s.heap dp un cs outer A₀ base h₀ L m p loose mean mg mb 6 60) (N : News h₀ L s.heap ((dx, dictOf [] 0) :: rest)) (mx : (x, instObj 395 dx) ∈ rest) (nd : ND ((dx, dictOf [] 0) :: rest)) (hz : b.size ≤ 1000000)
    (hret : ∀ ba t1 t2 t3 (h' : Heap) (tk' : Nat), Fr h₀ L h' m → News h₀ L h' ((ba, baO b) :: (dx, strD w.params t1 t2 ba 0 t3) :: rest) → LtA ba (List.map Prod.fst ((dx, dictOf [] 0) :: rest)) → R (.ok (.ret .none)) { s with heap := h', toks := tk' }) :
    codeP true (model pw w) (ktrTop dp un (some []) cn cs L a ccd cl outer) (.call (.ref 182) ⟨.ref x :: vs, []⟩) R s := by
  obtain ⟨B, F, X, T, hk, hd, hu⟩ := cx
  rcases hv with ⟨rfl, rfl⟩ | rfl
  · k_dflt ktr_unf
    k_steps
    all_goals first | exact hret _ _ _ _ _ _ (by assumption) (by assumption) (by assumption) | walk_report
  · k_dflt ktr_unf
    k_steps
    all_goals first | exact hret _ _ _ _ _ _ (by assumption) (by assumption) (by assumption) | walk_report
theorem under_tc (dp un : Nat) (gd : Option (List Code)) (cn : Str) (cs : Scope) (L a : Addr) (ccd : Value) (cl : List (Str × Addr)) (outer : List Env) (C : Addr) (vs : List Value) :
    (ktrTop dp un gd cn cs L a ccd cl outer).under (.builtin "type.__call__" ⟨.ref C :: vs, []⟩) = ktrTop (dp + 1) (un + 1) gd cn cs L a ccd cl outer := by
  rfl
theorem bio_new {b : Array UInt8} {t : Tok} (vs : List Value) (hv : (vs = [] ∧ b = #[]) ∨ vs = [.bytes b t])
    (cx : Cx w s.heap dp un cs outer A₀ base h₀ L m p loose mean mg mb 10 100) (N : News h₀ L s.heap news) (nd : ND news) (hz : b.size ≤ 1000000)
    (hret : ∀ x dx ba t1 t2 t3 (h' : Heap) (tk' : Nat), Fr h₀ L h' m → News h₀ L h' ((ba, baO b) :: (dx, strD w.params t1 t2 ba 0 t3) :: (x, instObj 395 dx) :: news) → ND ((ba, baO b) :: (dx, strD w.params t1 t2 ba 0 t3) :: (x, instObj 395 dx) :: news) → Q (.ref x) { s with heap := h', toks := tk' }) :
    wpP true (model pw w) (ktrTop dp un (some []) cn cs L a ccd cl outer) (call (.ref 395) vs) Q E s := by
  obtain ⟨B, F, X, T, hk, hd, hu⟩ := cx
  obtain ⟨hh, g, d, tk, os⟩ := s
  refine p_call (p_makeOwn (bio_makes (X.keeps F.keep)) ?_)
  rw [under_tc]
  refine ionew vs (hv.elim (fun e => .inl e.1) fun e => .inr ⟨_, _, e⟩) ⟨B, F, X, T, hk, by omega, by omega⟩ N fun x dx h' tk' F' N' l1 l2 => ?_
  have N2 : News h₀ L h' ((dx, dictOf [] 0) :: (x, instObj 395 dx) :: news) := news_sub N' fun p hp => by
    rcases List.mem_cons.mp hp with rfl | hp
    · exact .tail _ (.head _)
    · rcases List.mem_cons.mp hp with rfl | hp
      · exact .head _
      · exact .tail _ (.tail _ hp)
  refine ⟨x, dx, rfl, bio_makes (X.keeps F'.keep), (N' _ (.head _)).1, ?_⟩
  have nd2 : ND ((dx, dictOf [] 0) :: (x, instObj 395 dx) :: news) := by
    refine nd_cons (fun p hp => ?_) (nd_cons (fun p hp => Nat.ne_of_lt (Nat.lt_trans (l1 p hp) l2)) nd)
    rcases List.mem_cons.mp hp with rfl | hp
    · exact Nat.ne_of_gt l2
    · exact Nat.ne_of_lt (l1 p hp)
  exact bioinit_w (s := ⟨h', g, d, tk', os⟩) vs hv ⟨B, F', X, T, hk, by omega, by omega⟩ N2 (.head _) nd2 hz fun ba t1 t2 t3 h'' tk'' F'' N'' l3 => ⟨rfl, hret x dx ba t1 t2 t3 h'' tk'' F'' N'' (nd_push l3 nd2)⟩
theorem bio_new0 (cx : Cx w s.heap dp un cs outer A₀ base h₀ L m p loose mean mg mb 10 100) (N : News h₀ L s.heap news) (nd : ND news)
    (hret : ∀ x dx ba t1 t2 t3 (h' : Heap) (tk' : Nat), Fr h₀ L h' m → News h₀ L h' ((ba, baO #[]) :: (dx, strD w.params t1 t2 ba (#[] : Array UInt8).size t3) :: (x, instObj 395 dx) :: news) → ND ((ba, baO #[]) :: (dx, strD w.params t1 t2 ba (#[] : Array UInt8).size t3) :: (x, instObj 395 dx) :: news) → Q (.ref x) { s with heap := h', toks := tk' }) :
    wpP true (model pw w) (ktrTop dp un (some []) cn cs L a ccd cl outer) (call (.ref 395) []) Q E s :=
  bio_new (b := #[]) (t := 0) [] (.inl ⟨rfl, rfl⟩) cx N nd (by decide) hret
end
section
variable {G : Bool} {w : World} {p : Program} {loose : List Str} {mean : ExcName → Option Value} {mg mb : Str → Option Value} {dp un : Nat} {gd : Option (List Code)} {cn : Str} {cs : Scope} {a : Addr} {ccd : Value} {cl : List (Str × Addr)} {outer : List Env} {A₀ : Around} {base h₀ : Heap} {L : Addr} {m : Str → Option Value} {s : Shared} {Q E : Value → Shared → Prop} {news : List (Addr × Obj)}
theorem read1_u {st sd ba : Addr} {t1 t2 t3 t : Tok} {pos : Int} {b : Array UInt8} {n1 : Int → Tok → List (Addr × Obj)} {c : UInt8} {y : List UInt8}
    (cx : Cx w s.heap dp un cs outer A₀ base h₀ L m p loose mean mg mb 6 60) (N : News h₀ L s.heap news) (nd : ND news) (ms : (st, instObj 395 sd) ∈ news)
    (u1 : ∀ pos' t', Upd sd (strD w.params t1 t2 ba pos t3) (strD w.params t1 t2 ba pos' t') news (n1 pos' t')) (mb' : (ba, baO b) ∈ news)
    (h0 : 0 ≤ pos) (h1 : pos ≤ b.size) (hz : b.size ≤ 1000000) (hy : b.toList.drop pos.toNat = c :: y)
    (hret : ∀ (t t' : Tok) (h' : Heap) (tk' : Nat) (pos' : Int), 0 ≤ pos' → pos' ≤ b.size → b.toList.drop pos'.toNat = y → Fr h₀ L h' m → News h₀ L h' (n1 pos' t') → ND (n1 pos' t') → Q (.bytes [c].toArray t) { s with heap := h', toks := tk' }) :
    wpAny (model pw w) (ktrTop dp un gd cn cs L a ccd cl outer) (call (.ref 319) [.ref st, .int 1 t]) Q E s :=
  read_u cx N nd ms u1 mb' h0 h1 (by decide) (by decide) hz hy fun t t' h' tk' pos' a b c' F' N' nd' => hret t t' h' tk' pos' a b (by simpa using c') F' N' nd'
theorem to_bytes_u {i : Int} {t : Tok} (cx : Cx w s.heap dp un cs outer A₀ base h₀ L m p loose mean mg mb 6 60) (N : News h₀ L s.heap news) (nd : ND news) (h0 : 0 ≤ i) (h1 : i < 253)
    (hret : ∀ (t : Tok) (h' : Heap) (tk' : Nat), Fr h₀ L h' m → News h₀ L h' news → Q (.bytes #[i.toNat.toUInt8] t) { s with heap := h', toks := tk' }) :
    wpAny (model pw w) (ktrTop dp un gd cn cs L a ccd cl outer) (call (.ref 94) [.int i t]) Q E s := by
  obtain ⟨B, F, X, T, hk, hd, hu⟩ := cx
  refine wpAny_call (g_code ?_)
  k_dflt ktr_unf
  k_steps
  all_goals first | exact hret _ _ _ (by assumption) (by assumption) | exact hret _ _ _ (by assumption) (drop1 (by assumption)) | (show (i.fdiv 256 != 0) = false; rw [Int.fdiv_eq_ediv_of_nonneg _ (by decide), show i / 256 = 0 by omega]; rfl) | walk_report
local macro_rules | `(tactic| walk_at "call ref") => `(tactic| (k_here; (with_reducible show wpAny _ _ (call (Value.ref 319) _) _ _ _); (try dsimp only); k_dflt (refine' readn_u ?_ ?_ ?_ ?_ ?_ ?_ ?_ ?_ ?_ ?_ ?_ ?_ ?_; any_goals kxi_size); all_goals (k_whole; intro t9 u9 h9 tk9 p9 hp9 hq9 hy9 F9 N9 nd9); (try dsimp only)))
local macro_rules | `(tactic| walk_at "call ref") => `(tactic| (k_here; (with_reducible show wpAny _ _ (call (Value.ref 319) [_, Value.int 1 _]) _ _ _); (try dsimp only); k_dflt (refine' read1_u ?_ ?_ ?_ ?_ ?_ ?_ ?_ ?_ ?_ ?_ ?_; any_goals kxi_size); all_goals (k_whole; intro t9 u9 h9 tk9 p9 hp9 hq9 hy9 F9 N9 nd9); (try dsimp only)))
local macro_rules | `(tactic| walk_at "call ref") => `(tactic| (k_here; (with_reducible show wpAny _ _ (call (Value.ref 281) _) _ _ _); (try dsimp only); k_dflt (refine' getvalue_u ?_ ?_ ?_ ?_ ?_ ?_ ?_ ?_; any_goals kxi_size); all_goals (k_whole; intro t9 h9 tk9 F9 N9 nd9); (try dsimp only)))
local macro_rules | `(tactic| walk_at "wpP") => `(tactic| ((with_reducible show wpP _ _ _ (call (Value.ref 395) _) _ _ _); (try dsimp only); k_dflt (first | (refine' bio_new0 ?_ ?_ ?_ ?_; any_goals kxi_size) | (refine' bio_new _ (.inr rfl) ?_ ?_ ?_ ?_ ?_; any_goals kxi_size)); all_goals (k_whole; intro x9 d9 b9 u1 u2 u3 h9 tk9 F9 N9 nd9); (try dsimp only)))
local macro_rules | `(tactic| walk_at "call builtin:len") => `(tactic| (k_here; (with_reducible show wpAny _ _ (call (Value.builtin "len") [Value.bytes (List.toArray _) _]) _ _ _); (refine lenL (by omega) ?_); intro tl kl))
local macro_rules | `(tactic| walk_at "call ref") => `(tactic| (k_here; (with_reducible show wpAny _ _ (call (Value.ref 94) _) _ _ _); (try dsimp only); k_dflt (refine' to_bytes_u ?_ ?_ ?_ ?_ ?_ ?_; any_goals kxi_size); all_goals (k_whole; intro t9 h9 tk9 F9 N9); (try dsimp only)))
theorem compact_w {st sd ba : Addr} {t1 t2 t3 : Tok} {pos : Int} {b : Array UInt8} {c : UInt8} {y : List UInt8} {rest : List (Addr × Obj)}
    (cx : Cx w s.heap dp un cs outer A₀ base h₀ L m p loose mean mg mb 12 120) (N : News h₀ L s.heap ((sd, strD w.params t1 t2 ba pos t3) :: rest)) (ms : (st, instObj 395 sd) ∈ rest) (mb' : (ba, baO b) ∈ rest) (nd : ND ((sd, strD w.params t1 t2 ba pos t3) :: rest))
    (h0 : 0 ≤ pos) (h1 : pos ≤ b.size) (hz : b.size ≤ 1000000) (hy : b.toList.drop pos.toNat = c :: y) (hc : (c.toNat : Int) < 253)
    (hret : ∀ (t t' : Tok) (h' : Heap) (tk' : Nat) (pos' : Int), 0 ≤ pos' → pos' ≤ b.size → b.toList.drop pos'.toNat = y → Fr h₀ L h' m → News h₀ L h' ((sd, strD w.params t1 t2 ba pos' t') :: rest) → Q (.int c.toNat t) { s with heap := h', toks := tk' }) :
    wpAny (model pw w) (ktrTop dp un gd cn cs L a ccd cl outer) (call (.ref 651) [.ref st]) Q E s := by
  obtain ⟨B, F, X, T, hk, hd, hu⟩ := cx
  k_steps
  all_goals first | exact hret _ _ _ _ _ (by assumption) (by assumption) (by assumption) (by assumption) (by assumption) | walk_report
local macro_rules | `(tactic| walk_at "call ref") => `(tactic| (k_here; (with_reducible show wpAny _ _ (call (Value.ref 651) _) _ _ _); (try dsimp only); k_dflt (refine' compact_u ?_ ?_ ?_ ?_ ?_ ?_ ?_ ?_ ?_ ?_ ?_ ?_; any_goals kxi_size); all_goals (k_whole; intro t9 u9 h9 tk9 p9 hp9 hq9 hy9 F9 N9 nd9); (try dsimp only)))
end
end Mine
end
open PySem PySem.W PySem.Calls PyProof.Rows MineP
namespace Mine
def catA : List (Array UInt8) → Array UInt8
  | [] => #[]
  | d :: r => d ++ catA r
theorem catA_snoc (l : List (Array UInt8)) (d : Array UInt8) : catA (l ++ [d]) = catA l ++ d := by
  induction l with
  | nil => simp [catA]
  | cons x r ih => simp [catA, ih, Array.append_assoc]
abbrev sized (d : Array UInt8) : Array UInt8 := #[d.size.toUInt8] ++ d
theorem pre_succ {l : List (Array UInt8)} {i : Nat} {d : Array UInt8} (h : l[i]? = some d) : catA ((l.take (i + 1)).map fun d => sized d) = catA ((l.take i).map fun d => sized d) ++ sized d := by
  rw [List.take_add_one, h, List.map_append]
  exact catA_snoc _ _
def witB (its : List (Array UInt8)) : Array UInt8 := #[its.length.toUInt8] ++ catA (its.map fun d => sized d)
def witI (its : List (Array UInt8)) (i : Nat) : Array UInt8 := #[its.length.toUInt8] ++ catA ((its.take i).map fun d => sized d)
theorem witI_full (its : List (Array UInt8)) : witI its its.length = witB its := by unfold witI witB; rw [List.take_length]
theorem catA_size {α : Type} (f : α → Array UInt8) (k : Nat) : ∀ l : List α, (∀ d ∈ l, (f d).size ≤ k) → (catA (l.map f)).size ≤ k * l.length
  | [], _ => by simp [catA]
  | d :: r, h => by
    have h1 := catA_size f k r fun x hx => h x (.tail _ hx)
    have h2 := h d (.head _)
    simp only [List.map_cons, catA, Array.size_append, List.length_cons]
    rw [Nat.mul_add]; omega
theorem witI_size {its : List (Array UInt8)} (hn : its.length < 253) (hds : ∀ d ∈ its, d.size < 253) (i : Nat) : (witI its i).size ≤ 65000 := by
  have := catA_size (fun d : Array UInt8 => sized d) 253 (its.take i) (fun d hd => by
    have := hds d (List.mem_of_mem_take hd)
    simp only [Array.size_append, List.size_toArray, List.length_cons, List.length_nil]; omega)
  have l : (its.take i).length ≤ 252 := by rw [List.length_take]; omega
  have : 253 * (its.take i).length ≤ 253 * 252 := Nat.mul_le_mul_left _ l
  unfold witI
  simp only [Array.size_append, List.size_toArray, List.length_cons, List.length_nil]
  omega
theorem witI_succ {its : List (Array UInt8)} {i : Nat} {d : Array UInt8} (h : its[i]? = some d) (b0 : Array UInt8) : b0 ++ witI its i ++ #[(d.size : Int).toNat.toUInt8] ++ d = b0 ++ witI its (i + 1) := by
  unfold witI
  rw [pre_succ h]
  simp only [Array.append_assoc]
  rfl
abbrev outB (v : Int) (d : Array UInt8) : Array UInt8 := leB 8 v ++ sized d
theorem outB_size {v : Int} {d : Array UInt8} (h : d.size < 253) : (outB v d).size ≤ 300 := by
  simp only [Array.size_append, leB_size, List.size_toArray, List.length_cons, List.length_nil]
  omega
theorem sized_size {d : Array UInt8} (h : d.size < 253) : (sized d).size ≤ 254 := by
  simp only [Array.size_append, List.size_toArray, List.length_cons, List.length_nil]
  omega
structure InV where
  name : Array UInt8
  place : Int
  octets : Array UInt8
  seq : Int
  its : List (Array UInt8)
structure InV.Ok (iv : InV) : Prop where
  nm : iv.name.size ≤ 1000
  p0 : 0 ≤ iv.place
  p1 : iv.place < 4294967296
  oc : iv.octets.size < 253
  s0 : 0 ≤ iv.seq
  s1 : iv.seq < 4294967296
  wn : iv.its.length < 253
  wd : ∀ d ∈ iv.its, d.size < 253
def inB (iv : InV) : Array UInt8 := rvA iv.name ++ leB 4 iv.place ++ sized iv.octets ++ leB 4 iv.seq
theorem inB_size {iv : InV} (h : iv.Ok) : (inB iv).size < 2000 := by
  have h1 := h.nm
  have h2 := h.oc
  unfold inB
  simp only [Array.size_append, rvA_size, leB_size, List.size_toArray, List.length_cons, List.length_nil]
  omega
theorem witB_zero {its : List (Array UInt8)} (hn : its.length < 253) : ((witB its).toList == ([0] : List UInt8)) = its.isEmpty := by
  cases its with
  | nil => rfl
  | cons d r =>
    have e : (witB (d :: r)).toList = (d :: r).length.toUInt8 :: (catA ((d :: r).map fun d => sized d)).toList := by unfold witB; simp
    rw [e]
    have hne : ((d :: r).length.toUInt8 == (0 : UInt8)) = false := by
      rw [beq_eq_false_iff_ne]
      intro h
      have h2 := congrArg UInt8.toNat h
      simp at h2 hn
      omega
    simp only [List.cons_beq_cons, hne, Bool.false_and]
    rfl
structure TxV where
  ver : Int
  lock : Int
  ins : List InV
  outs : List (Int × Array UInt8)
structure TxV.Ok (tv : TxV) : Prop where
  v0 : 0 ≤ tv.ver
  v1 : tv.ver < 4294967296
  l0 : 0 ≤ tv.lock
  l1 : tv.lock < 4294967296
  ni : tv.ins.length ≤ 8
  no : tv.outs.length ≤ 8
  iok : ∀ iv ∈ tv.ins, iv.Ok
  wz : ∀ iv ∈ tv.ins, (witB iv.its).size ≤ 1000
  oz : ∀ o ∈ tv.outs, o.2.size < 253
  o0 : ∀ o ∈ tv.outs, 0 ≤ o.1
  o1 : ∀ o ∈ tv.outs, o.1 < 18446744073709551616
def TxV.seg (tv : TxV) : Bool := tv.ins.any fun iv => !iv.its.isEmpty
theorem catA_take {α : Type} (f : α → Array UInt8) {l : List α} {i : Nat} {d : α} (h : l[i]? = some d) : catA ((l.take (i + 1)).map f) = catA ((l.take i).map f) ++ f d := by
  rw [List.take_add_one, h, List.map_append]
  exact catA_snoc _ _
theorem any_take {l : List InV} {i : Nat} {iv : InV} (p : InV → Bool) (h : l[i]? = some iv) : (l.take (i + 1)).any p = ((l.take i).any p || p iv) := by
  rw [List.take_add_one, h, List.any_append]
  simp
def txG (tv : TxV) : Array UInt8 := if tv.seg = true then #[0, 1] else #[]
def tx1 (tv : TxV) (i : Nat) : Array UInt8 := leB 4 tv.ver ++ txG tv ++ #[tv.ins.length.toUInt8] ++ catA ((tv.ins.take i).map inB)
def tx2 (tv : TxV) (i : Nat) : Array UInt8 := tx1 tv tv.ins.length ++ #[tv.outs.length.toUInt8] ++ catA ((tv.outs.take i).map fun o => outB o.1 o.2)
def tx3 (tv : TxV) (i : Nat) : Array UInt8 := tx2 tv tv.outs.length ++ catA ((tv.ins.take i).map fun iv => witB iv.its)
def txW (tv : TxV) : Array UInt8 := if tv.seg = true then tx3 tv tv.ins.length else tx2 tv tv.outs.length
def txB (tv : TxV) : Array UInt8 := txW tv ++ leB 4 tv.lock
theorem tx1_succ {tv : TxV} {i : Nat} {iv : InV} (h : tv.ins[i]? = some iv) (b0 : Array UInt8) : b0 ++ tx1 tv i ++ inB iv = b0 ++ tx1 tv (i + 1) := by
  unfold tx1; rw [catA_take _ h]; simp only [Array.append_assoc]
theorem tx2_succ {tv : TxV} {i : Nat} {o : Int × Array UInt8} (h : tv.outs[i]? = some o) (b0 : Array UInt8) : b0 ++ tx2 tv i ++ outB o.1 o.2 = b0 ++ tx2 tv (i + 1) := by
  unfold tx2; rw [catA_take _ h]; simp only [Array.append_assoc]
theorem tx3_succ {tv : TxV} {i : Nat} {iv : InV} (h : tv.ins[i]? = some iv) (b0 : Array UInt8) : b0 ++ tx3 tv i ++ witB iv.its = b0 ++ tx3 tv (i + 1) := by
  unfold tx3; rw [catA_take _ h]; simp only [Array.append_assoc]
theorem txG_size (tv : TxV) : (txG tv).size ≤ 2 := by unfold txG; split <;> decide
theorem tx1_size {tv : TxV} (ok : tv.Ok) (i : Nat) : (tx1 tv i).size ≤ 16007 := by
  have h1 := txG_size tv
  have h2 := catA_size inB 2000 (tv.ins.take i) (fun d hd => Nat.le_of_lt (inB_size (ok.iok d (List.mem_of_mem_take hd))))
  have h3 : (tv.ins.take i).length ≤ 8 := Nat.le_trans (by rw [List.length_take]; omega) ok.ni
  have h4 := Nat.mul_le_mul_left 2000 h3
  unfold tx1
  simp only [Array.size_append, leB_size, List.size_toArray, List.length_cons, List.length_nil]
  omega
theorem tx2_size {tv : TxV} (ok : tv.Ok) (i : Nat) : (tx2 tv i).size ≤ 18500 := by
  have h1 := tx1_size ok tv.ins.length
  have h2 := catA_size (fun o : Int × Array UInt8 => outB o.1 o.2) 300 (tv.outs.take i) (fun d hd => outB_size (ok.oz d (List.mem_of_mem_take hd)))
  have h3 : (tv.outs.take i).length ≤ 8 := Nat.le_trans (by rw [List.length_take]; omega) ok.no
  have h4 := Nat.mul_le_mul_left 300 h3
  unfold tx2
  simp only [Array.size_append, List.size_toArray, List.length_cons, List.length_nil]
  omega
theorem tx3_size {tv : TxV} (ok : tv.Ok) (i : Nat) : (tx3 tv i).size ≤ 26600 := by
  have h1 := tx2_size ok tv.outs.length
  have h2 := catA_size (fun iv : InV => witB iv.its) 1000 (tv.ins.take i) (fun d hd => ok.wz d (List.mem_of_mem_take hd))
  have h3 : (tv.ins.take i).length ≤ 8 := Nat.le_trans (by rw [List.length_take]; omega) ok.ni
  have h4 := Nat.mul_le_mul_left 1000 h3
  unfold tx3
  simp only [Array.size_append]
  omega
theorem txW_size {tv : TxV} (ok : tv.Ok) : (txW tv).size ≤ 26600 := by
  unfold txW
  split
  · exact tx3_size ok _
  · exact Nat.le_trans (tx2_size ok _) (by decide)
def hx1 (tv : TxV) (i : Nat) : Array UInt8 := leB 4 tv.ver ++ #[tv.ins.length.toUInt8] ++ catA ((tv.ins.take i).map inB)
def hx2 (tv : TxV) (i : Nat) : Array UInt8 := hx1 tv tv.ins.length ++ #[tv.outs.length.toUInt8] ++ catA ((tv.outs.take i).map fun o => outB o.1 o.2)
def txN (tv : TxV) : Array UInt8 := hx2 tv tv.outs.length ++ leB 4 tv.lock
theorem hx1_succ {tv : TxV} {i : Nat} {iv : InV} (h : tv.ins[i]? = some iv) : hx1 tv i ++ inB iv = hx1 tv (i + 1) := by
  unfold hx1; rw [catA_take _ h]; simp only [Array.append_assoc]
theorem hx2_succ {tv : TxV} {i : Nat} {o : Int × Array UInt8} (h : tv.outs[i]? = some o) : hx2 tv i ++ outB o.1 o.2 = hx2 tv (i + 1) := by
  unfold hx2; rw [catA_take _ h]; simp only [Array.append_assoc]
theorem hx1_tx1 (tv : TxV) (i : Nat) : (hx1 tv i).size ≤ (tx1 tv i).size := by
  unfold hx1 tx1; simp only [Array.size_append]; omega
theorem hx2_tx2 (tv : TxV) (i : Nat) : (hx2 tv i).size ≤ (tx2 tv i).size := by
  have := hx1_tx1 tv tv.ins.length
  unfold hx2 tx2; simp only [Array.size_append]; omega
theorem hx1_size {tv : TxV} (ok : tv.Ok) (i : Nat) : (hx1 tv i).size + 100000 ≤ lim := by
  have := hx1_tx1 tv i
  have := tx1_size ok i
  show _ ≤ 1000000
  omega
theorem hx2_size {tv : TxV} (ok : tv.Ok) (i : Nat) : (hx2 tv i).size + 100000 ≤ lim ∧ (hx2 tv i).size ≤ 80000 := by
  have := hx2_tx2 tv i
  have := tx2_size ok i
  show _ ≤ 1000000 ∧ _
  omega
noncomputable abbrev lw (w : World) (DB : Heap → Prop) : LW := ⟨pw, w, K w.params, DB⟩
local macro_rules | `(tactic| k_is) => `(tactic| (dsimp only [lw]; k_is))
def BioC (w : World) (st : Addr) (b : Array UInt8) : RP :=
  ⟨fun C N => ∃ sd ba t1 t2 t3, C = [(sd, strD w.params t1 t2 ba b.size t3), (ba, baO b)] ∧ (st, instObj 395 sd) ∈ N, fun ⟨sd, ba, t1, t2, t3, e, m⟩ k => ⟨sd, ba, t1, t2, t3, e, k _ m⟩⟩
abbrev BioO (w : World) (st : Addr) (b : Array UInt8) (R0 : RP) : RP := RStar (BioC w st b) R0
def IsScr (d : Array UInt8) : VP := IsObj 850 [(Str.ofString "data", IsBytes d)]
def IsWit (its : List (Array UInt8)) : VP := IsObj 895 [(Str.ofString "items", IsListOf IsBytes its)]
def IsOut (o : Int × Array UInt8) : VP := IsObj 1150 [(Str.ofString "value", IsInt o.1), (Str.ofString "script_pubkey", IsScr o.2)]
def inF (iv : InV) : List (Str × VP) := [(Str.ofString "txid", IsBytes iv.name), (Str.ofString "vout", IsInt iv.place), (Str.ofString "script_sig", IsScr iv.octets), (Str.ofString "sequence", IsInt iv.seq), (Str.ofString "witness", IsWit iv.its)]
def IsIn (iv : InV) : VP := IsObj 1114 (inF iv)
def txF (tv : TxV) : List (Str × VP) := [(Str.ofString "version", IsInt tv.ver), (Str.ofString "locktime", IsInt tv.lock), (Str.ofString "vin", IsListOf IsIn tv.ins), (Str.ofString "vout", IsListOf IsOut tv.outs), (Str.ofString "_hash_prevouts", IsNone), (Str.ofString "_hash_sequence", IsNone), (Str.ofString "_hash_outputs", IsNone), (Str.ofString "_hash_amounts", IsNone), (Str.ofString "_hash_script_pubkeys", IsNone)]
def IsTx (tv : TxV) : VP := IsObj 1068 (txF tv)
section
variable {w : World} {DB : Heap → Prop} {st : Addr} {b d : Array UInt8} {R R0 : RP}
theorem con_write (hz : b.size + d.size ≤ lim) : Con (lw w DB) 378 [IsVal (.ref st), IsBytes d] (BioO w st b R0) (IsInt d.size) (BioO w st (b ++ d) R0) 6 60 := by
  intro F c V T Q E vs s C st' hl k
  apply st'.elim; intro h tk m Ck N F' hV hT hN nd rr0
  obtain ⟨_, C0, rfl, ⟨sd, ba, t1, t2, t3, rfl, ms⟩, r0⟩ := rr0
  obtain ⟨v1, v2, rfl⟩ := two_of hl
  have q1 : v1 = .ref st := hT (_, v1) (.head _)
  obtain ⟨t, rfl⟩ := hT (IsBytes d, v2) (.tail _ (.head _))
  subst q1
  exact (write_writer (t := t) (Nat.le_refl _)).go ⟨C.B, F', C.X, C.T, C.hk, C.hd, C.hu⟩ hN nd (List.mem_append_right _ ms) trivial hz fun t9 t8 h' tk' F2 N2 nd2 =>
    k _ _ (St.mk (N := N) F2 hV (TOk.cons ⟨_, rfl⟩ (fun z hz => hT z (.tail _ (.tail _ hz)))) N2 nd2 ⟨_, C0, rfl, ⟨sd, ba, t1, t2, t8, rfl, ms⟩, r0⟩)
theorem gm_write : Gm (lw w DB) (BioO w st b R0) (IsVal (.ref st)) (Str.ofString "write") 378 := by
  intro F c V T Q E s v pl a' b' C st'
  apply st'.elim; intro h tk m Ck N F' hV hT hN nd rr0 k
  obtain ⟨_, C0, rfl, ⟨sd, ba, t1, t2, t3, rfl, ms⟩, r0⟩ := rr0
  have q1 : v = .ref st := hT (_, v) (.head _)
  subst q1
  exact method_inst F' C.X (InstAt.of_news hN (List.mem_append_right _ ms) (.head _)) (by k_is) (by k_is) (by k_is) (by k_get) k
end
section
variable {w : World} {DB : Heap → Prop} {R : RP} {d : Array UInt8} {its : List (Array UInt8)} {o : Int × Array UInt8} {iv : InV} {tv : TxV}
theorem ga_scr_data : Ga (lw w DB) (IsScr d) (Str.ofString "data") (IsBytes d) := ga_obj (attr := none) (by k_is) (by k_is) (by k_is) (by k_is) rfl
theorem gm_scr_ser : Gm (lw w DB) R (IsScr d) (Str.ofString "serialize") 712 := gm_obj (by k_is) (by k_is) (by k_is) rfl
theorem ga_scr_wr : Ga (lw w DB) (IsScr d) (Str.ofString "write_to") (IsMeth 806 (IsScr d)) := ga_bound (by k_is) (by k_is) (by k_is) (by k_is) (by k_is) (by k_is) (by decide +kernel) rfl
theorem ga_wit_items : Ga (lw w DB) (IsWit its) (Str.ofString "items") (IsListOf IsBytes its) := ga_obj (attr := none) (by k_is) (by k_is) (by k_is) (by k_is) rfl
theorem gm_wit_ser : Gm (lw w DB) R (IsWit its) (Str.ofString "serialize") 712 := gm_obj (by k_is) (by k_is) (by k_is) rfl
theorem gm_wit_write : Gm (lw w DB) R (IsWit its) (Str.ofString "write_to") 875 := gm_obj (by k_is) (by k_is) (by k_is) rfl
theorem ga_wit_wr : Ga (lw w DB) (IsWit its) (Str.ofString "write_to") (IsMeth 875 (IsWit its)) := ga_bound (by k_is) (by k_is) (by k_is) (by k_is) (by k_is) (by k_is) (by decide +kernel) rfl
theorem ga_out_value : Ga (lw w DB) (IsOut o) (Str.ofString "value") (IsInt o.1) := ga_obj (attr := none) (by k_is) (by k_is) (by k_is) (by k_is) rfl
theorem ga_out_script : Ga (lw w DB) (IsOut o) (Str.ofString "script_pubkey") (IsScr o.2) := ga_obj (attr := none) (by k_is) (by k_is) (by k_is) (by k_is) rfl
theorem gm_out_ser : Gm (lw w DB) R (IsOut o) (Str.ofString "serialize") 712 := gm_obj (by k_is) (by k_is) (by k_is) rfl
theorem gm_out_write : Gm (lw w DB) R (IsOut o) (Str.ofString "write_to") 1137 := gm_obj (by k_is) (by k_is) (by k_is) rfl
theorem ga_out_wr : Ga (lw w DB) (IsOut o) (Str.ofString "write_to") (IsMeth 1137 (IsOut o)) := ga_bound (by k_is) (by k_is) (by k_is) (by k_is) (by k_is) (by k_is) (by decide +kernel) rfl
theorem ga_in_txid : Ga (lw w DB) (IsIn iv) (Str.ofString "txid") (IsBytes iv.name) := ga_obj (attr := none) (by k_is) (by k_is) (by k_is) (by k_is) rfl
theorem ga_in_vout : Ga (lw w DB) (IsIn iv) (Str.ofString "vout") (IsInt iv.place) := ga_obj (attr := none) (by k_is) (by k_is) (by k_is) (by k_is) rfl
theorem ga_in_script : Ga (lw w DB) (IsIn iv) (Str.ofString "script_sig") (IsScr iv.octets) := ga_obj (attr := none) (by k_is) (by k_is) (by k_is) (by k_is) rfl
theorem ga_in_seq : Ga (lw w DB) (IsIn iv) (Str.ofString "sequence") (IsInt iv.seq) := ga_obj (attr := none) (by k_is) (by k_is) (by k_is) (by k_is) rfl
theorem ga_in_wit : Ga (lw w DB) (IsIn iv) (Str.ofString "witness") (IsWit iv.its) := ga_obj (attr := none) (by k_is) (by k_is) (by k_is) (by k_is) rfl
theorem gm_in_ser : Gm (lw w DB) R (IsIn iv) (Str.ofString "serialize") 712 := gm_obj (by k_is) (by k_is) (by k_is) rfl
theorem gm_in_write : Gm (lw w DB) R (IsIn iv) (Str.ofString "write_to") 1101 := gm_obj (by k_is) (by k_is) (by k_is) rfl
theorem ga_in_wr : Ga (lw w DB) (IsIn iv) (Str.ofString "write_to") (IsMeth 1101 (IsIn iv)) := ga_bound (by k_is) (by k_is) (by k_is) (by k_is) (by k_is) (by k_is) (by decide +kernel) rfl
theorem ga_tx_ver : Ga (lw w DB) (IsTx tv) (Str.ofString "version") (IsInt tv.ver) := ga_obj (attr := none) (by k_is) (by k_is) (by k_is) (by k_is) rfl
theorem ga_tx_lock : Ga (lw w DB) (IsTx tv) (Str.ofString "locktime") (IsInt tv.lock) := ga_obj (attr := none) (by k_is) (by k_is) (by k_is) (by k_is) rfl
theorem ga_tx_vin : Ga (lw w DB) (IsTx tv) (Str.ofString "vin") (IsListOf IsIn tv.ins) := ga_obj (attr := none) (by k_is) (by k_is) (by k_is) (by k_is) rfl
theorem ga_tx_vout : Ga (lw w DB) (IsTx tv) (Str.ofString "vout") (IsListOf IsOut tv.outs) := ga_obj (attr := none) (by k_is) (by k_is) (by k_is) (by k_is) rfl
theorem gm_tx_ser : Gm (lw w DB) R (IsTx tv) (Str.ofString "serialize") 712 := gm_obj (by k_is) (by k_is) (by k_is) rfl
theorem gm_tx_hash : Gm (lw w DB) R (IsTx tv) (Str.ofString "hash") 979 := gm_obj (by k_is) (by k_is) (by k_is) rfl
theorem gm_tx_txid : Gm (lw w DB) R (IsTx tv) (Str.ofString "txid") 986 := gm_obj (by k_is) (by k_is) (by k_is) rfl
theorem ga_tx_wr : Ga (lw w DB) (IsTx tv) (Str.ofString "write_to") (IsMeth 972 (IsTx tv)) := ga_bound (by k_is) (by k_is) (by k_is) (by k_is) (by k_is) (by k_is) (by decide +kernel) rfl
end
theorem permB {a b i : Addr × Obj} {C N : Lg} : (b :: a :: i :: (C ++ N)).Perm ((a :: b :: C) ++ (i :: N)) :=
  (List.Perm.swap ..).trans (List.Perm.cons _ (List.Perm.cons _ List.perm_middle.symm))
section
variable {w : World} {DB : Heap → Prop} {st : Addr} {b d : Array UInt8} {R R0 R1 R' : RP} {F : FN} {c : FC} {V : VL} {T : TL} {s : Shared} {a' b' : Nat} {x x1 x2 x3 name : Str} {pos pos' px px1 px2 px3 psx pkx apos : Pos} {P P1 Po : VP} {rest : List Stmt} {f : Addr}
theorem St.unbio (h : St c V T (BioO w st b R) s) : St c V T R s := by
  apply h.elim; intro h tk m Ck N F' hV hT hN nd rr0
  obtain ⟨_, C0, rfl, ⟨sd, ba, t1, t2, t3, rfl, ms⟩, r0⟩ := rr0
  have sub : ∀ p ∈ N, p ∈ (sd, strD w.params t1 t2 ba b.size t3) :: (ba, baO b) :: N := fun p hp => .tail _ (.tail _ hp)
  exact (St.mk (C := C0) F' (hV.mono sub) (hT.mono sub) (news_perm perm2 hN) (nd_perm perm2 nd) (R.mono r0 sub))
theorem exs_bio0 {Pst : TL → Value → Shared → Prop} (C : c.Ok (lw w DB) F a' b') (ea : Nat.ble 10 a' = true) (eb : Nat.ble 100 b' = true) (k : ∀ st, ExsP (lw w DB) F c ((x, IsVal (.ref st)) :: V) (BioO w st #[] R) rest Pst)
    (hx : (c.env F).kindOf x = some .local := by rfl) (hb : (c.env F).kindOf (Str.ofString "BytesIO") = some .globalImplicit := by rfl)
    (he' : eval (.Call (.Name (Str.ofString "BytesIO") px) [] [] pos') (c.env F) = (do callWith pos' (← eval (.Name (Str.ofString "BytesIO") px) (c.env F)) [] (backTo pos' (starEach [] (c.env F))) (backToKw pos' (keywordEach [] (c.env F)))) := by rfl)
    (hs : swapsWith (.Call (.Name (Str.ofString "BytesIO") px) [] [] pos') (some (.Name x px1)) pos.line (c.env F) = pure false := by rfl) :
    ExsP (lw w DB) F c V R (.Assign [.Name x px1] (.Call (.Name (Str.ofString "BytesIO") px) [] [] pos') pos :: rest) Pst := by
  intro T Q E s st kQ
  refine p_execs (p_assign (p_fn (ev_glob C (v := .ref 395) (by k_is) hb (by decide) T _ E s st fun v s1 st1 => ?_) he') hs)
  have hv : v = .ref 395 := by
    apply st1.elim; intro h tk m Ck N F' hV hT hN nd r
    exact hT _ (.head _)
  subst hv
  refine p_callWith_K0 (st1.inK C) (by k_is) ?_
  apply st1.elim; intro h tk m Ck N F' hV hT hN nd r
  have C' := C.le ea eb
  refine bio_new0 ⟨C.B, F', C.X, C.T, C.hk, C'.hd, C'.hu⟩ hN nd fun x9 dx ba t1 t2 t3 h' tk' F2 N2 nd2 => ?_
  refine p_any (storeX_L F2 N2 (fun h3 F3 N3 => ?_) C.hk hx)
  have sub : ∀ p ∈ N, p ∈ (x9, instObj 395 dx) :: N := fun p hp => .tail _ hp
  exact k x9 T Q E _ (St.mk F3 (VOk.set (hV.mono sub) rfl) (hT.tail.mono sub) (news_perm permB N3) (nd_perm permB nd2) ⟨_, Ck, rfl, ⟨dx, ba, t1, t2, t3, rfl, .head _⟩, R.mono r sub⟩) kQ
theorem con_getvalue (hz : b.size ≤ 1000000) : ConP (lw w DB) 281 [IsVal (.ref st)] (BioO w st b R0) (IsBytes b) (BioO w st b R0) 6 60 := by
  intro F c V T Q E vs s C st' hl k
  apply st'.elim; intro h tk m Ck N F' hV hT hN nd rr0
  obtain ⟨_, C0, rfl, ⟨sd, ba, t1, t2, t3, rfl, ms⟩, r0⟩ := rr0
  obtain ⟨v1, rfl⟩ := one_of hl
  have q1 : v1 = .ref st := hT (_, v1) (.head _)
  subst q1
  refine p_any (getvalue_u ⟨C.B, F', C.X, C.T, C.hk, C.hd, C.hu⟩ hN nd (List.mem_append_right _ ms) (.head _) (.tail _ (.head _)) hz fun t h' tk' F2 N2 nd2 => ?_)
  exact k _ _ (St.mk (N := N) F2 hV (TOk.cons ⟨_, rfl⟩ (fun z hz => hT z (.tail _ hz))) N2 nd2 ⟨_, C0, rfl, ⟨sd, ba, t1, t2, t3, rfl, ms⟩, r0⟩)
theorem gm_getvalue : Gm (lw w DB) (BioO w st b R0) (IsVal (.ref st)) (Str.ofString "getvalue") 281 := by
  intro F c V T Q E s v pl a' b' C st'
  apply st'.elim; intro h tk m Ck N F' hV hT hN nd rr0 k
  obtain ⟨_, C0, rfl, ⟨sd, ba, t1, t2, t3, rfl, ms⟩, r0⟩ := rr0
  have q1 : v = .ref st := hT (_, v) (.head _)
  subst q1
  exact method_inst F' C.X (InstAt.of_news hN (List.mem_append_right _ ms) (.head _)) (by k_is) (by k_is) (by k_is) (by k_get) k
theorem ev_star (C : c.Ok (lw w DB) F a' b') (hcl : c.cl = []) (ho : EvA (lw w DB) F c V R (.Name x px) Po R) (hg : Ga (lw w DB) Po name (IsMeth f Po)) (hf : fnIn (K w.params) f = true)
    (h1 : V.lookup x1 = some P1) (h2 : V.lookup x2 = some IsETup) (h3 : V.lookup x3 = some IsEDict) {a b : Nat} (hc : Con (lw w DB) f [Po, P1] R P R' a b) (ea : Nat.ble a a' = true) (eb : Nat.ble b b' = true)
    (hl1 : (envOf F.cn F.cs c.L c.fa c.ccd).kindOf x1 = some .local := by rfl) (hl2 : (envOf F.cn F.cs c.L c.fa c.ccd).kindOf x2 = some .local := by rfl) (hl3 : (envOf F.cn F.cs c.L c.fa c.ccd).kindOf x3 = some .local := by rfl)
    (hd1 : (x1 == ("__debug__" : Str)) = false := by decide) (hd2 : (x2 == ("__debug__" : Str)) = false := by decide) (hd3 : (x3 == ("__debug__" : Str)) = false := by decide)
    (he : eval (.Call (.Attribute (.Name x px) name apos) [.Name x1 px1, .Starred (.Name x2 px2) psx] [⟨none, .Name x3 px3, pkx⟩] pos) (c.env F) = (do
      let ov ← eval (.Name x px) (c.env F)
      standAt apos.atName
      let (f, first) ← holding [ov] (do pure (← getAttr ov name true, []))
      let callPos ← pure pos
      callWith callPos f first (backTo pos (starEach [.Name x1 px1, .Starred (.Name x2 px2) psx] (c.env F))) (backToKw pos (keywordEach [⟨none, .Name x3 px3, pkx⟩] (c.env F)))) := by rfl) :
    Ev (lw w DB) F c V R (.Call (.Attribute (.Name x px) name apos) [.Name x1 px1, .Starred (.Name x2 px2) psx] [⟨none, .Name x3 px3, pkx⟩] pos) P R' := by
  intro T Q E s st k
  refine p_methS (ho T _ E s st fun v s1 st1 => hg F c V T R _ E s1 v a' b' C st1 fun u s2 st2 => ?_) he
  have eE : c.env F = envOf F.cn F.cs c.L c.fa c.ccd := by show envX _ _ _ _ _ c.cl = _; rw [hcl]; rfl
  rw [eE]
  apply st2.elim; intro h tk m Ck N F' hV hT hN nd r
  obtain ⟨q, v', rfl, hq, hv'⟩ := hT (IsMeth f Po, u) (.head _)
  obtain ⟨w1, m1, p1⟩ := hV x1 P1 h1
  obtain ⟨w2, m2, T2, rfl, p2⟩ := hV x2 IsETup h2
  obtain ⟨w3, m3, D3, rfl, p3, q3⟩ := hV x3 IsEDict h3
  refine p_callWithS F' hN C.X (List.mem_append_right _ hq) hf (List.mem_append_right _ p2) (List.mem_append_right _ p3) q3 m1 m2 m3 (fun h' F2 N2 => ?_) C.hk hl1 hl2 hl3 hd1 hd2 hd3
  exact hc F c V T Q E [v', w1] _ (C.le ea eb) (St.mk (C := Ck) (N := N) F2 hV (TOk.cons hv' (TOk.cons p1 hT.tail)) N2 nd r) rfl k
theorem exs_exprInt {Pst : TL → Value → Shared → Prop} {e : Expr} {i : Int} (h : Ev (lw w DB) F c V R e (IsInt i) R1) (k : ExsP (lw w DB) F c V R1 rest Pst) (hi : interactive (c.env F) = false := by rfl) (hs : swapsWith e none pos.line (c.env F) = pure false := by rfl) :
    ExsP (lw w DB) F c V R (.Expr e pos :: rest) Pst := by
  intro T Q E s st kQ
  refine p_execs (p_expr (h T _ E s st fun v s' st' => ?_) hi hs)
  have hv : ∃ t, v = .int i t := by
    apply st'.elim; intro h tk m Ck N F' hV hT hN nd r
    exact hT (IsInt i, v) (.head _)
  obtain ⟨t, rfl⟩ := hv
  exact ⟨fun a => nofun, k T Q E s' st'.drop kQ⟩
end
section
variable {w : World} {DB : Heap → Prop} {st : Addr} {b d : Array UInt8} {R R0 R1 : RP}
theorem bcon_to_le {x : Int} {k : Nat} (hk : k ≤ 8) (h0 : 0 ≤ x) (h1 : x < (256 : Int) ^ k) : BCon (lw w DB) "int.to_bytes" [IsInt x, IsInt (k : Int), IsStr (Str.ofString "little")] (IsBytes (leB k x)) := by
  intro A Q E s vs N hl hT kQ
  obtain ⟨v1, v2, v3, rfl⟩ := three_of hl
  obtain ⟨t1, rfl⟩ := hT (IsInt x, v1) (.head _)
  obtain ⟨t2, rfl⟩ := hT (IsInt (k : Int), v2) (.tail _ (.head _))
  obtain ⟨t3, rfl⟩ := hT (IsStr _, v3) (.tail _ (.tail _ (.head _)))
  exact to_le hk h0 h1 fun t' k' => kQ _ _ fun N => ⟨_, rfl⟩
theorem gb_to_bytes {x : Int} : Gb (lw w DB) (IsInt x) (Str.ofString "to_bytes") "int.to_bytes" := by
  rintro A Q E s v pl N ⟨t, rfl⟩ k
  exact KTBy.method k
end
section
variable {w : World} {DB : Heap → Prop} {st : Addr} {b out : Array UInt8} {R R0 R1 R' : RP} {F : FN} {c : FC} {V : VL} {ss : List Stmt} {P Pv : VP} {f : Addr} {a b' : Nat}
theorem exs_unbio (h : Exs (lw w DB) F c V R1 ss P (BioO w st b R)) : Exs (lw w DB) F c V R1 ss P R := fun T Q E s st k => h T Q E s st fun v s' st' => k v s' (St.unbio st')
theorem ble_add {n k : Nat} : Nat.ble n (k + n) = true := Nat.ble_eq_true_of_le (Nat.le_add_left _ _)
theorem ble_addr {n k : Nat} : Nat.ble n (n + k) = true := Nat.ble_eq_true_of_le (Nat.le_add_right _ _)
theorem ble_trans {n k m : Nat} (h : Nat.ble n k = true) (h' : Nat.ble k m = true) : Nat.ble n m = true := Nat.ble_eq_true_of_le (Nat.le_trans (Nat.le_of_ble_eq_true h) (Nat.le_of_ble_eq_true h'))
theorem con_ser (hg : Ga (lw w DB) Pv (Str.ofString "write_to") (IsMeth f Pv)) (hf : fnIn (K w.params) f = true)
    (hw : ∀ st R0, Con (lw w DB) f [Pv, IsVal (.ref st)] (BioO w st #[] R0) (IsInt out.size) (BioO w st out R0) a b') (hz : out.size ≤ 1000000) : Con (lw w DB) 712 [Pv] R (IsBytes out) R (a + 11) (b' + 110) := by
  refine con_bothN (a := a + 10) (b := b' + 100) (ns := [Str.ofString "self"]) (x2 := Str.ofString "args") (x3 := Str.ofString "kwargs") rfl ⟨_, _, _, _, _, _, _, _, _, _, by k_is, by k_is, fun vs hl => by obtain ⟨v, rfl⟩ := one_of hl; rfl⟩ rfl (fun c hcl C => ?_)
  refine exs_bio0 C ble_add ble_add fun st => ?_
  refine exs_exprInt (ev_star C hcl (ev_name C rfl) hg hf rfl rfl rfl (hw st R) ble_addr ble_addr) (exs_unbio (st := st) (b := out) (exs_ret ?_))
  exact ev_meth C (ev_name C rfl) gm_getvalue (by k_is) evs_nil (con_getvalue hz) (ble_trans (k := 10) (n := 6) rfl ble_add) (ble_trans (k := 100) (n := 60) rfl ble_add)
end
section
variable {w : World} {DB : Heap → Prop} {st : Addr} {b d : Array UInt8} {R Z : RP} {its : List (Array UInt8)} {o : Int × Array UInt8}
theorem con_to_bytes {i : Int} (h0 : 0 ≤ i) (h1 : i < 253) : ConP (lw w DB) 94 [IsInt i] R (IsBytes #[i.toNat.toUInt8]) R 6 60 := by
  intro F c V T Q E vs s C st' hl k
  apply st'.elim; intro h tk m Ck N F' hV hT hN nd r
  obtain ⟨v1, rfl⟩ := one_of hl
  obtain ⟨t, rfl⟩ := hT (IsInt i, v1) (.head _)
  exact p_any (to_bytes_u ⟨C.B, F', C.X, C.T, C.hk, C.hd, C.hu⟩ hN nd h0 h1 fun t h' tk' F2 N2 => k _ _ (St.mk (N := N) F2 hV (TOk.cons ⟨_, rfl⟩ (fun z hz => hT z (.tail _ hz))) N2 nd r))
theorem con_scr_write (hd : d.size < 253) (hz : b.size + 300 ≤ lim) : Con (lw w DB) 806 [IsScr d, IsVal (.ref st)] (BioO w st b Z) (IsInt (sized d).size) (BioO w st (b ++ sized d) Z) 11 110 := by
  have e3 : ((sized d).size : Int) = ((#[(d.size : Int).toNat.toUInt8] : Array UInt8).size : Int) + d.size := by rw [Array.size_append]; rfl
  rw [e3, show b ++ sized d = b ++ #[(d.size : Int).toNat.toUInt8] ++ d from (Array.append_assoc ..).symm]
  refine con_fun (a := 10) (b := 100) (ns := [Str.ofString "self", Str.ofString "stream"]) rfl ⟨_, _, _, _, _, _, _, _, _, _, by k_is, by k_is, ?_⟩ rfl fun c hcl C => ?_
  · intro vs hl s X
    obtain ⟨v1, v2, rfl⟩ := two_of hl
    exact BindsTo.of_eq rfl
  have z0 : ((d.size : Nat) : Int) < 253 := by omega
  have z1 : b.size + (#[(d.size : Int).toNat.toUInt8] : Array UInt8).size ≤ lim := Nat.le_trans (Nat.add_le_add_left (show 1 ≤ 300 from by decide) _) hz
  have z2 : (b ++ #[(d.size : Int).toNat.toUInt8]).size + d.size ≤ lim := by rw [Array.size_append]; show b.size + 1 + d.size ≤ _; omega
  refine exs_assign C (ev_meth C (ev_name C rfl) gm_write (by k_is) (evs_cons (ev_call C (ev_glob C (by k_is)) (by k_is) (evs_cons (ev_callB C (ev_builtin C (by k_is) (by boot_fast) (by decide)) (evs_cons (ev_attr C (ev_name C rfl) ga_scr_data).ev evs_nil) (bcon_len (by omega)).c) evs_nil) (con_to_bytes (Int.natCast_nonneg _) z0) rfl rfl) evs_nil) (con_write z1).p rfl rfl) ?_
  refine exs_augInt C rfl (ev_meth C (ev_name C rfl) gm_write (by k_is) (evs_cons (ev_attr C (ev_name C rfl) ga_scr_data).ev evs_nil) (con_write z2).p rfl rfl) ?_
  exact exs_ret (ev_name C rfl).ev
end
section
variable {w : World} {DB : Heap → Prop} {st : Addr} {b d : Array UInt8} {R Z : RP} {its : List (Array UInt8)} {o : Int × Array UInt8}
theorem con_wit_write (hn : its.length < 253) (hds : ∀ d ∈ its, d.size < 253) (hz : b.size + 66000 ≤ lim) : Con (lw w DB) 875 [IsWit its, IsVal (.ref st)] (BioO w st b Z) (IsInt (witB its).size) (BioO w st (b ++ witB its) Z) 11 110 := by
  refine con_fun (a := 10) (b := 100) (ns := [Str.ofString "self", Str.ofString "stream"]) rfl ⟨_, _, _, _, _, _, _, _, _, _, by k_is, by k_is, ?_⟩ rfl fun c hcl C => ?_
  · intro vs hl s X
    obtain ⟨v1, v2, rfl⟩ := two_of hl
    exact BindsTo.of_eq rfl
  have z0 : ((its.length : Nat) : Int) < 253 := by omega
  have z1 : b.size + (#[(its.length : Int).toNat.toUInt8] : Array UInt8).size ≤ lim := Nat.le_trans (Nat.add_le_add_left (show 1 ≤ 66000 from by decide) _) hz
  refine exs_assign C (ev_meth C (ev_name C rfl) gm_write (by k_is) (evs_cons (ev_call C (ev_glob C (by k_is)) (by k_is) (evs_cons (ev_callB C (ev_builtin C (by k_is) (by boot_fast) (by decide)) (evs_cons (ev_attr C (ev_name C rfl) ga_wit_items).ev evs_nil) (conb_lenL (by omega))) evs_nil) (con_to_bytes (Int.natCast_nonneg _) z0) rfl rfl) evs_nil) (con_write z1).p rfl rfl) ?_
  refine exs_for (Z := Z) (fun i => [(Str.ofString "res", IsInt (witI its i).size), (Str.ofString "stream", IsVal (.ref st)), (Str.ofString "self", IsWit its)]) (fun i => BioC w st (b ++ witI its i)) C
    (ev_attr C (ev_name C rfl) ga_wit_items) (pick_cons rfl (pick_cons rfl (pick_cons rfl pick_nil))).ok (fun Z' i d hi => ?_) ?_
  · have hws := witI_size hn hds i
    have hd : d.size < 253 := hds d (List.mem_of_getElem? hi)
    have z2 : ((d.size : Nat) : Int) < 253 := by omega
    have z3 : (b ++ witI its i).size + (#[(d.size : Int).toNat.toUInt8] : Array UInt8).size ≤ lim := by rw [Array.size_append]; show b.size + _ + 1 ≤ _; omega
    have z4 : (b ++ witI its i ++ #[(d.size : Int).toNat.toUInt8]).size + d.size ≤ lim := by rw [Array.size_append, Array.size_append]; show b.size + _ + 1 + _ ≤ _; omega
    have e : ((witI its i).size : Int) + (#[(d.size : Int).toNat.toUInt8] : Array UInt8).size + d.size = (witI its (i + 1)).size := by
      have := congrArg Array.size (witI_succ hi #[])
      simp only [Array.size_append, Array.empty_append] at this
      omega
    show Blk _ _ _ _ _ _ _ (RStar (BioC w st (b ++ witI its (i + 1))) Z')
    rw [← witI_succ hi b]
    refine blk_weak (blk_augInt C rfl (ev_meth C (ev_name C rfl) gm_write (by k_is) (evs_cons (ev_call C (ev_glob C (by k_is)) (by k_is) (evs_cons (ev_callB C (ev_builtin C (by k_is) (by boot_fast) (by decide)) (evs_cons (ev_name C rfl).ev evs_nil) (bcon_len (by omega)).c) evs_nil) (con_to_bytes (Int.natCast_nonneg _) z2) rfl rfl) evs_nil) (con_write z3).p rfl rfl)
      (blk_augInt C rfl (ev_meth C (ev_name C rfl) gm_write (by k_is) (evs_cons (ev_name C rfl).ev evs_nil) (con_write z4).p rfl rfl) blk_nil)) (pick_cons (by rw [← e]; rfl) (pick_cons rfl (pick_cons rfl pick_nil))).ok
  · rw [← witI_full]
    exact exs_ret (ev_name C rfl).ev
end
section
variable {w : World} {DB : Heap → Prop} {st : Addr} {b d : Array UInt8} {R Z : RP} {its : List (Array UInt8)} {o : Int × Array UInt8}
theorem con_scr_ser (hd : d.size < 253) : Con (lw w DB) 712 [IsScr d] R (IsBytes (sized d)) R 22 220 :=
  con_ser ga_scr_wr (by k_dflt k_is) (fun st R0 => by
    have h := con_scr_write (w := w) (DB := DB) (st := st) (b := #[]) (Z := R0) hd (by decide)
    rwa [Array.empty_append] at h) (Nat.le_trans (sized_size hd) (by decide))
theorem con_wit_ser (hn : its.length < 253) (hds : ∀ d ∈ its, d.size < 253) : Con (lw w DB) 712 [IsWit its] R (IsBytes (witB its)) R 22 220 :=
  con_ser ga_wit_wr (by k_dflt k_is) (fun st R0 => by
    have h := con_wit_write (w := w) (DB := DB) (st := st) (b := #[]) (Z := R0) hn hds (by decide)
    rwa [Array.empty_append] at h) (Nat.le_trans (by rw [← witI_full]; exact witI_size hn hds _) (show 65000 ≤ 1000000 from by decide))
theorem outB_app {b : Array UInt8} : b ++ outB o.1 o.2 = b ++ leB 8 o.1 ++ sized o.2 := (Array.append_assoc ..).symm
theorem con_out_write (hd : o.2.size < 253) (h0 : 0 ≤ o.1) (h1 : o.1 < 18446744073709551616) (hz : b.size + 1000 ≤ lim) :
    Con (lw w DB) 1137 [IsOut o, IsVal (.ref st)] (BioO w st b Z) (IsInt (outB o.1 o.2).size) (BioO w st (b ++ outB o.1 o.2) Z) 23 230 := by
  have hs := sized_size hd
  have e3 : ((outB o.1 o.2).size : Int) = ((leB 8 o.1).size : Int) + (sized o.2).size := by rw [Array.size_append]; rfl
  rw [e3, outB_app]
  refine con_fun (a := 22) (b := 220) (ns := [Str.ofString "self", Str.ofString "stream"]) rfl ⟨_, _, _, _, _, _, _, _, _, _, by k_is, by k_is, ?_⟩ rfl fun c hcl C => ?_
  · intro vs hl s X
    obtain ⟨v1, v2, rfl⟩ := two_of hl
    exact BindsTo.of_eq rfl
  have z1 : b.size + (leB 8 o.1).size ≤ lim := by rw [leB_size]; omega
  have z2 : (b ++ leB 8 o.1).size + (sized o.2).size ≤ lim := by rw [Array.size_append, leB_size]; omega
  refine exs_assign C (ev_meth C (ev_name C rfl) gm_write (by k_is) (evs_cons (ev_methB (ev_attr C (ev_name C rfl) ga_out_value) gb_to_bytes (evs_cons ev_int.ev (evs_cons ev_str.ev evs_nil)) (bcon_to_le (k := 8) (by decide) h0 h1)) evs_nil) (con_write z1).p rfl rfl) ?_
  refine exs_augInt C rfl (ev_meth C (ev_name C rfl) gm_write (by k_is) (evs_cons (ev_meth C (ev_attr C (ev_name C rfl) ga_out_script) gm_scr_ser (by k_is) evs_nil (con_scr_ser hd).p rfl rfl) evs_nil) (con_write z2).p rfl rfl) ?_
  exact exs_ret (ev_name C rfl).ev
theorem con_out_ser (hd : o.2.size < 253) (h0 : 0 ≤ o.1) (h1 : o.1 < 18446744073709551616) : Con (lw w DB) 712 [IsOut o] R (IsBytes (outB o.1 o.2)) R 34 340 :=
  con_ser ga_out_wr (by k_dflt k_is) (fun st R0 => by
    have h := con_out_write (w := w) (DB := DB) (st := st) (b := #[]) (Z := R0) hd h0 h1 (by decide)
    rwa [Array.empty_append] at h) (Nat.le_trans (outB_size hd) (by decide))
end
section
variable {w : World} {DB : Heap → Prop} {R : RP}
theorem con_sig_check : Con (lw w DB) 923 [IsVal (.ref 929), IsInt 1] R (IsTup [IsInt 1, IsBool false]) R 11 110 := by
  refine con_fun (a := 10) (b := 100) (ns := [Str.ofString "cls", Str.ofString "sighash"]) rfl ⟨_, _, _, _, _, _, _, _, _, _, (by k_is), (by k_is), ?_⟩ rfl fun c hcl C => ?_
  · intro vs hl s X
    obtain ⟨v1, v2, rfl⟩ := two_of hl
    exact BindsTo.of_eq rfl
  refine exs_assign C ev_bool.ev ?_
  refine exs_ifF (tst_int (ev_bin (ev_name C rfl).ev (ev_clsval (P := IsInt 128) C (ev_name C rfl) (by k_is) (by k_is) (by k_is) rfl (by exact fun N => ⟨_, rfl⟩)).ev bin_and) (by decide)) blk_nil ?_
  refine exs_ifF (tst_notin (is := [0, 1, 2, 3]) (ev_name C rfl).ev (ev_list (Pa := IsInt) (as := [0, 1, 2, 3]) (evs_cons (ev_clsval (P := IsInt 0) C (ev_name C rfl) (by k_is) (by k_is) (by k_is) rfl (by exact fun N => ⟨_, rfl⟩)).ev (evs_cons (ev_clsval (P := IsInt 1) C (ev_name C rfl) (by k_is) (by k_is) (by k_is) rfl (by exact fun N => ⟨_, rfl⟩)).ev (evs_cons (ev_clsval (P := IsInt 2) C (ev_name C rfl) (by k_is) (by k_is) (by k_is) rfl (by exact fun N => ⟨_, rfl⟩)).ev (evs_cons (ev_clsval (P := IsInt 3) C (ev_name C rfl) (by k_is) (by k_is) (by k_is) rfl (by exact fun N => ⟨_, rfl⟩)).ev evs_nil)))) (by decide)) (by decide)) blk_nil ?_
  exact exs_ret (ev_tup (evs_cons (ev_name C rfl).ev (evs_cons (ev_name C rfl).ev evs_nil)) (by decide))
end
section
variable {w : World} {DB : Heap → Prop} {st : Addr} {b d : Array UInt8} {R Z : RP} {iv : InV}
theorem con_in_write (ok : iv.Ok) (hz : b.size + 3000 ≤ lim) :
    Con (lw w DB) 1101 [IsIn iv, IsVal (.ref st)] (BioO w st b Z) (IsInt (inB iv).size) (BioO w st (b ++ inB iv) Z) 31 310 := by
  have hs := sized_size ok.oc
  have hn := ok.nm
  have e3 : ((inB iv).size : Int) = ((rvA iv.name).size : Int) + (leB 4 iv.place).size + (sized iv.octets).size + (leB 4 iv.seq).size := by unfold inB; rw [Array.size_append, Array.size_append, Array.size_append (xs := rvA iv.name)]; rfl
  have e2 : b ++ inB iv = b ++ rvA iv.name ++ leB 4 iv.place ++ sized iv.octets ++ leB 4 iv.seq := by unfold inB; simp only [Array.append_assoc]
  have z1 : b.size + (rvA iv.name).size ≤ lim := by rw [rvA_size]; omega
  have z2 : (b ++ rvA iv.name).size + (leB 4 iv.place).size ≤ lim := by rw [Array.size_append, rvA_size, leB_size]; omega
  have z3 : (b ++ rvA iv.name ++ leB 4 iv.place).size + (sized iv.octets).size ≤ lim := by rw [Array.size_append, Array.size_append, rvA_size, leB_size]; omega
  have z4 : (b ++ rvA iv.name ++ leB 4 iv.place ++ sized iv.octets).size + (leB 4 iv.seq).size ≤ lim := by rw [Array.size_append, Array.size_append, Array.size_append, rvA_size, leB_size, leB_size]; omega
  refine con_def (a := 30) (b := 300) (binds := fun vs => [(Str.ofString "self", vs.getD 0 .none), (Str.ofString "stream", vs.getD 1 .none), (Str.ofString "script_sig", .none), (Str.ofString "sighash", .int 1 1557)]) (V0 := [(Str.ofString "sighash", IsInt 1), (Str.ofString "script_sig", IsNone), (Str.ofString "stream", IsVal (.ref st)), (Str.ofString "self", IsIn iv)])
    ⟨_, _, _, _, _, _, _, _, _, _, by k_is, by k_is, ?_⟩ (fun vs hl => locs rfl) ?_ fun c hcl C => ?_
  · intro vs hl s X
    obtain ⟨v1, v2, rfl⟩ := two_of hl
    exact binds_K X rfl (by k_is) rfl rfl rfl
  · intro vs N hl hT
    obtain ⟨v1, v2, rfl⟩ := two_of hl
    exact zip_ok (ns := [Str.ofString "sighash", Str.ofString "script_sig", Str.ofString "stream", Str.ofString "self"]) (Ps := [IsInt 1, IsNone, IsVal (.ref st), IsIn iv]) (vs := [.int 1 1557, .none, v2, v1]) rfl (TOk.cons ⟨_, rfl⟩ (TOk.cons rfl (TOk.cons (hT _ (.tail _ (.head _))) (TOk.cons (hT _ (.head _)) (fun z hz => nomatch hz)))))
  refine exs_assignT C (ev_clsm C (ev_glob C (by k_is)) (by k_is) (by k_is) (by k_is) (by k_is) (by k_is) (by k_is) (evs_cons (ev_name C rfl).ev evs_nil) con_sig_check rfl rfl) ?_
  refine exs_ifF (TstOE.tst (tsto_cons (tst_bool (ev_name C rfl).ev) (tsto_cons (tst_in (is := [3, 2]) (ev_name C rfl).ev (ev_list (Pa := IsInt) (as := [3, 2]) (evs_cons (ev_clsval (P := IsInt 3) C (ev_glob C (by k_is)) (by k_is) (by k_is) (by k_is) rfl (by exact fun N => ⟨_, rfl⟩)).ev (evs_cons (ev_clsval (P := IsInt 2) C (ev_glob C (by k_is)) (by k_is) (by k_is) (by k_is) rfl (by exact fun N => ⟨_, rfl⟩)).ev evs_nil)) (by decide)) (by decide)) tsto_nil))) (blk_assign C (ev_attr C (ev_name C rfl) ga_in_seq).ev blk_nil) ?_
  rw [e3, e2]
  refine exs_assign C (ev_meth C (ev_name C rfl) gm_write (by k_is) (evs_cons (ev_bytesRev (ev_builtin C (by k_is) (by boot_fast) (by decide)) (ev_builtin C (by k_is) (by boot_fast) (by decide)) (ev_attr C (ev_name C rfl) ga_in_txid).ev (Nat.le_trans ok.nm (by decide))) evs_nil) (con_write z1).p rfl rfl) ?_
  refine exs_augInt C rfl (ev_meth C (ev_name C rfl) gm_write (by k_is) (evs_cons (ev_methB (ev_attr C (ev_name C rfl) ga_in_vout) gb_to_bytes (evs_cons ev_int.ev (evs_cons ev_str.ev evs_nil)) (bcon_to_le (k := 4) (by decide) ok.p0 ok.p1)) evs_nil) (con_write z2).p rfl rfl) ?_
  refine exs_ifT (tst_isNone (ev_name C rfl).ev) (blk_augInt C rfl (ev_meth C (ev_name C rfl) gm_write (by k_is) (evs_cons (ev_meth C (ev_attr C (ev_name C rfl) ga_in_script) gm_scr_ser (by k_is) evs_nil (con_scr_ser ok.oc).p rfl rfl) evs_nil) (con_write z3).p rfl rfl) blk_nil) ?_
  refine exs_augInt C rfl (ev_meth C (ev_name C rfl) gm_write (by k_is) (evs_cons (ev_methB (ev_name C rfl) gb_to_bytes (evs_cons ev_int.ev (evs_cons ev_str.ev evs_nil)) (bcon_to_le (k := 4) (by decide) ok.s0 ok.s1)) evs_nil) (con_write z4).p rfl rfl) ?_
  exact exs_ret (ev_name C rfl).ev
end
section
variable {w : World} {DB : Heap → Prop} {st : Addr} {b d : Array UInt8} {R Z : RP} {iv : InV}
theorem con_in_segwit (ok : iv.Ok) : Con (lw w DB) 1092 [IsIn iv] R (IsBool (!((witB iv.its).toList == [0]))) R 31 310 := by
  refine con_fun (a := 30) (b := 300) (ns := [Str.ofString "self"]) rfl ⟨_, _, _, _, _, _, _, _, _, _, by k_is, by k_is, ?_⟩ rfl fun c hcl C => ?_
  · intro vs hl s X
    obtain ⟨v1, rfl⟩ := one_of hl
    exact BindsTo.of_eq rfl
  exact exs_ret (ev_not (ev_eqB (d' := [0].toArray) (ev_meth C (ev_attr C (ev_name C rfl) ga_in_wit) gm_wit_ser (by k_is) evs_nil (con_wit_ser ok.wn ok.wd).p rfl rfl) ev_bytes.ev))
end
section
variable {w : World} {DB : Heap → Prop} {st : Addr} {b d : Array UInt8} {R Z : RP} {iv : InV} {tv : TxV}
theorem obj_inst {Cl : Addr} {fs : List (Str × VP)} {N : Lg} {v : Value} (h : (IsObj Cl fs).P N v) : ∃ x dx es n, v = .ref x ∧ (x, instObj Cl dx) ∈ N ∧ (dx, dictOf es n) ∈ N := by
  obtain ⟨x, dx, es, n, rfl, h1, h2, -⟩ := h
  exact ⟨x, dx, es, n, rfl, h1, h2⟩
theorem con_tx_segwit (ok : ∀ iv ∈ tv.ins, iv.Ok) : Con (lw w DB) 964 [IsTx tv] R (IsBool tv.seg) R 43 440 := by
  refine con_fun (a := 42) (b := 430) (ns := [Str.ofString "self"]) rfl ⟨_, _, _, _, _, _, _, _, _, _, by k_is, by k_is, ?_⟩ rfl fun c hcl C => ?_
  · intro vs hl s X
    obtain ⟨v1, rfl⟩ := one_of hl
    exact BindsTo.of_eq rfl
  refine exs_star0 (exs_forR (Z := R) (fun i => ((tv.ins.take i).any fun iv => !iv.its.isEmpty) = false) (fun _ => [(Str.ofString "self", IsTx tv)]) (fun _ => RNil) RNil C (ev_attr C (ev_name C rfl) ga_tx_vin) (pick_cons rfl pick_nil).ok rfl (fun Z' i iv hi hp => ?_) (fun hp => ?_))
  · have iok := ok iv (List.mem_of_getElem? hi)
    have ev : ∀ (p1 p2 : Pos) bv, (!iv.its.isEmpty) = bv → Tst (lw w DB) _ c ((Str.ofString "inp", IsIn iv) :: [(Str.ofString "self", IsTx tv)]) (RStar RNil Z') (.Attribute (.Name (Str.ofString "inp") p1) (Str.ofString "is_segwit") p2) bv (RStar RNil Z') := fun p1 p2 bv e => by
      have h := con_in_segwit (w := w) (DB := DB) (R := RStar RNil Z') iok
      rw [witB_zero iok.wn, e] at h
      exact tst_attr (ev_prop C (ev_name C rfl) (by k_is) (by k_is) (by k_is) (by k_is) (by k_is) (by k_is) (fun N v => obj_inst) h rfl rfl (fun N v hv => by rw [show v = _ from hv]; rfl))
    intro T Q E s st kn kr
    cases e : !iv.its.isEmpty with
    | true =>
      have hs : tv.seg = true := List.any_eq_true.mpr ⟨iv, List.mem_of_getElem? hi, e⟩
      rw [hs] at kr
      exact exs_ifRet (ev _ _ true e) (exs_ret ev_bool.ev) T Q E s st kr
    | false =>
      exact blk_ifN (ev _ _ false e) blk_nil T Q E s st fun s' st' => kn s' (by rw [any_take _ hi, hp, e]; rfl) (st'.weak (pick_cons rfl pick_nil).ok)
  · rw [List.take_length] at hp
    rw [show tv.seg = false from hp]
    exact exs_ret ev_bool.ev
end
section
variable {w : World} {DB : Heap → Prop} {st : Addr} {b d : Array UInt8} {R Z : RP} {iv : InV} {tv : TxV} {o : Int × Array UInt8} {its : List (Array UInt8)}
theorem con_tx_write (ok : tv.Ok) (hz : b.size + 100000 ≤ lim) : Con (lw w DB) 972 [IsTx tv, IsVal (.ref st)] (BioO w st b Z) (IsInt (txB tv).size) (BioO w st (b ++ txB tv) Z) 46 470 := by
  refine con_fun (a := 45) (b := 460) (ns := [Str.ofString "self", Str.ofString "stream"]) rfl ⟨_, _, _, _, _, _, _, _, _, _, by k_is, by k_is, ?_⟩ rfl fun c hcl C => ?_
  · intro vs hl s X
    obtain ⟨v1, v2, rfl⟩ := two_of hl
    exact BindsTo.of_eq rfl
  have gz := txG_size tv
  have y1 := fun i => tx1_size ok i
  have y2 := fun i => tx2_size ok i
  have y3 := fun i => tx3_size ok i
  have z1 : b.size + (leB 4 tv.ver).size ≤ lim := by rw [leB_size]; omega
  refine exs_assign C (ev_meth C (ev_name C rfl) gm_write (by k_is) (evs_cons (ev_methB (ev_attr C (ev_name C rfl) ga_tx_ver) gb_to_bytes (evs_cons ev_int.ev (evs_cons ev_str.ev evs_nil)) (bcon_to_le (k := 4) (by decide) ok.v0 ok.v1)) evs_nil) (con_write z1).p rfl rfl) ?_
  refine exs_if (bv := tv.seg) (V2 := [(Str.ofString "res", IsInt (leB 4 tv.ver ++ txG tv).size), (Str.ofString "stream", IsVal (.ref st)), (Str.ofString "self", IsTx tv)]) (R2 := BioO w st (b ++ (leB 4 tv.ver ++ txG tv)) Z)
    (tst_attr (ev_prop C (ev_name C rfl) (by k_is) (by k_is) (by k_is) (by k_is) (by k_is) (by k_is) (fun N v => obj_inst) (con_tx_segwit ok.iok) rfl rfl (fun N v hv => by rw [show v = _ from hv]; rfl))) (fun hs => ?_) (fun hs => ?_) ?_
  · have e : txG tv = #[0, 1] := by unfold txG; rw [if_pos hs]
    rw [e, ← Array.append_assoc]
    have z2 : (b ++ leB 4 tv.ver).size + (#[0, 1] : Array UInt8).size ≤ lim := by rw [Array.size_append, leB_size]; show b.size + 4 + 2 ≤ _; omega
    exact blk_weak (blk_augInt C rfl (ev_meth C (ev_name C rfl) gm_write (by k_is) (evs_cons (ev_bytes (d := [0, 1])).ev evs_nil) (con_write z2).p rfl rfl) blk_nil) (pick_cons (by rw [Array.size_append]; rfl) (pick_cons rfl (pick_cons rfl pick_nil))).ok
  · have e : txG tv = #[] := by unfold txG; rw [hs]; rfl
    rw [e, Array.append_empty]
    exact blk_weak blk_nil (pick_cons rfl (pick_cons rfl (pick_cons rfl pick_nil))).ok
  have n1 : ((tv.ins.length : Nat) : Int) < 253 := by have := ok.ni; omega
  have n2 : ((tv.outs.length : Nat) : Int) < 253 := by have := ok.no; omega
  have w1 : tv.ins.length ≤ 16777216 := Nat.le_trans ok.ni (by decide)
  have w2 : tv.outs.length ≤ 16777216 := Nat.le_trans ok.no (by decide)
  have z3 : (b ++ (leB 4 tv.ver ++ txG tv)).size + (#[(tv.ins.length : Int).toNat.toUInt8] : Array UInt8).size ≤ lim := by rw [Array.size_append, Array.size_append, leB_size]; show _ + 1 ≤ _; omega
  refine exs_augInt C rfl (ev_meth C (ev_name C rfl) gm_write (by k_is) (evs_cons (ev_call C (ev_glob C (by k_is)) (by k_is) (evs_cons (ev_callB C (ev_builtin C (by k_is) (by boot_fast) (by decide)) (evs_cons (ev_attr C (ev_name C rfl) ga_tx_vin).ev evs_nil) (conb_lenL w1)) evs_nil) (con_to_bytes (Int.natCast_nonneg _) n1) rfl rfl) evs_nil) (con_write z3).p rfl rfl) ?_
  have q1 : leB 4 tv.ver ++ txG tv ++ #[(tv.ins.length : Int).toNat.toUInt8] = tx1 tv 0 := by unfold tx1; simp only [List.take_zero, List.map_nil, catA, Array.append_empty]; rfl
  have q1' : ((leB 4 tv.ver ++ txG tv).size : Int) + (#[(tv.ins.length : Int).toNat.toUInt8] : Array UInt8).size = (tx1 tv 0).size := by rw [← q1, Array.size_append (xs := leB 4 tv.ver ++ txG tv)]; rfl
  rw [Array.append_assoc, q1]
  refine exs_for (Z := Z) (fun i => [(Str.ofString "res", IsInt (tx1 tv i).size), (Str.ofString "stream", IsVal (.ref st)), (Str.ofString "self", IsTx tv)]) (fun i => BioC w st (b ++ tx1 tv i)) C (ev_attr C (ev_name C rfl) ga_tx_vin) (pick_cons (by rw [← q1']; rfl) (pick_cons rfl (pick_cons rfl pick_nil))).ok (fun Z' i iv hi => ?_) ?_
  · have iok := ok.iok iv (List.mem_of_getElem? hi)
    have e : ((tx1 tv i).size : Int) + (inB iv).size = (tx1 tv (i + 1)).size := by have := congrArg Array.size (tx1_succ hi #[]); rw [Array.empty_append, Array.empty_append, Array.size_append] at this; omega
    show Blk _ _ _ _ _ _ _ (RStar (BioC w st (b ++ tx1 tv (i + 1))) Z')
    rw [← tx1_succ hi b]
    exact blk_weak (blk_augInt C rfl (ev_meth C (ev_name C rfl) gm_in_write (by k_is) (evs_cons (ev_name C rfl).ev evs_nil) (con_in_write iok (by have := y1 i; rw [Array.size_append]; omega)).p rfl rfl) blk_nil) (pick_cons (by rw [← e]; rfl) (pick_cons rfl (pick_cons rfl pick_nil))).ok
  have z4 : (b ++ tx1 tv tv.ins.length).size + (#[(tv.outs.length : Int).toNat.toUInt8] : Array UInt8).size ≤ lim := by have := y1 tv.ins.length; rw [Array.size_append]; show _ + 1 ≤ _; omega
  refine exs_augInt C rfl (ev_meth C (ev_name C rfl) gm_write (by k_is) (evs_cons (ev_call C (ev_glob C (by k_is)) (by k_is) (evs_cons (ev_callB C (ev_builtin C (by k_is) (by boot_fast) (by decide)) (evs_cons (ev_attr C (ev_name C rfl) ga_tx_vout).ev evs_nil) (conb_lenL w2)) evs_nil) (con_to_bytes (Int.natCast_nonneg _) n2) rfl rfl) evs_nil) (con_write z4).p rfl rfl) ?_
  have q2 : tx1 tv tv.ins.length ++ #[(tv.outs.length : Int).toNat.toUInt8] = tx2 tv 0 := by unfold tx2; simp only [List.take_zero, List.map_nil, catA, Array.append_empty]; rfl
  have q2' : ((tx1 tv tv.ins.length).size : Int) + (#[(tv.outs.length : Int).toNat.toUInt8] : Array UInt8).size = (tx2 tv 0).size := by rw [← q2, Array.size_append]; rfl
  rw [Array.append_assoc, q2]
  refine exs_for (Z := Z) (fun i => [(Str.ofString "res", IsInt (tx2 tv i).size), (Str.ofString "stream", IsVal (.ref st)), (Str.ofString "self", IsTx tv)]) (fun i => BioC w st (b ++ tx2 tv i)) C (ev_attr C (ev_name C rfl) ga_tx_vout) (pick_cons (by rw [← q2']; rfl) (pick_cons rfl (pick_cons rfl pick_nil))).ok (fun Z' i o hi => ?_) ?_
  · have hm := List.mem_of_getElem? hi
    have e : ((tx2 tv i).size : Int) + (outB o.1 o.2).size = (tx2 tv (i + 1)).size := by have := congrArg Array.size (tx2_succ hi #[]); rw [Array.empty_append, Array.empty_append, Array.size_append] at this; omega
    show Blk _ _ _ _ _ _ _ (RStar (BioC w st (b ++ tx2 tv (i + 1))) Z')
    rw [← tx2_succ hi b]
    exact blk_weak (blk_augInt C rfl (ev_meth C (ev_name C rfl) gm_out_write (by k_is) (evs_cons (ev_name C rfl).ev evs_nil) (con_out_write (ok.oz o hm) (ok.o0 o hm) (ok.o1 o hm) (by have := y2 i; rw [Array.size_append]; omega)).p rfl rfl) blk_nil) (pick_cons (by rw [← e]; rfl) (pick_cons rfl (pick_cons rfl pick_nil))).ok
  refine exs_if (bv := tv.seg) (V2 := [(Str.ofString "res", IsInt (txW tv).size), (Str.ofString "stream", IsVal (.ref st)), (Str.ofString "self", IsTx tv)]) (R2 := BioO w st (b ++ txW tv) Z)
    (tst_attr (ev_prop C (ev_name C rfl) (by k_is) (by k_is) (by k_is) (by k_is) (by k_is) (by k_is) (fun N v => obj_inst) (con_tx_segwit ok.iok) rfl rfl (fun N v hv => by rw [show v = _ from hv]; rfl))) (fun hs => ?_) (fun hs => ?_) ?_
  · have ew : txW tv = tx3 tv tv.ins.length := by unfold txW; rw [if_pos hs]
    have q3 : tx2 tv tv.outs.length = tx3 tv 0 := by unfold tx3; simp only [List.take_zero, List.map_nil, catA, Array.append_empty]
    rw [ew]
    show Blk _ _ _ _ (RStar (BioC w st (b ++ tx2 tv tv.outs.length)) Z) _ _ _
    rw [q3]
    refine blk_for (Z := Z) (fun i => [(Str.ofString "res", IsInt (tx3 tv i).size), (Str.ofString "stream", IsVal (.ref st)), (Str.ofString "self", IsTx tv)]) (fun i => BioC w st (b ++ tx3 tv i)) C (ev_attr C (ev_name C rfl) ga_tx_vin) (pick_cons (by rw [← q3]; rfl) (pick_cons rfl (pick_cons rfl pick_nil))).ok (fun Z' i iv hi => ?_) blk_nil
    have iok := ok.iok iv (List.mem_of_getElem? hi)
    have e : ((tx3 tv i).size : Int) + (witB iv.its).size = (tx3 tv (i + 1)).size := by have := congrArg Array.size (tx3_succ hi #[]); rw [Array.empty_append, Array.empty_append, Array.size_append] at this; omega
    show Blk _ _ _ _ _ _ _ (RStar (BioC w st (b ++ tx3 tv (i + 1))) Z')
    rw [← tx3_succ hi b]
    exact blk_weak (blk_augInt C rfl (ev_meth C (ev_attr C (ev_name C rfl) ga_in_wit) gm_wit_write (by k_is) (evs_cons (ev_name C rfl).ev evs_nil) (con_wit_write iok.wn iok.wd (by have := y3 i; rw [Array.size_append]; omega)).p rfl rfl) blk_nil) (pick_cons (by rw [← e]; rfl) (pick_cons rfl (pick_cons rfl pick_nil))).ok
  · have ew : txW tv = tx2 tv tv.outs.length := by unfold txW; rw [hs]; rfl
    rw [ew]
    exact blk_weak blk_nil (pick_cons rfl (pick_cons rfl (pick_cons rfl pick_nil))).ok
  have yw := txW_size ok
  have z5 : (b ++ txW tv).size + (leB 4 tv.lock).size ≤ lim := by rw [Array.size_append, leB_size]; omega
  have e3 : ((txB tv).size : Int) = ((txW tv).size : Int) + (leB 4 tv.lock).size := by unfold txB; rw [Array.size_append]; rfl
  have e2 : b ++ txB tv = b ++ txW tv ++ leB 4 tv.lock := by unfold txB; rw [Array.append_assoc]
  rw [e3, e2]
  refine exs_augInt C rfl (ev_meth C (ev_name C rfl) gm_write (by k_is) (evs_cons (ev_methB (ev_attr C (ev_name C rfl) ga_tx_lock) gb_to_bytes (evs_cons ev_int.ev (evs_cons ev_str.ev evs_nil)) (bcon_to_le (k := 4) (by decide) ok.l0 ok.l1)) evs_nil) (con_write z5).p rfl rfl) ?_
  exact exs_ret (ev_name C rfl).ev
end
section
variable {w : World} {DB : Heap → Prop} {st : Addr} {b d : Array UInt8} {R Z : RP} {iv : InV} {tv : TxV}
theorem con_in_ser (ok : iv.Ok) : Con (lw w DB) 712 [IsIn iv] R (IsBytes (inB iv)) R 42 420 :=
  con_ser ga_in_wr (by k_dflt k_is) (fun st R0 => by
    have h := con_in_write (w := w) (DB := DB) (st := st) (b := #[]) (Z := R0) ok (by decide)
    rwa [Array.empty_append] at h) (Nat.le_trans (Nat.le_of_lt (inB_size ok)) (by decide))
theorem con_tx_ser (ok : tv.Ok) : Con (lw w DB) 712 [IsTx tv] R (IsBytes (txB tv)) R 57 580 :=
  con_ser ga_tx_wr (by k_dflt k_is) (fun st R0 => by
    have h := con_tx_write (w := w) (DB := DB) (st := st) (b := #[]) (Z := R0) ok (by decide)
    rwa [Array.empty_append] at h) (by have := txW_size ok; unfold txB; rw [Array.size_append, leB_size]; omega)
end
def shaF (b : Array UInt8) : List (Str × VP) := [(Str.ofString "data", IsBytes b)]
def IsSha (b : Array UInt8) : VP := IsObj 58 (shaF b)
abbrev ShaO (x : Addr) (b : Array UInt8) (Z : RP) : RP := RStar (RObj 58 x (shaF b)) Z
section
variable {w : World} {DB : Heap → Prop} {x : Addr} {b d : Array UInt8} {R Z : RP} {tv : TxV}
theorem con_sha_init : ConXA (β := Unit) (lw w DB) 41 (fun vs => match vs with | [] => ⟨[], []⟩ | v :: vs => ⟨v :: vs, []⟩) [IsVal (.ref x), IsBytes d] (RStar (RObj 58 x []) R) (fun _ => IsNone) (fun _ => ShaO x d R) 11 110 := by
  refine con_funN (a := 10) (b := 100) (ns := [Str.ofString "self", Str.ofString "data"]) rfl ⟨_, _, _, _, _, _, _, _, _, _, (by k_is), (by k_is), ?_⟩ rfl fun c hcl C => ?_
  · intro vs hl s X
    obtain ⟨v1, v2, rfl⟩ := two_of hl
    exact binds_K X rfl (by k_is) rfl rfl rfl
  exact blk_setAttr C (ev_name C rfl).ev (fun _ => ev_name C rfl) handed_bytes (by k_is) (by k_is) (by k_is) (by k_is) rfl blk_fin
theorem con_sha_new : ConX (β := Addr) (lw w DB) 58 [IsBytes d] R (fun x => IsVal (.ref x)) (fun x => ShaO x d R) 12 111 := con_newX (by k_is) (by k_is) (by k_is) fun x => con_sha_init
theorem con_hl : ConX (β := Addr) (lw w DB) 77 [IsBytes d] R (fun x => IsVal (.ref x)) (fun x => ShaO x d R) 13 121 := by
  refine con_defX (a := 12) (b := 111) (binds := fun vs => [(Str.ofString "data", vs.getD 0 .none)]) (V0 := [(Str.ofString "data", IsBytes d)]) ⟨_, _, _, _, _, _, _, _, _, _, (by k_is), (by k_is), ?_⟩ (fun vs hl => locs rfl) ?_ fun c hcl C => (exs_retX (ev_callX C (ev_glob C (by k_is)) (by k_is) (evs_cons (ev_name C rfl).ev evs_nil) con_sha_new rfl rfl)).run
  · intro vs hl s X
    obtain ⟨v1, rfl⟩ := one_of hl
    exact binds_K X rfl (by k_is) rfl rfl rfl
  · intro vs N hl hT
    obtain ⟨v1, rfl⟩ := one_of hl
    exact zip_ok (ns := [Str.ofString "data"]) (Ps := [IsBytes d]) (vs := [v1]) rfl (TOk.cons (hT _ (.head _)) (fun z hz => nomatch hz))
theorem con_hl0 : ConX (β := Addr) (lw w DB) 77 [] R (fun x => IsVal (.ref x)) (fun x => ShaO x #[] R) 13 121 := by
  refine con_defX (a := 12) (b := 111) (binds := fun vs => [(Str.ofString "data", .bytes #[] 260)]) (V0 := [(Str.ofString "data", IsBytes #[])]) ⟨_, _, _, _, _, _, _, _, _, _, (by k_is), (by k_is), ?_⟩ (fun vs hl => locs rfl) ?_ fun c hcl C => (exs_retX (ev_callX C (ev_glob C (by k_is)) (by k_is) (evs_cons (ev_name C rfl).ev evs_nil) con_sha_new rfl rfl)).run
  · intro vs hl s X
    obtain rfl := List.length_eq_zero_iff.mp hl
    exact binds_K X rfl (by k_is) rfl rfl rfl
  · intro vs N hl hT
    exact zip_ok (ns := [Str.ofString "data"]) (Ps := [IsBytes #[]]) (vs := [.bytes #[] 260]) rfl (TOk.cons ⟨_, rfl⟩ (fun z hz => nomatch hz))
theorem con_update (hz : b.size + d.size ≤ 1000000) : ConP (lw w DB) 48 [IsVal (.ref x), IsBytes d] (ShaO x b Z) IsNone (ShaO x (b ++ d) Z) 11 110 := by
  refine (ConX.con (con_funN (a := 10) (b := 100) (ns := [Str.ofString "self", Str.ofString "data"]) (mk := fun vs => ⟨vs, []⟩) rfl ⟨_, _, _, _, _, _, _, _, _, _, (by k_is), (by k_is), ?_⟩ rfl fun c hcl C => ?_)).p
  · intro vs hl s X
    obtain ⟨v1, v2, rfl⟩ := two_of hl
    exact BindsTo.of_eq rfl
  exact blk_augAttrB (attr := none) C (fun _ => ev_name C rfl) rfl (ev_name C rfl).ev (Nat.le_trans hz (by decide)) (by k_is) (by k_is) (by k_is) (by k_is) (by k_is) (by k_is) (by k_is) rfl blk_fin
theorem ga_sha_data : Ga (lw w DB) (IsSha b) (Str.ofString "data") (IsBytes b) := ga_obj (attr := none) (by k_is) (by k_is) (by k_is) (by k_is) rfl
theorem gm_digest : Gm (lw w DB) R (IsSha b) (Str.ofString "digest") 55 := gm_obj (by k_is) (by k_is) (by k_is) rfl
theorem gm_update : Gm (lw w DB) (ShaO x b Z) (IsVal (.ref x)) (Str.ofString "update") 48 := gm_robj (by k_is) (by k_is) (by k_is) rfl
theorem con_digest (hz : b.size ≤ 90000) : Con (lw w DB) 55 [IsSha b] R (IsBytes (hashB b)) R 11 110 := by
  have hb : Builtin.Int.intBits (numOf (#[1] ++ b).toList : Nat) ≤ 800000 := numOf_bits (by rw [Array.length_toList, Array.size_append]; simp only [List.size_toArray, List.length_cons, List.length_nil]; omega)
  have h0 := hashN_lo b.toList
  have h1 := hashN_hi b.toList
  have e : (1 :: b.toList) = (#[1] ++ b).toList := by simp
  unfold hashB
  unfold hashN at h0 h1 ⊢
  rw [e] at h0 h1 ⊢
  refine con_fun (a := 10) (b := 100) (ns := [Str.ofString "self"]) rfl ⟨_, _, _, _, _, _, _, _, _, _, (by k_is), (by k_is), ?_⟩ rfl fun c hcl C => ?_
  · intro vs hl s X
    obtain ⟨v1, rfl⟩ := one_of hl
    exact BindsTo.of_eq rfl
  refine exs_assign C (ev_fromB C (ev_builtin C (by k_is) (by boot_fast) (by decide)) (by k_is) (ev_catB (d := #[1]) ev_bytes.ev (ev_attr C (ev_name C rfl) ga_sha_data).ev (by show 1 + b.size ≤ _; omega)) (from_BE (by rw [Array.size_append]; show 1 + b.size ≤ _; omega))) ?_
  refine exs_ret (ev_methCP C (ev_bin (ev_bin (ev_bin (ev_name C rfl).ev (ev_name C rfl).ev (bin_mulL (Nat.le_trans hb (by decide)) (Nat.le_trans hb (by decide)))) ev_int.ev (bin_mulL (MineP.bits_mul hb hb) (by decide))) (ev_bin (ev_bin ev_int.ev ev_int.ev (bin_pow (by decide) (by decide) (by decide) (by decide) (by decide))) ev_int.ev bin_sub) (bin_mod (by decide))) gb_to_bytes (evs_cons ev_int.ev (evs_cons ev_str.ev evs_nil)) (bcon_to_be (k := 32) (by decide) h0 h1).c)
end
section
variable {w : World} {DB : Heap → Prop} {x : Addr} {b d : Array UInt8} {R Z : RP} {tv : TxV}
theorem con_hlF : Con (lw w DB) 77 [IsBytes d] R (IsSha d) R 13 121 := ConX.con (ConXA.freeze con_hl)
theorem con_tx_hash (ok : tv.Ok) : Con (lw w DB) 979 [IsTx tv] R (IsBytes (hashB (hashB (txN tv)))) R 60 610 := by
  refine con_fun (a := 59) (b := 600) (ns := [Str.ofString "self"]) rfl ⟨_, _, _, _, _, _, _, _, _, _, (by k_is), (by k_is), ?_⟩ rfl fun c hcl C => ?_
  · intro vs hl s X
    obtain ⟨v1, rfl⟩ := one_of hl
    exact BindsTo.of_eq rfl
  refine exs_assignX C (ev_clssmX C (ev_glob C (by k_is)) (by k_is) (by k_is) (by k_is) (by k_is) (by k_is) (by k_is) evs_nil con_hl0 rfl rfl) (fun x => ?_)
  have n1 : ((tv.ins.length : Nat) : Int) < 253 := by have := ok.ni; omega
  have n2 : ((tv.outs.length : Nat) : Int) < 253 := by have := ok.no; omega
  have w1 : tv.ins.length ≤ 16777216 := Nat.le_trans ok.ni (by decide)
  have w2 : tv.outs.length ≤ 16777216 := Nat.le_trans ok.no (by decide)
  have y1 : ∀ i, (hx1 tv i).size + 100000 ≤ 1000000 := fun i => hx1_size ok i
  have y2 : ∀ i, (hx2 tv i).size + 100000 ≤ 1000000 := fun i => (hx2_size ok i).1
  refine exs_exprNone (ev_meth C (ev_name C rfl) gm_update (by k_is) (evs_cons (ev_methB (ev_attr C (ev_name C rfl) ga_tx_ver) gb_to_bytes (evs_cons ev_int.ev (evs_cons ev_str.ev evs_nil)) (bcon_to_le (k := 4) (by decide) ok.v0 ok.v1)) evs_nil) (con_update (by rw [leB_size]; decide)) rfl rfl) ?_
  refine exs_exprNone (ev_meth C (ev_name C rfl) gm_update (by k_is) (evs_cons (ev_call C (ev_glob C (by k_is)) (by k_is) (evs_cons (ev_callB C (ev_builtin C (by k_is) (by boot_fast) (by decide)) (evs_cons (ev_attr C (ev_name C rfl) ga_tx_vin).ev evs_nil) (conb_lenL w1)) evs_nil) (con_to_bytes (Int.natCast_nonneg _) n1) rfl rfl) evs_nil) (con_update (by rw [Array.empty_append, leB_size]; exact (show 4 + 1 ≤ 1000000 from by decide))) rfl rfl) ?_
  have q1 : #[] ++ leB 4 tv.ver ++ #[(tv.ins.length : Int).toNat.toUInt8] = hx1 tv 0 := by unfold hx1; rw [Array.empty_append]; simp only [List.take_zero, List.map_nil, catA, Array.append_empty]; rfl
  rw [q1]
  refine exs_for (Z := R) (fun i => [(Str.ofString "h", IsVal (.ref x)), (Str.ofString "self", IsTx tv)]) (fun i => RObj 58 x (shaF (hx1 tv i))) C (ev_attr C (ev_name C rfl) ga_tx_vin) (pick_cons rfl (pick_cons rfl pick_nil)).ok (fun Z' i iv hi => ?_) ?_
  · have iok := ok.iok iv (List.mem_of_getElem? hi)
    show Blk _ _ _ _ _ _ _ (RStar (RObj 58 x (shaF (hx1 tv (i + 1)))) Z')
    rw [← hx1_succ hi]
    exact blk_weak (blk_exprNone (ev_meth C (ev_name C rfl) gm_update (by k_is) (evs_cons (ev_meth C (ev_name C rfl) gm_in_ser (by k_is) evs_nil (con_in_ser iok).p rfl rfl) evs_nil) (con_update (by have := y1 i; have := inB_size iok; omega)) rfl rfl) blk_nil) (pick_cons rfl (pick_cons rfl pick_nil)).ok
  refine exs_exprNone (ev_meth C (ev_name C rfl) gm_update (by k_is) (evs_cons (ev_call C (ev_glob C (by k_is)) (by k_is) (evs_cons (ev_callB C (ev_builtin C (by k_is) (by boot_fast) (by decide)) (evs_cons (ev_attr C (ev_name C rfl) ga_tx_vout).ev evs_nil) (conb_lenL w2)) evs_nil) (con_to_bytes (Int.natCast_nonneg _) n2) rfl rfl) evs_nil) (con_update (by have := y1 tv.ins.length; show _ + 1 ≤ _; omega)) rfl rfl) ?_
  have q2 : hx1 tv tv.ins.length ++ #[(tv.outs.length : Int).toNat.toUInt8] = hx2 tv 0 := by unfold hx2; simp only [List.take_zero, List.map_nil, catA, Array.append_empty]; rfl
  rw [q2]
  refine exs_for (Z := R) (fun i => [(Str.ofString "h", IsVal (.ref x)), (Str.ofString "self", IsTx tv)]) (fun i => RObj 58 x (shaF (hx2 tv i))) C (ev_attr C (ev_name C rfl) ga_tx_vout) (pick_cons rfl (pick_cons rfl pick_nil)).ok (fun Z' i o hi => ?_) ?_
  · have hm := List.mem_of_getElem? hi
    show Blk _ _ _ _ _ _ _ (RStar (RObj 58 x (shaF (hx2 tv (i + 1)))) Z')
    rw [← hx2_succ hi]
    exact blk_weak (blk_exprNone (ev_meth C (ev_name C rfl) gm_update (by k_is) (evs_cons (ev_meth C (ev_name C rfl) gm_out_ser (by k_is) evs_nil (con_out_ser (ok.oz o hm) (ok.o0 o hm) (ok.o1 o hm)).p rfl rfl) evs_nil) (con_update (by have := y2 i; have := outB_size (v := o.1) (ok.oz o hm); omega)) rfl rfl) blk_nil) (pick_cons rfl (pick_cons rfl pick_nil)).ok
  refine exs_exprNone (ev_meth C (ev_name C rfl) gm_update (by k_is) (evs_cons (ev_methB (ev_attr C (ev_name C rfl) ga_tx_lock) gb_to_bytes (evs_cons ev_int.ev (evs_cons ev_str.ev evs_nil)) (bcon_to_le (k := 4) (by decide) ok.l0 ok.l1)) evs_nil) (con_update (by have := y2 tv.outs.length; rw [leB_size]; omega)) rfl rfl) ?_
  have zz : (hx2 tv tv.outs.length ++ leB 4 tv.lock).size ≤ 90000 := by
    have h1 := hx2_tx2 tv tv.outs.length
    have h2 := tx2_size ok tv.outs.length
    rw [Array.size_append, leB_size]; omega
  unfold txN
  generalize hx2 tv tv.outs.length ++ leB 4 tv.lock = bb at zz ⊢
  refine exs_freezeO (Cl := 58) (fs := shaF bb) (x := Str.ofString "h") rfl (exs_assign C (ev_methP C (ev_clssm C (ev_glob C (by k_is)) (by k_is) (by k_is) (by k_is) (by k_is) (by k_is) (by k_is) (evs_cons (ev_meth C (ev_name C rfl) gm_digest (by k_is) evs_nil (con_digest zz).p rfl rfl) evs_nil) con_hlF.p rfl rfl) gm_digest (by k_is) evs_nil (con_digest (by rw [hashB_size]; decide)).p rfl rfl) ?_)
  exact exs_ret (ev_name C rfl).ev
theorem con_tx_txid (ok : tv.Ok) : Con (lw w DB) 986 [IsTx tv] R (IsBytes (rvA (hashB (hashB (txN tv))))) R 62 630 := by
  refine con_fun (a := 61) (b := 620) (ns := [Str.ofString "self"]) rfl ⟨_, _, _, _, _, _, _, _, _, _, (by k_is), (by k_is), ?_⟩ rfl fun c hcl C => ?_
  · intro vs hl s X
    obtain ⟨v1, rfl⟩ := one_of hl
    exact BindsTo.of_eq rfl
  exact exs_ret (ev_bytesRev (ev_builtin C (by k_is) (by boot_fast) (by decide)) (ev_builtin C (by k_is) (by boot_fast) (by decide)) (ev_meth C (ev_name C rfl) gm_tx_hash (by k_is) evs_nil (con_tx_hash ok).p rfl rfl) (by rw [hashB_size]; decide))
theorem con_dsha (hz : b.size ≤ 90000) : Con (lw w DB) 658 [IsBytes b] R (IsBytes (hashB (hashB b))) R 15 140 := by
  refine con_fun (a := 14) (b := 130) (ns := [Str.ofString "msg"]) rfl ⟨_, _, _, _, _, _, _, _, _, _, (by k_is), (by k_is), ?_⟩ rfl fun c hcl C => ?_
  · intro vs hl s X
    obtain ⟨v1, rfl⟩ := one_of hl
    exact BindsTo.of_eq rfl
  exact exs_ret (ev_methP C (ev_clssm C (ev_glob C (by k_is)) (by k_is) (by k_is) (by k_is) (by k_is) (by k_is) (by k_is) (evs_cons (ev_methP C (ev_clssm C (ev_glob C (by k_is)) (by k_is) (by k_is) (by k_is) (by k_is) (by k_is) (by k_is) (evs_cons (ev_name C rfl).ev evs_nil) con_hlF.p rfl rfl) gm_digest (by k_is) evs_nil (con_digest hz).p rfl rfl) evs_nil) con_hlF.p rfl rfl) gm_digest (by k_is) evs_nil (con_digest (by rw [hashB_size]; decide)).p rfl rfl)
end
theorem five_of {α : Type} : ∀ {l : List α}, l.length = 5 → ∃ a b c d e, l = [a, b, c, d, e]
  | [a, b, c, d, e], _ => ⟨a, b, c, d, e, rfl⟩
theorem six_of {α : Type} : ∀ {l : List α}, l.length = 6 → ∃ a b c d e f, l = [a, b, c, d, e, f]
  | [a, b, c, d, e, f], _ => ⟨a, b, c, d, e, f, rfl⟩
section
variable {w : World} {DB : Heap → Prop} {x : Addr} {d : Array UInt8} {its : List (Array UInt8)} {o : Int × Array UInt8} {iv : InV} {tv : TxV} {R Z : RP}
theorem con_scr_init : ConXA (β := Unit) (lw w DB) 777 (fun vs => match vs with | [] => ⟨[], []⟩ | v :: vs => ⟨v :: vs, []⟩) [IsVal (.ref x), IsBytes d] (RStar (RObj 850 x []) R) (fun _ => IsNone) (fun _ => RStar (RObj 850 x [(Str.ofString "data", IsBytes d)]) R) 11 110 := by
  refine con_funN (a := 10) (b := 100) (ns := [Str.ofString "self", Str.ofString "data"]) rfl ⟨_, _, _, _, _, _, _, _, _, _, (by k_is), (by k_is), ?_⟩ rfl fun c hcl C => ?_
  · intro vs hl s X
    obtain ⟨v1, v2, rfl⟩ := two_of hl
    exact binds_K X rfl (by k_is) rfl rfl rfl
  exact blk_setAttr C (ev_name C rfl).ev (fun _ => ev_name C rfl) handed_bytes (by k_is) (by k_is) (by k_is) (by k_is) rfl blk_fin
theorem con_scr_new : Con (lw w DB) 850 [IsBytes d] R (IsScr d) R 12 111 := conp_new (by k_is) (by k_is) (by k_is) fun x => con_scr_init
theorem con_wit_init (hn : its.length ≤ 1000) : ConXA (β := Unit) (lw w DB) 868 (fun vs => match vs with | [] => ⟨[], []⟩ | v :: vs => ⟨v :: vs, []⟩) [IsVal (.ref x), IsListOf IsBytes its] (RStar (RObj 895 x []) R) (fun _ => IsNone) (fun _ => RStar (RObj 895 x [(Str.ofString "items", IsListOf IsBytes its)]) R) 11 110 := by
  refine con_funN (a := 10) (b := 100) (ns := [Str.ofString "self", Str.ofString "items"]) rfl ⟨_, _, _, _, _, _, _, _, _, _, (by k_is), (by k_is), ?_⟩ rfl fun c hcl C => ?_
  · intro vs hl s X
    obtain ⟨v1, v2, rfl⟩ := two_of hl
    exact binds_K X rfl (by k_is) rfl rfl rfl
  exact blk_setAttr C (ev_cutAll (ev_name C rfl).ev (Nat.le_trans hn (by decide))) (fun _ => ev_name C rfl) handed_list (by k_is) (by k_is) (by k_is) (by k_is) rfl blk_fin
theorem con_wit_new (hn : its.length ≤ 1000) : Con (lw w DB) 895 [IsListOf IsBytes its] R (IsWit its) R 12 111 := conp_new (by k_is) (by k_is) (by k_is) fun x => con_wit_init hn
theorem con_out_init : ConXA (β := Unit) (lw w DB) 1130 (fun vs => match vs with | [] => ⟨[], []⟩ | v :: vs => ⟨v :: vs, []⟩) [IsVal (.ref x), IsInt o.1, IsScr o.2] (RStar (RObj 1150 x []) R) (fun _ => IsNone) (fun _ => RStar (RObj 1150 x [(Str.ofString "value", IsInt o.1), (Str.ofString "script_pubkey", IsScr o.2)]) R) 11 110 := by
  refine con_funN (a := 10) (b := 100) (ns := [Str.ofString "self", Str.ofString "value", Str.ofString "script_pubkey"]) rfl ⟨_, _, _, _, _, _, _, _, _, _, (by k_is), (by k_is), ?_⟩ rfl fun c hcl C => ?_
  · intro vs hl s X
    obtain ⟨v1, v2, v3, rfl⟩ := three_of hl
    exact BindsTo.of_eq rfl
  exact blk_setAttr C (ev_name C rfl).ev (fun _ => ev_name C rfl) handed_int (by k_is) (by k_is) (by k_is) (by k_is) rfl (blk_setAttr C (ev_name C rfl).ev (fun _ => ev_name C rfl) handed_obj (by k_is) (by k_is) (by k_is) (by k_is) rfl blk_fin)
theorem con_out_new : Con (lw w DB) 1150 [IsInt o.1, IsScr o.2] R (IsOut o) R 12 111 := conp_new (by k_is) (by k_is) (by k_is) fun x => con_out_init
theorem con_in_init : ConXA (β := Unit) (lw w DB) 1085 (fun vs => match vs with | [] => ⟨[], []⟩ | v :: vs => ⟨v :: vs, []⟩) [IsVal (.ref x), IsBytes iv.name, IsInt iv.place, IsScr iv.octets, IsInt iv.seq, IsWit iv.its] (RStar (RObj 1114 x []) R) (fun _ => IsNone) (fun _ => RStar (RObj 1114 x (inF iv)) R) 11 110 := by
  refine con_funN (a := 10) (b := 100) (ns := [Str.ofString "self", Str.ofString "txid", Str.ofString "vout", Str.ofString "script_sig", Str.ofString "sequence", Str.ofString "witness"]) rfl ⟨_, _, _, _, _, _, _, _, _, _, (by k_is), (by k_is), ?_⟩ rfl fun c hcl C => ?_
  · intro vs hl s X
    obtain ⟨v1, v2, v3, v4, v5, v6, rfl⟩ := six_of hl
    exact binds_K X rfl (by k_is) rfl rfl rfl
  refine blk_ifN (tst_isNoneF (ev_name C rfl).ev fun N v => obj_some) (blk_ifN (tst_isNoneF (ev_name C rfl).ev fun N v => obj_some) ?_)
  exact blk_setAttr C (ev_name C rfl).ev (fun _ => ev_name C rfl) handed_bytes (by k_is) (by k_is) (by k_is) (by k_is) rfl (blk_setAttr C (ev_name C rfl).ev (fun _ => ev_name C rfl) handed_int (by k_is) (by k_is) (by k_is) (by k_is) rfl (blk_setAttr C (ev_name C rfl).ev (fun _ => ev_name C rfl) handed_obj (by k_is) (by k_is) (by k_is) (by k_is) rfl (blk_setAttr C (ev_name C rfl).ev (fun _ => ev_name C rfl) handed_int (by k_is) (by k_is) (by k_is) (by k_is) rfl (blk_setAttr C (ev_name C rfl).ev (fun _ => ev_name C rfl) handed_obj (by k_is) (by k_is) (by k_is) (by k_is) rfl blk_fin))))
theorem con_in_new5 : Con (lw w DB) 1114 [IsBytes iv.name, IsInt iv.place, IsScr iv.octets, IsInt iv.seq, IsWit iv.its] R (IsIn iv) R 12 111 := conp_new (by k_is) (by k_is) (by k_is) fun x => con_in_init
theorem con_in_init4 : ConXA (β := Unit) (lw w DB) 1085 (fun vs => match vs with | [] => ⟨[], []⟩ | v :: vs => ⟨v :: vs, []⟩) [IsVal (.ref x), IsBytes iv.name, IsInt iv.place, IsScr iv.octets, IsInt iv.seq] (RStar (RObj 1114 x []) R) (fun _ => IsNone) (fun _ => RStar (RObj 1114 x (inF { iv with its := [] })) R) 31 310 := by
  refine con_defN (a := 30) (b := 300) (binds := fun vs => [(Str.ofString "self", vs.getD 0 .none), (Str.ofString "txid", vs.getD 1 .none), (Str.ofString "vout", vs.getD 2 .none), (Str.ofString "script_sig", vs.getD 3 .none), (Str.ofString "sequence", vs.getD 4 .none), (Str.ofString "witness", .none)])
    (V0 := [(Str.ofString "witness", IsNone), (Str.ofString "sequence", IsInt iv.seq), (Str.ofString "script_sig", IsScr iv.octets), (Str.ofString "vout", IsInt iv.place), (Str.ofString "txid", IsBytes iv.name), (Str.ofString "self", IsVal (.ref x))]) ⟨_, _, _, _, _, _, _, _, _, _, (by k_is), (by k_is), ?_⟩ (fun vs hl => locs rfl) ?_ fun c hcl C => ?_
  · intro vs hl s X
    obtain ⟨v1, v2, v3, v4, v5, rfl⟩ := five_of hl
    exact binds_K X rfl (by k_is) rfl rfl rfl
  · intro vs N hl hT
    obtain ⟨v1, v2, v3, v4, v5, rfl⟩ := five_of hl
    exact zip_ok (ns := [Str.ofString "witness", Str.ofString "sequence", Str.ofString "script_sig", Str.ofString "vout", Str.ofString "txid", Str.ofString "self"]) (Ps := [IsNone, IsInt iv.seq, IsScr iv.octets, IsInt iv.place, IsBytes iv.name, IsVal (.ref x)]) (vs := [.none, v5, v4, v3, v2, v1]) rfl
      (TOk.cons rfl (TOk.cons (hT _ (.tail _ (.tail _ (.tail _ (.tail _ (.head _)))))) (TOk.cons (hT _ (.tail _ (.tail _ (.tail _ (.head _))))) (TOk.cons (hT _ (.tail _ (.tail _ (.head _)))) (TOk.cons (hT _ (.tail _ (.head _))) (TOk.cons (hT _ (.head _)) (fun z hz => nomatch hz)))))))
  refine blk_ifN (tst_isNoneF (ev_name C rfl).ev fun N v => obj_some) (blk_ifT (tst_isNone (ev_name C rfl).ev) (blk_assign C (ev_call C (ev_glob C (by k_is)) (by k_is) (evs_cons (ev_list (Pa := IsBytes) (as := []) evs_nil (by decide)) evs_nil) (con_wit_new (by decide)).p rfl rfl) blk_nil) ?_)
  exact blk_setAttr C (ev_name C rfl).ev (fun _ => ev_name C rfl) handed_bytes (by k_is) (by k_is) (by k_is) (by k_is) rfl (blk_setAttr C (ev_name C rfl).ev (fun _ => ev_name C rfl) handed_int (by k_is) (by k_is) (by k_is) (by k_is) rfl (blk_setAttr C (ev_name C rfl).ev (fun _ => ev_name C rfl) handed_obj (by k_is) (by k_is) (by k_is) (by k_is) rfl (blk_setAttr C (ev_name C rfl).ev (fun _ => ev_name C rfl) handed_int (by k_is) (by k_is) (by k_is) (by k_is) rfl (blk_setAttr C (ev_name C rfl).ev (fun _ => ev_name C rfl) handed_obj (by k_is) (by k_is) (by k_is) (by k_is) rfl blk_fin))))
theorem con_in_new4X : ConX (β := Addr) (lw w DB) 1114 [IsBytes iv.name, IsInt iv.place, IsScr iv.octets, IsInt iv.seq] R (fun x => IsVal (.ref x)) (fun x => RStar (RObj 1114 x (inF { iv with its := [] })) R) 32 311 := con_newX (by k_is) (by k_is) (by k_is) fun x => con_in_init4
theorem con_in_new4 : Con (lw w DB) 1114 [IsBytes iv.name, IsInt iv.place, IsScr iv.octets, IsInt iv.seq] R (IsIn { iv with its := [] }) R 32 311 := ConX.con (ConXA.freeze con_in_new4X)
def txF4 (ver lock : Int) (ins : List InV) (outs : List (Int × Array UInt8)) : List (Str × VP) := [(Str.ofString "version", IsInt ver), (Str.ofString "locktime", IsInt lock), (Str.ofString "vin", IsListOf IsIn ins), (Str.ofString "vout", IsListOf IsOut outs)]
theorem con_tx_clear {ver lock : Int} {ins : List InV} {outs : List (Int × Array UInt8)} : Con (lw w DB) 957 [IsVal (.ref x)] (RStar (RObj 1068 x (txF4 ver lock ins outs)) R) IsNone (RStar (RObj 1068 x (txF ⟨ver, lock, ins, outs⟩)) R) 11 110 := by
  refine ConX.con (con_funN (a := 10) (b := 100) (ns := [Str.ofString "self"]) (mk := fun vs => ⟨vs, []⟩) rfl ⟨_, _, _, _, _, _, _, _, _, _, (by k_is), (by k_is), ?_⟩ rfl fun c hcl C => ?_)
  · intro vs hl s X
    obtain ⟨v1, rfl⟩ := one_of hl
    exact BindsTo.of_eq rfl
  exact blk_setAttr C (ev_none.ev) (fun _ => ev_name C rfl) handed_none (by k_is) (by k_is) (by k_is) (by k_is) rfl (blk_setAttr C (ev_none.ev) (fun _ => ev_name C rfl) handed_none (by k_is) (by k_is) (by k_is) (by k_is) rfl (blk_setAttr C (ev_none.ev) (fun _ => ev_name C rfl) handed_none (by k_is) (by k_is) (by k_is) (by k_is) rfl (blk_setAttr C (ev_none.ev) (fun _ => ev_name C rfl) handed_none (by k_is) (by k_is) (by k_is) (by k_is) rfl (blk_setAttr C (ev_none.ev) (fun _ => ev_name C rfl) handed_none (by k_is) (by k_is) (by k_is) (by k_is) rfl blk_fin))))
theorem con_tx_init {ver lock : Int} {ins : List InV} {outs : List (Int × Array UInt8)} : ConXA (β := Unit) (lw w DB) 950 (fun vs => match vs with | [] => ⟨[], []⟩ | v :: vs => ⟨v :: vs, []⟩) [IsVal (.ref x), IsInt ver, IsListOf IsIn ins, IsListOf IsOut outs, IsInt lock] (RStar (RObj 1068 x []) R) (fun _ => IsNone) (fun _ => RStar (RObj 1068 x (txF ⟨ver, lock, ins, outs⟩)) R) 21 210 := by
  refine con_funN (a := 20) (b := 200) (ns := [Str.ofString "self", Str.ofString "version", Str.ofString "vin", Str.ofString "vout", Str.ofString "locktime"]) rfl ⟨_, _, _, _, _, _, _, _, _, _, (by k_is), (by k_is), ?_⟩ rfl fun c hcl C => ?_
  · intro vs hl s X
    obtain ⟨v1, v2, v3, v4, v5, rfl⟩ := five_of hl
    exact binds_K X rfl (by k_is) rfl rfl rfl
  exact blk_setAttr C (ev_name C rfl).ev (fun _ => ev_name C rfl) handed_int (by k_is) (by k_is) (by k_is) (by k_is) rfl (blk_setAttr C (ev_name C rfl).ev (fun _ => ev_name C rfl) handed_int (by k_is) (by k_is) (by k_is) (by k_is) rfl (blk_setAttr C (ev_name C rfl).ev (fun _ => ev_name C rfl) handed_list (by k_is) (by k_is) (by k_is) (by k_is) rfl (blk_setAttr C (ev_name C rfl).ev (fun _ => ev_name C rfl) handed_list (by k_is) (by k_is) (by k_is) (by k_is) rfl (blk_exprNone (ev_meth C (ev_name C rfl) (gm_robj (by k_is) (by k_is) (by k_is) rfl) (by k_is) evs_nil con_tx_clear.p rfl rfl) blk_fin))))
theorem con_tx_new {ver lock : Int} {ins : List InV} {outs : List (Int × Array UInt8)} : Con (lw w DB) 1068 [IsInt ver, IsListOf IsIn ins, IsListOf IsOut outs, IsInt lock] R (IsTx ⟨ver, lock, ins, outs⟩) R 22 211 := conp_new (by k_is) (by k_is) (by k_is) fun x => con_tx_init
end
theorem bits_small {i : Int} (h0 : 0 ≤ i) (h1 : i ≤ 1000) : Builtin.Int.intBits i ≤ 20 := Nat.le_trans (KTBy.bits_le (k := 2) (by rfl) h0 (by omega)) (by decide)
structure BX (xs : List Int) : Prop where
  lay : (PyData.list (xs.map PyData.int)).layable0 = true
  len : xs.length ≤ 63
def numZ (xs : List Int) (p : Int) : Int := (if 0 < xs.length then xs.getD (Int.fmod p (xs.length : Int)).toNat 0 else 0) + 7 * p
theorem numZ_bits {xs : List Int} {p : Int} (bx : BX xs) (h0 : 0 ≤ p) (h1 : p ≤ 1000) : Builtin.Int.intBits (numZ xs p) ≤ 1100000 := by
  unfold numZ
  split
  · exact Nat.le_trans (bits_add (kbm_getD bx.lay (by decide)) (MineP.bits_mul (a := 3) (b := 20) (by decide) (bits_small h0 h1))) (by decide)
  · exact Nat.le_trans (bits_add (m := 1) (by decide) (MineP.bits_mul (a := 3) (b := 20) (by decide) (bits_small h0 h1))) (by decide)
def octA (n k : Int) : Array UInt8 := leB k.toNat (Int.fmod (n * 16395309179817738009521987751666139093583423331470737840399399094199505546377) ((256 : Int) ^ k.toNat))
theorem octA_size {n k : Int} (h0 : 0 ≤ k) : ((octA n k).size : Int) = k := by unfold octA; rw [leB_size]; omega
section
variable {w : World} {DB : Heap → Prop} {R : RP} {sl : Addr} {xs : List Int} {p n k : Int}
theorem con_number (bx : BX xs) (hD : ∀ h, DB h → BList sl xs h) (h0 : 0 ≤ p) (h1 : p ≤ 1000) : Con (lw w DB) 1159 [IsVal (.ref sl), IsInt p] R (IsInt (numZ xs p)) R 11 110 := by
  refine con_fun (a := 10) (b := 100) (ns := [Str.ofString "script", Str.ofString "place"]) rfl ⟨_, _, _, _, _, _, _, _, _, _, (by k_is), (by k_is), ?_⟩ rfl fun c hcl C => ?_
  · intro vs hl s X
    obtain ⟨v1, v2, rfl⟩ := two_of hl
    exact BindsTo.of_eq rfl
  refine exs_ret (ev_bin (ev_ifexp (tst_base C hD bx.lay (ev_name C rfl).ev rfl) (fun q => ?_) (fun q => ?_)) (ev_bin ev_int.ev (ev_name C rfl).ev (bin_mulL (by decide) (Nat.le_trans (bits_small h0 h1) (by decide)))) bin_add)
  · have q' : 0 < xs.length := of_decide_eq_true q
    rw [if_pos q']
    exact ev_itemBase C hD (ev_name C rfl).ev (ev_bin (ev_name C rfl).ev (ev_lenBase C hD bx.lay (ev_builtin C (by k_is) (by boot_fast) (by decide)) (ev_name C rfl).ev) (bin_mod (fun h => by have := eq_of_beq h; omega))) (fmod_lo _ (by omega)) (fmod_hi _ (by omega)) (Nat.le_trans bx.len (by decide))
  · rw [if_neg (of_decide_eq_false q)]
    exact ev_int.ev
theorem con_octets (hn : Builtin.Int.intBits n ≤ 1600000) (h0 : 0 ≤ k) (h1 : k ≤ 60) : Con (lw w DB) 1166 [IsInt n, IsInt k] R (IsBytes (octA n k)) R 11 110 := by
  obtain ⟨k, rfl⟩ := Int.eq_ofNat_of_zero_le h0
  have hk : k ≤ 64 := by omega
  have hp : (0 : Int) < 256 ^ k := Int.pow_pos (by decide)
  unfold octA
  rw [Int.toNat_natCast]
  refine con_fun (a := 10) (b := 100) (ns := [Str.ofString "number", Str.ofString "size"]) rfl ⟨_, _, _, _, _, _, _, _, _, _, (by k_is), (by k_is), ?_⟩ rfl fun c hcl C => ?_
  · intro vs hl s X
    obtain ⟨v1, v2, rfl⟩ := two_of hl
    exact BindsTo.of_eq rfl
  exact exs_ret (ev_methCP C (ev_bin (ev_bin (ev_name C rfl).ev ev_int.ev (bin_mulL hn (by decide))) (ev_bin ev_int.ev (ev_name C rfl).ev (bin_pow256 hk)) (bin_mod (by simpa using Int.ne_of_gt hp))) gb_to_bytes (evs_cons (ev_name C rfl).ev (evs_cons ev_str.ev evs_nil)) (bcon_to_leW hk (fmod_lo _ hp) (fmod_hi _ hp)).c)
end
def itsZ (n : Int) : List (Array UInt8) := if (Int.fmod n 3 == 0) = true then (List.range (1 + Int.fmod (Int.fdiv n 7) 2).toNat).map fun j : Nat => octA (n + (j : Int)) (Int.fmod (Int.fdiv n 3) 7) else []
def inRow (xs : List Int) (p : Int) (k : Nat) : InV :=
  ⟨octA (numZ xs (p + 1 + k)) 32, Int.fmod (numZ xs (p + 1 + k)) ((2 : Int) ^ (32 : Int).toNat), octA (numZ xs (p + 1 + k) + 1) (Int.fmod (Int.fdiv (numZ xs (p + 1 + k)) 5) 60), Int.fmod (numZ xs (p + 1 + k) * 65537) ((2 : Int) ^ (32 : Int).toNat), itsZ (numZ xs (p + 1 + k))⟩
def insZ (xs : List Int) (p : Int) : List InV := (List.range (1 + Int.fmod (numZ xs p) 2).toNat).map (inRow xs p)
def outRow (xs : List Int) (p : Int) (k : Nat) : Int × Array UInt8 :=
  (Int.fmod (numZ xs (p + 1 + k) * 1125899906842597) ((2 : Int) ^ (51 : Int).toNat), octA (numZ xs (p + 3 + k)) (Int.fmod (numZ xs (p + 3 + k)) 50))
def outsZ (xs : List Int) (p : Int) : List (Int × Array UInt8) := (List.range (Int.fmod (numZ xs p) 3).toNat).map (outRow xs p)
theorem bits_near {n i : Int} (h : Builtin.Int.intBits n ≤ 1100000) (h0 : 0 ≤ i) (h1 : i ≤ 1000) : Builtin.Int.intBits (n + i) ≤ 1600000 := Nat.le_trans (bits_add h (bits_small h0 h1)) (by decide)
theorem its_len {n : Int} : (itsZ n).length ≤ 2 := by
  unfold itsZ
  have := fmod_hi (Int.fdiv n 7) (show (0 : Int) < 2 by decide)
  split
  · rw [List.length_map, List.length_range]; omega
  · exact Nat.zero_le _
theorem its_size {n : Int} : ∀ d ∈ itsZ n, d.size ≤ 6 := by
  intro d hd
  unfold itsZ at hd
  have h0 := fmod_lo (Int.fdiv n 3) (show (0 : Int) < 7 by decide)
  have h1 := fmod_hi (Int.fdiv n 3) (show (0 : Int) < 7 by decide)
  split at hd
  · obtain ⟨j, -, rfl⟩ := List.mem_map.mp hd
    have := octA_size (n := n + (j : Int)) h0
    omega
  · cases hd
theorem wit_small {its : List (Array UInt8)} (h : its.length ≤ 2) (hd : ∀ d ∈ its, d.size ≤ 6) : (witB its).size ≤ 1000 := by
  have h1 := catA_size (fun d : Array UInt8 => sized d) 7 its (fun d hm => by have := hd d hm; simp only [Array.size_append, List.size_toArray, List.length_cons, List.length_nil]; omega)
  have h2 := Nat.mul_le_mul_left 7 h
  unfold witB
  simp only [Array.size_append, List.size_toArray, List.length_cons, List.length_nil]
  omega
theorem inRow_ok (xs : List Int) (p : Int) (k : Nat) : (inRow xs p k).Ok ∧ (inRow xs p k).name.size = 32 ∧ (witB (inRow xs p k).its).size ≤ 1000 := by
  have e : (2 : Int) ^ (32 : Int).toNat = 4294967296 := by decide
  unfold inRow
  rw [e]
  have h32 := octA_size (n := numZ xs (p + 1 + k)) (k := 32) (by decide)
  have a0 := fmod_lo (Int.fdiv (numZ xs (p + 1 + k)) 5) (show (0 : Int) < 60 by decide)
  have a1 := fmod_hi (Int.fdiv (numZ xs (p + 1 + k)) 5) (show (0 : Int) < 60 by decide)
  have a2 := octA_size (n := numZ xs (p + 1 + k) + 1) a0
  have w1 := its_len (n := numZ xs (p + 1 + k))
  have w2 := its_size (n := numZ xs (p + 1 + k))
  refine ⟨⟨by dsimp only; omega, fmod_lo _ (by decide), fmod_hi _ (by decide), by dsimp only; omega, fmod_lo _ (by decide), fmod_hi _ (by decide), by dsimp only; omega, fun d hd => Nat.lt_of_le_of_lt (w2 d hd) (by decide)⟩, by dsimp only; omega, wit_small w1 w2⟩
theorem insZ_ok {xs : List Int} {p : Int} : ∀ iv ∈ insZ xs p, iv.Ok ∧ iv.name.size = 32 ∧ (witB iv.its).size ≤ 1000 := by
  intro iv h
  obtain ⟨k, -, rfl⟩ := List.mem_map.mp h
  exact inRow_ok xs p k
theorem insZ_len {xs : List Int} {p : Int} : 1 ≤ (insZ xs p).length ∧ (insZ xs p).length ≤ 2 := by
  unfold insZ
  have h0 := fmod_lo (numZ xs p) (show (0 : Int) < 2 by decide)
  have h1 := fmod_hi (numZ xs p) (show (0 : Int) < 2 by decide)
  rw [List.length_map, List.length_range]
  omega
theorem outsZ_ok {xs : List Int} {p : Int} : ∀ o ∈ outsZ xs p, o.2.size < 253 ∧ 0 ≤ o.1 ∧ o.1 < 18446744073709551616 := by
  intro o h
  obtain ⟨k, -, rfl⟩ := List.mem_map.mp h
  unfold outRow
  have e : (2 : Int) ^ (51 : Int).toNat = 2251799813685248 := by decide
  rw [e]
  have a0 := fmod_lo (numZ xs (p + 3 + k)) (show (0 : Int) < 50 by decide)
  have a1 := fmod_hi (numZ xs (p + 3 + k)) (show (0 : Int) < 50 by decide)
  have a2 := octA_size (n := numZ xs (p + 3 + k)) a0
  have b1 := fmod_hi (numZ xs (p + 1 + k) * 1125899906842597) (show (0 : Int) < 2251799813685248 by decide)
  exact ⟨by dsimp only; omega, fmod_lo _ (by decide), by dsimp only; omega⟩
theorem outsZ_len {xs : List Int} {p : Int} : (outsZ xs p).length ≤ 2 := by
  unfold outsZ
  have h1 := fmod_hi (numZ xs p) (show (0 : Int) < 3 by decide)
  rw [List.length_map, List.length_range]
  omega
section
variable {w : World} {DB : Heap → Prop} {R : RP} {sl : Addr} {xs : List Int} {p n k : Int} {ins : List InV} {outs : List (Int × Array UInt8)}
theorem con_keptI (h : ∀ iv ∈ ins, iv.Ok) (hz : ins.length ≤ 8) : Con (lw w DB) 1181 [IsListOf IsIn ins] R (IsListOf IsBytes (ins.map inB)) R 51 510 := by
  refine con_fun (a := 50) (b := 500) (ns := [Str.ofString "things"]) rfl ⟨_, _, _, _, _, _, _, _, _, _, (by k_is), (by k_is), ?_⟩ rfl fun c hcl C => ?_
  · intro vs hl s X
    obtain ⟨v1, rfl⟩ := one_of hl
    exact BindsTo.of_eq rfl
  exact exs_ret (ev_comp inB (ev_name C rfl).ev (Nat.le_trans hz (by decide)) fun A q iv hm => ev_meth C ev_nameC gm_in_ser (by k_is) evs_nil (con_in_ser (h iv hm)).p rfl rfl)
theorem con_keptO (h : ∀ o ∈ outs, o.2.size < 253 ∧ 0 ≤ o.1 ∧ o.1 < 18446744073709551616) (hz : outs.length ≤ 8) : Con (lw w DB) 1181 [IsListOf IsOut outs] R (IsListOf IsBytes (outs.map fun o => outB o.1 o.2)) R 51 510 := by
  refine con_fun (a := 50) (b := 500) (ns := [Str.ofString "things"]) rfl ⟨_, _, _, _, _, _, _, _, _, _, (by k_is), (by k_is), ?_⟩ rfl fun c hcl C => ?_
  · intro vs hl s X
    obtain ⟨v1, rfl⟩ := one_of hl
    exact BindsTo.of_eq rfl
  exact exs_ret (ev_comp (fun o : Int × Array UInt8 => outB o.1 o.2) (ev_name C rfl).ev (Nat.le_trans hz (by decide)) fun A q o hm => ev_meth C ev_nameC gm_out_ser (by k_is) evs_nil (con_out_ser (h o hm).1 (h o hm).2.1 (h o hm).2.2).p rfl rfl)
theorem con_outputs (bx : BX xs) (hD : ∀ h, DB h → BList sl xs h) (h0 : 0 ≤ p) (h1 : p ≤ 900) : Con (lw w DB) 1176 [IsVal (.ref sl), IsInt p] R (IsListOf IsOut (outsZ xs p)) R 31 310 := by
  obtain ⟨n, hn⟩ := Int.eq_ofNat_of_zero_le (fmod_lo (numZ xs p) (show (0 : Int) < 3 by decide))
  have hn2 := fmod_hi (numZ xs p) (show (0 : Int) < 3 by decide)
  unfold outsZ
  rw [hn, Int.toNat_natCast]
  refine con_defC (a := 30) (b := 300) (binds := fun vs => [(Str.ofString "script", vs.getD 0 .none), (Str.ofString "place", vs.getD 1 .none)]) (V0 := []) (W0 := [(Str.ofString "place", IsInt p), (Str.ofString "script", IsVal (.ref sl))]) ⟨_, _, _, _, _, _, _, _, _, _, (by k_is), (by k_is), ?_⟩ (fun vs hl => rfl) (by decide) ?_ fun c C => ?_
  · intro vs hl s X
    obtain ⟨v1, v2, rfl⟩ := two_of hl
    exact BindsTo.of_eq rfl
  · intro L' cdv vs N hl hT
    obtain ⟨v1, v2, rfl⟩ := two_of hl
    exact ⟨.nil, (VOk.nil.set (hT (IsVal (.ref sl), v1) (.head _))).set (hT (IsInt p, v2) (.tail _ (.head _)))⟩
  refine exs_ret (ev_req (ev_compRange (Pb := IsOut) (n := n) (outRow xs p) (ev_builtin C (by k_is) (by boot_fast) (by decide)) (by rw [← hn]; exact (ev_bin (ev_call C (ev_glob C (by k_is)) (by k_is) (evs_cons (ev_cell (x := Str.ofString "script") C rfl (hasC_here (x := Str.ofString "script") rfl rfl)).ev (evs_cons (ev_cell (x := Str.ofString "place") C rfl (hasC_here (x := Str.ofString "place") rfl rfl)).ev evs_nil)) (con_number bx hD h0 (by omega)).p rfl rfl) ev_int.ev (bin_mod (by decide)))) (by omega) (fun A q i hi => ?_)) REq.refl req_any)
  have hb1 : Builtin.Int.intBits (numZ xs (p + 1 + i)) ≤ 1100000 := numZ_bits bx (by omega) (by omega)
  have hb3 : Builtin.Int.intBits (numZ xs (p + 3 + i)) ≤ 1100000 := numZ_bits bx (by omega) (by omega)
  exact (ev_call C (ev_globC C (by k_is)) (by k_is) (evs_cons (ev_bin (ev_bin (ev_call C (ev_globC C (by k_is)) (by k_is) (evs_cons (ev_free (x := Str.ofString "script") rfl (hasC_tail (hasC_tail (hasC_here (x := Str.ofString "script") rfl rfl)))).ev (evs_cons (ev_bin (ev_bin (ev_free (x := Str.ofString "place") rfl (hasC_tail (hasC_tail (hasC_here (x := Str.ofString "place") rfl rfl)))).ev ev_int.ev bin_add) (ev_nameC).ev bin_add) evs_nil)) (con_number bx hD (by omega) (by omega)).p rfl rfl) ev_int.ev (bin_mulL (Nat.le_trans hb1 (by decide)) (by decide))) (ev_bin ev_int.ev ev_int.ev (bin_pow (by decide) (by decide) (by decide) (by decide) (by decide))) (bin_mod (by decide))) (evs_cons (ev_call C (ev_globC C (by k_is)) (by k_is) (evs_cons (ev_call C (ev_globC C (by k_is)) (by k_is) (evs_cons (ev_call C (ev_globC C (by k_is)) (by k_is) (evs_cons (ev_free (x := Str.ofString "script") rfl (hasC_tail (hasC_tail (hasC_here (x := Str.ofString "script") rfl rfl)))).ev (evs_cons (ev_bin (ev_bin (ev_free (x := Str.ofString "place") rfl (hasC_tail (hasC_tail (hasC_here (x := Str.ofString "place") rfl rfl)))).ev ev_int.ev bin_add) (ev_nameC).ev bin_add) evs_nil)) (con_number bx hD (by omega) (by omega)).p rfl rfl) (evs_cons (ev_bin (ev_call C (ev_globC C (by k_is)) (by k_is) (evs_cons (ev_free (x := Str.ofString "script") rfl (hasC_tail (hasC_tail (hasC_here (x := Str.ofString "script") rfl rfl)))).ev (evs_cons (ev_bin (ev_bin (ev_free (x := Str.ofString "place") rfl (hasC_tail (hasC_tail (hasC_here (x := Str.ofString "place") rfl rfl)))).ev ev_int.ev bin_add) (ev_nameC).ev bin_add) evs_nil)) (con_number bx hD (by omega) (by omega)).p rfl rfl) ev_int.ev (bin_mod (by decide))) evs_nil)) (con_octets (Nat.le_trans hb3 (by decide)) (fmod_lo _ (by decide)) (Int.le_trans (Int.le_of_lt (fmod_hi _ (by decide))) (by decide))).p rfl rfl) evs_nil) con_scr_new.p rfl rfl) evs_nil)) (con_out_new (o := outRow xs p i)).p rfl rfl)
theorem con_inputs (bx : BX xs) (hD : ∀ h, DB h → BList sl xs h) (h0 : 0 ≤ p) (h1 : p ≤ 900) : Con (lw w DB) 1171 [IsVal (.ref sl), IsInt p] R (IsListOf IsIn (insZ xs p)) R 31 310 := by
  have hn1 := fmod_lo (numZ xs p) (show (0 : Int) < 2 by decide)
  have hn2 := fmod_hi (numZ xs p) (show (0 : Int) < 2 by decide)
  obtain ⟨n, hn⟩ := Int.eq_ofNat_of_zero_le (show 0 ≤ 1 + Int.fmod (numZ xs p) 2 by omega)
  unfold insZ
  rw [hn, Int.toNat_natCast]
  refine con_defC (a := 30) (b := 300) (binds := fun vs => [(Str.ofString "script", vs.getD 0 .none), (Str.ofString "place", vs.getD 1 .none)]) (V0 := [(Str.ofString "place", IsInt p), (Str.ofString "script", IsVal (.ref sl))]) (W0 := []) ⟨_, _, _, _, _, _, _, _, _, _, (by k_is), (by k_is), ?_⟩ (fun vs hl => rfl) (by decide) ?_ fun c C => ?_
  · intro vs hl s X
    obtain ⟨v1, v2, rfl⟩ := two_of hl
    exact BindsTo.of_eq rfl
  · intro L' cdv vs N hl hT
    obtain ⟨v1, v2, rfl⟩ := two_of hl
    exact ⟨(VOk.nil.set (hT (IsVal (.ref sl), v1) (.head _))).set (hT (IsInt p, v2) (.tail _ (.head _))), .nil⟩
  refine exs_newL IsIn C fun l => ?_
  refine exs_req ?_ REq.assoc'
  refine exs_range (n := n) (Z := R) (fun i => [(Str.ofString "rows", IsVal (.ref l)), (Str.ofString "place", IsInt p), (Str.ofString "script", IsVal (.ref sl))]) (fun i => RStar (RLst l IsIn ((List.range i).map (inRow xs p))) (RCs (c.wc _).cl [])) C
    (ev_builtin C (by k_is) (by boot_fast) (by decide)) (by rw [← hn]; exact (ev_bin ev_int.ev (ev_bin (ev_call C (ev_glob C (by k_is)) (by k_is) (evs_cons (ev_name C rfl).ev (evs_cons (ev_name C rfl).ev evs_nil)) (con_number bx hD h0 (by omega)).p rfl rfl) ev_int.ev (bin_mod (by decide))) bin_add)) (by omega) (pick_cons rfl (pick_cons rfl (pick_cons rfl pick_nil))).ok (fun Z' i hi => ?_) ?_
  · have hb : Builtin.Int.intBits (numZ xs (p + 1 + i)) ≤ 1100000 := numZ_bits bx (by omega) (by omega)
    obtain ⟨m, hm⟩ := Int.eq_ofNat_of_zero_le (show 0 ≤ 1 + Int.fmod (Int.fdiv (numZ xs (p + 1 + i)) 7) 2 by have := fmod_lo (Int.fdiv (numZ xs (p + 1 + i)) 7) (show (0 : Int) < 2 by decide); omega)
    have hm2 := fmod_hi (Int.fdiv (numZ xs (p + 1 + i)) 7) (show (0 : Int) < 2 by decide)
    show Blk _ _ _ _ _ _ _ (RStar (RStar (RLst l IsIn ((List.range (i + 1)).map (inRow xs p))) _) _)
    rw [List.range_succ, List.map_append]
    refine blk_assignC C (ev_call C (ev_glob C (by k_is)) (by k_is) (evs_cons (ev_name C rfl).ev (evs_cons (ev_bin (ev_bin (ev_name C rfl).ev ev_int.ev bin_add) (ev_name C rfl).ev bin_add) evs_nil)) (con_number bx hD (by omega) (by omega)).p rfl rfl) (REq.assoc.trans REq.swap) rfl (show List.Nodup [Str.ofString "pick"] from by decide) ?_
    refine blk_assign (P := IsListOf IsBytes (itsZ (numZ xs (p + 1 + i)))) C (ev_ifexpR (bv := (Int.fmod (numZ xs (p + 1 + i)) 3 == 0)) (tst_eqInt (ev_bin (ev_cell (x := Str.ofString "pick") C rfl (hasC_here (x := Str.ofString "pick") rfl rfl)).ev ev_int.ev (bin_mod (by decide))) ev_int.ev rfl) (fun q => ?_) (fun q => ?_)) ?_
    · unfold itsZ
      rw [if_pos q, hm, Int.toNat_natCast]
      refine ev_compRange (Pb := IsBytes) (n := m) (fun j => octA (numZ xs (p + 1 + i) + (j : Int)) (Int.fmod (Int.fdiv (numZ xs (p + 1 + i)) 3) 7)) (ev_builtin C (by k_is) (by boot_fast) (by decide)) (by rw [← hm]; exact (ev_bin ev_int.ev (ev_bin (ev_bin (ev_cell (x := Str.ofString "pick") C rfl (hasC_here (x := Str.ofString "pick") rfl rfl)).ev ev_int.ev (bin_fdivS (by decide))) ev_int.ev (bin_mod (by decide))) bin_add)) (by omega) (fun A q j hj => ?_)
      exact (ev_call C (ev_globC C (by k_is)) (by k_is) (evs_cons (ev_bin (ev_free (x := Str.ofString "pick") rfl (hasC_tail (hasC_tail (hasC_here (x := Str.ofString "pick") rfl rfl)))).ev (ev_nameC).ev bin_add) (evs_cons (ev_bin (ev_bin (ev_free (x := Str.ofString "pick") rfl (hasC_tail (hasC_tail (hasC_here (x := Str.ofString "pick") rfl rfl)))).ev ev_int.ev (bin_fdivS (by decide))) ev_int.ev (bin_mod (by decide))) evs_nil)) (con_octets (bits_near hb (by omega) (by omega)) (fmod_lo _ (by decide)) (Int.le_trans (Int.le_of_lt (fmod_hi _ (by decide))) (by decide))).p rfl rfl)
    · unfold itsZ
      rw [if_neg (by rw [q]; exact Bool.false_ne_true)]
      exact ev_list (Pa := IsBytes) (as := []) evs_nil (by decide)
    refine blk_append (y := inRow xs p i) C rfl (hasL_tail hasL_here) (ev_call C (ev_glob C (by k_is)) (by k_is) (evs_cons (ev_call C (ev_glob C (by k_is)) (by k_is) (evs_cons (ev_cell (x := Str.ofString "pick") C rfl (hasC_here (x := Str.ofString "pick") rfl rfl)).ev (evs_cons ev_int.ev evs_nil)) (con_octets (Nat.le_trans hb (by decide)) (by decide) (by decide)).p rfl rfl) (evs_cons (ev_bin (ev_cell (x := Str.ofString "pick") C rfl (hasC_here (x := Str.ofString "pick") rfl rfl)).ev (ev_bin ev_int.ev ev_int.ev (bin_pow (by decide) (by decide) (by decide) (by decide) (by decide))) (bin_mod (by decide))) (evs_cons (ev_call C (ev_glob C (by k_is)) (by k_is) (evs_cons (ev_call C (ev_glob C (by k_is)) (by k_is) (evs_cons (ev_bin (ev_cell (x := Str.ofString "pick") C rfl (hasC_here (x := Str.ofString "pick") rfl rfl)).ev ev_int.ev bin_add) (evs_cons (ev_bin (ev_bin (ev_cell (x := Str.ofString "pick") C rfl (hasC_here (x := Str.ofString "pick") rfl rfl)).ev ev_int.ev (bin_fdivS (by decide))) ev_int.ev (bin_mod (by decide))) evs_nil)) (con_octets (bits_near hb (by decide) (by decide)) (fmod_lo _ (by decide)) (Int.le_of_lt (fmod_hi _ (by decide)))).p rfl rfl) evs_nil) con_scr_new.p rfl rfl) (evs_cons (ev_bin (ev_bin (ev_cell (x := Str.ofString "pick") C rfl (hasC_here (x := Str.ofString "pick") rfl rfl)).ev ev_int.ev (bin_mulL (Nat.le_trans hb (by decide)) (by decide))) (ev_bin ev_int.ev ev_int.ev (bin_pow (by decide) (by decide) (by decide) (by decide) (by decide))) (bin_mod (by decide))) (evs_cons (ev_call C (ev_glob C (by k_is)) (by k_is) (evs_cons (ev_name C rfl).ev evs_nil) (con_wit_new (Nat.le_trans its_len (by decide))).p rfl rfl) evs_nil))))) (con_in_new5 (iv := inRow xs p i)).p rfl rfl) REq.swap (by rw [List.length_map, List.length_range]; omega) (blk_req (blk_weak blk_nil (pick_cons rfl (pick_cons rfl (pick_cons rfl pick_nil))).ok) REq.refl ((REq.tail (REq.head (RCs.weak pick_nil))).trans REq.assoc'))
  refine exs_req (exs_freezeL (x := Str.ofString "rows") rfl ?_) (REq.assoc.trans (REq.tail req_any))
  exact exs_ret (ev_name C rfl).ev
end
section
open PySem.Builtin
variable {prog : Program} {w : World} {A : Around} {E : Value → Shared → Prop} {s : Shared}
theorem slot_bytes_join : Slot "bytes" "join" "bytes.join" :=
  .of (owner := "bytes") (n := "join") (by rw [typeLookup_type, builtinLookup_eq_fast]; kernel_rfl) (by decide +kernel) (by decide +kernel) (by decide +kernel)
    (by first | exact .inl (by decide +kernel) | exact .inr (by decide +kernel)) (by rw [isSubtype_type]; kernel_rfl)
theorem entry_bytes_join : entryFor table "bytes.join" = some Builtin.«bytes.join» := entryFor_of_fast (by kernel_rfl)
theorem args_bytes_join (a b : Value) : argsOk "bytes.join" ⟨[a, b], []⟩ := by unfold argsOk; kernel_rfl
theorem takeBuf {id : String} {b : Array UInt8} {t : Tok} : Bytes.takeBufferQuiet? id (.bytes b t) 0 = pure (some (b, none)) := by
  unfold Bytes.takeBufferQuiet? Bytes.takeBuffer?
  rw [KBy.special_eq KBy.look_buffer, KBy.own_buffer]
  simp only [pure_bind]
  rw [show (0 == Bytes.fullReadOnly) = false from by decide +kernel, KBy.buffer_eq]
  rfl
theorem joined_go (its : List (Array UInt8)) (acc : Array UInt8) (k : Nat) : (its.zipIdx k).foldl (fun out (p, i) => (if i > 0 then out ++ #[] else out) ++ p) acc = acc ++ catA its := by
  induction its generalizing acc k with
  | nil => simp [catA]
  | cons d r ih =>
    rw [List.zipIdx_cons, List.foldl_cons, ih]
    simp [catA, Array.append_assoc]
theorem joined_cat (its : List (Array UInt8)) : Bytes.joined #[] its = catA its := by
  unfold Bytes.joined
  rw [joined_go]; simp
theorem sum_cat (its : List (Array UInt8)) (k : Nat) : its.foldl (fun n (p : Array UInt8) => n + p.size) k = k + (catA its).size := by
  induction its generalizing k with
  | nil => simp [catA]
  | cons d r ih => rw [List.foldl_cons, ih]; simp [catA]; omega
theorem wpAny_joinLetGo {M : Model} : ∀ {l : List (Value × Option Value)} {keep : List Value} {s : Shared} {Q : Unit → Shared → Prop}, (∀ z ∈ l, z.2 = none) → Q () s → wpAny M A (Bytes.joinLetGo l keep) Q E s
  | [], _, _, _, _, q => by unfold Bytes.joinLetGo; exact wpAny_pure q
  | (x, w) :: r, keep, s, Q, h, q => by
    obtain rfl : w = none := h _ (.head _)
    unfold Bytes.joinLetGo
    dsimp only
    exact wpAny_bind (wpAny_letGo (wpAny_joinLetGo (fun z hz => h z (.tail _ hz)) q))
theorem join_match {α : Type} {va : Array Value} (h : va.size ≠ 1) {X : Value → α} {Y : Array Value → α} : Bytes.joinM.match_1 (fun _ => α) va X Y = Y va := by
  obtain ⟨l⟩ := va
  rcases l with _ | ⟨x, _ | ⟨y, r⟩⟩
  · rfl
  · exact absurd rfl h
  · rfl
theorem join_bytes {l : Addr} {vs : List Value} {its : List (Array UInt8)} {t : Tok} {Q : Value → Shared → Prop} (hl : s.heap.IsList l vs.toArray) (hB : vs.length = its.length ∧ ∀ (i : Nat) (d : Array UInt8), its[i]? = some d → ∃ t, vs[i]? = some (.bytes d t)) (hz : (catA its).size ≤ 100000) (hn : its.length ≤ 100)
    (h : ∀ t' k, Q (.bytes (catA its) t') { s with toks := k }) : wpAny (model prog w) A (call (.builtin "bytes.join") [.bytes #[] t, .ref l]) Q E s := by
  obtain ⟨o, ho, hc, nn, hd⟩ := id hl
  refine wpAny_call_entry slot_bytes_join (typeIs_bytes s _ t) entry_bytes_join ?_ (args_bytes_join _ _)
  show wpAny _ _ (Bytes.joinM .bytes _) _ _ _
  unfold Bytes.joinM
  refine wpAny_bind (wpAny_of_eq (a := (Value.bytes #[] t, Value.ref l)) rfl ?_)
  show wpAny _ _ (Bytes.joinItems (.ref l) >>= fun seq => _) _ _ s
  unfold Bytes.joinItems
  refine wpAny_bind (wpAny_bind (wpAny_typeOf (show s.TypeIs (.ref l) "list" from ⟨o, ho, hc⟩) (bm_if_true (by decide +kernel) (wpAny_pure ?_))))
  refine wpAny_bind (wpAny_seqItems ho hd ?_)
  dsimp only
  refine bm_if_true rfl ?_
  have hlen : vs.toArray.size = its.length := by rw [List.size_toArray]; exact hB.1
  obtain ⟨va, hva⟩ : ∃ va, va = vs.toArray := ⟨_, rfl⟩
  rw [← hva] at hlen hd ⊢
  by_cases e1 : its.length = 1
  · obtain ⟨d, rfl⟩ := List.length_eq_one_iff.mp e1
    obtain ⟨t1, ht⟩ := hB.2 0 d rfl
    obtain ⟨x, rfl⟩ := List.length_eq_one_iff.mp (hB.1.trans e1)
    obtain rfl : x = .bytes d t1 := Option.some.inj ht
    subst hva
    refine wpAny_bind (wpAny_typeOf (typeIs_bytes s _ t1) (bm_if_true (by decide +kernel) (wpAny_bind (wpAny_rule ?_))))
    have h1 := h t1 s.toks
    rw [show catA [d] = d by simp [catA]] at h1
    exact wpAny_pure ⟨_, rfl, h1⟩
  · rw [join_match (by rw [hlen]; exact e1)]
    rw [Std.Legacy.Range.forIn_eq_forIn_range']
    refine wpAny_bind (wpAny_forIn_list _ (fun rest b s' => ∃ i k, rest = List.range' i k 1 ∧ i + k = its.length ∧ b.1.toList = its.take i ∧ (∀ z ∈ b.2, z.1.onHeap = false ∧ z.2 = none) ∧ s' = s) _ ?_ ?_ _ _ ?_)
    · rintro x rest b _ ⟨i, k, hr, hik, hb1, hb2, rfl⟩
      cases k with
      | zero => cases hr
      | succ k =>
        rw [List.range'_succ] at hr
        obtain ⟨rfl, rfl⟩ := List.cons.inj hr
        have hin : x < its.length := by omega
        obtain ⟨ti, ht⟩ := hB.2 x its[x] (List.getElem?_eq_getElem hin)
        have hx : va.getD x .none = .bytes its[x] ti := by
          rw [hva, Array.getD_eq_getD_getElem?, List.getElem?_toArray, ht]; rfl
        have hb3 : (b.2.any fun z => z.1.onHeap) = false := List.any_eq_false.mpr fun z hz => by rw [(hb2 z hz).1]; exact Bool.false_ne_true
        refine wpAny_bind (wpAny_seqItems ho hd ?_)
        dsimp only
        refine bm_if_false (by show (_ || _) = false; rw [hb3]; rfl) ?_
        rw [hx]
        refine wpAny_bind (wpAny_holding (wpAny_of_eq (a := some (its[x], none)) takeBuf ?_))
        dsimp only
        refine wpAny_bind (wpAny_seqItems ho hd ?_)
        dsimp only
        refine bm_if_false (by simp) ?_
        refine wpAny_pure ⟨x + 1, k, rfl, by omega, ?_, ?_, rfl⟩
        · show (b.1.push its[x]).toList = _
          rw [Array.toList_push, hb1, List.take_add_one, List.getElem?_eq_getElem hin]; rfl
        · intro z hz
          rcases List.mem_append.mp hz with hz | hz
          · exact hb2 z hz
          · rcases List.mem_singleton.mp hz with rfl; exact ⟨rfl, rfl⟩
    · rintro b _ ⟨i, k, hr, hik, hb1, hb2, rfl⟩
      cases k with
      | succ k => cases hr
      | zero =>
        obtain rfl : i = its.length := by omega
        rw [List.take_length] at hb1
        refine wpAny_bind (wpAny_of_eq (a := #[]) rfl ?_)
        refine bm_if_false (KBy.tooLong_not ?_) ?_
        · rw [← Array.foldl_toList, hb1, sum_cat]
          show 0 * _ + _ ≤ _
          omega
        · rw [hb1, joined_cat]
          refine wpAny_bind (wpAny_mkBytes ?_ ?_)
          · refine wpAny_bind (wpAny_holding (wpAny_point ?_))
            refine wpAny_bind (wpAny_joinLetGo (fun z hz => (hb2 z hz).2) ?_)
            exact wpAny_pure ⟨_, rfl, h _ _⟩
          · rw [sizeLine_eq]; omega
    · exact ⟨0, its.length, by simp only [Std.Legacy.Range.size, hlen]; simp, by omega, rfl, (fun z hz => nomatch hz), rfl⟩
end
theorem type_join : typeOf (.builtin "bytes.join") = pure (.type "method_descriptor") := by show builtinType _ = _; rw [builtinType_eq_fast]; kernel_rfl
theorem meth_join {M : Model} {A : Around} {E : Value → Shared → Prop} {s : Shared} {b : Array UInt8} {t : Tok} {pl : Sem Bool} {Q : Value × List Value → Shared → Prop} (h : Q (.builtin "bytes.join", [.bytes b t]) s) : wpAny M A (getMethod (.bytes b t) (PySem.Str.ofString "join") pl) Q E s :=
  getMethod_builtin (typeIs_bytes _ _ _) FB.plainAttrs_bytes slot_bytes_join type_join (fun _ e => nomatch e) h
section
variable {w : World} {DB : Heap → Prop} {R : RP} {d : Array UInt8} {its : List (Array UInt8)}
theorem gb_join : Gb (lw w DB) (IsBytes d) (Str.ofString "join") "bytes.join" := by
  rintro A Q E s v pl N ⟨t, rfl⟩ k
  exact meth_join k
theorem conb_join (hz : (catA its).size ≤ 100000) (hn : its.length ≤ 100) : ConB (lw w DB) "bytes.join" [IsBytes #[], IsListOf IsBytes its] R (IsBytes (catA its)) R := by
  intro F c V T Q E vs s XK st hl k
  apply st.elim; intro h tk m Ck N F' hV hT hN nd r
  obtain ⟨v1, v2, rfl⟩ := two_of hl
  obtain ⟨t, rfl⟩ := hT (IsBytes #[], v1) (.head _)
  obtain ⟨l, n, us, rfl, hm, hl2, hi⟩ := hT (IsListOf IsBytes its, v2) (.tail _ (.head _))
  exact join_bytes (News.isList hN (List.mem_append_right _ hm)) ⟨hl2, fun i d e => by obtain ⟨u, e1, t, rfl⟩ := hi i d e; exact ⟨t, e1⟩⟩ hz hn fun t' k' => k _ _ (St.mk (C := Ck) (N := N) F' hV (TOk.cons ⟨_, rfl⟩ (fun z hz => hT z (.tail _ (.tail _ hz)))) hN nd r)
end
def BioR (w : World) (st : Addr) (y : List UInt8) : RP :=
  ⟨fun C N => ∃ sd ba t1 t2 t3 pos b, C = [(sd, strD w.params t1 t2 ba pos t3), (ba, baO b)] ∧ (st, instObj 395 sd) ∈ N ∧ 0 ≤ pos ∧ pos ≤ b.size ∧ b.size ≤ 1000000 ∧ b.toList.drop pos.toNat = y,
   fun ⟨sd, ba, t1, t2, t3, pos, b, e, m, r⟩ k => ⟨sd, ba, t1, t2, t3, pos, b, e, k _ m, r⟩⟩
theorem u8_size {n : Nat} (h : n < 256) : (n.toUInt8).toNat = n := by
  show n % 2 ^ 8 = n
  omega
section
variable {w : World} {DB : Heap → Prop} {st : Addr} {d : Array UInt8} {its : List (Array UInt8)} {o : Int × Array UInt8} {iv : InV} {tv : TxV} {R Z : RP} {y : List UInt8}
theorem con_readG {n : Nat} (hn : n ≤ 1000000) : ConP (lw w DB) 319 [IsVal (.ref st), IsInt (n : Int)] (RStar (BioR w st y) Z) (IsBytes (y.take n).toArray) (RStar (BioR w st (y.drop n)) Z) 6 60 := by
  intro F c V T Q E vs s C st' hl k
  apply st'.elim; intro h tk m Ck N F' hV hT hN nd rr0
  obtain ⟨_, C0, rfl, ⟨sd, ba, t1, t2, t3, pos, b, rfl, ms, h0, h1, hz, hy⟩, r0⟩ := rr0
  obtain ⟨v1, v2, rfl⟩ := two_of hl
  obtain rfl : v1 = .ref st := hT (_, v1) (.head _)
  obtain ⟨t, rfl⟩ := hT (IsInt (n : Int), v2) (.tail _ (.head _))
  refine p_any (read_w ⟨C.B, F', C.X, C.T, C.hk, C.hd, C.hu⟩ hN (.tail _ (List.mem_append_right _ ms)) (.head _) nd h0 h1 (Int.natCast_nonneg _) (by omega) hz hy fun t9 t8 h' tk' pos' g0 g1 gy F2 N2 => ?_)
  exact k _ _ (St.mk (N := N) F2 hV (TOk.cons ⟨_, rfl⟩ (fun z hz => hT z (.tail _ (.tail _ hz)))) N2 (nd_map (n := _ :: (_ :: (C0 ++ N))) rfl nd) ⟨_, C0, rfl, ⟨sd, ba, t1, t2, t8, pos', b, rfl, ms, g0, g1, hz, gy⟩, r0⟩)
theorem con_read {n : Int} (hn : n = d.size) (hl : d.size ≤ 100000) : ConP (lw w DB) 319 [IsVal (.ref st), IsInt n] (RStar (BioR w st (d.toList ++ y)) Z) (IsBytes d) (RStar (BioR w st y) Z) 6 60 := by
  have h := con_readG (w := w) (DB := DB) (st := st) (y := d.toList ++ y) (Z := Z) (n := d.size) (Nat.le_trans hl (by decide))
  rw [show d.size = d.toList.length from rfl, List.take_left, List.drop_left] at h
  rw [hn]
  exact h
theorem gm_read : Gm (lw w DB) (RStar (BioR w st y) Z) (IsVal (.ref st)) (Str.ofString "read") 319 := by
  intro F c V T Q E s v pl a' b' C st'
  apply st'.elim; intro h tk m Ck N F' hV hT hN nd rr0 k
  obtain ⟨_, C0, rfl, ⟨sd, ba, t1, t2, t3, pos, b, rfl, ms, -⟩, r0⟩ := rr0
  obtain rfl : v = .ref st := hT (_, v) (.head _)
  exact method_inst F' C.X (InstAt.of_news hN (List.mem_append_right _ ms) (.head _)) (by k_is) (by k_is) (by k_is) (by k_get) k
theorem con_compact {n : Nat} (hn : n < 253) : ConP (lw w DB) 651 [IsVal (.ref st)] (RStar (BioR w st (n.toUInt8 :: y)) Z) (IsInt (n : Int)) (RStar (BioR w st y) Z) 12 120 := by
  have hc := u8_size (show n < 256 by omega)
  intro F c V T Q E vs s C st' hl k
  apply st'.elim; intro h tk m Ck N F' hV hT hN nd rr0
  obtain ⟨_, C0, rfl, ⟨sd, ba, t1, t2, t3, pos, b, rfl, ms, h0, h1, hz, hy⟩, r0⟩ := rr0
  obtain ⟨v1, rfl⟩ := one_of hl
  obtain rfl : v1 = .ref st := hT (_, v1) (.head _)
  refine p_any (compact_w ⟨C.B, F', C.X, C.T, C.hk, C.hd, C.hu⟩ hN (.tail _ (List.mem_append_right _ ms)) (.head _) nd h0 h1 hz hy (by rw [hc]; omega) fun t9 t8 h' tk' pos' g0 g1 gy F2 N2 => ?_)
  exact k _ _ (St.mk (N := N) F2 hV (TOk.cons ⟨_, by rw [hc]⟩ (fun z hz => hT z (.tail _ hz))) N2 (nd_map (n := _ :: (_ :: (C0 ++ N))) rfl nd) ⟨_, C0, rfl, ⟨sd, ba, t1, t2, t8, pos', b, rfl, ms, g0, g1, hz, gy⟩, r0⟩)
theorem con_scr_read (hd : d.size < 253) : Con (lw w DB) 813 [IsVal (.ref 850), IsVal (.ref st)] (RStar (BioR w st ((sized d).toList ++ y)) Z) (IsScr d) (RStar (BioR w st y) Z) 21 210 := by
  rw [show (sized d).toList ++ y = d.size.toUInt8 :: (d.toList ++ y) from by simp]
  refine con_fun (a := 20) (b := 200) (ns := [Str.ofString "cls", Str.ofString "stream"]) rfl ⟨_, _, _, _, _, _, _, _, _, _, (by k_is), (by k_is), ?_⟩ rfl fun c hcl C => ?_
  · intro vs hl s X
    obtain ⟨v1, v2, rfl⟩ := two_of hl
    exact BindsTo.of_eq rfl
  refine exs_assign C (ev_call C (ev_glob C (by k_is)) (by k_is) (evs_cons (ev_name C rfl).ev evs_nil) (con_compact hd) rfl rfl) ?_
  refine exs_assign C (ev_meth C (ev_name C rfl) gm_read (by k_is) (evs_cons (ev_name C rfl).ev evs_nil) (con_read rfl (Nat.le_trans (Nat.le_of_lt hd) (by decide))) rfl rfl) ?_
  refine exs_ifF (tst_neInt (ev_callB C (ev_builtin C (by k_is) (by boot_fast) (by decide)) (evs_cons (ev_name C rfl).ev evs_nil) (bcon_len (Nat.le_trans (Nat.le_of_lt hd) (by decide))).c) (ev_name C rfl).ev (bne_self_eq_false _)) blk_nil ?_
  exact exs_ret (ev_call C (ev_name C rfl) (by k_is) (evs_cons (ev_name C rfl).ev evs_nil) con_scr_new.p rfl rfl)
def rest {α : Type} (f : α → Array UInt8) (l : List α) (i : Nat) (y : List UInt8) : List UInt8 := (catA ((l.drop i).map f)).toList ++ y
theorem rest_succ {α : Type} {f : α → Array UInt8} {l : List α} {i : Nat} (h : i < l.length) : rest f l i y = (f l[i]).toList ++ rest f l (i + 1) y := by
  unfold rest
  rw [List.drop_eq_getElem_cons h, List.map_cons]
  simp [catA]
theorem rest_end {α : Type} {f : α → Array UInt8} {l : List α} : rest f l l.length y = y := by
  unfold rest
  rw [List.drop_length]
  rfl
theorem con_wit_read (hn : its.length < 253) (hds : ∀ d ∈ its, d.size < 253) : Con (lw w DB) 882 [IsVal (.ref 895), IsVal (.ref st)] (RStar (BioR w st ((witB its).toList ++ y)) Z) (IsWit its) (RStar (BioR w st y) Z) 31 310 := by
  rw [show (witB its).toList ++ y = its.length.toUInt8 :: rest (fun d => sized d) its 0 y from by unfold witB rest; simp]
  refine con_fun (a := 30) (b := 300) (ns := [Str.ofString "cls", Str.ofString "stream"]) rfl ⟨_, _, _, _, _, _, _, _, _, _, (by k_is), (by k_is), ?_⟩ rfl fun c hcl C => ?_
  · intro vs hl s X
    obtain ⟨v1, v2, rfl⟩ := two_of hl
    exact BindsTo.of_eq rfl
  refine exs_assign C (ev_call C (ev_glob C (by k_is)) (by k_is) (evs_cons (ev_name C rfl).ev evs_nil) (con_compact hn) rfl rfl) ?_
  refine exs_newL IsBytes C fun l => ?_
  refine exs_req ?_ (REq.swap.trans REq.assoc')
  refine exs_range (n := its.length) (Z := Z) (fun i => [(Str.ofString "items", IsVal (.ref l)), (Str.ofString "stream", IsVal (.ref st)), (Str.ofString "cls", IsVal (.ref 895))]) (fun i => RStar (BioR w st (rest (fun d => sized d) its i y)) (RLst l IsBytes (its.take i))) C
    (ev_builtin C (by k_is) (by boot_fast) (by decide)) (ev_name C rfl).ev (Nat.le_trans (Nat.le_of_lt hn) (by decide)) (pick_cons rfl (pick_cons rfl (pick_cons rfl pick_nil))).ok (fun Z' i hi => ?_) ?_
  · have hd : its[i].size < 253 := hds _ (List.getElem_mem hi)
    have e2 : its.take (i + 1) = its.take i ++ [its[i]] := by rw [List.take_add_one, List.getElem?_eq_getElem hi]; rfl
    show Blk _ _ _ _ (RStar (RStar (BioR w st (rest (fun d => sized d) its i y)) _) _) _ _ (RStar (RStar _ (RLst l IsBytes (its.take (i + 1)))) _)
    rw [rest_succ hi, e2, show (sized its[i]).toList ++ rest (fun d => sized d) its (i + 1) y = its[i].size.toUInt8 :: (its[i].toList ++ rest (fun d => sized d) its (i + 1) y) from by simp]
    refine blk_req (blk_assign C (ev_call C (ev_glob C (by k_is)) (by k_is) (evs_cons (ev_name C rfl).ev evs_nil) (con_compact hd) rfl rfl) (blk_assign C (ev_meth C (ev_name C rfl) gm_read (by k_is) (evs_cons (ev_name C rfl).ev evs_nil) (con_read rfl (Nat.le_trans (Nat.le_of_lt hd) (by decide))) rfl rfl)
      (blk_append C rfl (hasL_tail hasL_here) (ev_name C rfl).ev REq.swap (by rw [List.length_take]; omega) (blk_weak blk_nil (pick_cons rfl (pick_cons rfl (pick_cons rfl pick_nil))).ok)))) REq.assoc (REq.swap.trans REq.assoc')
  · rw [rest_end, List.take_length]
    refine exs_req (exs_freezeL (x := Str.ofString "items") rfl ?_) (REq.assoc.trans REq.swap)
    exact exs_ret (ev_call C (ev_name C rfl) (by k_is) (evs_cons (ev_name C rfl).ev evs_nil) (con_wit_new (Nat.le_trans (Nat.le_of_lt hn) (by decide))).p rfl rfl)
theorem con_out_read (hd : o.2.size < 253) (h0 : 0 ≤ o.1) (h1 : o.1 < 18446744073709551616) : Con (lw w DB) 1144 [IsVal (.ref 1150), IsVal (.ref st)] (RStar (BioR w st ((outB o.1 o.2).toList ++ y)) Z) (IsOut o) (RStar (BioR w st y) Z) 31 310 := by
  rw [show (outB o.1 o.2).toList ++ y = (leB 8 o.1).toList ++ ((sized o.2).toList ++ y) from by rw [show outB o.1 o.2 = leB 8 o.1 ++ sized o.2 from rfl, Array.toList_append, List.append_assoc]]
  refine con_fun (a := 30) (b := 300) (ns := [Str.ofString "cls", Str.ofString "stream"]) rfl ⟨_, _, _, _, _, _, _, _, _, _, (by k_is), (by k_is), ?_⟩ rfl fun c hcl C => ?_
  · intro vs hl s X
    obtain ⟨v1, v2, rfl⟩ := two_of hl
    exact BindsTo.of_eq rfl
  refine exs_assign C (ev_fromB C (ev_builtin C (by k_is) (by boot_fast) (by decide)) (by k_is) (ev_meth C (ev_name C rfl) gm_read (by k_is) (evs_cons ev_int.ev evs_nil) (con_read (by rw [leB_size]; rfl) (by rw [leB_size]; decide)) rfl rfl) (from_LE (k := 8) (by decide) h0 h1)) ?_
  refine exs_assign C (ev_clsm C (ev_glob C (by k_is)) (by k_is) (by k_is) (by k_is) (by k_is) (by k_is) (by k_is) (evs_cons (ev_name C rfl).ev evs_nil) (con_scr_read hd) rfl rfl) ?_
  exact exs_ret (ev_call C (ev_name C rfl) (by k_is) (evs_cons (ev_name C rfl).ev (evs_cons (ev_name C rfl).ev evs_nil)) con_out_new.p rfl rfl)
theorem con_in_readX (hn : iv.name.size = 32) (ok : iv.Ok) : ConX (β := Addr) (lw w DB) 1108 [IsVal (.ref 1114), IsVal (.ref st)] (RStar (BioR w st ((inB iv).toList ++ y)) Z) (fun x => IsVal (.ref x)) (fun x => RStar (RObj 1114 x (inF { iv with its := [] })) (RStar (BioR w st y) Z)) 41 410 := by
  rw [show (inB iv).toList ++ y = (rvA iv.name).toList ++ ((leB 4 iv.place).toList ++ ((sized iv.octets).toList ++ ((leB 4 iv.seq).toList ++ y))) from by unfold inB; simp only [Array.toList_append, List.append_assoc]]
  refine con_funX (a := 40) (b := 400) (ns := [Str.ofString "cls", Str.ofString "stream"]) rfl ⟨_, _, _, _, _, _, _, _, _, _, (by k_is), (by k_is), ?_⟩ rfl fun c hcl C => ?_
  · intro vs hl s X
    obtain ⟨v1, v2, rfl⟩ := two_of hl
    exact BindsTo.of_eq rfl
  have e0 : IsBytes iv.name = IsBytes (rvA (rvA iv.name)) := by rw [rvA_rvA]
  refine exs_assign (P := IsBytes iv.name) C (e0 ▸ ev_bytesRev (ev_builtin C (by k_is) (by boot_fast) (by decide)) (ev_builtin C (by k_is) (by boot_fast) (by decide)) (ev_meth C (ev_name C rfl) gm_read (by k_is) (evs_cons ev_int.ev evs_nil) (con_read (d := rvA iv.name) (by rw [rvA_size, hn]; rfl) (by rw [rvA_size, hn]; decide)) rfl rfl) (by rw [rvA_size, hn]; decide)) ?_
  refine exs_assign C (ev_fromB C (ev_builtin C (by k_is) (by boot_fast) (by decide)) (by k_is) (ev_meth C (ev_name C rfl) gm_read (by k_is) (evs_cons ev_int.ev evs_nil) (con_read (by rw [leB_size]; rfl) (by rw [leB_size]; decide)) rfl rfl) (from_LE (k := 4) (by decide) ok.p0 ok.p1)) ?_
  refine exs_assign C (ev_clsm C (ev_glob C (by k_is)) (by k_is) (by k_is) (by k_is) (by k_is) (by k_is) (by k_is) (evs_cons (ev_name C rfl).ev evs_nil) (con_scr_read ok.oc) rfl rfl) ?_
  refine exs_assign C (ev_fromB C (ev_builtin C (by k_is) (by boot_fast) (by decide)) (by k_is) (ev_meth C (ev_name C rfl) gm_read (by k_is) (evs_cons ev_int.ev evs_nil) (con_read (by rw [leB_size]; rfl) (by rw [leB_size]; decide)) rfl rfl) (from_LE (k := 4) (by decide) ok.s0 ok.s1)) ?_
  exact exs_retX (ev_callX C (ev_name C rfl) (by k_is) (evs_cons (ev_name C rfl).ev (evs_cons (ev_name C rfl).ev (evs_cons (ev_name C rfl).ev (evs_cons (ev_name C rfl).ev evs_nil)))) (con_in_new4X (iv := iv)) rfl rfl)
end
section
variable {w : World} {DB : Heap → Prop} {x st : Addr} {iv : InV} {tv : TxV} {R Z : RP} {y : List UInt8}
theorem con_tx_initK {ver lock : Int} {ins : List InV} {outs : List (Int × Array UInt8)} : ConXA (β := Unit) (lw w DB) 950 (fun vs => match vs with | [] => ⟨[], []⟩ | v :: vs => ⟨[v], [Str.ofString "version", Str.ofString "vin", Str.ofString "vout", Str.ofString "locktime"].zip vs⟩) [IsVal (.ref x), IsInt ver, IsListOf IsIn ins, IsListOf IsOut outs, IsInt lock] (RStar (RObj 1068 x []) R) (fun _ => IsNone) (fun _ => RStar (RObj 1068 x (txF ⟨ver, lock, ins, outs⟩)) R) 21 210 := by
  refine con_funN (a := 20) (b := 200) (ns := [Str.ofString "self", Str.ofString "version", Str.ofString "vin", Str.ofString "vout", Str.ofString "locktime"]) rfl ⟨_, _, _, _, _, _, _, _, _, _, (by k_is), (by k_is), ?_⟩ rfl fun c hcl C => ?_
  · intro vs hl s X
    obtain ⟨v1, v2, v3, v4, v5, rfl⟩ := five_of hl
    exact binds_K X rfl (by k_is) rfl rfl rfl
  exact blk_setAttr C (ev_name C rfl).ev (fun _ => ev_name C rfl) handed_int (by k_is) (by k_is) (by k_is) (by k_is) rfl (blk_setAttr C (ev_name C rfl).ev (fun _ => ev_name C rfl) handed_int (by k_is) (by k_is) (by k_is) (by k_is) rfl (blk_setAttr C (ev_name C rfl).ev (fun _ => ev_name C rfl) handed_list (by k_is) (by k_is) (by k_is) (by k_is) rfl (blk_setAttr C (ev_name C rfl).ev (fun _ => ev_name C rfl) handed_list (by k_is) (by k_is) (by k_is) (by k_is) rfl (blk_exprNone (ev_meth C (ev_name C rfl) (gm_robj (by k_is) (by k_is) (by k_is) rfl) (by k_is) evs_nil con_tx_clear.p rfl rfl) blk_fin))))
theorem con_tx_newK {ver lock : Int} {ins : List InV} {outs : List (Int × Array UInt8)} : ConXA (β := Unit) (lw w DB) 1068 (fun vs => ⟨[], [Str.ofString "version", Str.ofString "vin", Str.ofString "vout", Str.ofString "locktime"].zip vs⟩) [IsInt ver, IsListOf IsIn ins, IsListOf IsOut outs, IsInt lock] R (fun _ => IsTx ⟨ver, lock, ins, outs⟩) (fun _ => R) 22 211 := ConXA.freeze (con_newX (by k_is) (by k_is) (by k_is) fun x => con_tx_initK)
def bareI (iv : InV) : InV := { iv with its := [] }
theorem bare_all {tv : TxV} (h : tv.seg = false) : tv.ins.map bareI = tv.ins := by
  have key : ∀ l : List InV, l.any (fun iv => !iv.its.isEmpty) = false → l.map bareI = l := by
    intro l
    induction l with
    | nil => intro _; rfl
    | cons iv r ih =>
      intro h
      rw [List.any_cons, Bool.or_eq_false_iff] at h
      rw [List.map_cons, ih h.2]
      congr 1
      obtain ⟨a, b, c, d, e⟩ := iv
      have : e = [] := by
        have h1 := h.1
        simpa using h1
      subst this
      rfl
  exact key _ h
abbrev RVin (l : Addr) (fs : List (List (Str × VP))) : RP := RP.ex fun xs : { xs : List Addr // xs.length = fs.length } => RStar (RLst l (fun z : Addr => IsVal (.ref z)) xs.1) (ROwn 1114 xs.1 fs)
theorem vinE {l : Addr} : REq (RLst l (fun z : Addr => IsVal (.ref z)) []) (RVin l []) := fun C N h => ⟨C, .refl _, ⟨[], rfl⟩, C, [], (List.append_nil C).symm, h, rfl⟩
theorem vin0 {l : Addr} {B : RP} : REq (RStar (RLst l (fun z : Addr => IsVal (.ref z)) []) (RStar B Z)) (RStar (RStar B (RVin l [])) Z) :=
  REq.swap.trans ((REq.tail (REq.head vinE)).trans REq.assoc')
theorem vin1 {l y : Addr} {f : List (Str × VP)} {fs : List (List (Str × VP))} {xs : List Addr} {B W : RP} : REq (RStar (RObj 1114 y f) (RStar B (RStar (RStar W (ROwn 1114 xs fs)) Z))) (RStar W (RStar (RObj 1114 y f) (RStar B (RStar (ROwn 1114 xs fs) Z)))) :=
  (REq.tail (REq.tail REq.assoc)).trans ((REq.tail REq.swap).trans REq.swap)
theorem vin2 {l y : Addr} {f : List (Str × VP)} {fs : List (List (Str × VP))} {xs : List Addr} {B : RP} (hl : xs.length = fs.length) : REq (RStar (RLst l (fun z : Addr => IsVal (.ref z)) (xs ++ [y])) (RStar (RObj 1114 y f) (RStar B (RStar (ROwn 1114 xs fs) Z)))) (RStar (RStar B (RVin l (fs ++ [f]))) Z) :=
  (REq.tail REq.swap).trans (REq.swap.trans ((REq.tail (REq.tail REq.assoc')).trans ((REq.tail (REq.tail (REq.head own_snoc))).trans ((REq.tail REq.assoc').trans ((REq.tail (REq.head (REq.toEx (f := fun xs : { xs : List Addr // xs.length = (fs ++ [f]).length } => RStar (RLst l (fun z : Addr => IsVal (.ref z)) xs.1) (ROwn 1114 xs.1 (fs ++ [f]))) ⟨xs ++ [y], by simp [hl]⟩))).trans REq.assoc')))))
theorem con_tx_read (hne : tv.ins ≠ []) (ok : tv.Ok) (hnm : ∀ iv ∈ tv.ins, iv.name.size = 32) : Con (lw w DB) 1003 [IsVal (.ref 1068), IsVal (.ref st)] (RStar (BioR w st ((txB tv).toList ++ y)) Z) (IsTx tv) (RStar (BioR w st y) Z) 61 610 := by
  have n1 : tv.ins.length < 253 := by have := ok.ni; omega
  have n2 : tv.outs.length < 253 := by have := ok.no; omega
  obtain ⟨yE, eE⟩ : ∃ yE, yE = (leB 4 tv.lock).toList ++ y := ⟨_, rfl⟩
  obtain ⟨yD, eD⟩ : ∃ yD, yD = if tv.seg = true then rest (fun iv : InV => witB iv.its) tv.ins 0 yE else yE := ⟨_, rfl⟩
  obtain ⟨yB, eB⟩ : ∃ yB, yB = tv.outs.length.toUInt8 :: rest (fun o : Int × Array UInt8 => outB o.1 o.2) tv.outs 0 yD := ⟨_, rfl⟩
  have e0 : (txB tv).toList ++ y = (leB 4 tv.ver).toList ++ ((txG tv).toList ++ (tv.ins.length.toUInt8 :: rest inB tv.ins 0 yB)) := by
    rw [eB, eD, eE]
    unfold txB txW txG
    split
    · unfold tx3 tx2 tx1 txG rest
      simp only [*, if_true, Array.toList_append, List.append_assoc, List.take_length, List.drop_zero]
      simp
    · unfold tx2 tx1 txG rest
      simp only [*, if_false, Array.toList_append, List.append_assoc, List.take_length, List.drop_zero]
      simp
  rw [e0]
  refine con_fun (a := 60) (b := 600) (ns := [Str.ofString "cls", Str.ofString "stream"]) rfl ⟨_, _, _, _, _, _, _, _, _, _, (by k_is), (by k_is), ?_⟩ rfl fun c hcl C => ?_
  · intro vs hl s X
    obtain ⟨v1, v2, rfl⟩ := two_of hl
    exact BindsTo.of_eq rfl
  refine exs_assign C (ev_fromB C (ev_builtin C (by k_is) (by boot_fast) (by decide)) (by k_is) (ev_meth C (ev_name C rfl) gm_read (by k_is) (evs_cons ev_int.ev evs_nil) (con_read (by rw [leB_size]; rfl) (by rw [leB_size]; decide)) rfl rfl) (from_LE (k := 4) (by decide) ok.v0 ok.v1)) ?_
  refine exs_seg3 (V2 := [(Str.ofString "num_vin", IsInt (tv.ins.length : Nat)), (Str.ofString "is_segwit", IsBool tv.seg), (Str.ofString "ver", IsInt tv.ver), (Str.ofString "stream", IsVal (.ref st)), (Str.ofString "cls", IsVal (.ref 1068))]) (Z := RStar (BioR w st (rest inB tv.ins 0 yB)) Z) (fun r Po k => ?_) ?_
  · cases hs : tv.seg with
    | true =>
      rw [hs] at k
      rw [show (txG tv).toList ++ (tv.ins.length.toUInt8 :: rest inB tv.ins 0 yB) = (0 : Nat).toUInt8 :: ((#[1] : Array UInt8).toList ++ (tv.ins.length.toUInt8 :: rest inB tv.ins 0 yB)) from by unfold txG; rw [if_pos hs]; rfl]
      refine exs_assign C (ev_call C (ev_glob C (by k_is)) (by k_is) (evs_cons (ev_name C rfl).ev evs_nil) (con_compact (n := 0) (by decide)) rfl rfl) ?_
      refine exs_assign C (ev_eqInt (ev_name C rfl).ev ev_int.ev) ?_
      refine exs_ifT (tst_bool (bv := true) (ev_name C rfl).ev) (blk_assign C (ev_meth C (ev_name C rfl) gm_read (by k_is) (evs_cons ev_int.ev evs_nil) (con_read (d := #[1]) rfl (by decide)) rfl rfl) (blk_ifN (tst_neB (ev_name C rfl).ev (ev_bytes (d := [1])).ev) (blk_assign C (ev_call C (ev_glob C (by k_is)) (by k_is) (evs_cons (ev_name C rfl).ev evs_nil) (con_compact n1) rfl rfl) blk_nil))) ?_
      exact exs_pick k (pick_cons rfl (pick_cons rfl (pick_cons rfl (pick_cons rfl (pick_cons rfl pick_nil)))))
    | false =>
      rw [hs] at k
      rw [show (txG tv).toList ++ (tv.ins.length.toUInt8 :: rest inB tv.ins 0 yB) = tv.ins.length.toUInt8 :: rest inB tv.ins 0 yB from by unfold txG; rw [hs]; rfl]
      have h0 : (((tv.ins.length : Nat) : Int) == 0) = false := by
        rw [beq_eq_false_iff_ne]
        intro h
        exact hne (List.length_eq_zero_iff.mp (by omega))
      refine exs_assign C (ev_call C (ev_glob C (by k_is)) (by k_is) (evs_cons (ev_name C rfl).ev evs_nil) (con_compact n1) rfl rfl) ?_
      refine exs_assign (P := IsBool false) C (h0 ▸ ev_eqInt (ev_name C rfl).ev ev_int.ev) ?_
      refine exs_ifF (tst_bool (bv := false) (ev_name C rfl).ev) blk_nil ?_
      exact exs_pick k (pick_cons rfl (pick_cons rfl (pick_cons rfl (pick_cons rfl (pick_cons rfl pick_nil)))))
  refine exs_newL (fun z : Addr => IsVal (.ref z)) C fun l => ?_
  refine exs_req ?_ vin0
  refine exs_range (n := tv.ins.length) (Z := Z) (fun i => [(Str.ofString "vin", IsVal (.ref l)), (Str.ofString "is_segwit", IsBool tv.seg), (Str.ofString "ver", IsInt tv.ver), (Str.ofString "stream", IsVal (.ref st)), (Str.ofString "cls", IsVal (.ref 1068))]) (fun i => RStar (BioR w st (rest inB tv.ins i yB)) (RVin l ((tv.ins.take i).map fun iv => inF (bareI iv)))) C
    (ev_builtin C (by k_is) (by boot_fast) (by decide)) (ev_name C rfl).ev (Nat.le_trans (Nat.le_of_lt n1) (by decide)) (pick_cons rfl (pick_cons rfl (pick_cons rfl (pick_cons rfl (pick_cons rfl pick_nil))))).ok (fun Z' i hi => ?_) ?_
  · have hm := List.getElem_mem hi
    have e2 : (tv.ins.take (i + 1)).map (fun iv => inF (bareI iv)) = (tv.ins.take i).map (fun iv => inF (bareI iv)) ++ [inF (bareI tv.ins[i])] := by rw [List.take_add_one, List.getElem?_eq_getElem hi, List.map_append]; rfl
    show Blk _ _ _ _ (RStar (RStar (BioR w st (rest inB tv.ins i yB)) _) _) _ _ (RStar (RStar _ (RVin l ((tv.ins.take (i + 1)).map fun iv => inF (bareI iv)))) _)
    rw [rest_succ hi, e2]
    refine blk_req (blk_ex fun xs => ?_) (REq.assoc.trans REq.exOut) REq.refl
    refine blk_appendX (q := fun z : Addr => z) C rfl (hasL_tail (hasL_head hasL_here)) (ev_clsmX C (ev_glob C (by k_is)) (by k_is) (by k_is) (by k_is) (by k_is) (by k_is) (by k_is) (evs_cons (ev_name C rfl).ev evs_nil) (con_in_readX (hnm _ hm) (ok.iok _ hm)) rfl rfl) (fun z => vin1 (l := l)) (by rw [xs.2, List.length_map, List.length_take]; omega) (fun z => blk_req (blk_weak blk_nil (pick_cons rfl (pick_cons rfl (pick_cons rfl (pick_cons rfl (pick_cons rfl pick_nil))))).ok) REq.refl (vin2 xs.2))
  rw [rest_end, List.take_length, eB]
  refine exs_req (exs_ex fun xs => exs_req (exs_freezeL (x := Str.ofString "vin") rfl ?_) ((REq.tail REq.assoc).trans REq.swap)) (REq.assoc.trans REq.exOut)
  obtain ⟨xs, hxs⟩ := xs
  have hxl : xs.length = tv.ins.length := by rw [hxs, List.length_map]
  dsimp only
  clear hxs
  refine exs_assign C (ev_call C (ev_glob C (by k_is)) (by k_is) (evs_cons (ev_name C rfl).ev evs_nil) (con_compact n2) rfl rfl) ?_
  refine exs_newL IsOut C fun l2 => ?_
  refine exs_req ?_ (REq.swap.trans REq.assoc')
  refine exs_range (n := tv.outs.length) (Z := RStar (ROwn 1114 xs (tv.ins.map fun iv => inF (bareI iv))) Z) (fun i => [(Str.ofString "vout", IsVal (.ref l2)), (Str.ofString "vin", IsListOf (fun z : Addr => IsVal (.ref z)) xs), (Str.ofString "is_segwit", IsBool tv.seg), (Str.ofString "ver", IsInt tv.ver), (Str.ofString "stream", IsVal (.ref st)), (Str.ofString "cls", IsVal (.ref 1068))]) (fun i => RStar (BioR w st (rest (fun o : Int × Array UInt8 => outB o.1 o.2) tv.outs i yD)) (RLst l2 IsOut (tv.outs.take i))) C
    (ev_builtin C (by k_is) (by boot_fast) (by decide)) (ev_name C rfl).ev (Nat.le_trans (Nat.le_of_lt n2) (by decide)) (pick_cons rfl (pick_cons rfl (pick_cons rfl (pick_cons rfl (pick_cons rfl (pick_cons rfl pick_nil)))))).ok (fun Z' i hi => ?_) ?_
  · have hm := List.getElem_mem hi
    have e2 : tv.outs.take (i + 1) = tv.outs.take i ++ [tv.outs[i]] := by rw [List.take_add_one, List.getElem?_eq_getElem hi]; rfl
    show Blk _ _ _ _ (RStar (RStar (BioR w st (rest (fun o : Int × Array UInt8 => outB o.1 o.2) tv.outs i yD)) _) _) _ _ (RStar (RStar _ (RLst l2 IsOut (tv.outs.take (i + 1)))) _)
    rw [rest_succ hi, e2]
    exact blk_req (blk_append C rfl (hasL_tail hasL_here) (ev_clsm C (ev_glob C (by k_is)) (by k_is) (by k_is) (by k_is) (by k_is) (by k_is) (by k_is) (evs_cons (ev_name C rfl).ev evs_nil) (con_out_read (ok.oz _ hm) (ok.o0 _ hm) (ok.o1 _ hm)) rfl rfl) REq.swap (by rw [List.length_take]; omega) (blk_weak blk_nil (pick_cons rfl (pick_cons rfl (pick_cons rfl (pick_cons rfl (pick_cons rfl (pick_cons rfl pick_nil)))))).ok)) REq.assoc (REq.swap.trans REq.assoc')
  rw [rest_end, List.take_length]
  refine exs_req (exs_freezeL (x := Str.ofString "vout") rfl ?_) (REq.assoc.trans REq.swap)
  refine exs_if (bv := tv.seg) (V2 := [(Str.ofString "vout", IsListOf IsOut tv.outs), (Str.ofString "vin", IsListOf (fun z : Addr => IsVal (.ref z)) xs), (Str.ofString "ver", IsInt tv.ver), (Str.ofString "stream", IsVal (.ref st)), (Str.ofString "cls", IsVal (.ref 1068))]) (R2 := RStar (BioR w st yE) (RStar (ROwn 1114 xs (tv.ins.map inF)) Z)) (tst_bool (ev_name C rfl).ev) (fun hs => ?_) (fun hs => ?_) ?_
  · rw [eD, if_pos hs]
    refine blk_req (blk_for (Z := Z) (as := xs) (Pa := fun z : Addr => IsVal (.ref z)) (fun _ => [(Str.ofString "vout", IsListOf IsOut tv.outs), (Str.ofString "vin", IsListOf (fun z : Addr => IsVal (.ref z)) xs), (Str.ofString "ver", IsInt tv.ver), (Str.ofString "stream", IsVal (.ref st)), (Str.ofString "cls", IsVal (.ref 1068))])
      (fun i => RStar (BioR w st (rest (fun iv : InV => witB iv.its) tv.ins i yE)) (RStar (ROwn 1114 (xs.take i) ((tv.ins.take i).map inF)) (ROwn 1114 (xs.drop i) ((tv.ins.drop i).map fun iv => inF (bareI iv))))) C (ev_name C rfl) (pick_cons rfl (pick_cons rfl (pick_cons rfl (pick_cons rfl (pick_cons rfl pick_nil))))).ok (fun Z' i z hi => ?_) blk_nil)
      (own_nil.trans ((REq.tail REq.assoc').trans REq.assoc')) ?_
    · have hlt : i < tv.ins.length := by
        rw [← hxl]
        rcases Nat.lt_or_ge i xs.length with q | q
        · exact q
        · rw [List.getElem?_eq_none q] at hi; cases hi
      have iok := ok.iok _ (List.getElem_mem hlt)
      have f1 : xs.drop i = z :: xs.drop (i + 1) := by
        have hx : i < xs.length := hxl ▸ hlt
        rw [List.drop_eq_getElem_cons hx]
        rw [List.getElem?_eq_getElem hx] at hi
        rw [Option.some.inj hi]
      have f2 : (tv.ins.drop i).map (fun iv => inF (bareI iv)) = inF (bareI tv.ins[i]) :: (tv.ins.drop (i + 1)).map (fun iv => inF (bareI iv)) := by rw [List.drop_eq_getElem_cons hlt]; rfl
      have f3 : xs.take (i + 1) = xs.take i ++ [z] := by rw [List.take_add_one, hi]; rfl
      have f4 : (tv.ins.take (i + 1)).map inF = (tv.ins.take i).map inF ++ [inF tv.ins[i]] := by rw [List.take_add_one, List.getElem?_eq_getElem hlt, List.map_append]; rfl
      show Blk _ _ _ _ (RStar (RStar (BioR w st (rest (fun iv : InV => witB iv.its) tv.ins i yE)) (RStar _ (ROwn 1114 (xs.drop i) ((tv.ins.drop i).map fun iv => inF (bareI iv))))) _) _ _ (RStar (RStar _ (RStar (ROwn 1114 (xs.take (i + 1)) ((tv.ins.take (i + 1)).map inF)) _)) _)
      rw [rest_succ hlt, f1, f2, f3, f4]
      refine blk_req (blk_setAttr (Cl := 1114) (y := z) (fs := inF (bareI tv.ins[i])) C (ev_req (ev_clsm C (ev_glob C (by k_is)) (by k_is) (by k_is) (by k_is) (by k_is) (by k_is) (by k_is) (evs_cons (ev_name C rfl).ev evs_nil) (con_wit_read iok.wn iok.wd) rfl rfl) REq.refl REq.swap) (fun _ => ev_name C rfl) handed_obj (by k_is) (by k_is) (by k_is) (by k_is) rfl (blk_weak blk_nil (pick_cons rfl (pick_cons rfl (pick_cons rfl (pick_cons rfl (pick_cons rfl pick_nil))))).ok))
        (REq.assoc.trans ((REq.tail REq.assoc).trans ((REq.tail (REq.tail REq.assoc)).trans (REq.tail REq.swap))))
        (REq.swap.trans ((REq.tail REq.assoc').trans ((REq.tail (REq.head own_snoc)).trans ((REq.tail REq.assoc').trans REq.assoc'))))
    · show REq (RStar (RStar (BioR w st (rest (fun iv : InV => witB iv.its) tv.ins xs.length yE)) (RStar (ROwn 1114 (xs.take xs.length) ((tv.ins.take xs.length).map inF)) (ROwn 1114 (xs.drop xs.length) ((tv.ins.drop xs.length).map fun iv => inF (bareI iv))))) Z) _
      rw [List.take_length, List.drop_length, hxl, rest_end, List.take_length, List.drop_length]
      exact (REq.head (REq.tail own_nil')).trans REq.assoc
  · rw [eD, if_neg (by rw [hs]; exact Bool.false_ne_true), show (tv.ins.map fun iv => inF (bareI iv)) = tv.ins.map inF from (List.map_map (f := bareI) (g := inF) (l := tv.ins)).symm.trans (congrArg (List.map inF) (bare_all hs))]
    exact blk_weak blk_nil (pick_cons rfl (pick_cons rfl (pick_cons rfl (pick_cons rfl (pick_cons rfl pick_nil))))).ok
  rw [eE]
  refine exs_req (exs_freezeOwn (x := Str.ofString "vin") (fun _ => rfl) rfl ?_) REq.swap
  refine exs_assign C (ev_fromB C (ev_builtin C (by k_is) (by boot_fast) (by decide)) (by k_is) (ev_meth C (ev_name C rfl) gm_read (by k_is) (evs_cons ev_int.ev evs_nil) (con_read (by rw [leB_size]; rfl) (by rw [leB_size]; decide)) rfl rfl) (from_LE (k := 4) (by decide) ok.l0 ok.l1)) ?_
  exact exs_ret (ev_callK C (ev_name C rfl) (by k_is) (evsk_cons (ev_name C rfl) (evsk_cons (ev_name C rfl) (evsk_cons (ev_name C rfl) (evsk_cons (ev_name C rfl) evsk_nil)))) con_tx_newK rfl rfl)
end
section
variable {w : World} {DB : Heap → Prop} {st : Addr} {b d : Array UInt8} {R R0 R1 R' : RP} {F : FN} {c : FC} {V : VL} {T : TL} {s : Shared} {a' b' : Nat} {x : Str} {pos pos' px px1 : Pos} {e : Expr} {rest ss : List Stmt} {tv : TxV} {y : List UInt8} {Pst : TL → Value → Shared → Prop} {P : VP}
theorem exs_bio1 (C : c.Ok (lw w DB) F a' b') (ea : Nat.ble 10 a' = true) (eb : Nat.ble 100 b' = true) (h : Ev (lw w DB) F c V R e (IsBytes b) R1) (hz : b.size ≤ 1000000) (k : ∀ st, ExsP (lw w DB) F c ((x, IsVal (.ref st)) :: V) (RStar (BioR w st b.toList) R1) rest Pst)
    (hx : (c.env F).kindOf x = some .local := by rfl) (hb : (c.env F).kindOf (Str.ofString "BytesIO") = some .globalImplicit := by rfl)
    (he : backTo pos' (starEach [e] (c.env F)) = [e].map fun e => (false, eval e (c.env F)) := by rfl)
    (he' : eval (.Call (.Name (Str.ofString "BytesIO") px) [e] [] pos') (c.env F) = (do callWith pos' (← eval (.Name (Str.ofString "BytesIO") px) (c.env F)) [] (backTo pos' (starEach [e] (c.env F))) (backToKw pos' (keywordEach [] (c.env F)))) := by rfl)
    (hs : swapsWith (.Call (.Name (Str.ofString "BytesIO") px) [e] [] pos') (some (.Name x px1)) pos.line (c.env F) = pure false := by rfl) :
    ExsP (lw w DB) F c V R (.Assign [.Name x px1] (.Call (.Name (Str.ofString "BytesIO") px) [e] [] pos') pos :: rest) Pst := by
  intro T Q E s st kQ
  refine p_execs (p_assign (p_fn (ev_glob C (v := .ref 395) (by k_is) hb (by decide) T _ E s st fun v s1 st1 => ?_) he') hs)
  have hv : v = .ref 395 := by
    apply st1.elim; intro h tk m Ck N F' hV hT hN nd r
    exact hT _ (.head _)
  subst hv
  rw [he]
  refine p_callWith (P := fun h => (K w.params).In h) (keeps_K (by k_dflt k_is)) (p_evalArgs (xs := [eval e (c.env F)]) ?_)
  refine evs_cons h evs_nil T _ E s1 st1.drop fun vs s2 hl st2 => ⟨st2.inK C, ?_⟩
  obtain ⟨v1, rfl⟩ := one_of hl
  apply st2.elim; intro h tk m Ck N F' hV hT hN nd r
  obtain ⟨t, rfl⟩ := hT (IsBytes b, v1) (.head _)
  have C' := C.le ea eb
  refine bio_new (b := b) (t := t) [.bytes b t] (.inr rfl) ⟨C.B, F', C.X, C.T, C.hk, C'.hd, C'.hu⟩ hN nd hz fun x9 dx ba t1 t2 t3 h' tk' F2 N2 nd2 => ?_
  refine p_any (storeX_L F2 N2 (fun h3 F3 N3 => ?_) C.hk hx)
  have sub : ∀ p ∈ N, p ∈ (x9, instObj 395 dx) :: N := fun p hp => .tail _ hp
  exact k x9 T Q E _ (St.mk F3 (VOk.set (hV.mono sub) rfl) (hT.tail.mono sub) (news_perm permB N3) (nd_perm permB nd2) ⟨_, Ck, rfl, ⟨dx, ba, t1, t2, t3, 0, b, rfl, .head _, Int.le_refl _, Int.natCast_nonneg _, hz, rfl⟩, R1.mono r sub⟩) kQ
theorem exs_unbioR (h : Exs (lw w DB) F c V R1 ss P (RStar (BioR w st y) R)) : Exs (lw w DB) F c V R1 ss P R := fun T Q E s st k => h T Q E s st fun v s' st' => k v s' (by
  apply st'.elim; intro h tk m Ck N F' hV hT hN nd rr0
  obtain ⟨_, C0, rfl, ⟨sd, ba, t1, t2, t3, pos, b, rfl, ms, -⟩, r0⟩ := rr0
  have sub : ∀ p ∈ N, p ∈ (sd, strD w.params t1 t2 ba pos t3) :: (ba, baO b) :: N := fun p hp => .tail _ (.tail _ hp)
  exact St.mk (C := C0) F' (hV.mono sub) (hT.mono sub) (news_perm perm2 hN) (nd_perm perm2 nd) (R.mono r0 sub))
theorem con_parse (hne : tv.ins ≠ []) (ok : tv.Ok) (hnm : ∀ iv ∈ tv.ins, iv.name.size = 32) : Con (lw w DB) 695 [IsVal (.ref 1068), IsBytes (txB tv)] R (IsTx tv) R 63 630 := by
  have hzz := txW_size ok
  have hzb : (txB tv).size ≤ 1000000 := by unfold txB; rw [Array.size_append, leB_size]; omega
  refine con_bothN (a := 62) (b := 620) (ns := [Str.ofString "cls", Str.ofString "s"]) (x2 := Str.ofString "args") (x3 := Str.ofString "kwargs") rfl ⟨_, _, _, _, _, _, _, _, _, _, (by k_is), (by k_is), fun vs hl => by obtain ⟨v1, v2, rfl⟩ := two_of hl; rfl⟩ rfl (fun c hcl C => ?_)
  refine exs_bio1 C rfl rfl (ev_name C rfl).ev hzb fun st => ?_
  rw [show (txB tv).toList = (txB tv).toList ++ [] from (List.append_nil _).symm]
  refine exs_assign C (ev_star C hcl (ev_name C rfl) (ga_clsm (by k_is) (by k_is) (by k_is) (by k_is)) (by k_dflt k_is) rfl rfl rfl (con_tx_read hne ok hnm) rfl rfl) ?_
  refine exs_ifF (tst_gtInt (ev_callB C (ev_builtin C (by k_is) (by boot_fast) (by decide)) (evs_cons (ev_meth C (ev_name C rfl) gm_read (by k_is) (evs_cons ev_int.ev evs_nil) (con_readG (n := 1) (by decide)) rfl rfl) evs_nil) (bcon_len (by decide)).c) ev_int.ev (by decide)) blk_nil ?_
  exact exs_unbioR (exs_ret (ev_name C rfl).ev)
end
structure PF (vv lk : Int) (A B : List InV) (C D : List (Int × Array UInt8)) : Prop where
  v0 : 0 ≤ vv
  v1 : vv < 4294967296
  k0 : 0 ≤ lk
  k1 : lk < 4294967296
  a1 : ∀ iv ∈ A, iv.Ok ∧ iv.name.size = 32 ∧ (witB iv.its).size ≤ 1000
  a2 : 1 ≤ A.length
  a3 : A.length ≤ 2
  b1 : ∀ iv ∈ B, iv.Ok ∧ iv.name.size = 32 ∧ (witB iv.its).size ≤ 1000
  b3 : B.length ≤ 2
  c1 : ∀ o ∈ C, o.2.size < 253 ∧ 0 ≤ o.1 ∧ o.1 < 18446744073709551616
  c2 : C.length ≤ 2
  d1 : ∀ o ∈ D, o.2.size < 253 ∧ 0 ≤ o.1 ∧ o.1 < 18446744073709551616
  d2 : D.length ≤ 2
theorem seg_app {vv lk : Int} {A B : List InV} {C D : List (Int × Array UInt8)} : TxV.seg ⟨vv, lk, A ++ B, C ++ D⟩ = (TxV.seg ⟨vv, lk, A, C⟩ || TxV.seg ⟨vv, lk, B, D⟩) := List.any_append ..
theorem PF.w1 {vv lk : Int} {A B : List InV} {C D : List (Int × Array UInt8)} (h : PF vv lk A B C D) : TxV.Ok ⟨vv, lk, A, C⟩ :=
  ⟨h.v0, h.v1, h.k0, h.k1, Nat.le_trans h.a3 (by decide), Nat.le_trans h.c2 (by decide), fun iv q => (h.a1 iv q).1, fun iv q => (h.a1 iv q).2.2, fun o q => (h.c1 o q).1, fun o q => (h.c1 o q).2.1, fun o q => (h.c1 o q).2.2⟩
theorem PF.w2 {vv lk : Int} {A B : List InV} {C D : List (Int × Array UInt8)} (h : PF vv lk A B C D) : TxV.Ok ⟨vv, lk, B, D⟩ :=
  ⟨h.v0, h.v1, h.k0, h.k1, Nat.le_trans h.b3 (by decide), Nat.le_trans h.d2 (by decide), fun iv q => (h.b1 iv q).1, fun iv q => (h.b1 iv q).2.2, fun o q => (h.d1 o q).1, fun o q => (h.d1 o q).2.1, fun o q => (h.d1 o q).2.2⟩
theorem PF.w3 {vv lk : Int} {A B : List InV} {C D : List (Int × Array UInt8)} (h : PF vv lk A B C D) : TxV.Ok ⟨vv, lk, A ++ B, C ++ D⟩ :=
  ⟨h.v0, h.v1, h.k0, h.k1, by have := h.a3; have := h.b3; simp only [List.length_append]; omega, by have := h.c2; have := h.d2; simp only [List.length_append]; omega,
    fun iv q => (List.mem_append.mp q).elim (fun q => (h.a1 iv q).1) fun q => (h.b1 iv q).1, fun iv q => (List.mem_append.mp q).elim (fun q => (h.a1 iv q).2.2) fun q => (h.b1 iv q).2.2,
    fun o q => (List.mem_append.mp q).elim (fun q => (h.c1 o q).1) fun q => (h.d1 o q).1, fun o q => (List.mem_append.mp q).elim (fun q => (h.c1 o q).2.1) fun q => (h.d1 o q).2.1, fun o q => (List.mem_append.mp q).elim (fun q => (h.c1 o q).2.2) fun q => (h.d1 o q).2.2⟩
theorem PF.nm {vv lk : Int} {A B : List InV} {C D : List (Int × Array UInt8)} (h : PF vv lk A B C D) : ∀ iv ∈ A ++ B, iv.name.size = 32 :=
  fun iv q => (List.mem_append.mp q).elim (fun q => (h.a1 iv q).2.1) fun q => (h.b1 iv q).2.1
def bareB (tv : TxV) : Array UInt8 := #[tv.ins.length.toUInt8] ++ catA (tv.ins.map inB) ++ #[tv.outs.length.toUInt8] ++ catA (tv.outs.map fun o => outB o.1 o.2)
theorem txN_bare (tv : TxV) : txN tv = leB 4 tv.ver ++ bareB tv ++ leB 4 tv.lock := by
  unfold txN hx2 hx1 bareB
  simp only [List.take_length, Array.append_assoc]
theorem txB_seg {tv : TxV} (h : tv.seg = true) : txB tv = leB 4 tv.ver ++ (#[0, 1] ++ bareB tv ++ catA (tv.ins.map fun iv => witB iv.its)) ++ leB 4 tv.lock := by
  unfold txB txW
  rw [if_pos h]
  unfold tx3 tx2 tx1 txG bareB
  rw [if_pos h]
  simp only [List.take_length, Array.append_assoc]
theorem txB_bare {tv : TxV} (h : tv.seg = false) : txB tv = leB 4 tv.ver ++ bareB tv ++ leB 4 tv.lock := by
  unfold txB txW
  rw [if_neg (by rw [h]; exact Bool.false_ne_true)]
  unfold tx2 tx1 txG bareB
  rw [if_neg (by rw [h]; exact Bool.false_ne_true)]
  simp only [List.take_length, Array.append_assoc, Array.empty_append]
theorem bare_seg (l : List InV) : (l.map bareI).any (fun iv => !iv.its.isEmpty) = false := by
  induction l with
  | nil => rfl
  | cons x r ih => rw [List.map_cons, List.any_cons, ih]; rfl
theorem bare_inB (l : List InV) : (l.map bareI).map inB = l.map inB := by rw [List.map_map]; rfl
theorem filter_any {α : Type} (p : α → Bool) (l : List α) : l.any p = !((l.filter p).map fun a => a).isEmpty := by
  induction l with
  | nil => rfl
  | cons x r ih => rw [List.any_cons, List.filter_cons]; cases p x <;> simp [ih]
theorem bareB_size {tv : TxV} (ok : tv.Ok) : (bareB tv).size ≤ 20000 := by
  have h1 := catA_size inB 2000 tv.ins fun iv h => Nat.le_of_lt (inB_size (ok.iok iv h))
  have h2 := catA_size (fun o : Int × Array UInt8 => outB o.1 o.2) 300 tv.outs fun o h => outB_size (ok.oz o h)
  have h3 := Nat.mul_le_mul_left 2000 ok.ni
  have h4 := Nat.mul_le_mul_left 300 ok.no
  unfold bareB
  simp only [Array.size_append, List.size_toArray, List.length_cons, List.length_nil]
  omega
theorem wits_size {tv : TxV} (ok : tv.Ok) : (catA (tv.ins.map fun iv => witB iv.its)).size ≤ 8000 := by
  have h1 := catA_size (fun iv : InV => witB iv.its) 1000 tv.ins fun iv h => ok.wz iv h
  have h3 := Nat.mul_le_mul_left 1000 ok.ni
  omega
def midB (tv : TxV) : Array UInt8 := if tv.seg = true then #[0, 1] ++ bareB tv ++ catA (tv.ins.map fun iv => witB iv.its) else bareB tv
theorem txB_mid (tv : TxV) : leB 4 tv.ver ++ midB tv ++ leB 4 tv.lock = txB tv := by
  unfold midB
  cases h : tv.seg with
  | true => rw [if_pos rfl, txB_seg h]
  | false => rw [if_neg Bool.false_ne_true, txB_bare h]
theorem midB_size {tv : TxV} (ok : tv.Ok) : (midB tv).size ≤ 30000 := by
  have h1 := bareB_size ok
  have h2 := wits_size ok
  unfold midB
  split
  · simp only [Array.size_append, List.size_toArray, List.length_cons, List.length_nil]; omega
  · omega
theorem bare_ok {iv : InV} (h : iv.Ok) : (bareI iv).Ok := ⟨h.nm, h.p0, h.p1, h.oc, h.s0, h.s1, Nat.zero_lt_succ _, fun d hd => nomatch hd⟩
theorem plain_ok {vv lk : Int} {I : List InV} {O : List (Int × Array UInt8)} (ok : TxV.Ok ⟨vv, lk, I, O⟩) : TxV.Ok ⟨vv, lk, I.map bareI, O⟩ :=
  ⟨ok.v0, ok.v1, ok.l0, ok.l1, by have := ok.ni; rw [List.length_map]; exact this, ok.no, fun iv h => by obtain ⟨z, hz, rfl⟩ := List.mem_map.mp h; exact bare_ok (ok.iok z hz), fun iv h => by obtain ⟨z, hz, rfl⟩ := List.mem_map.mp h; exact (by decide : (witB []).size ≤ 1000), ok.oz, ok.o0, ok.o1⟩
theorem plain_bare {vv lk : Int} {I : List InV} {O : List (Int × Array UInt8)} : bareB ⟨vv, lk, I.map bareI, O⟩ = bareB ⟨vv, lk, I, O⟩ := by
  unfold bareB
  dsimp only
  rw [bare_inB, List.length_map]
noncomputable def lawS (k : Nat) : List Stmt := d0.body.drop k
noncomputable abbrev lawF : FN := ⟨d0.name, d0.scope⟩
def IsIn4 (iv : InV) : VP := IsTup [IsBytes iv.name, IsInt iv.place, IsBytes iv.octets, IsInt iv.seq]
def IsOut2 (o : Int × Array UInt8) : VP := IsTup [IsInt o.1, IsBytes o.2]
def Vlaw (sl : Addr) (vv lk : Int) (A B : List InV) (C D : List (Int × Array UInt8)) : VL := [(Str.ofString "outs", IsListOf IsOut C), (Str.ofString "others", IsListOf IsOut D), (Str.ofString "ins", IsListOf IsIn A), (Str.ofString "more", IsListOf IsIn B), (Str.ofString "version", IsInt vv), (Str.ofString "lock", IsInt lk), (Str.ofString "script", IsVal (.ref sl))]
section
variable {w : World} {DB : Heap → Prop} {sl : Addr} {c : FC} {vv lk : Int} {A B : List InV} {C0 D : List (Int × Array UInt8)}
theorem law_a (C : c.Ok (lw w DB) lawF 200 2000) (pf : PF vv lk A B C0 D) : Exs (lw w DB) lawF c (Vlaw sl vv lk A B C0 D) RNil (lawS 3) (IsBool true) RNil := by
  have ok1 := pf.w1
  have ok2 := pf.w2
  have ok3 := pf.w3
  have okp := plain_ok ok3
  have hA := pf.a3
  have hB := pf.b3
  have hC := pf.c2
  have hD := pf.d2
  have lI : (A ++ B).length = A.length + B.length := List.length_append
  have lO : (C0 ++ D).length = C0.length + D.length := List.length_append
  have okI : ∀ iv ∈ A ++ B, iv.Ok := ok3.iok
  have okO : ∀ o ∈ C0 ++ D, o.2.size < 253 ∧ 0 ≤ o.1 ∧ o.1 < 18446744073709551616 := fun o h => ⟨ok3.oz o h, ok3.o0 o h, ok3.o1 o h⟩
  have hzI : (catA ((A ++ B).map inB)).size ≤ 100000 := Nat.le_trans (catA_size inB 2000 (A ++ B) fun iv h => Nat.le_of_lt (inB_size (okI iv h))) (by omega)
  have hzO : (catA ((C0 ++ D).map fun o => outB o.1 o.2)).size ≤ 100000 := Nat.le_trans (catA_size (fun o : Int × Array UInt8 => outB o.1 o.2) 300 (C0 ++ D) fun o h => outB_size (okO o h).1) (by omega)
  have hzW : (catA ((A ++ B).map fun iv => witB iv.its)).size ≤ 100000 := Nat.le_trans (wits_size ok3) (by decide)
  have hzb : (bareB (⟨vv, lk, A ++ B, C0 ++ D⟩ : TxV)).size ≤ 20000 := bareB_size ok3
  have hzm : (midB (⟨vv, lk, A ++ B, C0 ++ D⟩ : TxV)).size ≤ 30000 := midB_size ok3
  have hN : txN (⟨vv, lk, (A ++ B).map bareI, C0 ++ D⟩ : TxV) = txN (⟨vv, lk, A ++ B, C0 ++ D⟩ : TxV) := by rw [txN_bare, txN_bare, plain_bare]
  have hW : txN (⟨vv, lk, A ++ B, C0 ++ D⟩ : TxV) = leB 4 vv ++ bareB (⟨vv, lk, A ++ B, C0 ++ D⟩ : TxV) ++ leB 4 lk := txN_bare _
  have hp : txB (⟨vv, lk, (A ++ B).map bareI, C0 ++ D⟩ : TxV) = leB 4 vv ++ bareB (⟨vv, lk, A ++ B, C0 ++ D⟩ : TxV) ++ leB 4 lk := by rw [txB_bare (tv := ⟨vv, lk, (A ++ B).map bareI, C0 ++ D⟩) (bare_seg _), plain_bare]
  have hne : A ++ B ≠ [] := by
    intro h
    have := pf.a2
    have h2 := congrArg List.length h
    rw [List.length_append] at h2
    simp only [List.length_nil] at h2
    omega
  refine exs_assign2 C (ev_tup (evs_cons (ev_call C (ev_glob C (by k_is)) (by k_is) (evs_cons (ev_name C rfl).ev (evs_cons (ev_name C rfl).ev (evs_cons (ev_name C rfl).ev (evs_cons (ev_name C rfl).ev evs_nil)))) con_tx_new.p rfl rfl) (evs_cons (ev_call C (ev_glob C (by k_is)) (by k_is) (evs_cons (ev_name C rfl).ev (evs_cons (ev_name C rfl).ev (evs_cons (ev_name C rfl).ev (evs_cons (ev_name C rfl).ev evs_nil)))) con_tx_new.p rfl rfl) evs_nil)) (Nat.le_of_ble_eq_true rfl)) ?_
  refine exs_assign C (ev_call C (ev_glob C (by k_is)) (by k_is) (evs_cons (ev_name C rfl).ev (evs_cons (ev_catL (ev_name C rfl).ev (ev_name C rfl).ev (by omega)) (evs_cons (ev_catL (ev_name C rfl).ev (ev_name C rfl).ev (by omega)) (evs_cons (ev_name C rfl).ev evs_nil)))) con_tx_new.p rfl rfl) ?_
  refine exs_assign C (ev_cast (P' := IsBool (TxV.seg (⟨vv, lk, A ++ B, C0 ++ D⟩ : TxV))) (ev_orB (ev_prop C (ev_name C rfl) (by k_is) (by k_is) (by k_is) (by k_is) (by k_is) (by k_is) (fun N v => obj_inst) (con_tx_segwit ok1.iok) rfl rfl (fun N v hv => by rw [show v = _ from hv]; rfl)) (ev_prop C (ev_name C rfl) (by k_is) (by k_is) (by k_is) (by k_is) (by k_is) (by k_is) (fun N v => obj_inst) (con_tx_segwit ok2.iok) rfl rfl (fun N v hv => by rw [show v = _ from hv]; rfl))) (by rw [seg_app])) ?_
  refine exs_ifF (tst_cast (tst_neBool (ev_name C rfl).ev (ev_neNil C (ev_compIf (Pb := IsIn) (fun iv : InV => !iv.its.isEmpty) (fun iv => iv) (ev_catL (ev_name C rfl).ev (ev_name C rfl).ev (by omega)) (by omega) (fun A q iv hm => tst_neNil C (ev_attr C (ev_attr C (ev_nameC) ga_in_wit) ga_wit_items).ev) (fun A q iv hm => (ev_nameC).ev)))) (by rw [← filter_any]; exact bne_self_eq_false _)) blk_nil ?_
  refine exs_assign (P := IsListOf IsBytes [leB 4 vv, leB 4 lk]) C (ev_list (as := [leB 4 vv, leB 4 lk]) (evs_cons (ev_methB (ev_name C rfl) gb_to_bytes (evs_cons ev_int.ev (evs_cons ev_str.ev evs_nil)) (bcon_to_le (k := 4) (by decide) ok3.v0 ok3.v1)) (evs_cons (ev_methB (ev_name C rfl) gb_to_bytes (evs_cons ev_int.ev (evs_cons ev_str.ev evs_nil)) (bcon_to_le (k := 4) (by decide) ok3.l0 ok3.l1)) evs_nil)) (Nat.le_of_ble_eq_true rfl)) ?_
  refine exs_assign (P := IsBytes (bareB (⟨vv, lk, A ++ B, C0 ++ D⟩ : TxV))) C (ev_catB (ev_catB (ev_catB (ev_bytesOf (ev_builtin C (by k_is) (by boot_fast) (by decide)) (ev_callB C (ev_builtin C (by k_is) (by boot_fast) (by decide)) (evs_cons (ev_catL (ev_name C rfl).ev (ev_name C rfl).ev (by omega)) evs_nil) (conb_lenL (by omega))) (Int.natCast_nonneg _) (by omega)) (ev_methC C ev_bytes gb_join (evs_cons (ev_call C (ev_glob C (by k_is)) (by k_is) (evs_cons (ev_catL (ev_name C rfl).ev (ev_name C rfl).ev (by omega)) evs_nil) (con_keptI okI (by omega)).p rfl rfl) evs_nil) (conb_join hzI (by rw [List.length_map]; omega))) (by simp only [List.size_toArray, List.length_cons, List.length_nil]; omega)) (ev_bytesOf (ev_builtin C (by k_is) (by boot_fast) (by decide)) (ev_callB C (ev_builtin C (by k_is) (by boot_fast) (by decide)) (evs_cons (ev_catL (ev_name C rfl).ev (ev_name C rfl).ev (by omega)) evs_nil) (conb_lenL (by omega))) (Int.natCast_nonneg _) (by omega)) (by simp only [Array.size_append, List.size_toArray, List.length_cons, List.length_nil]; omega)) (ev_methC C ev_bytes gb_join (evs_cons (ev_call C (ev_glob C (by k_is)) (by k_is) (evs_cons (ev_catL (ev_name C rfl).ev (ev_name C rfl).ev (by omega)) evs_nil) (con_keptO okO (by omega)).p rfl rfl) evs_nil) (conb_join hzO (by rw [List.length_map]; omega))) (by simp only [Array.size_append, List.size_toArray, List.length_cons, List.length_nil]; omega)) ?_
  refine exs_assign C (ev_methC C ev_bytes gb_join (evs_cons (ev_comp (Pb := IsBytes) (fun iv : InV => witB iv.its) (ev_catL (ev_name C rfl).ev (ev_name C rfl).ev (by omega)) (by omega) (fun A q iv hm => ev_meth C (ev_attr C (ev_nameC) ga_in_wit) gm_wit_ser (by k_is) evs_nil (con_wit_ser (okI iv hm).wn (okI iv hm).wd).p rfl rfl)) evs_nil) (conb_join hzW (by rw [List.length_map]; omega))) ?_
  refine exs_assign (P := IsBytes (txB (⟨vv, lk, A ++ B, C0 ++ D⟩ : TxV))) C (ev_cast (ev_catB (ev_catB (ev_item (k := 0) (ev_name C rfl).ev rfl (by decide)) (ev_ifexpR (bv := TxV.seg (⟨vv, lk, A ++ B, C0 ++ D⟩ : TxV)) (P := IsBytes (midB (⟨vv, lk, A ++ B, C0 ++ D⟩ : TxV))) (tst_bool (ev_name C rfl).ev) (fun q => ?_) (fun q => ?_)) (by rw [leB_size]; omega)) (ev_item (k := 1) (ev_name C rfl).ev rfl (by decide)) (by rw [leB_size, Array.size_append, leB_size]; omega)) (congrArg IsBytes (txB_mid (⟨vv, lk, A ++ B, C0 ++ D⟩ : TxV)))) ?_
  · unfold midB; rw [if_pos q]; exact (ev_catB (ev_catB (ev_bytes (d := [0, 1])).ev (ev_name C rfl).ev (by simp only [List.size_toArray, List.length_cons, List.length_nil]; omega)) (ev_name C rfl).ev (by simp only [Array.size_append, List.size_toArray, List.length_cons, List.length_nil]; omega))
  · unfold midB; rw [if_neg (by rw [q]; exact Bool.false_ne_true)]; exact (ev_name C rfl).ev
  refine exs_ifF (TstOE.tst (tsto_cons (tst_neB (ev_meth C (ev_name C rfl) gm_tx_ser (by k_is) evs_nil (con_tx_ser ok3).p rfl rfl) (ev_name C rfl).ev) (tsto_cons (tst_cast (tst_neBool (ev_prop C (ev_name C rfl) (by k_is) (by k_is) (by k_is) (by k_is) (by k_is) (by k_is) (fun N v => obj_inst) (con_tx_segwit ok3.iok) rfl rfl (fun N v hv => by rw [show v = _ from hv]; rfl)) (ev_name C rfl).ev) (bne_self_eq_false _)) tsto_nil))) blk_nil ?_
  refine exs_assign C (ev_call C (ev_glob C (by k_is)) (by k_is) (evs_cons (ev_name C rfl).ev (evs_cons (ev_comp (Pb := IsIn) bareI (ev_catL (ev_name C rfl).ev (ev_name C rfl).ev (by omega)) (show (A ++ B).length ≤ 16777216 by omega) (fun A q iv hm => (ev_call C (ev_globC C (by k_is)) (by k_is) (evs_cons (ev_attr C (ev_nameC) ga_in_txid).ev (evs_cons (ev_attr C (ev_nameC) ga_in_vout).ev (evs_cons (ev_attr C (ev_nameC) ga_in_script).ev (evs_cons (ev_attr C (ev_nameC) ga_in_seq).ev evs_nil)))) (con_in_new4 (iv := iv)).p rfl rfl))) (evs_cons (ev_catL (ev_name C rfl).ev (ev_name C rfl).ev (by omega)) (evs_cons (ev_name C rfl).ev evs_nil)))) con_tx_new.p rfl rfl) ?_
  refine exs_ifF (TstOE.tst (tsto_cons (tst_neB (ev_cast (ev_meth C (ev_name C rfl) gm_tx_ser (by k_is) evs_nil (con_tx_ser okp).p rfl rfl) (congrArg IsBytes hp)) (ev_catB (ev_catB (ev_item (k := 0) (ev_name C rfl).ev rfl (by decide)) (ev_name C rfl).ev (by rw [leB_size]; omega)) (ev_item (k := 1) (ev_name C rfl).ev rfl (by decide)) (by rw [leB_size, Array.size_append, leB_size]; omega))) (tsto_cons (tst_neB (ev_cast (ev_meth C (ev_name C rfl) gm_tx_txid (by k_is) evs_nil (con_tx_txid okp).p rfl rfl) (by rw [hN])) (ev_meth C (ev_name C rfl) gm_tx_txid (by k_is) evs_nil (con_tx_txid ok3).p rfl rfl)) (tsto_cons (tst_neB (ev_cast (ev_meth C (ev_name C rfl) gm_tx_hash (by k_is) evs_nil (con_tx_hash okp).p rfl rfl) (by rw [hN])) (ev_meth C (ev_name C rfl) gm_tx_hash (by k_is) evs_nil (con_tx_hash ok3).p rfl rfl)) tsto_nil)))) blk_nil ?_
  refine exs_ifF (TstOE.tst (tsto_cons (tst_neB (ev_meth C (ev_name C rfl) gm_tx_hash (by k_is) evs_nil (con_tx_hash ok3).p rfl rfl) (ev_cast (ev_call C (ev_glob C (by k_is)) (by k_is) (evs_cons (ev_catB (ev_catB (ev_item (k := 0) (ev_name C rfl).ev rfl (by decide)) (ev_name C rfl).ev (by rw [leB_size]; omega)) (ev_item (k := 1) (ev_name C rfl).ev rfl (by decide)) (by rw [leB_size, Array.size_append, leB_size]; omega)) evs_nil) (con_dsha (by rw [Array.size_append, Array.size_append, leB_size, leB_size]; omega)).p rfl rfl) (by rw [hW]))) (tsto_cons (tst_neB (ev_meth C (ev_name C rfl) gm_tx_txid (by k_is) evs_nil (con_tx_txid ok3).p rfl rfl) (ev_revB (ev_meth C (ev_name C rfl) gm_tx_hash (by k_is) evs_nil (con_tx_hash ok3).p rfl rfl) ev_negc.ev (by rw [hashB_size]; decide))) tsto_nil))) blk_nil ?_
  refine exs_assign C (ev_clsm C (ev_glob C (by k_is)) (by k_is) (by k_is) (by k_is) (by k_is) (by k_is) (by k_is) (evs_cons (ev_name C rfl).ev evs_nil) (con_parse hne ok3 pf.nm) rfl rfl) ?_
  refine exs_ifF (TstOE.tst (tsto_cons (tst_neL (d := 0) C (ev_call C (ev_glob C (by k_is)) (by k_is) (evs_cons (ev_attr C (ev_name C rfl) ga_tx_vin).ev evs_nil) (con_keptI (ins := A ++ B) okI (by omega)).p rfl rfl) (ev_call C (ev_glob C (by k_is)) (by k_is) (evs_cons (ev_catL (ev_name C rfl).ev (ev_name C rfl).ev (by omega)) evs_nil) (con_keptI (ins := A ++ B) okI (by omega)).p rfl rfl) (fun _ => eqv_bytes) rfl) (tsto_cons (tst_neL (d := 0) C (ev_call C (ev_glob C (by k_is)) (by k_is) (evs_cons (ev_attr C (ev_name C rfl) ga_tx_vout).ev evs_nil) (con_keptO (outs := C0 ++ D) okO (by omega)).p rfl rfl) (ev_call C (ev_glob C (by k_is)) (by k_is) (evs_cons (ev_catL (ev_name C rfl).ev (ev_name C rfl).ev (by omega)) evs_nil) (con_keptO (outs := C0 ++ D) okO (by omega)).p rfl rfl) (fun _ => eqv_bytes) rfl) (tsto_cons (tst_neL (d := 1) C (ev_comp (Pb := IsListOf IsBytes) (fun iv : InV => iv.its) (ev_attr C (ev_name C rfl) ga_tx_vin).ev (show (A ++ B).length ≤ 16777216 by omega) (fun A q iv hm => (ev_attr C (ev_attr C (ev_nameC) ga_in_wit) ga_wit_items).ev)) (ev_comp (Pb := IsListOf IsBytes) (fun iv : InV => iv.its) (ev_catL (ev_name C rfl).ev (ev_name C rfl).ev (by omega)) (show (A ++ B).length ≤ 16777216 by omega) (fun A q iv hm => (ev_attr C (ev_attr C (ev_nameC) ga_in_wit) ga_wit_items).ev)) (fun _ => eqv_list fun _ => eqv_bytes) rfl) tsto_nil)))) blk_nil ?_
  refine exs_ifF (tst_neL (d := 1) C (ev_comp (Pb := IsIn4) (fun iv : InV => iv) (ev_attr C (ev_name C rfl) ga_tx_vin).ev (show (A ++ B).length ≤ 16777216 by omega) (fun A q iv hm => (ev_tup (evs_cons (ev_attr C (ev_nameC) ga_in_txid).ev (evs_cons (ev_attr C (ev_nameC) ga_in_vout).ev (evs_cons (ev_attr C (ev_attr C (ev_nameC) ga_in_script) ga_scr_data).ev (evs_cons (ev_attr C (ev_nameC) ga_in_seq).ev evs_nil)))) (Nat.le_of_ble_eq_true rfl)))) (ev_comp (Pb := IsIn4) (fun iv : InV => iv) (ev_catL (ev_name C rfl).ev (ev_name C rfl).ev (by omega)) (show (A ++ B).length ≤ 16777216 by omega) (fun A q iv hm => (ev_tup (evs_cons (ev_attr C (ev_nameC) ga_in_txid).ev (evs_cons (ev_attr C (ev_nameC) ga_in_vout).ev (evs_cons (ev_attr C (ev_attr C (ev_nameC) ga_in_script) ga_scr_data).ev (evs_cons (ev_attr C (ev_nameC) ga_in_seq).ev evs_nil)))) (Nat.le_of_ble_eq_true rfl)))) (fun _ => eqv_tup ⟨eqv_bytes, eqv_int, eqv_bytes, eqv_int, trivial⟩) rfl) blk_nil ?_
  refine exs_ifF (TstOE.tst (tsto_cons (tst_neL (d := 1) C (ev_comp (Pb := IsOut2) (fun o : Int × Array UInt8 => o) (ev_attr C (ev_name C rfl) ga_tx_vout).ev (show (C0 ++ D).length ≤ 16777216 by omega) (fun A q iv hm => (ev_tup (evs_cons (ev_attr C (ev_nameC) ga_out_value).ev (evs_cons (ev_attr C (ev_attr C (ev_nameC) ga_out_script) ga_scr_data).ev evs_nil)) (Nat.le_of_ble_eq_true rfl)))) (ev_comp (Pb := IsOut2) (fun o : Int × Array UInt8 => o) (ev_catL (ev_name C rfl).ev (ev_name C rfl).ev (by omega)) (show (C0 ++ D).length ≤ 16777216 by omega) (fun A q iv hm => (ev_tup (evs_cons (ev_attr C (ev_nameC) ga_out_value).ev (evs_cons (ev_attr C (ev_attr C (ev_nameC) ga_out_script) ga_scr_data).ev evs_nil)) (Nat.le_of_ble_eq_true rfl)))) (fun _ => eqv_tup ⟨eqv_int, eqv_bytes, trivial⟩) rfl) (tsto_cons (tst_neT (d := 0) C (ev_tup (evs_cons (ev_attr C (ev_name C rfl) ga_tx_ver).ev (evs_cons (ev_attr C (ev_name C rfl) ga_tx_lock).ev evs_nil)) (Nat.le_of_ble_eq_true rfl)) (ev_tup (evs_cons (ev_name C rfl).ev (evs_cons (ev_name C rfl).ev evs_nil)) (Nat.le_of_ble_eq_true rfl)) ⟨eqv_int, eqv_int, trivial⟩ rfl) tsto_nil))) blk_nil ?_
  refine exs_assign C (ev_call C (ev_glob C (by k_is)) (by k_is) (evs_cons (ev_attr C (ev_name C rfl) ga_tx_ver).ev (evs_cons (ev_cast (ev_cutTo (ev_attr C (ev_name C rfl) ga_tx_vin).ev (ev_callB C (ev_builtin C (by k_is) (by boot_fast) (by decide)) (evs_cons (ev_name C rfl).ev evs_nil) (conb_lenL (by omega))) (show (A ++ B).length ≤ 16777216 by omega)) (congrArg _ List.take_left)) (evs_cons (ev_cast (ev_cutTo (ev_attr C (ev_name C rfl) ga_tx_vout).ev (ev_callB C (ev_builtin C (by k_is) (by boot_fast) (by decide)) (evs_cons (ev_name C rfl).ev evs_nil) (conb_lenL (by omega))) (show (C0 ++ D).length ≤ 16777216 by omega)) (congrArg _ List.take_left)) (evs_cons (ev_attr C (ev_name C rfl) ga_tx_lock).ev evs_nil)))) (con_tx_new (ver := vv) (lock := lk) (ins := A) (outs := C0)).p rfl rfl) ?_
  refine exs_assign C (ev_call C (ev_glob C (by k_is)) (by k_is) (evs_cons (ev_attr C (ev_name C rfl) ga_tx_ver).ev (evs_cons (ev_cast (ev_cutFrom (ev_attr C (ev_name C rfl) ga_tx_vin).ev (ev_callB C (ev_builtin C (by k_is) (by boot_fast) (by decide)) (evs_cons (ev_name C rfl).ev evs_nil) (conb_lenL (by omega))) (show (A ++ B).length ≤ 16777216 by omega)) (congrArg _ List.drop_left)) (evs_cons (ev_cast (ev_cutFrom (ev_attr C (ev_name C rfl) ga_tx_vout).ev (ev_callB C (ev_builtin C (by k_is) (by boot_fast) (by decide)) (evs_cons (ev_name C rfl).ev evs_nil) (conb_lenL (by omega))) (show (C0 ++ D).length ≤ 16777216 by omega)) (congrArg _ List.drop_left)) (evs_cons (ev_attr C (ev_name C rfl) ga_tx_lock).ev evs_nil)))) (con_tx_new (ver := vv) (lock := lk) (ins := B) (outs := D)).p rfl rfl) ?_
  exact exs_ret (ev_andC (ev_eqSame (ev_meth C (ev_name C rfl) gm_tx_ser (by k_is) evs_nil (con_tx_ser ok1).p rfl rfl) (ev_meth C (ev_name C rfl) gm_tx_ser (by k_is) evs_nil (con_tx_ser ok1).p rfl rfl)) (ev_andC (ev_eqSame (ev_meth C (ev_name C rfl) gm_tx_ser (by k_is) evs_nil (con_tx_ser ok2).p rfl rfl) (ev_meth C (ev_name C rfl) gm_tx_ser (by k_is) evs_nil (con_tx_ser ok2).p rfl rfl)) (ev_andC (ev_eqSame (ev_meth C (ev_name C rfl) gm_tx_txid (by k_is) evs_nil (con_tx_txid ok1).p rfl rfl) (ev_meth C (ev_name C rfl) gm_tx_txid (by k_is) evs_nil (con_tx_txid ok1).p rfl rfl)) (ev_and1 (ev_eqSame (ev_meth C (ev_name C rfl) gm_tx_txid (by k_is) evs_nil (con_tx_txid ok2).p rfl rfl) (ev_meth C (ev_name C rfl) gm_tx_txid (by k_is) evs_nil (con_tx_txid ok2).p rfl rfl))))))
end
section
variable {w : World} {DB : Heap → Prop} {sl : Addr} {c : FC} {xs : List Int}
theorem law_b (C : c.Ok (lw w DB) lawF 200 2000) (bx : BX xs) (hD : ∀ h, DB h → BList sl xs h) : Exs (lw w DB) lawF c [(Str.ofString "script", IsVal (.ref sl))] RNil (lawS 0) (IsBool true) RNil := by
  have e : (2 : Int) ^ (32 : Int).toNat = 4294967296 := by decide
  have h1 : Builtin.Int.intBits (numZ xs 1) ≤ 1100000 := numZ_bits bx (by decide) (by decide)
  refine exs_assign2 C (ev_tup (evs_cons (ev_bin (ev_call C (ev_glob C (by k_is)) (by k_is) (evs_cons (ev_name C rfl).ev (evs_cons ev_int.ev evs_nil)) (con_number (p := 0) bx hD (by decide) (by decide)).p rfl rfl) (ev_bin ev_int.ev ev_int.ev (bin_pow (by decide) (by decide) (by decide) (by decide) (by decide))) (bin_mod (by decide))) (evs_cons (ev_bin (ev_bin (ev_call C (ev_glob C (by k_is)) (by k_is) (evs_cons (ev_name C rfl).ev (evs_cons ev_int.ev evs_nil)) (con_number (p := 1) bx hD (by decide) (by decide)).p rfl rfl) ev_int.ev (bin_mulL (Nat.le_trans h1 (by decide)) (by decide))) (ev_bin ev_int.ev ev_int.ev (bin_pow (by decide) (by decide) (by decide) (by decide) (by decide))) (bin_mod (by decide))) evs_nil)) (Nat.le_of_ble_eq_true rfl)) ?_
  refine exs_assign2 C (ev_tup (evs_cons (ev_call C (ev_glob C (by k_is)) (by k_is) (evs_cons (ev_name C rfl).ev (evs_cons ev_int.ev evs_nil)) (con_inputs (p := 2) bx hD (by decide) (by decide)).p rfl rfl) (evs_cons (ev_call C (ev_glob C (by k_is)) (by k_is) (evs_cons (ev_name C rfl).ev (evs_cons ev_int.ev evs_nil)) (con_inputs (p := 6) bx hD (by decide) (by decide)).p rfl rfl) evs_nil)) (Nat.le_of_ble_eq_true rfl)) ?_
  refine exs_assign2 C (ev_tup (evs_cons (ev_call C (ev_glob C (by k_is)) (by k_is) (evs_cons (ev_name C rfl).ev (evs_cons ev_int.ev evs_nil)) (con_outputs (p := 10) bx hD (by decide) (by decide)).p rfl rfl) (evs_cons (ev_call C (ev_glob C (by k_is)) (by k_is) (evs_cons (ev_name C rfl).ev (evs_cons ev_int.ev evs_nil)) (con_outputs (p := 16) bx hD (by decide) (by decide)).p rfl rfl) evs_nil)) (Nat.le_of_ble_eq_true rfl)) ?_
  exact law_a (sl := sl) C ⟨fmod_lo _ (by decide), by rw [e]; exact fmod_hi _ (by decide), fmod_lo _ (by decide), by rw [e]; exact fmod_hi _ (by decide), insZ_ok, insZ_len.1, insZ_len.2, insZ_ok, insZ_len.2, outsZ_ok, outsZ_len, outsZ_ok, outsZ_len⟩
end
theorem law_run {w : World} {p : Program} {loose : List Str} {mean : ExcName → Option Value} {mg mb : Str → Option Value} {dp un : Nat} {fa : Addr} {ccd : Value} {outer : List Env} {A₀ : Around} {base h₀ : Heap} {L : Addr} {m : Str → Option Value} {s : Shared} {Q : Flow → Shared → Prop} {E : Value → Shared → Prop} {sl : Addr} {us : List Value} {xs : List Int}
    (cx : Cx w s.heap dp un d0.scope outer A₀ base h₀ L m p loose mean mg mb 200 2000) (hs : base.IsList sl us.toArray) (hI : IntsAre us xs) (hy : (PyData.list (List.map PyData.int xs)).layable0 = true) (hl : xs.length ≤ 63) (hm : m = fun y => List.lookup y [(Str.ofString "script", Value.ref sl)])
    (hret : ∀ (h' : Heap) (tk' : Nat) m', Fr h₀ L h' m' → Q (.ret (.bool true)) { s with heap := h', toks := tk' }) :
    wpP true (model pw w) (ktrTop dp un (some []) d0.name d0.scope L fa ccd [] outer) (execs (lawS 0) (envOf d0.name d0.scope L fa ccd)) Q E s := by
  obtain ⟨B, F, X, T, hk, hd, hu⟩ := cx
  subst hm
  refine law_b (c := ⟨dp, un, fa, ccd, [], outer, A₀, base, h₀, L, p, loose, mean, mg, mb, s⟩) (DB := BList sl xs) ⟨⟨us, hs, hI⟩, B, X, T, hk, hd, hu⟩ ⟨hy, hl⟩ (fun h q => q) [] Q E s (St.mk (C := []) (N := []) (h := s.heap) (tk := s.toks) F (fun y P q => ?_) (fun z hz => nomatch hz) News.nil nd_nil rfl) (fun v s' st' => ?_)
  · rw [List.lookup_cons] at q
    by_cases e : y = Str.ofString "script"
    · subst e
      rw [beq_self_eq_true] at q
      obtain rfl := Option.some.inj q
      exact ⟨_, rfl, rfl⟩
    · rw [beq_false_of_ne e] at q; cases q
  · apply st'.elim; intro h tk m Ck N F' hV hT hN nd r
    obtain rfl : v = .bool true := hT (IsBool true, v) (.head _)
    exact hret h tk m F'
theorem holds_bd0011_03 : PySem.Challenge.rw_bd0011_03.Holds := by
  refine hd ?_
  intro w s₀ s₁ mg mb G Y fa o pm cd doc dV kV ho hd' hcd hD hmg hg args vals as hpre hlay hrd hwl hlo
  have KX := kIn_of Y
  refine Ground.open G ?_
  intro T B D TE TW
  clear D
  clear hmg
  wrow_args hpre hlay hrd hwl hlo
  have K0 := below_caller (Top.heap T)
  have he := Dflts.none hD rfl
  subst he
  rename IntsAre _ _ => hI
  rename Heap.IsList _ _ _ => hL
  rename (PyData.list _).layable0 = true => hy
  refine p_call (p_callDef (by decide) ho hd' (Top.nolimit T) hcd rfl (BindsTo.of_eq rfl) (show ∀ x ∈ d0.scope.names, x.2 ≠ .cell from by decide) (locs rfl) (fun h₁ hns hk₁ => ?_))
  have F : Fr s₁.heap s₁.heap.objs.size h₁ _ := ⟨hns, hk₁, Nat.le_refl _⟩
  refine law_run (base := s₁.heap) (h₀ := s₁.heap) (L := s₁.heap.objs.size) ⟨K0, F, KX, T, ?_, ?_, ?_⟩ hL hI hy ?_ ?_ (fun h' tk' m' F' => ?_)
  · exact rfl
  · decide
  · decide
  · omega
  · rfl
  · show GoodWG _ _ _ _ _ (.ok (.ret (.bool true))) _
    refine ⟨.inl ⟨.bool true, .bool true, [], rfl, raisesW_false (by wrow_none_raised), .bool true, ?_, unshared_nil⟩, OldK.of_keep F'.keep, rfl, .of_eq hg⟩
    exact postW_of (by wrow_shape) (by wtm_val) (by str_meet; first | done | w_fin)
end Mine
theorem PySem.Challenge.cw_bd0011_03_holds : PySem.Challenge.rw_bd0011_03.Holds :=
  Mine.holds_bd0011_03
