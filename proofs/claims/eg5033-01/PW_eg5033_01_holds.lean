import PyProof.Rows.All
import Wide.All
import OpenK.AllK
import Wide.FinOn
import PySem.Challenge.RW_eg5033_01
open PySem PySem.W PySem.Calls PyProof.Rows PySem.NumText
set_option Elab.async false
set_option maxRecDepth 100000
set_option maxHeartbeats 16000000
set_option pp.deepTerms false
set_option pp.proofs false
namespace Mine
/-! UBase -/
section

/-! A logic for runs that stand under the claim's caller: wpAny, held to the contexts with «claim.caller» below. -/
def Under (Γ : Ctx) : Prop := (Γ.below.any fun x => x.1.isCaller) = true
theorem Under.enter {Γ : Ctx} (h : Under Γ) (c : Code) (hd : Option Value) (p : Pos) : Under (Γ.enter c hd p) := by
  show (((Γ.code, p) :: Γ.below).any fun x => x.1.isCaller) = true
  rw [List.any_cons, show (Γ.below.any fun x => x.1.isCaller) = true from h, Bool.or_true]
theorem Under.goto {Γ : Ctx} (h : Under Γ) (c : Code) : Under (Γ.goto c) := h

def wpC {α : Type} (M : Model) (A : Around) (t : Sem α) (Q : α → Shared → Prop) (E : Value → Shared → Prop) (s : Shared) : Prop :=
  ∀ Γ p, Γ.In A → Under Γ → Sem.wp M Γ t (fun a _ s' => Q a s') (fun e _ s' => E e s') p s
def codeC (M : Model) (A : Around) (c : Code) (R : Result → Shared → Prop) (s : Shared) : Prop :=
  ∀ Γ p, Γ.code = c → Γ.Below A → Under Γ → wpCode M Γ R p s

section
variable {α β : Type} {M : Model} {A : Around} {E : Value → Shared → Prop} {s : Shared}
theorem wpC_any {t : Sem α} {Q : α → Shared → Prop} (h : wpAny M A t Q E s) : wpC M A t Q E s := fun Γ p i _ => h Γ p i
theorem codeC_any {c : Code} {R : Result → Shared → Prop} (h : codeAny M A c R s) : codeC M A c R s := fun Γ p e i _ => h Γ p e i
theorem wpC_pure {a : α} {Q : α → Shared → Prop} (h : Q a s) : wpC M A (pure a) Q E s := fun _ _ _ _ => h
theorem wpC_mono {t : Sem α} {Q Q' : α → Shared → Prop} {E' : Value → Shared → Prop} (h : wpC M A t Q E s) (hQ : ∀ a s, Q a s → Q' a s) (hE : ∀ e s, E e s → E' e s) : wpC M A t Q' E' s :=
  fun Γ p i u => Sem.wp_mono M Γ t (fun a _ s => hQ a s) (fun e _ s => hE e s) p s (h Γ p i u)
theorem wpC_bind {m : Sem α} {f : α → Sem β} {Q : β → Shared → Prop} (h : wpC M A m (fun a s' => wpC M A (f a) Q E s') E s) : wpC M A (m >>= f) Q E s := fun Γ p i u => by
  rw [Sem.wp_bind']
  exact Sem.wp_mono M Γ m (fun a p' s' h' => h' Γ p' i u) (fun _ _ _ h' => h') p s (h Γ p i u)
theorem wpC_onRaise {m : Sem α} {k : Value → Sem Unit} {Q : α → Shared → Prop} (h : wpC M A m Q (fun e s' => wpC M A (k e) (fun _ s'' => E e s'') E s') s) : wpC M A (m.onRaise k) Q E s := fun Γ p i u => by
  rw [Sem.wp_onRaise]
  exact Sem.wp_mono M Γ m (fun _ _ _ h' => h') (fun e p' s' h' => h' Γ p' i u) p s (h Γ p i u)
theorem wpC_attempt {m : Sem α} {Q : Except Value α → Shared → Prop} (h : wpC M A m (fun a => Q (.ok a)) (fun e => Q (.error e)) s) : wpC M A m.attempt Q E s := fun Γ p i u => by
  rw [Sem.wp_attempt]; exact h Γ p i u
theorem wpC_holding {vs : List Value} {m : Sem α} {Q : α → Shared → Prop} (h : wpC M A m Q E s) : wpC M A (holding vs m) Q E s := fun Γ p i u => by
  rw [Sem.wp_holding]; exact h Γ p i u
theorem wpC_keep {vs : List Value} {m : Sem α} {Q : α → Shared → Prop} (h : wpC M A m Q E s) : wpC M A (m.keep vs) Q E s := fun Γ p i u => by
  rw [Sem.wp_keep]; exact h Γ p i u
theorem wpC_standAt {pos : Pos} {Q : Unit → Shared → Prop} (h : Q () s) : wpC M A (standAt pos) Q E s := fun _ _ _ _ => h
theorem wpC_operate {vs : List Value} {m : Sem Value} {Q : Value → Shared → Prop} (h : wpC M A m Q E s) : wpC M A (operate vs m) Q E s := fun Γ p i u => by
  rw [Sem.wp_operate]; exact h Γ p i u

theorem wpC_run {c : Code} {h : Option Value} {Q : Flow → Shared → Prop} (hc : codeC M (A.mark h) c (fun r s' => match r with | .ok f => Q f s' | .error e => E e s') s) (hnb : h ≠ some byPass := by intro x; cases x) :
    wpC M A (run c h) Q E s := fun Γ p i u => by
  rw [Sem.wp_run]; exact hc _ p rfl (i.enter c h p hnb) (u.enter c h p)
theorem wpC_call {f : Value} {pos : List Value} {kw : List (Str × Value)} {Q : Value → Shared → Prop}
    (hc : codeC M A (.call f ⟨pos, kw⟩) (fun r s' => match r with | .ok (.ret v) => Q v s' | .ok _ => False | .error e => E e s') s) : wpC M A (call f pos kw) Q E s := fun Γ p i u => by
  show Sem.wp M Γ (runValue (.call f ⟨pos, kw⟩)) _ _ p s
  rw [Sem.wp_runValue]; exact hc _ p rfl (i.enter _ none p (by intro x; cases x)) (u.enter _ none p)
theorem codeC_mono {c : Code} {R R' : Result → Shared → Prop} (h : codeC M A c R s) (hR : ∀ r s, R r s → R' r s) : codeC M A c R' s :=
  fun Γ p hc i u => wpCode_mono hR (h Γ p hc i u)
theorem codeC_tree {c : Code} {R : Result → Shared → Prop}
    (h : wpC M (A.under c) (M.den c) (fun fin s' => match fin with | .done f => R (.ok f) s' | .again c' => c'.quiet = true ∧ codeC M A c' R s') (fun e s' => R (.error e) s') s) : codeC M A c R s := fun Γ p hc i u => by
  rw [wpCode_iff_wp, hc]
  refine Sem.wp_mono M Γ _ (fun fin p' s' h' => ?_) (fun _ _ _ h' => h') p s (h Γ p (hc ▸ i.in) u)
  cases fin with
  | done f => exact h'
  | again c' => exact ⟨h'.1, h'.2 (Γ.goto c') p' rfl (i.goto c') u⟩
/-- a code that comes again as itself (a loop), by a number that falls -/
theorem codeC_again {c : Code} {R : Result → Shared → Prop} (hq : c.quiet = true) (I : Nat → Shared → Prop)
    (turn : ∀ n s, I n s → wpC M (A.under c) (M.den c)
      (fun fin s' => match fin with | .done f => R (.ok f) s' | .again c' => (c' = c ∧ ∃ m, m < n ∧ I m s') ∨ (c'.quiet = true ∧ codeC M A c' R s')) (fun e s' => R (.error e) s') s) :
    ∀ (n : Nat) (s : Shared), I n s → codeC M A c R s := by
  intro n
  induction n using Nat.strongRecOn with
  | ind n ih =>
    intro s h
    refine codeC_tree (wpC_mono (turn n s h) (fun fin s' hf => ?_) fun _ _ h' => h')
    cases fin with
    | done f => exact hf
    | again c' =>
      rcases hf with ⟨rfl, m, hm, hI⟩ | hf
      · exact ⟨hq, ih m hm _ hI⟩
      · exact hf
end

section
variable {prog : Program} {w : World} {A : Around} {E : Value → Shared → Prop} {R : Result → Shared → Prop} {s : Shared} {env : Env}
theorem codeC_func {body : List Stmt}
    (h : wpC (model prog w) (A.deeper env) (execs body env) (fun f s' => R (.ok (.ret (match f with | .ret v => v | _ => .none))) s')
      (fun e s' => wpAny (model prog w) (A.deeper env) (leaving env e) (fun _ s'' => R (.error e) s'') (fun e' s'' => R (.error e') s'') s') s) :
    codeC (model prog w) A (.func body env) R s := by
  refine codeC_tree ?_
  show wpC _ (A.deeper env) (do point; match ← (execs body env).onRaise (leaving env) with | .ret v => ret v | _ => ret .none) _ _ s
  refine wpC_bind (wpC_any (wpAny_point (wpC_bind (wpC_onRaise (wpC_mono h (fun f s' h' => ?_) fun _ _ h' => wpC_any h')))))
  cases f <;> exact wpC_pure h'
theorem codeC_call_def {a : Addr} {o : Obj} {fd : FuncData} {body : List Stmt} {args : Args} {binds : List (Str × Value)}
    (hroom : A.depth < recursionLimit) (ho : s.heap.get? a = some o) (hdata : o.data = .func fd) (hlim : s.heap.NoLimit) (hcd : s.heap.CodeRec fd.code fd.qualname)
    (hbody : fd.body = .stmts body) (hbind : BindsTo s fd args binds)
    (hcell : ∀ x ∈ fd.scope.names, x.2 ≠ .cell) (hloc : ∀ x ∈ binds, fd.scope.names.lookup x.1 = some .local)
    (h : ∀ h₀, h₀.Ns s.heap.objs.size (fun x => binds.reverse.lookup x) → (∀ b o, s.heap.get? b = some o → h₀.get? b = some o) →
      wpC (model prog w) (A.deeper (callEnv fd s.heap.objs.size a)) (execs body (callEnv fd s.heap.objs.size a)) (fun f s' => R (.ok (.ret (match f with | .ret v => v | _ => .none))) s')
        (fun e s' => wpAny (model prog w) (A.deeper (callEnv fd s.heap.objs.size a)) (leaving (callEnv fd s.heap.objs.size a) e) (fun _ s'' => R (.error e) s'') (fun e' s'' => R (.error e') s'') s')
        { s with heap := h₀, toks := s.toks + binds.length })
    (hco : fd.scope.isCoroutine = false) (hgen : fd.scope.isGenerator = false) (hk : fd.scope.kind = .function) :
    codeC (model prog w) A (.call (.ref a) args) R s := by
  refine codeC_tree ?_
  show wpC _ A.in1 (callAny (.ref a) args) _ _ s
  simp only [callAny]
  refine wpC_bind (wpC_any (wpAny_load ho ?_))
  have hcd' := hcd
  obtain ⟨c, oc, vs, tq, hc, hoc, hdc, hq⟩ := hcd'
  simp only [hdata, callFunction, hco, hgen, hbody, hc]
  refine wpC_bind (m := field (.ref c) 1) (wpC_any (wpAny_field hoc hdc hq (wpC_bind (wpC_pure ?_))))
  rw [← hc]
  refine wpC_bind (wpC_any (hbind _ _ _ _ (wpC_bind (wpC_any (wpAny_newFunctionEnv hcell hloc (fun h₁ hns hsb => ?_) hk)))))
  refine wpC_bind (wpC_any (wpAny_enterFrame (hlim.fresh _ hsb) hroom ?_))
  exact wpC_pure ⟨rfl, codeC_func (h h₁ hns fun b o e => hsb.extBut b o (Nat.ne_of_lt (Heap.lt_size e)) (Heap.get?_push_of_some _ e))⟩
end
end

/-! UStmt -/
section

section
variable {M : Model} {A : Around} {E : Value → Shared → Prop} {s : Shared} {env : Env}
theorem wpC_execs_nil {Q : Flow → Shared → Prop} (h : Q .next s) : wpC M A (execs [] env) Q E s := fun _ _ _ _ => h
theorem wpC_execs_cons {st : Stmt} {rest : List Stmt} {Q : Flow → Shared → Prop}
    (h : wpC M A (exec st env) (fun f s' => match f with | .next => wpC M A (execs rest env) Q E s' | f => Q f s') E s) : wpC M A (execs (st :: rest) env) Q E s := fun Γ p i u => by
  rw [execs_cons, Sem.wp_bind']
  refine Sem.wp_mono M Γ _ (fun f p' s' h' => ?_) (fun _ _ _ h' => h') _ _ (h Γ p i u)
  cases f <;> first | exact h' Γ p' i u | exact h'
/-- a statement without a refusal, walked by the library -/
theorem wpC_plain {st : Stmt} {rest : List Stmt} {Q : Flow → Shared → Prop}
    (h : wpAny M A (exec st env) (fun f s' => match f with | .next => wpC M A (execs rest env) Q E s' | f => Q f s') E s) : wpC M A (execs (st :: rest) env) Q E s := wpC_execs_cons (wpC_any h)
theorem wpC_If {test : Expr} {body orelse : List Stmt} {pos : Pos} {Q : Flow → Shared → Prop}
    (h : wpC M A (isTrue test env (eval test env)) (fun b s₂ => if b then wpC M A (execs body env) Q E s₂ else wpC M A (execs orelse env) Q E s₂) E s) : wpC M A (exec (.If test body orelse pos) env) Q E s := by
  rw [exec_If]
  refine wpC_bind (wpC_standAt (wpC_bind (wpC_mono h (fun b s₂ h₂ => ?_) fun _ _ x => x)))
  cases b <;> exact h₂
theorem wpC_Return {e : Expr} {pos : Pos} {Q : Flow → Shared → Prop} (h : wpC M A (eval e env) (fun v => Q (.ret v)) E s) : wpC M A (exec (.Return (some e) pos) env) Q E s := by
  rw [exec_Return_some]
  exact wpC_bind (wpC_standAt (wpC_bind (wpC_mono h (fun v s₂ h₂ => wpC_pure h₂) fun _ _ x => x)))
theorem wpC_Assign {targets : List Expr} {value : Expr} {pos : Pos} {Q : Flow → Shared → Prop}
    (h : wpC M A (eval value env) (fun v s₁ => wpAny M A (swappedStores targets value env) (fun sw s₂ => wpAny M A (assignStores env v sw ((assignEach targets env).map (·.2))) Q E s₂) E s₁) E s)
    (hs : swapsWithSole targets value pos.line env = pure false := by rfl) : wpC M A (exec (.Assign targets value pos) env) Q E s := by
  have e : exec (.Assign targets value pos) env = (do
    standAt pos
    if ← swapsWithSole targets value pos.line env then do
      evalThenUse value env fun v => assignAll v ((assignEach targets env).map (·.2))
      pure .next
    else do
      let v ← eval value env
      assignStores env v (← swappedStores targets value env) ((assignEach targets env).map (·.2))) := rfl
  rw [e, hs]
  exact wpC_bind (wpC_standAt (wpC_bind (wpC_pure (wpC_bind (wpC_mono h (fun v s₁ h₁ => wpC_bind (wpC_any (wpAny_mono h₁ (fun sw s₂ h₂ => wpC_any h₂) fun _ _ x => x))) fun _ _ x => x)))))
theorem wpC_AssignName {x : Str} {px pos : Pos} {value : Expr} {Q : Flow → Shared → Prop}
    (h : wpC M A (eval value env) (fun v s₁ => wpAny M A (storeName env x v) (fun _ => Q .next) E s₁) E s)
    (hs : swapsWith value (some (.Name x px)) pos.line env = pure false := by rfl) : wpC M A (exec (.Assign [.Name x px] value pos) env) Q E s := by
  rw [exec_Assign_Name env x px value pos hs]
  refine wpC_bind (wpC_standAt (wpC_bind (wpC_mono h (fun v s₁ h₁ => wpC_any (wpAny_bind (wpAny_standAt (wpAny_bind ?_)))) fun _ _ x => x)))
  exact wpAny_bindName (wpAny_mono h₁ (fun _ _ q => wpAny_pure q) fun _ _ x => x)
theorem wpC_BinOp {l r : Expr} {op : Operator} {pos : Pos} {Q : Value → Shared → Prop}
    (h : wpC M A (eval l env) (fun a s₁ => wpAny M A (eval r env) (fun b s₂ => wpAny M A (binaryOp op a b) Q E s₂) E s₁) E s) : wpC M A (eval (.BinOp l op r pos) env) Q E s := by
  rw [eval_BinOp]
  refine wpC_bind (wpC_mono h (fun a s₁ h₁ => wpC_bind (wpC_holding (wpC_any (wpAny_mono h₁ (fun b s₂ h₂ => wpC_bind (wpC_standAt (wpC_operate (wpC_any h₂)))) fun _ _ x => x)))) fun _ _ x => x)
theorem wpC_IfExp {t b o : Expr} {pos : Pos} {Q : Value → Shared → Prop}
    (h : wpC M A (isTrue t env (eval t env)) (fun c s₁ => if c then wpC M A (eval b env) Q E s₁ else wpC M A (eval o env) Q E s₁) E s) : wpC M A (eval (.IfExp t b o pos) env) Q E s := by
  have e : eval (.IfExp t b o pos) env = (do if ← isTrue t env (eval t env) then eval b env else eval o env) := rfl
  rw [e]
  refine wpC_bind (wpC_mono h (fun c s₁ h₁ => ?_) fun _ _ x => x)
  cases c <;> exact h₁
theorem wpC_isTrue_Not {x : Expr} {pos : Pos} {whole : Sem Value} {Q : Bool → Shared → Prop} (h : wpC M A (isTrue x env (eval x env)) (fun b => Q (!b)) E s) :
    wpC M A (isTrue (.UnaryOp .Not x pos) env whole) Q E s := by
  have e : isTrue (.UnaryOp .Not x pos) env whole = (do return !(← isTrue x env (eval x env))) := rfl
  rw [e]
  exact wpC_bind (wpC_mono h (fun b s₁ h₁ => wpC_pure h₁) fun _ _ x => x)
theorem wpC_isTrue_Call {f : Expr} {as : List Expr} {ks : List Keyword} {pos : Pos} {Q : Bool → Shared → Prop}
    (h : wpC M A (eval (.Call f as ks pos) env) (fun v s₁ => wpAny M A (truthy v) Q E s₁) E s) : wpC M A (isTrue (.Call f as ks pos) env (eval (.Call f as ks pos) env)) Q E s := by
  have e : isTrue (.Call f as ks pos) env (eval (.Call f as ks pos) env) = (do let v ← eval (.Call f as ks pos) env; standAt pos; holding [v] (truthy v)) := rfl
  rw [e]
  exact wpC_bind (wpC_mono h (fun v s₁ h₁ => wpC_bind (wpC_standAt (wpC_holding (wpC_any h₁)))) fun _ _ x => x)
theorem wpC_isTrue_Compare {l r : Expr} {op : CmpOp} {pos : Pos} {whole : Sem Value} {Q : Bool → Shared → Prop}
    (h : wpC M A (eval l env) (fun a s₁ => wpAny M A (eval r env) (fun b s₂ => wpAny M A (compareOp op a b) (fun c s₃ => wpAny M A (truthy c) Q E s₃) E s₂) E s₁) E s)
    (hm : behindInMarks op r = false := by with_unfolding_all rfl) : wpC M A (isTrue (.Compare l [op] [r] pos) env whole) Q E s := by
  rw [isTrue_Compare1, markedBehindIn_of_false hm]
  refine wpC_bind (wpC_mono h (fun a s₁ h₁ => wpC_bind (wpC_holding (wpC_any (wpAny_mono h₁ (fun b s₂ h₂ => wpC_bind (wpC_standAt (wpC_bind (wpC_operate (wpC_any (wpAny_mono h₂ (fun c s₃ h₃ => wpC_holding (wpC_any h₃)) fun _ _ x => x)))))) fun _ _ x => x)))) fun _ _ x => x)
theorem wpC_isTrue_And2 {x y : Expr} {pos : Pos} {whole : Sem Value} {Q : Bool → Shared → Prop}
    (h : wpC M A (isTrue x env (eval x env)) (fun b s₁ => if b then wpC M A (isTrue y env (eval y env)) Q E s₁ else Q false s₁) E s) : wpC M A (isTrue (.BoolOp .And [x, y] pos) env whole) Q E s := by
  have e : isTrue (.BoolOp .And [x, y] pos) env whole = (do
    match BoolOp.And, ← isTrue x env (eval x env) with
    | .And, false => pure false
    | .Or, true => pure true
    | _, _ => (do
      match BoolOp.And, ← isTrue y env (eval y env) with
      | .And, false => pure false
      | .Or, true => pure true
      | _, _ => pure (BoolOp.And == .And))) := rfl
  rw [e]
  refine wpC_bind (wpC_mono h (fun b s₁ h₁ => ?_) fun _ _ x => x)
  cases b with
  | false => exact wpC_pure h₁
  | true =>
    refine wpC_bind (wpC_mono h₁ (fun b s₂ h₂ => ?_) fun _ _ x => x)
    cases b with
    | false => exact wpC_pure h₂
    | true => exact wpC_pure h₂

/-- what a caller keeps of the callee is looked up without a change -/
def Kept (M : Model) (f : Value) (h : Heap) : Prop := ∃ k, (k = Keeper.frame ∨ k = Keeper.machine ∨ k = Keeper.boundFrame) ∧ Looks M h (keeperOf f) k
theorem kept_K {K : Frag} {f : Value} {h : Heap} (X : K.In h) (hk : keepIn K f = true) : Kept M f h := keeps_K hk h X
theorem kept_M {K : Frag} {q f : Addr} {self : Value} {h : Heap} (X : MethP K q f self h) (hf : fnIn K f = true) : Kept M (.ref q) h := keeps_M hf h X
theorem wpC_callWith {pos : Pos} {f : Value} {first : List Value} {e : Expr} {rest : List Expr} {Q : Value → Shared → Prop}
    (h : wpC M A (spliced (backTo pos (starEach (e :: rest) env))) (fun vs s₁ => Kept M f s₁.heap ∧ wpC M A (call f (first ++ vs)) Q E s₁) E s)
    (he : starEach (e :: rest) env = (false, eval e env) :: starEach rest env := by rfl) (hplain : (backTo pos (starEach rest env)).any (·.1) = false := by rfl) :
    wpC M A (callWith pos f first (backTo pos (starEach (e :: rest) env)) []) Q E s := by
  rw [he] at h ⊢
  have hp : ((backTo pos ((false, eval e env) :: starEach rest env)).any (·.1) || ([] : List (Option Str × Sem Value)).any (·.1.isNone)) = false := by
    show ((false || (backTo pos (starEach rest env)).any (·.1)) || false) = false
    rw [hplain]; rfl
  unfold callWith
  refine wpC_bind (wpC_holding ?_)
  unfold evalArgs
  show wpC M A (spliced (backTo pos ((false, eval e env) :: starEach rest env)) >>= _) _ _ _
  refine wpC_bind (wpC_mono h (fun vs s₁ h₁ => ?_) fun _ _ x => x)
  obtain ⟨⟨k, hk, L⟩, h₁⟩ := h₁
  refine wpC_holding ?_
  refine wpC_bind (wpC_pure (wpC_bind (wpC_pure (wpC_pure ?_))))
  refine wpC_bind (wpC_standAt ?_)
  simp only [hp]
  refine wpC_bind (wpC_any (L.here ?_))
  have tail : ∀ {t : Sem Value}, wpC M A t Q E s₁ → wpC M A (t >>= fun r => holding [r] point >>= fun _ => pure r) Q E s₁ :=
    fun ht => wpC_bind (wpC_mono ht (fun r s₂ hr => wpC_bind (wpC_holding (wpC_any (wpAny_point (wpC_pure hr))))) fun _ _ x => x)
  have marked (mk : Value) : wpC M A (callMarked mk f (first ++ vs) []) Q E s₁ := by unfold callMarked; exact wpC_keep h₁
  rcases hk with rfl | rfl | rfl <;> dsimp only <;> first | exact tail h₁ | (split <;> first | exact tail h₁ | exact tail (marked _))
theorem wpC_Call_Name {id : Str} {p pos : Pos} {e : Expr} {rest : List Expr} {Q : Value → Shared → Prop}
    (h : wpAny M A (eval (.Name id p) env) (fun f s₁ => wpC M A (spliced (backTo pos (starEach (e :: rest) env))) (fun vs s₂ => Kept M f s₂.heap ∧ wpC M A (call f ([] ++ vs)) Q E s₂) E s₁) E s)
    (he : starEach (e :: rest) env = (false, eval e env) :: starEach rest env := by rfl) (hplain : (backTo pos (starEach rest env)).any (·.1) = false := by rfl) :
    wpC M A (eval (.Call (.Name id p) (e :: rest) [] pos) env) Q E s := by
  rw [arm_eval_Call_Name']
  exact wpC_bind (wpC_any (wpAny_mono h (fun f s₁ h₁ => wpC_callWith h₁ he hplain) fun _ _ x => x))
theorem wpC_Call_Attr {o : Expr} {name : Str} {apos pos : Pos} {e : Expr} {rest : List Expr} {pl : Sem Bool} {Q : Value → Shared → Prop}
    (h : wpAny M A (eval o env) (fun ov s₁ => wpAny M A (getMethod ov name pl) (fun fx s₂ => wpC M A (spliced (backTo pos (starEach (e :: rest) env))) (fun vs s₃ => Kept M fx.1 s₃.heap ∧ wpC M A (call fx.1 (fx.2 ++ vs)) Q E s₃) E s₂) E s₁) E s)
    (he : starEach (e :: rest) env = (false, eval e env) :: starEach rest env := by rfl) (hplain : (backTo pos (starEach rest env)).any (·.1) = false := by rfl)
    (hc : eval (.Call (.Attribute o name apos) (e :: rest) [] pos) env = (do
      let ov ← eval o env
      standAt apos.atName
      let (f, first) ← holding [ov] (getMethod ov name pl)
      callWith pos f first (backTo pos (starEach (e :: rest) env)) (backToKw pos (keywordEach [] env))) := by rfl) :
    wpC M A (eval (.Call (.Attribute o name apos) (e :: rest) [] pos) env) Q E s := by
  rw [hc]
  refine wpC_bind (wpC_any (wpAny_mono h (fun ov s₁ h₁ => wpC_bind (wpC_standAt (wpC_bind (wpC_holding (wpC_any (wpAny_mono h₁ (fun fx s₂ h₂ => ?_) fun _ _ x => x)))))) fun _ _ x => x))
  exact wpC_callWith h₂ he hplain
theorem wpC_spliced_cons {x : Sem Value} {rest : List (Bool × Sem Value)} {Q : List Value → Shared → Prop}
    (h : wpC M A x (fun v s₁ => wpC M A (spliced rest) (fun vs s₂ => Q (v :: vs) s₂) E s₁) E s) : wpC M A (spliced ((false, x) :: rest)) Q E s := by
  rw [spliced]
  refine wpC_bind (wpC_mono h (fun v s₁ h₁ => wpC_bind (wpC_pure (wpC_bind (wpC_holding (wpC_mono h₁ (fun vs s₂ h₂ => wpC_pure h₂) fun _ _ x => x))))) fun _ _ x => x)
theorem wpC_spliced_nil {Q : List Value → Shared → Prop} (h : Q [] s) : wpC M A (spliced []) Q E s := wpC_pure h
end

section
variable {prog : Program} {w : World} {A : Around} {E : Value → Shared → Prop} {s : Shared} {env : Env}
theorem wpC_Expr {e : Expr} {pos : Pos} {Q : Flow → Shared → Prop} (h : wpC (model prog w) A (eval e env) (fun _ => Q .next) E s)
    (hi : interactive env = false := by rfl) (hs : swapsWith e none pos.line env = pure false := by rfl) : wpC (model prog w) A (exec (.Expr e pos) env) Q E s := by
  rw [exec_Expr env e pos hi hs]
  exact wpC_bind (wpC_standAt (wpC_bind (wpC_mono h (fun v s' h' => wpC_any (wpAny_dropValue h')) fun _ _ x => x)))
theorem wpC_Try {body orelse : List Stmt} {h₀ : ExceptHandler} {hs : List ExceptHandler} {pos : Pos} {Q : Flow → Shared → Prop}
    (h : wpC (model prog w) A (execs body env) (fun f s₁ => match f with | .next => wpC (model prog w) A (execs orelse env) Q E s₁ | f => Q f s₁)
      (fun e s₁ => wpAny (model prog w) A (noteFrame e env) (fun _ s₂ => wpAny (model prog w) A (setFlight e none) (fun _ s₃ => wpAny (model prog w) A (handleBy e env (h₀ :: hs)) Q E s₃) E s₂) E s₁) s) :
    wpC (model prog w) A (exec (.Try body (h₀ :: hs) orelse [] pos) env) Q E s := by
  rw [arm_exec_Try]
  refine wpC_bind (wpC_standAt ?_)
  unfold tryStmt
  simp only [List.isEmpty_nil, if_true, List.isEmpty_cons, Bool.false_and, Bool.false_eq_true, if_false]
  refine wpC_bind (wpC_attempt (wpC_mono h (fun f s₁ h₁ => ?_) fun e s₁ h₁ => ?_))
  · cases f <;> first | exact h₁ | exact wpC_pure h₁
  · exact wpC_any (wpAny_bind (wpAny_mono h₁ (fun _ _ h₂ => wpAny_bind h₂) fun _ _ x => x))
theorem codeC_forLoop {R : Result → Shared → Prop} {target : Expr} {it : Value} {body : List Stmt} (I : Nat → Shared → Prop)
    (turn : ∀ n s, I n s → wpAny (model prog w) A (pyNext it) (fun r s₁ => match r with
      | none => R (.ok .next) s₁
      | some v => wpAny (model prog w) A (assign target env v) (fun _ s₂ => wpC (model prog w) A (execs body env) (fun f s₃ => match f with
          | .next | .cont => ∃ m, m < n ∧ I m s₃
          | .brk => R (.ok .next) s₃
          | .ret v => R (.ok (.ret v)) s₃) (notedBy (model prog w) A env fun e s' => R (.error e) s') s₂) (notedBy (model prog w) A env fun e s' => R (.error e) s') s₁) (notedBy (model prog w) A env fun e s' => R (.error e) s') s)
    (n : Nat) (h : I n s) (ht : ∀ s v, wpAny (model prog w) A (letOwnedTupleGo target it v) (fun _ s' => s' = s) (fun _ _ => False) s) : codeC (model prog w) A (.forLoop target it body [] env) R s := by
  refine codeC_again rfl I (fun n s hI => ?_) n s h
  show wpC _ _ ((forTurn target it body [] env).onRaise (fun x => do noteFrame x env; theTreesLotGoes x)) _ _ s
  refine wpC_onRaise (wpC_mono (E := notedBy (model prog w) A env fun e s' => R (.error e) s') ?_ (fun _ _ x => x) fun _ _ hx => wpC_any (wpAny_bind (wpAny_mono hx (fun _ _ e => wpAny_theTreesLotGoes e) fun _ _ e => e)))
  simp only [forTurn]
  refine wpC_bind (wpC_standAt (wpC_bind (wpC_any (wpAny_onRaise (wpAny_mono (turn n s hI) (fun r s₁ h₁ => ?_) fun _ _ h' => wpAny_standAt h')))))
  cases r with
  | none => exact wpC_pure (.inr ⟨rfl, codeC_any (codeAny_block (wpAny_execs_nil h₁))⟩)
  | some v =>
    refine wpC_bind (wpC_any (wpAny_mono (ht s₁ v) (fun _ s₂ e => ?_) fun _ _ x => x.elim))
    subst e
    refine wpC_bind (wpC_any (wpAny_mono h₁ (fun _ s₂ h₂ => wpC_bind (wpC_mono h₂ (fun f s₃ h₃ => ?_) fun _ _ h' => h')) fun _ _ h' => h'))
    cases f with
    | next => exact wpC_pure (.inl ⟨rfl, h₃⟩)
    | cont => exact wpC_pure (.inl ⟨rfl, h₃⟩)
    | brk => exact wpC_pure h₃
    | ret v => exact wpC_pure h₃
theorem wpC_For {target iter : Expr} {body : List Stmt} {pos : Pos} {Q : Flow → Shared → Prop}
    (h : wpAny (model prog w) A (eval iter env) (fun x s₁ => wpAny (model prog w) A (pyIter x) (fun it s₂ =>
      codeC (model prog w) A (.forLoop target it body [] env) (fun r s' => match r with | .ok f => Q f s' | .error e => cameBackBy (model prog w) A env E e s') s₂) E s₁) E s)
    (hs : ∀ x, foldedSetIterable iter env x = pure x := by intro _; rfl) : wpC (model prog w) A (exec (.For target iter body [] pos) env) Q E s := by
  rw [exec_For]
  refine wpC_bind (wpC_standAt (wpC_bind (wpC_any (wpAny_mono h (fun x s₁ h₁ => ?_) fun _ _ h' => h'))))
  rw [hs x]
  refine wpC_bind (wpC_pure (wpC_bind (wpC_standAt (wpC_bind (wpC_holding (wpC_any (wpAny_mono h₁ (fun it s₂ h₂ => ?_) fun _ _ h' => h')))))))
  unfold runOwn
  exact wpC_onRaise (wpC_run (codeC_mono h₂ (fun r s' hr => by cases r with | ok f => exact hr | error e => exact wpC_any hr)))
end
end

/-! UHead -/
end Mine
namespace Mine
/-- where the claim's caller itself stands -/
abbrev topCtx : Ctx := ⟨.builtin "claim.caller" {}, none, none, [], none⟩
theorem under_top (c : Code) (hd : Option Value) (p : Pos) : Under (topCtx.enter c hd p) := by
  show (((Code.builtin "claim.caller" {}, p) :: ([] : List (Code × Pos))).any fun x => x.1.isCaller) = true
  rfl
theorem top_call {prog : Program} {w : World} {f : Value} {vs : List Value} {Q : Value → Shared → Prop} {E : Value → Shared → Prop} {s : Shared} {p : Pos}
    (h : codeC (model prog w) callerA (.call f ⟨vs, []⟩) (fun r s' => match r with | .ok (.ret v) => Q v s' | .ok _ => False | .error e => E e s') s) :
    Sem.wp (model prog w) topCtx (PySem.call f vs) (fun v _ s' => Q v s') (fun e _ s' => E e s') p s := by
  show Sem.wp _ _ (runValue (.call f ⟨vs, []⟩)) _ _ p s
  rw [Sem.wp_runValue]
  exact h _ p rfl (caller_in.enter _ none p (by intro x; cases x)) (under_top _ none p)

/-- the call of a law, from the caller's own context -/
abbrev lawTree (name : Str) (vs : List Value) : Sem Fin := do
  match ← nsGet mainNs name with
  | some f => do ret (← PySem.call f vs)
  | none => unsupported "claim.caller:no-such-global"
theorem top_tree {prog : Program} {w : World} {name : Str} {vs : List Value} {mg : Str → Option Value} {f : Value} {R : Result → Shared → Prop} {s : Shared}
    (hg : s.heap.Ns mainGlobals mg) (hf : mg name = some f) (h : codeC (model prog w) callerA (.call f ⟨vs, []⟩) R s) (hr : ∀ fl s', R (.ok fl) s' → ∃ v, fl = .ret v) :
    Sem.wp (model prog w) topCtx (lawTree name vs) (fun fin _ s' => ∃ fl, fin = .done fl ∧ R (.ok fl) s') (fun e _ s' => R (.error e) s') default s := by
  rw [lawTree, Sem.wp_bind']
  refine (Sem.wp_nsGet _ _ _ _ _ hg name _).mpr ?_
  rw [hf]
  show Sem.wp _ _ (PySem.call f vs >>= fun v => ret v) _ _ _ _
  rw [Sem.wp_bind']
  refine Sem.wp_mono _ _ _ (fun v p' s' hv => ?_) (fun _ _ _ x => x) _ _ (top_call (Q := fun v s' => R (.ok (.ret v)) s') (E := fun e s' => R (.error e) s') (codeC_mono h fun r s' hr' => ?_))
  · show Sem.wp _ _ (Pure.pure _) _ _ _ _
    rw [Sem.wp_pure']
    exact ⟨_, rfl, hv⟩
  · cases r with
    | error e => exact hr'
    | ok fl => obtain ⟨v, rfl⟩ := hr fl s' hr'; exact hr'

theorem good_ret {c : ClaimW} {cl : Str → Option Addr} {mean : ExcName → Option Value} {args : List WData} {s₁ s' : Shared} {fl : Flow} (g : GoodWG c cl mean args s₁ (.ok fl) s') : ∃ v, fl = .ret v := by
  rcases g.1 with ⟨v, _, _, e, _⟩ | ⟨_, _, _, e, _⟩
  · cases e; exact ⟨v, rfl⟩
  · cases e

abbrev WalkU (q : Program) (loose : List Str) (XP : (Str → Option Value) → Heap → Prop) (YP : World → Heap → Prop) (r : RowW) (d : DefRec) (kwd : List (Str × Expr)) : Prop :=
  ∀ (w : World) (s₀ s₁ : Shared) (mg mb : Str → Option Value), Ground q loose r.records XP w s₀ mg mb s₁.heap → YP w s₁.heap → ∀ (a : Addr) (o : Obj) (pm cd doc dV kV : Value), s₁.heap.get? a = some o →
    o.data = .func { docDef d.name d.params d.body d.scope pm cd doc with defaults := dV, kwdefaults := kV } → s₁.heap.CodeRec cd d.name → Dflts mg s₁.heap d.params kwd dV kV → mg d.name = some (.ref a) → s₁.gens = #[] →
    ∀ (args : List WData) (vals : List Value) (as : List Addr), r.claim.pre args = true → WData.layableAll args = true → ReadsAllW r.records (classAt s₀.heap) s₁.heap vals args as → WellAll w.params s₁.heap vals args → (∀ a ∈ as, (a == sysModules) = false) →
      codeC (model r.prog w) callerA (.call (.ref a) ⟨vals, []⟩) (GoodWG r.claim (classAt s₀.heap) (ExcName.means s₀.heap) args s₁) s₁

theorem callFrom {c : ClaimW} {name : Str} {w : World} {s : Shared} {free : Addr → Prop} {gens : Prop} {kept : Heap → Prop} (hz : s.asleep) (hgens : s.gens = #[])
    (hspec : ∀ args, c.pre args = true → WData.layableAll args = true → ∀ ord : List DictEntry → List DictEntry, (∀ l, (ord l).Perm l) →
      ∃ vs s₁, layAllW c.records (classAt s.heap) w.params ord args s = some (vs, s₁) ∧
        Sem.wp (model c.prog w) topCtx (lawTree name vs) (fun fin _ s' => ∃ f, fin = .done f ∧ (c.Ends s args vs s₁ (.ok f) s' ∧ s'.os = s.os ∧ AllBare s'.gens ∧ kept s'.heap))
          (fun e _ s' => c.Ends s args vs s₁ (.error e) s' ∧ s'.os = s.os ∧ AllBare s'.gens ∧ kept s'.heap) default s₁) :
    c.CallFrom (fun vs => ⟨lawTree name vs, .builtin "claim.caller" {}, default, []⟩) w free gens kept s := by
  intro args hpre hlay ord hord
  obtain ⟨vs, s₁, hlaid, hrun⟩ := hspec args hpre hlay ord hord
  have hal := layAllW_rest _ _ _ hlaid
  obtain ⟨k, r, s₂, s₃, hsch, hrn, hfo, ⟨hends, hos, hkept⟩⟩ := wp_halts_full (M := model c.prog w) (c := .builtin "claim.caller" {}) (t := lawTree name vs) (p := default) (s := s₁)
    (R := fun r s' => c.Ends s args vs s₁ r s' ∧ s'.os = s.os ∧ kept s'.heap) (Shared.asleep_of_life hal.2.2.2 hz)
    (Sem.wp_mono _ _ _ (fun fin _ s' ⟨f, e, h1, h2, h3, h4⟩ => by subst e; exact ⟨⟨h1, h2, h4⟩, leftWithCleanup_false_of_bare h3⟩)
      (fun e _ s' ⟨h1, h2, h3, h4⟩ => ⟨⟨h1, h2, h4⟩, leftWithCleanup_false_of_bare h3⟩) _ _ hrun)
  obtain ⟨eh, _, _, eo, _⟩ := Shared.forget_eq hfo
  have hends' := hends.congr eh
  have hkept' : kept s₃.heap := by rw [eh]; exact hkept
  have hos' : s₃.os = s.os := eo.trans hos
  have hlife : s₃.heap.life = s.heap.life := (runN_life _ _ _ hrn).trans hal.2.2.2
  refine ⟨vs, s₁, hlaid, k, _, s₃, hsch, ?_, (fun _ i x hx => by rw [hgens] at hx; simp at hx), hkept', by rw [hlife], Shared.rest_eq hos'⟩
  rcases hends' with ⟨v, e, d1, d2, d3, d4, d5⟩ | ⟨x, ob, cls, e, d1, d2, d3, d4, d5⟩
  · subst e; exact .inl ⟨v, rfl, d1, d2, d3, fun b o y _ => d4 b o y, d5⟩
  · subst e; exact .inr ⟨x, ob, cls, rfl, d1, d2, d3, d4, fun b o y _ => d5 b o y⟩
end Mine

namespace Mine.PySem.W
open Mine
/-- the head of an open law, its call under the caller -/
theorem holds_open {r : OpenRow} {q : Program} {loose : List Str} {Xt : Shared → Bool} {XP : (Str → Option Value) → Heap → Prop} {α : Type} {Yf : Shared → α} {Ya : World → α} {YP : World → Heap → Prop} {d : DefRec} {kwd : List (Str × Expr)} {N : Nat}
    (left : LeftO r.prog q loose Xt Yf Ya N) (hY : ∀ w s, Yf s = Ya w → YP w s.heap) (hYk : ∀ w h h', YP w h → (∀ b o, h.get? b = some o → h'.get? b = some o) → YP w h')
    (hX : ∀ s, Xt s = true → XP (s.heap.nsMap mainGlobals) s.heap) (hXk : ∀ mg h h', XP mg h → (∀ b o, h.get? b = some o → h'.get? b = some o) → XP mg h')
    (hdef : defOf q r.name = some (d, kwd)) (hp : r.prog.theDef r.name = some (d.params, d.body, d.scope)) (hk : kwWritten? d.params.kwonlyargs d.params.kw_defaults = some kwd) (hRf : ∀ s, Xt s = true → RecFacts r.records s.heap) (hwr : (!r.writes || r.records.isEmpty) = true)
    (k1 : r.wellSaid = true) (ok : (chainsOk q && opensWell r.prog && (frees r.toRowW && r.within.isEmpty)) = true) (hb : r.prog.bare) (hw : r.toRowW.promised)
    (call : WalkU q loose XP YP r.toRowW d kwd) : r.Holds := by
  obtain ⟨ok1, k5⟩ := Bool.and_eq_true_iff.mp ok
  obtain ⟨hch, o1⟩ := Bool.and_eq_true_iff.mp ok1
  obtain ⟨k5, k6⟩ := Bool.and_eq_true_iff.mp k5
  obtain ⟨hsame, hu, ha, hap, hm⟩ := frees_parts k5
  have hi := ident_freeW hu ha hap
  have hwi : r.toRowW.claim.within = [] := List.isEmpty_iff.mp k6
  refine ⟨k1, hw, ⟨hb, o1, by show r.toRowW.makers.map _ = []; rw [hm]; rfl⟩, hw.witness, fun w => ⟨(left.behind hX hch w).1, fun s' hs' => ?_⟩⟩
  obtain ⟨s₀, hf, hg0, s, hT, hz, hgens, hg, G1, y⟩ := (left.behind (XP := fun mg h => XP mg h ∧ RecFacts r.records h) (fun s hs => ⟨hX s hs, hRf s hs⟩) hch w).2 s' hs'
  have G0 : Ground q loose [] XP w s (s.heap.nsMap mainGlobals) (s.heap.nsMap builtinsNs) s.heap := ⟨G1.T, G1.B, G1.D, G1.TE, G1.TD, G1.W, G1.X.1, G1.cls, G1.has, G1.apart, G1.once, G1.K⟩
  have RF := G1.X.2
  refine ⟨s₀, hf, hg0, s, hT, fun n hn => ?_, RF.1, RF.2.1, ?_⟩
  · obtain rfl : n = r.name := by split at hn <;> simp_all
    exact pinned_of_view hg G0 hdef hp hk
  have hgens : s.gens = #[] := Array.eq_empty_of_size_eq_zero (beq_iff_eq.mp hgens)
  have G : Ground q loose r.records XP w s _ _ s.heap := RF.ground G0
  refine callFrom (c := r.toRowW.claim) (name := r.name) hz hgens fun args hpre hlay ord hord => ?_
  obtain ⟨⟨vs, s₁⟩, hlaid⟩ := Option.isSome_iff_exists.mp (layAllW_isSome (P := w.params) (ord := ord) G.has args r.args s (pre_splitW hpre).1)
  have keeps := layAllW_keeps _ _ _ hlaid
  have hal := layAllW_rest _ _ _ hlaid
  obtain ⟨as, hrd, hin, hold⟩ := reads_layAllW hord _ _ _ hlaid hlay s₁.heap (fun _ _ e => e)
  have L : Laid r.records w s s₁ args vs as := ⟨⟨ord, hord, hlaid⟩, hrd, hin, hold, keeps, hal.1.trans hgens, hal.2.2.1⟩
  have G₁ := G.keeps hXk keeps
  obtain ⟨a, o, pm, cd, doc, dV, kV, h1, h2, h3, h4, h5⟩ := G₁.fn hdef
  have h := call w s s₁ _ _ G₁ (hYk _ _ _ (hY w s y) keeps) a o pm cd doc dV kV h2 h3 h4 h5 (defOf_name hdef ▸ h1) L.gens args vs as hpre hlay L.reads L.well (L.low G.low)
  refine ⟨vs, s₁, hlaid, ?_⟩
  refine Sem.wp_mono _ _ _ (fun fin _ s' ⟨fl, e, g⟩ => ?_) (fun e _ s' g => ?_) _ _ (top_tree G₁.T.g h1 h fun fl s' g => good_ret g)
  · have z := g.laid (c := r.toRowW.claim) hsame hwi hi L
    exact ⟨z.1, z.2.1, z.2.2, fun q => ⟨namesKept_of hT hg _ keeps g.2.1.old, noTable hwr q⟩⟩
  · have z := g.laid (c := r.toRowW.claim) hsame hwi hi L
    exact ⟨fl, e, z.1, z.2.1, z.2.2, fun q => ⟨namesKept_of hT hg _ keeps g.2.1.old, noTable hwr q⟩⟩
end Mine.PySem.W
namespace Mine

/-! UTop01 -/
section

open_top hd for PySem.Challenge.rw_eg5033_01
end

/-! UInt -/
section

section
variable {prog : Program} {w : World} {A : Around} {E : Value → Shared → Prop} {s : Shared}
theorem typeCall_int {v : Value} {Q : Fin → Shared → Prop} (h : wpC (model prog w) A (call (.builtin "int.__new__") [.type "int", v]) (fun _ _ => False) E s) :
    wpC (model prog w) A (Builtin.«type.__call__» ⟨[.type "int", v], []⟩) Q E s := by
  have h1 : checkTypeCall "int" ⟨[v], []⟩ = pure () := F.typeCall_int_1 v
  have h2 := F.mro_int
  have h3 := F.called_int.made
  have h4 := F.called_int.canCreate
  unfold Builtin.«type.__call__»
  dsimp only
  rw [if_neg (by decide)]
  rw [if_neg (by rw [h4]; decide)]
  rw [h1, h2, h3]
  refine wpC_bind (wpC_pure (wpC_bind (wpC_pure ?_)))
  rw [if_neg (by decide)]
  refine wpC_bind (wpC_pure ?_)
  dsimp only
  refine wpC_bind (wpC_pure (wpC_bind (wpC_holding (wpC_mono h (fun _ _ x => x.elim) fun _ _ x => x))))

theorem wpC_mark {M : Model} {own : List String} {e : Value} {Q : Unit → Shared → Prop} (h : Q () s) : wpC M A (markTheRefusal own e) Q E s := fun Γ p i u => by
  unfold markTheRefusal
  rw [Sem.wp_bind']
  show Sem.wp M Γ (if pythonCodeMadeTheCall own (((Γ.code, p) :: Γ.below).map (·.1)) = true then _ else _) _ _ p s
  have hc : pythonCodeMadeTheCall own (((Γ.code, p) :: Γ.below).map (·.1)) = false := by
    have a : ((((Γ.code, p) :: Γ.below).map (·.1)).any Code.isCaller) = true := by
      have u' : (Γ.below.any fun x => x.1.isCaller) = true := u
      rw [List.map_cons, List.any_cons, List.any_map]
      rw [show (Γ.below.any (Code.isCaller ∘ fun x => x.1)) = true from u', Bool.or_true]
    unfold pythonCodeMadeTheCall
    refine (congrArg (fun b => !b && _ && _) (show _ = true from a)).trans ?_
    rfl
  rw [if_neg (by rw [hc]; exact Bool.false_ne_true)]
  exact h
theorem wpC_ite_t {α : Type} {M : Model} {c : Prop} [Decidable c] {a b : Sem α} {Q : α → Shared → Prop} (hc : c) (h : wpC M A a Q E s) : wpC M A (if c then a else b) Q E s := by rw [if_pos hc]; exact h
theorem wpC_ite_f {α : Type} {M : Model} {c : Prop} [Decidable c] {a b : Sem α} {Q : α → Shared → Prop} (hc : ¬ c) (h : wpC M A b Q E s) : wpC M A (if c then a else b) Q E s := by rw [if_neg hc]; exact h

theorem refuse_text {x : PySem.Str} {t : Tok} {text : List Nat} {Q : Value → Shared → Prop} (hh : A.handled = none) (hs : (text.takeWhile (· != 0)).length ≤ 640) (hr : (int_private% "readNumeral") 0 10 (text.takeWhile (· != 0)) = int_private% "Numeral.invalid")
    (hlen : (reprText x).length ≤ sizeLine)
    (h : ∀ h' tk e, Heap.NewExc s.heap h' e "ValueError" → E (.ref e) { s with heap := h', toks := tk }) :
    wpC (model prog w) A ((int_private% "intFromText") (.str x t) text 10) Q E s := by
  with_unfolding_all refine wpC_ite_t hs ?_
  refine wpC_bind (wpC_pure ?_)
  dsimp only
  rw [hr]
  dsimp only
  with_unfolding_all refine wpC_bind (wpC_pure ?_)
  refine wpC_ite_f (by rw [Option.isSome_none, Bool.false_and]; exact Bool.false_ne_true) ?_
  refine wpC_bind (wpC_any (wpAny_rule ?_))
  with_unfolding_all refine wpC_bind (wpC_pure ?_)
  dsimp only
  refine wpC_bind (wpC_any (wpAny_pyRepr_str (x := x) ?_ hlen))
  refine wpC_bind (wpC_any (wpAny_mkStr ?_ ?_))
  · refine wpC_bind (wpC_any (wpAny_newExc_plain plainExc_ValueError fun h' e hm => ?_))
    refine wpC_bind (wpC_mark ?_)
    unfold raiseNew
    refine wpC_bind (wpC_any (wpAny_handled ?_))
    rw [hh]
    refine wpC_any ?_
    first
      | refine wpAny_throw ?_
      | refine wpAny_bind (wpAny_pure (wpAny_throw ?_))
    exact h _ _ _ hm.newExc
  · rw [PySem.Str.length_append, sizeLine_eq]
    have e1 : (Str.ofString (toString "invalid literal for int() with base " ++ toString 10 ++ toString ": ")).length = 40 := by decide +kernel
    have e2 : (⟨(reprText x).cps.extract 0 200⟩ : PySem.Str).length ≤ 200 := by
      show ((reprText x).cps.extract 0 200).size ≤ 200
      simp only [Array.size_extract]
      omega
    rw [e1]
    omega

theorem int_new_refuse {x : PySem.Str} {t : Tok} {Q : Fin → Shared → Prop} (hh : A.handled = none) (hs : (numSeenOf x).length ≤ 640) (hr : digits? 10 (core (numSeenOf x)) = none)
    (hlen : (reprText x).length ≤ sizeLine)
    (h : ∀ h' tk e, Heap.NewExc s.heap h' e "ValueError" → E (.ref e) { s with heap := h', toks := tk }) :
    wpC (model prog w) A (Builtin.«int.__new__» ⟨[.type "int", .str x t], []⟩) Q E s := by
  have f1 := F.conv_sub_int
  have f2 := F.madeHere_int
  have f3 := KIN.str_int
  have f4 := KIN.str_idx
  have f5 := KIN.str_trunc
  unfold Builtin.«int.__new__»
  dsimp only
  with_unfolding_all refine wpC_bind (wpC_pure ?_)
  refine wpC_ite_f (by decide) ?_
  rw [f1]
  refine wpC_bind (wpC_pure ?_)
  refine wpC_ite_f (by decide) ?_
  rw [f2]
  refine wpC_bind (wpC_pure ?_)
  refine wpC_ite_f (by simp) ?_
  refine wpC_ite_f (by simp) ?_
  with_unfolding_all refine wpC_bind (wpC_pure ?_)
  dsimp only [List.head?]
  with_unfolding_all refine wpC_bind ?_
  have f6 : typeOf (.str x t) = pure (.type "str") := rfl
  refine wpC_mono (Q := fun _ _ => False) ?_ (fun _ _ x => x.elim) fun _ _ x => x
  with_unfolding_all refine wpC_bind (wpC_any ?_)
  obtain ⟨hp, g, d, tk, os⟩ := s
  repeat wp_step
  dsimp only
  refine wpC_bind (wpC_any ?_)
  repeat wp_step
  refine wpC_ite_f (by decide) ?_
  refine wpC_bind (wpC_any ?_)
  repeat wp_step
  dsimp only
  with_unfolding_all refine wpC_bind (wpC_pure ?_)
  dsimp only
  exact refuse_text hh hs (by
    rw [readNumeral_ten, hr]
    exact judge_none) hlen h
end
end

/-! ULay -/
section

section
variable {prog : Program} {w : World} {A : Around} {E : Value → Shared → Prop} {s : Shared}

theorem method_callC {f self : Value} {pos : List Value} {kw : List (Str × Value)} {p : Addr} {R : Result → Shared → Prop} (ho : s.heap.get? p = some (methodObj f self))
    (h : codeC (model prog w) A (.call f ⟨self :: pos, kw⟩) R s) : codeC (model prog w) A (.call (.ref p) ⟨pos, kw⟩) R s := by
  obtain ⟨hh, g, dr, t, os⟩ := s
  refine codeC_tree ?_
  show wpC _ A.in1 (callAny (.ref p) ⟨pos, kw⟩) _ _ _
  dsimp only at ho
  simp only [callAny]
  refine wpC_bind (wpC_any (wpAny_load ho ?_))
  cases f <;> exact wpC_pure ⟨rfl, h⟩
end

section
variable {prog : Program} {w : World} {A₀ A : Around} {s : Shared} {base h₀ g₀ : Heap} {L a : Addr} {m : Str → Option Value} {news : List (Addr × Obj)} {K : Frag} {p : Program} {loose : List Str} {mean : ExcName → Option Value} {mg mb : Str → Option Value}
    {R : Result → Shared → Prop} {name qual : Str} {params : Arguments} {body : List Stmt} {scope : Scope} {dV kV doc pm cdv ct oc : Value} {an od : Option Addr} {osl : Array (Option Value)} {f : Addr} {args : Args} {binds : List (Str × Value)}

theorem codeC_def {env : Env} {outer : List Env}
    (B : Below A₀ base outer h₀) (F : Fr h₀ L s.heap m) (X₀ : K.In h₀) (N : News h₀ L s.heap news) (T : Top p loose mean mg mb h₀) (hA : A.frames = some (env :: outer)) (hf : env.frame = some L) (hke : env.scope.kind = .function)
    (ho : K.lookup f = some ⟨oc, od, .func (fnOf name qual params body scope dV kV doc pm an cdv ct), osl⟩) (hcd : codeIn K cdv qual = true) (hroom : A.depth < recursionLimit)
    (hbind : BindsTo s (fnOf name qual params body scope dV kV doc pm an cdv ct) args binds) (hloc : ∀ y ∈ binds, scope.names.lookup y.1 = some .local)
    (h : ∀ g L' h₁, Fr h₀ L g m → Fr g L' h₁ (fun y => binds.reverse.lookup y) → News g L' h₁ news → Below A base (env :: outer) g → K.In g → Top p loose mean mg mb g →
      wpC (model prog w) (A.deeper (envOf qual scope L' f cdv)) (execs body (envOf qual scope L' f cdv))
        (fun fl s' => LeaveK h₀ L m g R (match fl with | .ret v => v | _ => .none) s')
        (fun e s' => wpAny (model prog w) (A.deeper (envOf qual scope L' f cdv)) (leaving (envOf qual scope L' f cdv) e) (fun _ s'' => R (.error e) s'') (fun e' s'' => R (.error e') s'') s')
        { s with heap := h₁, toks := s.toks + binds.length })
    (hco : scope.isCoroutine = false) (hgen : scope.isGenerator = false) (hk : scope.kind = .function)
    (hcell : ∀ x ∈ scope.names, x.2 ≠ .cell) : codeC (model prog w) A (.call (.ref f) args) R s := by
  have X := X₀.keeps F.keep
  obtain ⟨FG, BG, st, lv⟩ := groundX (R := R) B F N hA hf hke
  refine codeC_call_def (fd := fnOf name qual params body scope dV kV doc pm an cdv ct) (body := body) (binds := binds) hroom (X _ _ ho) rfl (T.nolimit.keeps F.keep) (codeRec_of X hcd) rfl hbind hcell hloc (fun h₁ hns hk₁ => ?_) hco hgen hk
  exact wpC_mono (h _ s.heap.objs.size h₁ FG ⟨hns, fun b o e => hk₁ b o (of_hideAll _ e), Nat.le_of_eq (hideAll_size _ _)⟩
    (fun p hp => ⟨hk₁ _ _ (N p hp).1, Nat.ne_of_lt (Heap.lt_size (N p hp).1), hideAll_none _ (List.mem_map_of_mem hp)⟩) BG (X₀.keeps st) (T.keeps st)) (fun fl s' hl => lv _ _ hl) fun _ _ y => y

theorem codeC_defS0 {cn : Str} {cs : Scope} {ccd : Value} (B : Below A₀ base [] h₀) (F : Fr h₀ L s.heap m) (X₀ : K.In h₀) (N : News h₀ L s.heap news) (T : Top p loose mean mg mb h₀) (hA : A.frames = some [envOf cn cs L a ccd])
    (ho : K.lookup f = some ⟨oc, od, .func (fnOf name qual params body scope dV kV doc pm an cdv ct), osl⟩) (hcd : codeIn K cdv qual = true) (hroom : A.depth < recursionLimit)
    (hbind : BindsTo s (fnOf name qual params body scope dV kV doc pm an cdv ct) args binds) (hloc : ∀ y ∈ binds, scope.names.lookup y.1 = some .local)
    (h : ∀ g L' h₁, Fr h₀ L g m → Fr g L' h₁ (fun y => binds.reverse.lookup y) → News g L' h₁ news → Below A base [envOf cn cs L a ccd] g → K.In g → Top p loose mean mg mb g → KtsDicts ([envOf cn cs L a ccd].filterMap (·.frame)) g →
      wpC (model prog w) (A.deeper (envOf qual scope L' f cdv)) (execs body (envOf qual scope L' f cdv))
        (fun fl s' => LeaveS0 ([envOf cn cs L a ccd].filterMap (·.frame)) h₀ L m g R (match fl with | .ret v => v | _ => .none) s')
        (fun e s' => wpAny (model prog w) (A.deeper (envOf qual scope L' f cdv)) (leaving (envOf qual scope L' f cdv) e) (fun _ s'' => R (.error e) s'') (fun e' s'' => R (.error e') s'') s')
        { s with heap := h₁, toks := s.toks + binds.length })
    (hck : cs.kind = .function) (hco : scope.isCoroutine = false) (hgen : scope.isGenerator = false) (hk : scope.kind = .function)
    (hcell : ∀ x ∈ scope.names, x.2 ≠ .cell) : codeC (model prog w) A (.call (.ref f) args) R s := by
  have X := X₀.keeps F.keep
  refine codeC_call_def (fd := fnOf name qual params body scope dV kV doc pm an cdv ct) (body := body) (binds := binds) hroom (X _ _ ho) rfl (T.nolimit.keeps F.keep) (codeRec_of X hcd) rfl hbind hcell hloc (fun h₁ hns hk₁ => ?_) hco hgen hk
  obtain ⟨oL, es, ep, hLg, hLd, hN, hNs, st, B₂⟩ := kts_enter B F N hA hck
  refine wpC_mono (h _ s.heap.objs.size h₁ ⟨hN _ hLg, st, F.above⟩ ⟨hns, fun b o e => hk₁ b o (of_hideAll _ e), Nat.le_of_eq (hideAll_size _ _)⟩
    (fun p hp => ⟨hk₁ _ _ (N p hp).1, Nat.ne_of_lt (Heap.lt_size (N p hp).1), hideAll_none _ (List.mem_map_of_mem hp)⟩) B₂ (X₀.keeps st) (T.keeps st) (fun b hb => by
      rcases kts_mem hb with rfl | z
      · exact ⟨oL, es, ep, hLg, hLd⟩
      · simp at z)) (fun fl s' hl => ?_) fun _ _ y => y
  obtain ⟨g', L', m', news', T', F', N', k⟩ := hl
  have nL₀ : h₀.get? L = none := kts_self F
  obtain ⟨sl, hs⟩ := T'.up hLg
  refine k ⟨hNs sl _ (F'.keep _ _ hs), fun b o e => F'.keep b o (T'.other b o (st b o e) (fun q => by
    rcases kts_mem q with z | z
    · rw [z, nL₀] at e
      cases e
    · simp at z)), F.above⟩ fun p hp => ⟨(N' p hp).1, fun q => ?_, ?_⟩
  · have := (N' p hp).2.2; rw [q, hs] at this; cases this
  · cases q : h₀.get? p.1 with
    | none => rfl
    | some o =>
      obtain ⟨sl', hs'⟩ := T'.up (st _ _ q)
      have := (N' p hp).2.2
      rw [hs'] at this
      cases this
end
end

/-! UComp -/
section
open PyProof.Rows.LCg
open PyProof.Rows.LCg
section
variable {prog : Program} {w : World} {A : Around} {E : Value → Shared → Prop} {s : Shared} {env : Env} {R : Result → Shared → Prop}

theorem wpC_notedAt {α : Type} {M : Model} {m : Sem α} {pos : Pos} {Q : α → Shared → Prop} (h : wpC M A m Q (notedBy M A env E) s) :
    wpC M A (m.onRaise fun x => do noteFrame x env; standAt pos) Q E s :=
  wpC_onRaise (wpC_mono h (fun _ _ q => q) fun _ _ hx => wpC_any (wpAny_bind (wpAny_mono hx (fun _ _ e => wpAny_standAt e) fun _ _ e => e)))
theorem wpC_noted {α : Type} {M : Model} {m : Sem α} {Q : α → Shared → Prop} (h : wpC M A m Q (notedBy M A env E) s) :
    wpC M A (m.onRaise fun x => do noteFrame x env; theTreesLotGoes x) Q E s :=
  wpC_onRaise (wpC_mono h (fun _ _ q => q) fun _ _ hx => wpC_any (wpAny_bind (wpAny_mono hx (fun _ _ e => wpAny_theTreesLotGoes e) fun _ _ e => e)))

theorem codeC_compStart_list {elt target iter ifs rest scope pos it acc env}
    (h0 : codeC (model prog w) A (.compLoop (.ListComp elt (⟨target, iter, ifs, 0⟩ :: rest) scope pos) 0 it acc env) R s)
    (h : wpAny (model prog w) A (pyIter it) (fun it' s' => codeC (model prog w) A (.compLoop (.ListComp elt (⟨target, iter, ifs, 0⟩ :: rest) scope pos) 0 it' acc env) R s')
      (notedBy (model prog w) A env fun x s' => R (.error x) s') s) :
    codeC (model prog w) A (.compStart (.ListComp elt (⟨target, iter, ifs, 0⟩ :: rest) scope pos) 0 it acc env) R s := by
  refine codeC_tree ?_
  show wpC _ _ ((compStart (.ListComp elt (⟨target, iter, ifs, 0⟩ :: rest) scope pos) 0 it acc env).onRaise (fun x => do noteFrame x env; standAt theWindowsPlace)) _ _ s
  refine wpC_notedAt ?_
  unfold compStart
  show wpC _ _ (ask >>= _) _ _ s
  have ha : ∀ {β : Type} {k : _ → Sem β} {Q : β → Shared → Prop} {E : Value → Shared → Prop}, (∀ q, wpC (model prog w) A (k q) Q E s) → wpC (model prog w) A (ask >>= k) Q E s := by
    intro β k Q E hk
    intro Γ p i u
    rw [Sem.wp_bind']
    exact hk _ Γ p i u
  refine ha fun q => ?_
  split
  · first
      | exact wpC_bind (wpC_pure (wpC_pure (And.intro rfl h0)))
      | exact wpC_pure (And.intro rfl h0)
  · first
      | exact wpC_bind (wpC_any (wpAny_rule (wpAny_bind (wpAny_standAt (wpAny_bind (wpAny_mono h (fun it' s' h' => wpAny_pure (And.intro rfl h')) fun _ _ x => x))))))
      | (refine wpC_bind (wpC_any (wpAny_rule ?_)); show wpC _ _ (standAt iter.pos >>= _) _ _ s; exact wpC_bind (wpC_standAt (wpC_bind (wpC_any (wpAny_mono h (fun it' s' h' => wpC_pure (And.intro rfl h')) fun _ _ x => x)))))
end

/-- k turns that end, then one that raises -/
def Raises (prog : Program) (w : World) (A : Around) (h₀ : Heap) (L : Addr) (m : Str → Option Value) (env : Env) (elt : Expr) (x : Str) (scope : Scope) (cl : List (Str × Addr)) (s : Shared) (S : List (Addr × Obj) → Prop) (P : Nat → Value → Prop)
    (EE : Addr → Value → Shared → Prop) : Nat → Nat → List Value → List (Addr × Obj) → Prop
  | 0, i, ys, news => ∀ v I oI C oC D m₂ h tk, P i v → NsObj oC m₂ → m₂ x = some v → Fr h₀ L h m → News h₀ L h ((I, oI) :: (C, oC) :: (D, lst ys) :: news) → Off3 I C D news → ((@Ne Nat I C) ∧ (@Ne Nat I D) ∧ (@Ne Nat C D)) →
      wpC (model prog w) A (eval elt (compEnvC scope cl C env)) (fun _ _ => False) (EE C) { s with heap := h, toks := tk }
  | k + 1, i, ys, news => ∀ v I oI C oC D m₂ h tk (E' : Value → Shared → Prop), P i v → NsObj oC m₂ → m₂ x = some v → Fr h₀ L h m → News h₀ L h ((I, oI) :: (C, oC) :: (D, lst ys) :: news) → Off3 I C D news → ((@Ne Nat I C) ∧ (@Ne Nat I D) ∧ (@Ne Nat C D)) →
      wpAny (model prog w) A (eval elt (compEnvC scope cl C env)) (CompEnd h₀ L m { s with heap := h, toks := tk } I oI C oC D (lst ys) S (fun y news' => Raises prog w A h₀ L m env elt x scope cl s S P EE k (i + 1) (ys ++ [y]) news')) E' { s with heap := h, toks := tk }

section
variable {prog : Program} {w : World} {A : Around} {E : Value → Shared → Prop} {s : Shared} {h₀ : Heap} {L : Addr} {m : Str → Option Value} {env : Env}
theorem block_R {elt iter : Expr} {x : Str} {px : Pos} {scope : Scope} {cl : List (Str × Addr)} {pos : Pos} {s₂ : Shared} {I : Addr} {fp : List Addr} {n q : Nat} {P : Nat → Value → Prop} {St : Nat → Heap → Prop} {S : List (Addr × Obj) → Prop} {news : List (Addr × Obj)}
    {EE : Addr → Value → Shared → Prop} {RR : Value → Env → Result → Shared → Prop}
    (W : Walks prog w A I fp [I] n P St) (hsz : n ≤ sizeLine) (hIo : ∀ i h, St i h → ∃ o, h.get? I = some o)
    (hSt : ∀ i h h' o nw, St i h → h.get? I = some o → h'.get? I = some o → (∀ b o, h₀.get? b = some o → h'.get? b = some o) → News h₀ L h' nw → S nw → St i h')
    (hcell : ∀ y ∈ scope.names, y.2 ≠ .cell) (hkind : scope.kind = .function) (hx : scope.names.lookup x = some .local) (hst : St 0 s₂.heap) (hfp : ∀ b ∈ fp, b < s₂.heap.objs.size)
    (F : Fr h₀ L s₂.heap m) (N : News h₀ L s₂.heap news) (hIL : L ≠ I) (hI₀ : h₀.get? I = none) (off : ∀ p ∈ news, p.1 ≠ I) (hS : S news) (hq : q < n)
    (R : Raises prog w A h₀ L m env elt x scope cl s₂ S P EE q 0 [] news)
    (hEE : ∀ acc C e s', EE C e s' → notedBy (model prog w) A (compEnvC scope cl C env) (fun x s'' => RR acc (compEnvC scope cl C env) (.error x) s'') e s') :
    wpAny (model prog w) A (newList []) (fun acc s₃ => wpAny (model prog w) A (newFunctionEnv scope env.globals cl [] env.qual none .none (some env)) (fun cenv s₄ =>
      codeC (model prog w) A (.compStart (.ListComp elt [⟨.Name x px, iter, [], 0⟩] scope pos) 0 (.ref I) acc { cenv with scope := relabel scope env }) (RR acc { cenv with scope := relabel scope env }) s₄) E s₃) E s₂ := by
  refine wpAny_newObj_type (wpAny_newFunctionEnv hcell (by intro y hy; simp at hy) (fun h₁ hns₁ hsb₁ => ?_) hkind)
  dsimp only at hns₁ hsb₁ ⊢
  generalize hH2 : s₂.heap.push { cls := .type "list", dict := none, data := .seq ([] : List Value).toArray } = H2 at hns₁ hsb₁ ⊢
  have hC : H2.objs.size = s₂.heap.objs.size + 1 := by rw [← hH2, Heap.size_push]
  have hDC : s₂.heap.objs.size ≠ H2.objs.size := by rw [hC]; exact Nat.ne_of_lt (Nat.lt_succ_self _)
  have below : ∀ b, b < s₂.heap.objs.size → b ≠ H2.objs.size ∧ b ≠ s₂.heap.objs.size := fun b hb => ⟨by rw [hC]; exact Nat.ne_of_lt (Nat.lt_succ_of_lt hb), Nat.ne_of_lt hb⟩
  have hDf : s₂.heap.objs.size ∉ fp := fun hm => Nat.lt_irrefl _ (hfp _ hm)
  have hCf : H2.objs.size ∉ fp := fun hm => by have := hfp _ hm; rw [hC] at this; exact Nat.lt_irrefl _ (Nat.lt_of_succ_lt this)
  have hIf : I ∈ fp := W.sub I (List.mem_singleton.mpr rfl)
  have hIlt : I < s₂.heap.objs.size := hfp I hIf
  have old : ∀ b o, s₂.heap.get? b = some o → h₁.get? b = some o := fun b o e => hsb₁.extBut b o (below b (Heap.lt_size e)).1 (Heap.get?_push_of_some _ (hH2 ▸ Heap.get?_push_of_some _ e))
  have hacc : h₁.get? s₂.heap.objs.size = some (lst []) := hsb₁.extBut _ _ hDC (Heap.get?_push_of_some _ (hH2 ▸ Heap.get?_push_size _ rfl))
  have hst₁ : St 0 h₁ := W.frame _ _ _ hst fun b _ o e => old b o e
  have fresh : ∀ a, s₂.heap.objs.size ≤ a → s₂.heap.get? a = none := fun a ha => by
    cases e : s₂.heap.get? a with
    | none => rfl
    | some o' => exact absurd (Heap.lt_size e) (Nat.not_lt.mpr ha)
  have fresh₀ : ∀ a, s₂.heap.objs.size ≤ a → h₀.get? a = none := fun a ha => by
    cases e : h₀.get? a with
    | none => rfl
    | some o' => have := F.keep a o' e; rw [fresh a ha] at this; cases this
  have hD₀ : h₀.get? s₂.heap.objs.size = none := fresh₀ _ (Nat.le_refl _)
  have hC₀ : h₀.get? H2.objs.size = none := fresh₀ _ (by rw [hC]; exact Nat.le_succ _)
  have hLlt : L < s₂.heap.objs.size := F.ns.lt
  have hDL : s₂.heap.objs.size ≠ L := Ne.symm (below L hLlt).2
  have hCL : H2.objs.size ≠ L := Ne.symm (below L hLlt).1
  have hCI : I ≠ H2.objs.size := (below I hIlt).1
  have hDI : I ≠ s₂.heap.objs.size := (below I hIlt).2
  have off₀ : Off3 I H2.objs.size s₂.heap.objs.size news := Off3.of fun p hp => ⟨off p hp, (below _ (Heap.lt_size (N p hp).1)).1, (below _ (Heap.lt_size (N p hp).1)).2⟩
  have loop : ∀ s₃ : Shared, s₃ = { s₂ with heap := h₁, toks := s₂.toks + ([] : List (Str × Value)).length } →
      codeC (model prog w) A (.compLoop (.ListComp elt [⟨.Name x px, iter, [], 0⟩] scope pos) 0 (.ref I) (.ref s₂.heap.objs.size) (compEnvC scope cl H2.objs.size env))
        (RR (.ref s₂.heap.objs.size) (compEnvC scope cl H2.objs.size env)) s₃ := by
    rintro s₃ rfl
    refine codeC_again rfl
      (fun k s' => ∃ h' tk i ys m' news', s' = { s₂ with heap := h', toks := tk } ∧ i ≤ q ∧ k = q - i ∧ ys.length = i ∧ St i h' ∧ Fr h₀ L h' m ∧ h'.Ns H2.objs.size m' ∧ News h₀ L h' ((s₂.heap.objs.size, lst ys) :: news') ∧
        Off3 I H2.objs.size s₂.heap.objs.size news' ∧ S news' ∧ Raises prog w A h₀ L m env elt x scope cl s₂ S P EE (q - i) i ys news') ?_ q _
      ⟨h₁, _, 0, [], _, news, rfl, Nat.zero_le _, rfl, rfl, hst₁, F.keeps old, hns₁, fun p hp => ?_, off₀, hS, R⟩
    · rintro k s' ⟨h', tk, i, ys, m', news', rfl, hi, rfl, hyl, hst', F', hn', N', off', hS', R'⟩
      show wpC _ _ ((compTurn (.ListComp elt [⟨.Name x px, iter, [], 0⟩] scope pos) 0 (.ref I) (.ref s₂.heap.objs.size) (compEnvC scope cl H2.objs.size env)).onRaise (fun x => do noteFrame x (compEnvC scope cl H2.objs.size env); theTreesLotGoes x)) _ _ _
      refine wpC_noted ?_
      rw [compTurn_list1]
      refine wpC_bind (wpC_standAt (wpC_bind (wpC_any ?_)))
      refine W.item i _ _ _ (Nat.lt_of_le_of_lt hi hq) hst' fun v h₂ tk₂ hPv hst₂ hk₂ => ?_
      dsimp only
      refine wpC_bind (wpC_pure ?_)
      refine wpC_bind (wpC_any (wpAny_assign_Name (wpAny_storeName_local (lookup_relabel_local hx) (hn'.at' fun o e => hk₂ _ o (by simpa using Ne.symm hCI) e) (fun h₃ hn₃ hs₃ => ?_) (by simp [compEnvC, relabel, hkind]))))
      have hst₃ : St (i + 1) h₃ := W.frame _ _ _ hst₂ fun b hb o e => hs₃.extBut b o (fun q => hCf (by have q' : b = H2.objs.size := q; rw [← q']; exact hb)) e
      obtain ⟨oI, heI⟩ := hIo _ _ hst₃
      obtain ⟨oC, heC, hoC⟩ := ns_obj hn₃
      have F₃ : Fr h₀ L h₃ m := (fr_but F' hk₂ hIL hI₀).change hs₃ hCL hC₀
      have off3 := off'.mem
      have N₂ : News h₀ L h₂ ((s₂.heap.objs.size, lst ys) :: news') := news_but N' hk₂ fun p hp => by
        rcases List.mem_cons.mp hp with rfl | hp
        · exact Ne.symm hDI
        · exact (off3 p hp).1
      have N₃ : News h₀ L h₃ ((I, oI) :: (H2.objs.size, oC) :: (s₂.heap.objs.size, lst ys) :: news') := fun p hp => by
        rcases List.mem_cons.mp hp with rfl | hp
        · exact ⟨heI, Ne.symm hIL, hI₀⟩
        · rcases List.mem_cons.mp hp with rfl | hp
          · exact ⟨heC, hCL, hC₀⟩
          · have z := N₂ p hp
            refine ⟨hs₃.extBut _ _ ?_ z.1, z.2⟩
            rcases List.mem_cons.mp hp with rfl | hp
            · exact hDC
            · exact (off3 p hp).2.1
      by_cases hlt : i < q
      · obtain ⟨j, hj⟩ : ∃ j, q - i = j + 1 := ⟨q - i - 1, by omega⟩
        rw [hj] at R'
        refine wpC_bind (wpC_any (wpAny_bind ?_))
        refine wpAny_mono (R' v I oI H2.objs.size oC s₂.heap.objs.size _ h₃ _ _ hPv hoC (by simp) F₃ N₃ off' ⟨hCI, hDI, Ne.symm hDC⟩) (fun y s₄ h₄ => ?_) fun _ _ e => e
        obtain ⟨h₄, tk₄, news₄, rfl, F₄, N₄, off₄, hS₄, R₄⟩ := h₄
        have zI := (N₄ (I, oI) List.mem_cons_self).1
        have zC := (N₄ (H2.objs.size, oC) (List.mem_cons_of_mem _ List.mem_cons_self)).1
        have zD := (N₄ (s₂.heap.objs.size, lst ys) (List.mem_cons_of_mem _ (List.mem_cons_of_mem _ List.mem_cons_self))).1
        have N₄' : News h₀ L h₄ news₄ := fun p hp => N₄ p (List.mem_cons_of_mem _ (List.mem_cons_of_mem _ (List.mem_cons_of_mem _ hp)))
        have hst₄ : St (i + 1) h₄ := hSt _ _ _ _ _ hst₃ heI zI F₄.keep N₄' hS₄
        refine wpAny_bind (append_at (hsz := by show ys.toArray.size ≤ sizeLine; rw [List.size_toArray, hyl]; exact Nat.le_trans (Nat.le_trans hi (Nat.le_of_lt hq)) hsz) zD fun h₅ hs₅ hD₅ => ?_)
        have off4 := off₄.mem
        refine wpAny_pure (wpC_pure (.inl ⟨rfl, q - (i + 1), by omega, h₅, tk₄, i + 1, ys ++ [y], _, news₄, rfl, hlt, rfl, by rw [List.length_append, List.length_singleton, hyl], W.frame _ _ _ hst₄ fun b hb o e => hs₅.extBut b o (fun q => hDf (q ▸ hb)) e, F₄.change hs₅ hDL hD₀,
          (hoC.ns zC).sameBut hs₅ (Ne.symm hDC), fun p hp => ?_, off₄, hS₄, ?_⟩))
        · rcases List.mem_cons.mp hp with rfl | hp
          · exact ⟨hD₅.trans (congrArg some (lst_snoc ys y)), hDL, hD₀⟩
          · exact ⟨hs₅.extBut _ _ (off4 p hp).2.2 (N₄' p hp).1, (N₄' p hp).2⟩
        · rw [show q - (i + 1) = j by omega]
          exact R₄
      · obtain rfl : i = q := Nat.le_antisymm hi (Nat.not_lt.mp hlt)
        rw [Nat.sub_self] at R'
        refine wpC_bind (wpC_bind ?_)
        exact wpC_mono (R' v I oI H2.objs.size oC s₂.heap.objs.size _ h₃ _ hPv hoC (by simp) F₃ N₃ off' ⟨hCI, hDI, Ne.symm hDC⟩) (fun _ _ z => z.elim) fun e s' z => hEE _ _ _ _ z
    · rcases List.mem_cons.mp hp with rfl | hp
      · exact ⟨hacc, hDL, hD₀⟩
      · exact ⟨old _ _ (N p hp).1, (N p hp).2⟩
  exact codeC_compStart_list (loop _ rfl) (W.self 0 _ _ _ hst₁ (loop _ rfl))
end
end

/-! URaise -/
section
open PyProof.Rows.LCg
open PyProof.Rows.LCg
section
variable {M : Model} {A : Around} {E : Value → Shared → Prop} {s : Shared} {env : Env}

theorem wpC_standIf {α : Type} {c : Prop} [Decidable c] {pos : Pos} {k : PUnit → Sem α} {Q : α → Shared → Prop} (h : wpC M A (k ()) Q E s) :
    wpC M A (if c then (standAt pos >>= k) else k ()) Q E s := by
  split
  · exact wpC_bind (wpC_standAt h)
  · exact h
/-- a comprehension whose run raises -/
theorem wpC_comprehension_raise {e : Expr} {scope : Scope} {pos : Pos} {newAcc first : Sem Value} {g : Comprehension} {gs : List Comprehension} {cl : List (Str × Addr)} {use : Option (Value → Sem Unit)}
    {Q : Value → Shared → Prop}
    (hcl : clausesOf e = g :: gs) (hs : ∀ x, foldedSetIterable g.iter env x = pure x) (hclos : closureFor scope env = pure cl)
    (hkind : scope.kind = .function) (hnames : ∀ x ∈ scope.names, x.2 = .local → scope.names.lookup x.1 = some .local)
    (h : wpAny M A first (fun x s₁ => wpAny M A (pyIter x) (fun it s₂ => wpAny M A newAcc (fun acc s₃ =>
      wpAny M A (newFunctionEnv scope env.globals cl [] env.qual none .none (some env)) (fun cenv s₄ =>
        codeC M A (.compStart e 0 it acc { cenv with scope := relabel scope env }) (fun r s' => match r with
          | .ok _ => False
          | .error x => ∃ m, s'.heap.Ns cenv.locals m ∧ ∀ h', Heap.SameBut cenv.locals s'.heap h' → wpAny M A (PySem.passOn "comprehension.variables-let-go" x { cenv with scope := relabel scope env } : Sem Value) Q E { s' with heap := h' }) s₄) E s₃) E s₂) E s₁) E s) :
    wpC M A (comprehension e scope env pos newAcc false first use) Q E s := by
  unfold comprehension
  rw [hclos, hcl]
  refine wpC_bind (wpC_any (wpAny_mono h (fun x s₁ h₁ => ?_) fun _ _ h' => h'))
  refine wpC_bind (wpC_standAt (wpC_bind (wpC_any (wpAny_of_eq (hs x) ?_))))
  refine wpC_bind (wpC_holding (wpC_any (wpAny_mono h₁ (fun it s₂ h₂ => ?_) fun _ _ h' => h')))
  refine wpC_standIf (wpC_bind (wpC_any (wpAny_mono h₂ (fun acc s₃ h₃ => ?_) fun _ _ h' => h')))
  refine wpC_bind (wpC_pure (wpC_bind (wpC_any (wpAny_mono h₃ (fun cenv s₄ h₄ => ?_) fun _ _ h' => h'))))
  dsimp only
  have hv : ∀ x ∈ (scope.names.filter fun x => (x.2 == .local || x.2 == .cell) && x.1 != (".0" : Str)).reverse, x.2 = .local →
      Env.kindOf { cenv with scope := relabel scope env } x.1 = some .local := fun x hx hl => lookup_relabel_local (hnames x (List.mem_filter.mp (List.mem_reverse.mp hx)).1 hl)
  refine wpC_holding (wpC_bind (wpC_attempt (wpC_holding (wpC_run (codeC_mono h₄ fun r s' hr => ?_)))))
  cases r with
  | ok f => exact hr.elim
  | error x =>
    obtain ⟨m, hn, hr⟩ := hr
    exact wpC_any (wpAny_bind (wpAny_holding (wpAny_comp_letGo (cenv := { cenv with scope := relabel scope env }) hkind _ s' m hv hn fun h' m' _ hs' => hr h' hs')))
end

/-- an exception that a turn of a comprehension has just made -/
def RaiseAt (h₀ : Heap) (L : Addr) (m : Str → Option Value) (keep : List (Addr × Obj)) (s₀ : Shared) (cls : String) (C : Addr) (e : Value) (s' : Shared) : Prop :=
  ∃ e' h m₂, e = .ref e' ∧ Heap.NewExc h s'.heap e' cls ∧ Fr h₀ L h m ∧ News h₀ L h keep ∧ h.Ns C m₂ ∧ (∀ p ∈ keep, p.1 ≠ C) ∧ C ≠ L ∧ h₀.get? C = none ∧ ∃ hh tk, s' = { s₀ with heap := hh, toks := tk }

theorem funFrames_but {base h h' : Heap} {C : Addr} (hs : Heap.SameBut C h h') : ∀ {l : List Env}, h.FunFrames base l → (∀ env ∈ l, env.frame ≠ some C) → h'.FunFrames base l
  | [], _, _ => trivial
  | env :: _, ⟨hk, ⟨L, o, hf, hn, ho, hd⟩, hr⟩, hin => ⟨hk, ⟨L, o, hf, hn, hs.extBut L o (fun q => hin env (.head _) (q ▸ hf)) ho, hd⟩, funFrames_but hs hr fun e he => hin e (.tail _ he)⟩
section
variable {M : Model} {A A₀ : Around} {E : Value → Shared → Prop} {s' : Shared} {base g h : Heap} {outer : List Env} {env : Env} {L e : Addr} {m : Str → Option Value} {Q : Unit → Shared → Prop} {news : List (Addr × Obj)}

/-- leaving with a new exception, from any frame -/
theorem leave_newX {cls : String} (K : Below A base outer g) (hx : Heap.NewExc h s'.heap e cls) (F : Fr g L h m) (N : News g L h news) (hf : env.frame = some L) (hk : env.scope.kind = .function)
    (hQ : ∀ h', RaisedSN base g outer e (.type cls) news h' → g.UpToSlots h' → Q () { s' with heap := h' }) :
    wpAny M (A.deeper env) (leaving env (.ref e)) Q E s' := by
  have K' := pushX K F hf hk
  have hin : ∀ en ∈ (env :: outer), ∀ b, en.frame = some b → b ∈ (env :: outer).filterMap (·.frame) := fun en he b hb => List.mem_filterMap.mpr ⟨en, he, hb⟩
  have kmem : ∀ {b : Addr}, b ∈ (env :: outer).filterMap (·.frame) → b = L ∨ b ∈ outer.filterMap (·.frame) := fun hm => by
    obtain ⟨en, he, hf'⟩ := List.mem_filterMap.mp hm
    rcases List.mem_cons.mp he with rfl | he
    · exact .inl (Option.some.inj (hf'.symm.trans hf))
    · exact .inr (List.mem_filterMap.mpr ⟨en, he, hf'⟩)
  have st : base.StaysIn (hideAll h ((env :: outer).filterMap (·.frame))) := fun b o q => hideAll_get _ (K'.stays b o q) fun hm => by
    rw [(K'.frames.mem hm).1] at q; cases q
  have sg : ∀ b o, g.get? b = some o → b ∉ outer.filterMap (·.frame) → (hideAll h ((env :: outer).filterMap (·.frame))).get? b = some o := fun b o q nm => hideAll_get _ (F.keep b o q) fun hm => by
    rcases kmem hm with z | z
    · rw [z, kts_self F] at q
      cases q
    · exact nm z
  have hl : ∀ q ∈ news, (hideAll h ((env :: outer).filterMap (·.frame))).get? q.1 = some q.2 ∧ g.get? q.1 = none ∧ base.get? q.1 = none := fun q hq => by
    refine ⟨hideAll_get _ (N q hq).1 fun hm => ?_, (N q hq).2.2, fresh_of_stays K.stays (N q hq).2.2⟩
    rcases kmem hm with z | z
    · exact (N q hq).2.1 z
    · obtain ⟨o, ho, _⟩ := (K.frames.mem z).2
      rw [(N q hq).2.2] at ho; cases ho
  obtain ⟨ob, tp, he, hcls, hd⟩ := hx.there
  have hen : (hideAll h ((env :: outer).filterMap (·.frame))).get? e = none := by
    cases q : (hideAll h ((env :: outer).filterMap (·.frame))).get? e with
    | none => rfl
    | some o => have := of_hideAll _ q; rw [hx.new] at this; cases this
  refine wpAny_leaving_firstW (a0 := tp) K'.stack ((funFrames_hide K'.frames hin).of_keeps fun b o hb _ => ⟨o, hx.keeps b o hb, rfl⟩) hf he (fun b o hb => hx.keeps b o (of_hideAll _ hb)) hen hd rfl rfl fun h' hL => ?_
  obtain ⟨k1, ⟨_, _, k2⟩, k3, k4⟩ := hL
  exact hQ h' ⟨_, tp, st, sg, hl, k1, hen, k2, by rw [← hcls]; exact k3⟩ (((Heap.UpToSlots.of_keeps F.keep).trans (Heap.UpToSlots.of_keeps hx.keeps)).trans k4)

/-- a comprehension's turn raised: its variables go, the exception leaves the def -/
theorem comp_leave {Q : Value → Unit → Shared → Prop} {E : Value → Value → Shared → Prop} {cls : String} {C : Addr} {cenv : Env} {ev : Value} {s₀ : Shared} {QV : Value → Shared → Prop} (K : Below A base outer g) (R : RaiseAt g L m news s₀ cls C ev s') (hf : env.frame = some L) (hk : env.scope.kind = .function) (hcf : cenv.frame = some L) (hCl : cenv.locals = C)
    (hQ : ∀ e tk h', ev = .ref e → RaisedSN base g outer e (.type cls) news h' → g.UpToSlots h' → Q ev () { s₀ with heap := h', toks := tk }) :
    notedBy M (A.deeper env) cenv (fun x s'' => ∃ m, s''.heap.Ns C m ∧ ∀ h', Heap.SameBut C s''.heap h' → wpAny M (A.deeper env) (PySem.passOn "comprehension.variables-let-go" x cenv : Sem Value) QV
      (fun e s''' => wpAny M (A.deeper env) (leaving env e) (Q e) (E e) s''') { s'' with heap := h' }) ev s' := by
  obtain ⟨e, h, m₂, rfl, hx, F, N, hC, hoff, hCL, hCg, hh, tk, rfl⟩ := R
  dsimp only at hx
  have K' := pushX K F hf hk
  have hin : ∀ en ∈ (env :: outer), ∀ b, en.frame = some b → b ∈ C :: (env :: outer).filterMap (·.frame) := fun en he b hb => List.mem_cons_of_mem _ (List.mem_filterMap.mpr ⟨en, he, hb⟩)
  have kmem : ∀ {b : Addr}, b ∈ C :: (env :: outer).filterMap (·.frame) → b = C ∨ b = L ∨ b ∈ outer.filterMap (·.frame) := fun hm => by
    rcases List.mem_cons.mp hm with rfl | hm
    · exact .inl rfl
    obtain ⟨en, he, hf'⟩ := List.mem_filterMap.mp hm
    rcases List.mem_cons.mp he with rfl | he
    · exact .inr (.inl (Option.some.inj (hf'.symm.trans hf)))
    · exact .inr (.inr (List.mem_filterMap.mpr ⟨en, he, hf'⟩))
  have hCb : base.get? C = none := fresh_of_stays K.stays hCg
  have st : base.StaysIn (hideAll h (C :: (env :: outer).filterMap (·.frame))) := fun b o q => hideAll_get _ (K'.stays b o q) fun hm => by
    rcases List.mem_cons.mp hm with rfl | hm
    · rw [hCb] at q; cases q
    · rw [(K'.frames.mem hm).1] at q; cases q
  have sg : ∀ b o, g.get? b = some o → b ∉ outer.filterMap (·.frame) → (hideAll h (C :: (env :: outer).filterMap (·.frame))).get? b = some o := fun b o q nm => hideAll_get _ (F.keep b o q) fun hm => by
    rcases kmem hm with z | z | z
    · rw [z, hCg] at q
      cases q
    · rw [z, kts_self F] at q
      cases q
    · exact nm z
  have hl : ∀ q ∈ news, (hideAll h (C :: (env :: outer).filterMap (·.frame))).get? q.1 = some q.2 ∧ g.get? q.1 = none ∧ base.get? q.1 = none := fun q hq => by
    refine ⟨hideAll_get _ (N q hq).1 fun hm => ?_, (N q hq).2.2, fresh_of_stays K.stays (N q hq).2.2⟩
    rcases kmem hm with z | z | z
    · exact hoff q hq z
    · exact (N q hq).2.1 z
    · obtain ⟨o, ho, _⟩ := (K.frames.mem z).2
      rw [(N q hq).2.2] at ho; cases ho
  obtain ⟨ob, tp, he, hcls, hd⟩ := hx.there
  have hen : (hideAll h (C :: (env :: outer).filterMap (·.frame))).get? e = none := by
    cases q : (hideAll h (C :: (env :: outer).filterMap (·.frame))).get? e with
    | none => rfl
    | some o => have := of_hideAll _ q; rw [hx.new] at this; cases this
  have hCB : (hideAll h (C :: (env :: outer).filterMap (·.frame))).get? C = none := hideAll_none _ (List.mem_cons_self)
  have hnf : noteFrame (.ref e) cenv = noteFrame (.ref e) env := by
    unfold noteFrame PySem.frameOf
    rw [hcf, hf]
  have hpo : (PySem.passOn "comprehension.variables-let-go" (.ref e) cenv : Sem Value) = PySem.passOn "comprehension.variables-let-go" (.ref e) env := by
    unfold PySem.passOn
    rw [hcf, hf]
  show wpAny M (A.deeper env) (noteFrame (.ref e) cenv) (fun _ s'' => ∃ m, s''.heap.Ns C m ∧ ∀ h', Heap.SameBut C s''.heap h' → wpAny M (A.deeper env) (PySem.passOn "comprehension.variables-let-go" (.ref e) cenv : Sem Value) QV
      (fun e s''' => wpAny M (A.deeper env) (leaving env e) (Q e) (E e) s''') { s'' with heap := h' }) _ _
  rw [hnf, hpo]
  have hFF := (funFrames_hide K'.frames hin).of_keeps fun b o hb _ => ⟨o, hx.keeps b o hb, rfl⟩
  have hkb : (hideAll h (C :: (env :: outer).filterMap (·.frame))).StaysIn hh := fun b o hb => hx.keeps b o (of_hideAll _ hb)
  unfold noteFrame
  simp only [hf]
  refine wpAny_bind (wpAny_field he hd rfl ?_)
  rw [if_neg (by simp)]
  refine wpAny_entryW K'.stack hFF hf he hkb hen hd (by simp) rfl fun h₁ hN => ?_
  obtain ⟨k1, k2, k3, k4⟩ := hN
  rw [hcls] at k3
  have hup : g.UpToSlots h₁ := ((Heap.UpToSlots.of_keeps F.keep).trans (Heap.UpToSlots.of_keeps hx.keeps)).trans k4
  have hC₁ : h₁.Ns C m₂ := Heap.UpToSlots.ns ((Heap.UpToSlots.of_keeps hx.keeps).trans k4) hC
  refine ⟨m₂, hC₁, fun h₂ hs => ?_⟩
  dsimp only at hs ⊢
  have hCe : C ≠ e := fun q => by
    obtain ⟨o, _, _, ho, _⟩ := hC
    rw [q, hx.new] at ho; cases ho
  have k3' : h₂.TracedAtW (hideAll h (C :: (env :: outer).filterMap (·.frame))) e (.type cls) tp (rawInt L) := by
    obtain ⟨oe, vs, T, oT, ts, q1, q2, q3, q4, q5, q6, q7, q8, q9⟩ := k3
    refine ⟨oe, vs, T, oT, ts, hs.extBut _ _ (Ne.symm hCe) q1, q2, q3, q4, q5, q6, hs.extBut _ _ (fun q => ?_) q7, q8, q9⟩
    obtain ⟨o, es, n, ho, hdd, _⟩ := hC₁
    rw [← q, q7] at ho
    cases ho
    rw [q8] at hdd
    cases hdd
  have hheld : Heap.HeldW (hideAll h (C :: (env :: outer).filterMap (·.frame))) (env :: outer) e (.type cls) tp L h₂ := by
    refine ⟨fun b o q => hs.extBut b o (fun z => by rw [z, hCB] at q; cases q) (k1 b o q), hen, ?_, k3'⟩
    refine funFrames_but hs k2 fun en he q => ?_
    rcases List.mem_cons.mp he with rfl | he
    · exact hCL (Option.some.inj (q.symm.trans hf))
    · obtain ⟨o, ho, _⟩ := (K.frames.mem (List.mem_filterMap.mpr ⟨en, he, q⟩)).2
      rw [hCg] at ho; cases ho
  have hup₂ : g.UpToSlots h₂ := fun b o hb hn => by
    obtain ⟨sl, h9⟩ := hup b o hb hn
    exact ⟨sl, hs.extBut _ _ (fun q => by rw [q, hCg] at hb; cases hb) h9⟩
  unfold PySem.passOn
  obtain ⟨oe, vs, T, oT, ts, q1, q2, q3, q4, q5, q6, q7, q8, q9⟩ := id k3'
  refine wpAny_bind (wpAny_field q1 q3 q4 ?_)
  rw [if_neg (show ¬ ((Value.ref T == Value.none) = true) from by simp)]
  have fin : ∀ {s₂ : Shared}, (∃ h₃ tk, s₂ = { s₀ with heap := h₃, toks := tk } ∧ Heap.HeldW (hideAll h (C :: (env :: outer).filterMap (·.frame))) (env :: outer) e (.type cls) tp L h₃ ∧ g.UpToSlots h₃) →
      wpAny M (A.deeper env) (leaving env (.ref e)) (Q (.ref e)) (E (.ref e)) s₂ := by
    rintro _ ⟨h₃, tk₃, rfl, hh₃, hu₃⟩
    unfold leaving
    refine wpAny_bind (wpAny_noteFrame_againW hf hh₃.2.2.2 ?_)
    refine wpAny_landsW hh₃ fun h₄ hfl hs₄ => ?_
    obtain ⟨z1, z2, ⟨_, _, z3⟩, z4⟩ := hfl
    exact hQ e _ _ rfl ⟨_, tp, st, sg, hl, z1, z2, z3, z4⟩ (hu₃.trans hs₄)
  have sf : ∀ {E' : Value → Shared → Prop}, wpAny M (A.deeper env) (setFlight (.ref e) env.frame) (fun _ s₃ => wpAny M (A.deeper env) (leaving env (.ref e)) (Q (.ref e)) (E (.ref e)) s₃) E' { s₀ with heap := h₂, toks := tk } := by
    intro E'
    rw [hf]
    obtain ⟨w1, w2, w3, w4⟩ := id hheld
    obtain ⟨oe, vs, T, oT, ts, he, hcls, hd, h1, hnT, hTe, hT, hdT, h3⟩ := w4
    have hsz3 : 3 < ts.size := (Array.getElem?_eq_some_iff.mp h3).1
    have other : ∀ b, b ≠ T → (h₂.update T (Obj.mapFields (·.setIfInBounds 3 ((some L).elim Value.none fun f => rawInt f)))).get? b = h₂.get? b :=
      fun b hb => Heap.get?_update_other _ _ (Ne.symm hb)
    have noRecord : ∀ b o, h₂.get? b = some o → (∀ vs, o.data ≠ .fields vs) → b ≠ T := fun b o hb hnf q => by
      rw [q, hT] at hb; injection hb with hb; subst hb; exact hnf ts hdT
    unfold setFlight
    refine wpAny_bind (wpAny_field he hd h1 ?_)
    rw [if_pos (show (Value.ref T != Value.none) = true from by simp)]
    refine wpAny_setField hT hdT hsz3 (fin ⟨_, _, rfl, ⟨fun b o hbo => (other b fun q => by rw [q, hnT] at hbo; cases hbo).trans (w1 b o hbo), w2,
      w3.of_keeps fun b o hb hnf => ⟨o, (other b (noRecord b o hb hnf)).trans hb, rfl⟩, ?_⟩, hup₂.trans fun b o hb hnf => ⟨o.slots, (other b (noRecord b o hb hnf)).trans hb⟩⟩)
    exact ⟨oe, vs, T, _, _, (other e (Ne.symm hTe)).trans he, hcls, hd, h1, hnT, hTe, Heap.get?_update_self _ hT (Obj.isFreed_of_fields (Obj.data_mapFields hdT _)), Obj.data_mapFields hdT _, by simp [hsz3]⟩
  first
    | exact wpAny_bind (wpAny_pure (wpAny_bind (wpAny_mono sf (fun _ _ h => wpAny_throw h) fun _ _ y => wpAny_throw y)))
    | exact wpAny_bind (wpAny_mono sf (fun _ _ h => wpAny_throw h) fun _ _ y => y)
end
end

/-! UFn -/
section
open PyProof.Rows.LCg
open PyProof.Rows.LCg
section
variable {prog : Program} {w : World} {A : Around} {E : Value → Shared → Prop} {s : Shared} {h₀ : Heap} {L : Addr} {m : Str → Option Value} {env : Env}
theorem wpC_ListComp_R {elt iter : Expr} {x : Str} {px : Pos} {scope : Scope} {cl : List (Str × Addr)} {pos : Pos} {Q : Value → Shared → Prop} {EE : Addr → Value → Shared → Prop}
    (hclos : closureFor scope env = pure cl) (hcell : ∀ y ∈ scope.names, y.2 ≠ .cell) (hkind : scope.kind = .function)
    (hnames : ∀ y ∈ scope.names, y.2 = .local → scope.names.lookup y.1 = some .local) (hx : scope.names.lookup x = some .local)
    (hE : ∀ C e s', EE C e s' → notedBy (model prog w) A (compEnvC scope cl C env) (fun x s'' => ∃ m, s''.heap.Ns C m ∧ ∀ h', Heap.SameBut C s''.heap h' →
      wpAny (model prog w) A (PySem.passOn "comprehension.variables-let-go" x (compEnvC scope cl C env) : Sem Value) Q E { s'' with heap := h' }) e s')
    (h : wpAny (model prog w) A (eval iter env) (fun xv s₁ => ∃ ax its news q, xv = .ref ax ∧ A.handled = none ∧ Fr h₀ L s₁.heap m ∧ News h₀ L s₁.heap news ∧ SrcAt h₀ ax its news ∧ its.size ≤ sizeLine ∧ q < its.size ∧
      ∀ s₂ : Shared, (∃ h, s₂ = { s₁ with heap := h }) → Raises prog w A h₀ L m env elt x scope cl s₂ (SrcAt h₀ ax its) (fun i v => its[i]? = some v) EE q 0 [] news) E s)
    (hs : ∀ x, foldedSetIterable iter env x = pure x := by intro _; rfl) :
    wpC (model prog w) A (eval (.ListComp elt [⟨.Name x px, iter, [], 0⟩] scope pos) env) Q E s := by
  rw [eval_ListComp]
  refine wpC_comprehension_raise rfl hs hclos hkind hnames (wpAny_mono h (fun xv s₁ h₁ => ?_) fun _ _ e => e)
  obtain ⟨ax, its, news, q, rfl, hh, F, N, S, hsz, hq, R⟩ := h₁
  have hl := S.list F.keep N
  have hlt : ax < s₁.heap.objs.size := by obtain ⟨_, e, _⟩ := hl; exact Heap.lt_size e
  refine wpAny_pyIter_list hl ?_
  have up : ∀ b o, s₁.heap.get? b = some o → (s₁.heap.push { cls := .type "list_iterator", data := .fields #[.ref ax, .int 0 0] }).get? b = some o := fun b o e => Heap.get?_push_of_some _ e
  exact block_R (RR := fun acc cenv r s' => match r with
      | .ok _ => False
      | .error x => ∃ m, s'.heap.Ns cenv.locals m ∧ ∀ h', Heap.SameBut cenv.locals s'.heap h' → wpAny (model prog w) A (PySem.passOn "comprehension.variables-let-go" x cenv : Sem Value) Q E { s' with heap := h' })
    (Walks.list hh s₁.heap.objs.size ax (Nat.ne_of_lt hlt) its) hsz (fun i h st => by obtain ⟨o, e, _⟩ := st.1; exact ⟨o, e⟩) list_st hcell hkind hx ⟨⟨_, Heap.get?_push_size _ rfl, rfl, rfl⟩, hl.push _⟩ (fun b hb => by
      show b < (s₁.heap.push _).objs.size
      rw [Heap.size_push]
      rcases List.mem_cons.mp hb with rfl | hb
      · exact Nat.lt_succ_self _
      · rw [List.mem_singleton.mp hb]; exact Nat.lt_succ_of_lt hlt)
    (F.keeps up) (N.grown up) (Nat.ne_of_lt F.ns.lt) (next_is_new F) (fun p hp => Nat.ne_of_lt (Heap.lt_size (N p hp).1)) S hq (R _ ⟨_, rfl⟩) fun acc C e s' z => hE C e s' z
end

section
variable {prog : Program} {w : World} {A : Around} {s : Shared} {base g : Heap} {outer : List Env} {L : Addr} {m : Str → Option Value} {env : Env} {Rr : Result → Shared → Prop}
def LCSrc (prog : Program) (w : World) (A : Around) (g : Heap) (L : Addr) (m : Str → Option Value) (env : Env) (elt : Expr) (x : Str) (scope : Scope) (cl : List (Str × Addr)) (s : Shared) (xv : Value) (s₁ : Shared) : Prop :=
  ∃ ax its news q, xv = .ref ax ∧ A.handled = none ∧ Fr g L s₁.heap m ∧ News g L s₁.heap news ∧ SrcAt g ax its news ∧ its.size ≤ sizeLine ∧ q < its.size ∧
      ∀ s₂ : Shared, (∃ h, s₂ = { s₁ with heap := h }) → Raises prog w A g L m env elt x scope cl s₂ (SrcAt g ax its) (fun i v => its[i]? = some v) (RaiseAt g L m [] s "ValueError") q 0 [] news
theorem LCSrc.mk {A : Around} {elt : Expr} {x : Str} {scope : Scope} {cl : List (Str × Addr)} {D : Addr} {its : Array Value} {k : Nat} {all : List (Addr × Obj)} {s₁ : Shared} (hh : A.handled = none) (F : Fr g L s₁.heap m) (N : News g L s₁.heap all) (news : List (Addr × Obj)) (sub : ∀ p ∈ news, p ∈ all)
    (hm : (D, ({ cls := .type "list", data := .seq its k } : Obj)) ∈ news) (hsz : its.size ≤ sizeLine) (q : Nat) (hq : q < its.size)
    (R : ∀ h, Raises prog w A g L m env elt x scope cl { s₁ with heap := h } (SrcAt g D its) (fun i v => its[i]? = some v) (RaiseAt g L m [] s "ValueError") q 0 [] news) :
    LCSrc prog w A g L m env elt x scope cl s (.ref D) s₁ := ⟨D, its, news, q, rfl, hh, F, fun p hp => N p (sub p hp), .inr ⟨_, hm, rfl, _, rfl⟩, hsz, hq, fun _ ⟨h, e⟩ => e ▸ R h⟩
/-- a list comprehension of a def that raises at its turn q: the def is left -/
theorem wpC_LC {elt iter : Expr} {x : Str} {px : Pos} {scope : Scope} {cl : List (Str × Addr)} {pos : Pos} {Q : Value → Shared → Prop} (K : Below A base outer g) (_F₀ : Fr g L s.heap m) (hf : env.frame = some L) (hk : env.scope.kind = .function)
    (hclos : closureFor scope env = pure cl) (hcell : ∀ y ∈ scope.names, y.2 ≠ .cell) (hkind : scope.kind = .function)
    (hnames : ∀ y ∈ scope.names, y.2 = .local → scope.names.lookup y.1 = some .local) (hx : scope.names.lookup x = some .local)
    (hR : ∀ e tk h', RaisedSN base g outer e (.type "ValueError") [] h' → g.UpToSlots h' → Rr (.error (.ref e)) { s with heap := h', toks := tk })
    (h : wpAny (model prog w) (A.deeper env) (eval iter env) (LCSrc prog w (A.deeper env) g L m env elt x scope cl s)
      (fun e s' => wpAny (model prog w) (A.deeper env) (leaving env e) (fun _ s'' => Rr (.error e) s'') (fun e' s'' => Rr (.error e') s'') s') s)
    (hs : ∀ x, foldedSetIterable iter env x = pure x := by intro _; rfl) :
    wpC (model prog w) (A.deeper env) (eval (.ListComp elt [⟨.Name x px, iter, [], 0⟩] scope pos) env) Q
      (fun e s' => wpAny (model prog w) (A.deeper env) (leaving env e) (fun _ s'' => Rr (.error e) s'') (fun e' s'' => Rr (.error e') s'') s') s :=
  wpC_ListComp_R hclos hcell hkind hnames hx (fun C e s' hr => comp_leave (Q := fun e _ s'' => Rr (.error e) s'') (E := fun _ e' s'' => Rr (.error e') s'') K hr hf hk hf rfl fun e' tk h' ee r u => by
    subst ee; exact hR e' tk h' r u) h hs
end

section
variable {prog : Program} {w : World} {A : Around} {E : Value → Shared → Prop} {R : Result → Shared → Prop} {s : Shared}
theorem codeC_builtin {id : String} {args : Args} {b : Builtin} (hb : entryFor table id = some b)
    (h : wpC (model prog w) (A.under (.builtin id args)) (b args)
      (fun fin s' => match fin with | .done f => R (.ok f) s' | .again c' => c'.quiet = true ∧ codeC (model prog w) A c' R s') (fun e s' => R (.error e) s') s) :
    codeC (model prog w) A (.builtin id args) R s := by
  refine codeC_tree ?_
  show wpC _ _ (match entryFor table id with | some b => b args | none => unsupported ((withoutEnding? id "#data").getD id)) _ _ s
  rw [hb]; exact h
theorem codeC_call_builtin {id : String} {args : Args} {b : Builtin} (hq : plainId id = true) (hb : entryFor table id = some b) (hc : checkBuiltinCall id args = pure ())
    (h : wpC (model prog w) A.in1 (b args)
      (fun fin s' => match fin with | .done f => R (.ok f) s' | .again c' => c'.quiet = true ∧ codeC (model prog w) A c' R s') (fun e s' => R (.error e) s') s) :
    codeC (model prog w) A (.call (.builtin id) args) R s := by
  refine codeC_tree ?_
  show wpC _ A.in1 (checkBuiltinCall id args >>= fun _ => again (.builtin id args)) _ _ s
  rw [hc]
  refine wpC_bind (wpC_pure (wpC_pure ⟨plainId_quiet hq args, codeC_builtin hb (by rw [Around.under_plainId hq args]; exact h)⟩))
theorem int_refuse {x : PySem.Str} {t : Tok} {Q : Value → Shared → Prop} (hh : A.handled = none) (hs : (numSeenOf x).length ≤ 640) (hr : digits? 10 (core (numSeenOf x)) = none)
    (hlen : (reprText x).length ≤ sizeLine)
    (h : ∀ h' tk e, Heap.NewExc s.heap h' e "ValueError" → E (.ref e) { s with heap := h', toks := tk }) :
    wpC (model prog w) A (call (.type "int") [.str x t]) Q E s := by
  refine wpC_call (codeC_tree ?_)
  show wpC _ _ (callAny (.type "int") _) _ _ _
  refine wpC_pure ⟨Code.quiet_builtin _ (by decide +kernel), codeC_builtin F.entry_type_call ?_⟩
  rw [Around.under_plain (weight_type_call_type ..) (units_type_call_type ..)]
  refine typeCall_int (wpC_call (codeC_call_builtin (by decide +kernel) F.entry_int_new (F.newCall_int_1 _) ?_))
  exact int_new_refuse hh hs hr hlen h
end
end

/-! UCell -/
section

section
variable {prog : Program} {w : World} {A : Around} {E : Value → Shared → Prop} {R : Result → Shared → Prop} {s : Shared}
theorem codeC_call_function {a : Addr} {args : Args} {o : Obj} {fd : FuncData} {body : List Stmt} (hroom : A.depth < recursionLimit)
    (ho : s.heap.get? a = some o)
    (hd' : o.data = .func fd) (hco : fd.scope.isCoroutine = false) (hgen : fd.scope.isGenerator = false) (hbody : fd.body = .stmts body) (hcd : s.heap.CodeRec fd.code fd.qualname)
    (h : wpAny (model prog w) A.in1 (bindArgs fd args) (fun binds s₁ =>
      wpAny (model prog w) A.in1 (newFunctionEnv fd.scope fd.globals fd.closure binds (fd.qualname ++ ".<locals>.") (some a) fd.code none fd.builtins)
        (fun env s₂ => s₂.heap.NoLimit ∧ codeC (model prog w) A (.func body env) R s₂) (fun e s' => R (.error e) s') s₁) (fun e s' => R (.error e) s') s) :
    codeC (model prog w) A (.call (.ref a) args) R s := by
  refine codeC_tree ?_
  show wpC _ A.in1 (callAny (.ref a) args) _ _ s
  simp only [callAny]
  refine wpC_bind (wpC_any (wpAny_load ho ?_))
  obtain ⟨c, oc, vs, tq, hc, hoc, hdc, hq⟩ := hcd
  simp only [hd', callFunction, hco, hgen, hbody, hc]
  rw [hc] at h
  refine wpC_bind (m := field (.ref c) 1) (wpC_any (wpAny_field hoc hdc hq (wpC_bind (wpC_pure ?_))))
  exact wpC_bind (wpC_any (wpAny_mono h (fun binds s₁ h₁ => wpC_bind (wpC_any (wpAny_mono h₁ (fun env s₂ h₂ => wpC_bind (wpC_any (wpAny_enterFrame h₂.1 hroom
    (wpC_pure (And.intro rfl h₂.2))))) fun _ _ h' => h'))) fun _ _ h' => h'))
end

section
variable {prog : Program} {w : World} {A₀ A : Around} {s : Shared} {base h₀ : Heap} {outer : List Env} {L : Addr} {m : Str → Option Value} {env : Env} {news : List (Addr × Obj)} {K : Frag} {p : Program} {loose : List Str} {mean : ExcName → Option Value} {mg mb : Str → Option Value}
  {R : Result → Shared → Prop} {name qual : Str} {params : Arguments} {body : List Stmt} {scope : Scope} {dV kV doc pm cdv ct oc : Value} {an od : Option Addr} {osl : Array (Option Value)} {f : Addr} {args : Args} {binds : List (Str × Value)}

/-- a def with cells, called by the claim's caller itself -/
theorem codeC_topC {fo : Obj} (B : Below A₀ base outer s.heap) (hlim : s.heap.NoLimit)
    (ho : s.heap.get? f = some fo) (hd : fo.data = .func (fnX name qual params body scope [] dV kV doc pm an cdv ct)) (hcd : s.heap.CodeRec cdv qual) (hroom : A.depth < recursionLimit)
    (hbind : BindsTo s (fnX name qual params body scope [] dV kV doc pm an cdv ct) args binds)
    (hkind : ∀ n, ∀ x ∈ binds, scope.names.lookup x.1 = some .local ∨ (scope.names.lookup x.1 = some .cell ∧ ((cellsFrom n scope.names []).lookup x.1).isSome = true))
    (hnd : ((cellsFrom 0 scope.names []).map (·.1)).Nodup)
    (h : ∀ L' h₁ tk cells, Fr s.heap L' h₁ (bindL (envOfC qual scope L' f cdv).kindOf binds fun _ => none) → News s.heap L' h₁ cells →
      CellsAre (bindC (envOfC qual scope L' f cdv).kindOf binds fun _ => none) (cellsFrom (L' + 1) scope.names []) cells →
      wpC (model prog w) (A.deeper (envOfC qual scope L' f cdv)) (execs body (envOfC qual scope L' f cdv))
        (fun fl s' => R (.ok (.ret (match fl with | .ret v => v | _ => .none))) s')
        (fun e s' => wpAny (model prog w) (A.deeper (envOfC qual scope L' f cdv)) (leaving (envOfC qual scope L' f cdv) e) (fun _ s'' => R (.error e) s'') (fun e' s'' => R (.error e') s'') s')
        { s with heap := h₁, toks := tk })
    (hco : scope.isCoroutine = false := by rfl) (hgen : scope.isGenerator = false := by rfl) (hk : scope.kind = .function := by rfl) : codeC (model prog w) A (.call (.ref f) args) R s := by
  refine codeC_call_function hroom ho hd hco hgen rfl hcd (hbind _ _ _ _ ?_)
  refine wpAny_newFunctionEnv_cells hk (hkind _) fun env' he s' x => ?_
  subst he
  refine ⟨hlim.keeps x.toInCall.keep, codeC_func ?_⟩
  obtain ⟨h₁, tk, rfl, _⟩ := x.done
  have hk₁ := x.toInCall.keep
  obtain ⟨cells, NC, Y⟩ := Cl.news (h₀ := s.heap) (Nat.le_refl _) fun n c hm => ⟨x.cell n c (lookup_of_mem_nodup (cellsFrom_names scope.names 0 (s.heap.objs.size + 1) [] [] rfl ▸ hnd) hm), x.above n c hm⟩
  exact h s.heap.objs.size h₁ tk cells ⟨x.toInCall.ns, fun b o e => hk₁ b o e, Nat.le_refl _⟩ NC Y

/-- a def with cells, called by another -/
theorem codeC_defC
    (B : Below A₀ base outer h₀) (F : Fr h₀ L s.heap m) (X₀ : K.In h₀) (N : News h₀ L s.heap news) (T : Top p loose mean mg mb h₀) (hA : A.frames = some (env :: outer)) (hf : env.frame = some L) (hke : env.scope.kind = .function)
    (ho : K.lookup f = some ⟨oc, od, .func (fnOf name qual params body scope dV kV doc pm an cdv ct), osl⟩) (hcd : codeIn K cdv qual = true) (hroom : A.depth < recursionLimit)
    (hbind : BindsTo s (fnOf name qual params body scope dV kV doc pm an cdv ct) args binds) (hkind : (binds.all fun y => scope.names.lookup y.1 == some .local || scope.names.lookup y.1 == some .cell) = true)
    (hnd : ((cellsFrom 0 scope.names []).map (·.1)).Nodup)
    (h : ∀ g L' h₁ tk cells, Fr h₀ L g m → Fr g L' h₁ (bindL (envOfC qual scope L' f cdv).kindOf binds fun _ => none) → News g L' h₁ (cells ++ news) →
      CellsAre (bindC (envOfC qual scope L' f cdv).kindOf binds fun _ => none) (cellsFrom (L' + 1) scope.names []) cells → Below A base (env :: outer) g → K.In g → Top p loose mean mg mb g → (∀ p ∈ news, p.1 < L') →
      wpC (model prog w) (A.deeper (envOfC qual scope L' f cdv)) (execs body (envOfC qual scope L' f cdv))
        (fun fl s' => LeaveK h₀ L m g R (match fl with | .ret v => v | _ => .none) s')
        (fun e s' => wpAny (model prog w) (A.deeper (envOfC qual scope L' f cdv)) (leaving (envOfC qual scope L' f cdv) e) (fun _ s'' => R (.error e) s'') (fun e' s'' => R (.error e') s'') s')
        { s with heap := h₁, toks := tk })
    (hco : scope.isCoroutine = false) (hgen : scope.isGenerator = false) (hk : scope.kind = .function) : codeC (model prog w) A (.call (.ref f) args) R s := by
  have X := X₀.keeps F.keep
  have ho' := X _ _ ho
  obtain ⟨FG, BG, st, lv⟩ := groundX (R := R) B F N hA hf hke
  refine codeC_call_function hroom ho' rfl hco hgen rfl (codeRec_of X hcd) (hbind _ _ _ _ ?_)
  refine wpAny_newFunctionEnv_cells hk (kindsX hkind _) fun env' he s' x => ?_
  subst he
  refine ⟨(T.nolimit.keeps F.keep).keeps x.toInCall.keep, codeC_func ?_⟩
  obtain ⟨h₁, tk, rfl, _⟩ := x.done
  have hk₁ := x.toInCall.keep
  obtain ⟨cells, NC, Y⟩ := Cl.news (h₀ := s.heap) (Nat.le_refl _) fun n c hm => ⟨x.cell n c (lookup_of_mem_nodup (cellsFrom_names scope.names 0 (s.heap.objs.size + 1) [] [] rfl ▸ hnd) hm), x.above n c hm⟩
  refine wpC_mono (h _ s.heap.objs.size h₁ tk cells FG ⟨x.toInCall.ns, fun b o e => hk₁ b o (of_hideAll _ e), Nat.le_of_eq (hideAll_size _ _)⟩ (fun p hp => ?_) Y BG (X₀.keeps st) (T.keeps st) (fun p hp => Heap.lt_size (N p hp).1)) (fun fl s' hl => lv _ _ hl) fun _ _ y => y
  rcases List.mem_append.mp hp with hp | hp
  · refine ⟨(NC p hp).1, (NC p hp).2.1, ?_⟩
    cases q : (hideAll s.heap (news.map (·.1))).get? p.1 with
    | none => rfl
    | some o => have := of_hideAll _ q; rw [(NC p hp).2.2] at this; cases this
  · exact ⟨hk₁ _ _ (N p hp).1, Nat.ne_of_lt (Heap.lt_size (N p hp).1), hideAll_none _ (List.mem_map_of_mem hp)⟩

/-- a def that catches, called from the law's own frame (any env) -/
theorem codeC_defS0X (B : Below A₀ base [] h₀) (F : Fr h₀ L s.heap m) (X₀ : K.In h₀) (N : News h₀ L s.heap news) (T : Top p loose mean mg mb h₀) (hA : A.frames = some [env]) (hf : env.frame = some L) (hke : env.scope.kind = .function)
    (ho : K.lookup f = some ⟨oc, od, .func (fnOf name qual params body scope dV kV doc pm an cdv ct), osl⟩) (hcd : codeIn K cdv qual = true) (hroom : A.depth < recursionLimit)
    (hbind : BindsTo s (fnOf name qual params body scope dV kV doc pm an cdv ct) args binds) (hloc : ∀ y ∈ binds, scope.names.lookup y.1 = some .local)
    (h : ∀ g L' h₁, Fr h₀ L g m → Fr g L' h₁ (fun y => binds.reverse.lookup y) → News g L' h₁ news → Below A base [env] g → K.In g → Top p loose mean mg mb g → KtsDicts ([env].filterMap (·.frame)) g →
      wpC (model prog w) (A.deeper (envOf qual scope L' f cdv)) (execs body (envOf qual scope L' f cdv))
        (fun fl s' => LeaveS0 ([env].filterMap (·.frame)) h₀ L m g R (match fl with | .ret v => v | _ => .none) s')
        (fun e s' => wpAny (model prog w) (A.deeper (envOf qual scope L' f cdv)) (leaving (envOf qual scope L' f cdv) e) (fun _ s'' => R (.error e) s'') (fun e' s'' => R (.error e') s'') s')
        { s with heap := h₁, toks := s.toks + binds.length })
    (hco : scope.isCoroutine = false) (hgen : scope.isGenerator = false) (hk : scope.kind = .function)
    (hcell : ∀ x ∈ scope.names, x.2 ≠ .cell) : codeC (model prog w) A (.call (.ref f) args) R s := by
  have X := X₀.keeps F.keep
  obtain ⟨FG, BG, st, _⟩ := groundX (R := R) B F N hA hf hke
  obtain ⟨oL, es, ep, hLg, hLd, hLk, hLf⟩ := FG.ns
  have hNs : ∀ (sl : Array (Option Value)) h', h'.get? L = some { oL with slots := sl } → Heap.Ns h' L m := fun sl h' e => ⟨_, es, ep, e, hLd, hLk, hLf⟩
  have kmem : ∀ {b : Addr}, b ∈ [env].filterMap (·.frame) → b = L := fun hm => by
    obtain ⟨en, he, hf'⟩ := List.mem_filterMap.mp hm
    rw [List.mem_singleton.mp he] at hf'
    exact Option.some.inj (hf'.symm.trans hf)
  refine codeC_call_def (fd := fnOf name qual params body scope dV kV doc pm an cdv ct) (body := body) (binds := binds) hroom (X _ _ ho) rfl (T.nolimit.keeps F.keep) (codeRec_of X hcd) rfl hbind hcell hloc (fun h₁ hns hk₁ => ?_) hco hgen hk
  refine wpC_mono (h _ s.heap.objs.size h₁ FG ⟨hns, fun b o e => hk₁ b o (of_hideAll _ e), Nat.le_of_eq (hideAll_size _ _)⟩
    (fun p hp => ⟨hk₁ _ _ (N p hp).1, Nat.ne_of_lt (Heap.lt_size (N p hp).1), hideAll_none _ (List.mem_map_of_mem hp)⟩) BG (X₀.keeps st) (T.keeps st) (fun b hb => by
      rw [kmem hb]; exact ⟨oL, es, ep, hLg, hLd⟩)) (fun fl s' hl => ?_) fun _ _ y => y
  obtain ⟨g', L', m', news', T', F', N', k⟩ := hl
  have nL₀ : h₀.get? L = none := kts_self F
  obtain ⟨sl, hs⟩ := T'.up hLg
  refine k ⟨hNs sl _ (F'.keep _ _ hs), fun b o e => F'.keep b o (T'.other b o (st b o e) (fun q => by
    rw [kmem q, nL₀] at e
    cases e)), F.above⟩ fun p hp => ⟨(N' p hp).1, fun q => ?_, ?_⟩
  · have := (N' p hp).2.2; rw [q, hs] at this; cases this
  · cases q : h₀.get? p.1 with
    | none => rfl
    | some o =>
      obtain ⟨sl', hs'⟩ := T'.up (st _ _ q)
      have := (N' p hp).2.2
      rw [hs'] at this
      cases this
end
end

/-! UUse -/
section

section
variable {prog : Program} {w : World} {A₀ A : Around} {s : Shared} {base h₀ : Heap} {outer : List Env} {L : Addr} {m : Str → Option Value} {env : Env} {news : List (Addr × Obj)} {K : Frag} {p : Program} {loose : List Str} {mean : ExcName → Option Value} {mg mb : Str → Option Value}
  {R : Result → Shared → Prop} {name qual : Str} {params : Arguments} {body : List Stmt} {scope : Scope} {dV kV doc pm cdv ct oc : Value} {an od : Option Addr} {osl : Array (Option Value)} {f : Addr} {args : Args} {binds : List (Str × Value)}
/-- a def, called with a ledger of what it may write: all else stays -/
theorem code_defF (B : Below A₀ base outer h₀) (F : Fr h₀ L s.heap m) (X₀ : K.In h₀) (N : News h₀ L s.heap news) (T : Top p loose mean mg mb h₀) (hA : A.frames = some (env :: outer)) (hf : env.frame = some L) (hke : env.scope.kind = .function)
    (ho : K.lookup f = some ⟨oc, od, .func (fnOf name qual params body scope dV kV doc pm an cdv ct), osl⟩) (hcd : codeIn K cdv qual = true) (hroom : A.depth < recursionLimit)
    (hbind : BindsTo s (fnOf name qual params body scope dV kV doc pm an cdv ct) args binds) (hloc : ∀ y ∈ binds, scope.names.lookup y.1 = some .local)
    (h : ∀ g L' h₁, (∀ b o, b ∉ news.map (·.1) → s.heap.get? b = some o → g.get? b = some o) → Fr g L' h₁ (fun y => binds.reverse.lookup y) → News g L' h₁ news → Below A base (env :: outer) g → K.In g → Top p loose mean mg mb g → (∀ p ∈ news, p.1 < L') →
      wpAny (model prog w) (A.deeper (envOf qual scope L' f cdv)) (execs body (envOf qual scope L' f cdv))
        (fun fl s' => R (.ok (.ret (match fl with | .ret v => v | _ => .none))) s')
        (fun e s' => wpAny (model prog w) (A.deeper (envOf qual scope L' f cdv)) (leaving (envOf qual scope L' f cdv) e) (fun _ s'' => R (.error e) s'') (fun e' s'' => R (.error e') s'') s')
        { s with heap := h₁, toks := s.toks + binds.length })
    (hco : scope.isCoroutine = false) (hgen : scope.isGenerator = false) (hk : scope.kind = .function)
    (hcell : ∀ x ∈ scope.names, x.2 ≠ .cell) : codeAny (model prog w) A (.call (.ref f) args) R s := by
  have X := X₀.keeps F.keep
  obtain ⟨FG, BG, st, lv⟩ := groundX (R := R) B F N hA hf hke
  refine codeAny_call_def (fd := fnOf name qual params body scope dV kV doc pm an cdv ct) (body := body) (binds := binds) hroom (X _ _ ho) rfl (T.nolimit.keeps F.keep) (codeRec_of X hcd) rfl hbind hcell hloc (fun h₁ hns hk₁ => ?_) hco hgen hk
  exact h _ s.heap.objs.size h₁ (fun b o hb e => hideAll_get _ e hb) ⟨hns, fun b o e => hk₁ b o (of_hideAll _ e), Nat.le_of_eq (hideAll_size _ _)⟩
    (fun p hp => ⟨hk₁ _ _ (N p hp).1, Nat.ne_of_lt (Heap.lt_size (N p hp).1), hideAll_none _ (List.mem_map_of_mem hp)⟩) BG (X₀.keeps st) (T.keeps st) (fun p hp => Heap.lt_size (N p hp).1)

/-- what a caller has back when only one object of its ledger was written -/
theorem but_fr {h₀ h h' : Heap} {L c : Addr} {m : Str → Option Value} (F : Fr h₀ L h m) (hc₀ : h₀.get? c = none) (hcL : L ≠ c) (k : ∀ b o, b ≠ c → h.get? b = some o → h'.get? b = some o) : Fr h₀ L h' m :=
  ⟨F.ns.at' fun o e => k L o hcL e, fun b o e => k b o (fun q => by rw [q, hc₀] at e; cases e) (F.keep b o e), F.above⟩
theorem but_news {h₀ h h' : Heap} {L c : Addr} {o o' : Obj} {news : List (Addr × Obj)} {g : Obj → List (Addr × Obj)} (N : News h₀ L h news) (U : UpdF c o news g) (k : ∀ b o, b ≠ c → h.get? b = some o → h'.get? b = some o) (hc : h'.get? c = some o') : News h₀ L h' (g o') := by
  obtain ⟨own, rest, rfl, hg, h1, h2⟩ := U.split
  have hm := N (c, o) (List.mem_append_right _ (.head _))
  rw [hg o']
  intro q hq
  rcases List.mem_append.mp hq with hq | hq
  · have z := N q (List.mem_append_left _ hq)
    exact ⟨k _ _ (h1 q hq) z.1, z.2⟩
  · rcases List.mem_cons.mp hq with rfl | hq
    · exact ⟨hc, hm.2⟩
    · have z := N q (List.mem_append_right _ (List.mem_cons_of_mem _ hq))
      exact ⟨k _ _ (h2 q hq) z.1, z.2⟩
end
end

/-! UMerge -/
section

section
variable {prog : Program} {w : World} {A : Around} {E : Value → Shared → Prop} {s : Shared}

theorem merge_nil {d o : Addr} {more : List (Str × Value)} {Q : Unit → Shared → Prop} (hdo : d ≠ o) (hoS : (o == sysModules) = false)
    (hd : s.heap.DictOf (PySem.strKind prog w) d []) (ho : s.heap.DictOf (PySem.strKind prog w) o more)
    (hQ : ∀ h', h'.DictOf (PySem.strKind prog w) d more → Heap.SameBut d s.heap h' → Q () { s with heap := h' })
    (hsz : more.length ≤ sizeLine) : wpAny (model prog w) A (mergeMapping d (.ref o) true) Q E s := by
  obtain ⟨od, esd, epd, hod, hcd, hdd, hkd, hpd, hnd⟩ := id hd
  obtain ⟨oo, eso, epo, hoo, hco, hdo', hko, hpo, hno⟩ := id ho
  have hlen : more.length = eso.size := by rw [← hpo.length]; simp
  unfold mergeMapping
  have hesd : esd.isEmpty = true := by
    have := hpd.length
    simp only [List.length_nil] at this
    simp only [Array.isEmpty_iff]
    exact Array.eq_empty_of_size_eq_zero (by simpa using this)
  refine wpAny_bind (wpAny_isInstance ho.typeIs isSubtype_dict_dict ?_)
  simp only [if_true]
  refine wpAny_bind (wpAny_specialOf ho.typeIs F.slot_dict_iter.lookup (wpAny_bind (wpAny_pure ?_)))
  simp only [beq_self_eq_true]
  rw [if_neg (by rw [hoS]; exact Bool.false_ne_true)]
  refine wpAny_bind (wpAny_dictEntries hod hdd ?_)
  rw [if_pos hesd]
  refine wpAny_bind (wpAny_dictEntries hoo hdo' ?_)
  refine wpAny_bind ?_
  rw [← Array.forIn_toList]
  refine wpAny_forIn_list _ (fun rest _ s' => s' = s ∧ ∀ e ∈ rest, e ∈ eso.toList) _ ?_ ?_ _ _ ⟨rfl, fun e h => h⟩
  · rintro e rest b s' ⟨rfl, hin⟩
    obtain ⟨k, hkey, _⟩ := hko e (Array.mem_toList_iff.mp (hin e (.head _)))
    obtain ⟨t, ht⟩ := Value.isStrOf_shape hkey
    rw [ht]
    exact wpAny_pure ⟨rfl, fun e h => hin e (.tail _ h)⟩
  rintro b s' ⟨hs9, _⟩
  rw [hs9]
  clear hs9 s'
  refine wpAny_bind (wpAny_dictEntries hoo hdo' ?_)
  refine wpAny_bind (wpAny_dictEpoch hoo hdo' ?_)
  refine wpAny_bind ?_
  rw [List.range_eq_range']
  refine wpAny_forIn_list _
      (fun rest _ s' => ∃ h' i, s' = { s with heap := h' } ∧ rest = List.range' i (eso.size - i) ∧ i ≤ eso.size ∧ h'.DictOf (PySem.strKind prog w) d (more.take i) ∧ h'.get? o = some oo ∧ Heap.SameBut d s.heap h')
      _ ?_ ?_ _ _ ⟨s.heap, 0, rfl, by simp, Nat.zero_le _, by simpa using hd, hoo, Heap.SameBut.refl _ _⟩
  · rintro x rest b s' ⟨h', i, rfl, hr, hi, hd', hoo', hs'⟩
    have hlt : i < eso.size := by
      rcases Nat.lt_or_ge i eso.size with h | h
      · exact h
      · rw [Nat.sub_eq_zero_of_le h] at hr; simp at hr
    obtain ⟨rfl, hrest⟩ : x = i ∧ rest = List.range' (i + 1) (eso.size - (i + 1)) := by
      have e : eso.size - i = (eso.size - (i + 1)) + 1 := by omega
      rw [e, List.range'_succ] at hr
      injection hr with h1 h2
      exact ⟨h1, h2⟩
    refine wpAny_bind (wpAny_dictEntries hoo' hdo' ?_)
    rw [Array.getElem?_eq_getElem hlt]
    obtain ⟨kv, hkv⟩ : ∃ kv, more[x]? = some kv := ⟨more[x]'(by rw [hlen]; exact hlt), List.getElem?_eq_getElem _⟩
    obtain ⟨k, v⟩ := kv
    obtain ⟨hkey, hval⟩ := hpo.get? (e := eso[x]) (by simp [hlt]) hkv
    obtain ⟨k', hkey', hhash⟩ := hko eso[x] (Array.getElem_mem hlt)
    obtain rfl : k' = k := (PySem.strKind prog w).inj _ _ _ hkey' hkey
    dsimp only
    rw [hhash, hval]
    obtain ⟨o₁, es₁, ep₁, ho₁, hc₁, hd₁, hk₁, hp₁, hn₁⟩ := id hd'
    have hidx : (es₁.findIdx? fun e => (PySem.strKind prog w).is k' e.key) = none := by
      have := hp₁.findIdx k'
      have h2 : (es₁.toList.findIdx? fun e => (PySem.strKind prog w).is k' e.key) = none := by
        rw [this, List.findIdx?_eq_none_iff]
        rintro ⟨a, b⟩ hab
        rw [decide_eq_false_iff_not]
        rintro rfl
        obtain ⟨j, hj, hja⟩ := List.mem_iff_getElem.mp hab
        rw [List.getElem_take] at hja
        have hj' : j < x := by rw [List.length_take] at hj; omega
        have hjm : j < more.length := by rw [List.length_take] at hj; omega
        have e1 : (more.map (·.1))[j]? = some a := by rw [List.getElem?_map, List.getElem?_eq_getElem hjm, hja]; rfl
        have e2 : (more.map (·.1))[x]? = some a := by rw [List.getElem?_map, hkv]; rfl
        have := (List.getElem?_inj (by rw [List.length_map]; exact hjm) hno).mp (e1.trans e2.symm)
        omega
      rw [← h2]; obtain ⟨l⟩ := es₁; simp
    refine wpAny_bind (wpAny_holding ?_)
    refine wpAny_bind (wpAny_dictFind_of (knd := PySem.strKind prog w) hkey ho₁ hd₁ hk₁ ?_)
    rw [hidx]
    simp only [Option.isSome_none, Bool.false_eq_true, if_false]
    unfold dictPut
    refine wpAny_bind (wpAny_dictFind_of (knd := PySem.strKind prog w) hkey ho₁ hd₁ hk₁ ?_)
    rw [hidx]
    dsimp only
    have hes : es₁.size ≤ sizeLine := by
      have e1 := hp₁.length; have e2 : es₁.toList.length = es₁.size := by simp
      rw [List.length_take] at e1
      omega
    refine wpAny_updateDictKeys (hz := hes) ho₁ hd₁ ?_
    have hoo'' : (h'.update d (Obj.mapDictKeys (·.push ⟨(PySem.strKind prog w).hash k', eso[x].key, v⟩))).get? o = some oo := (Heap.get?_update_other _ _ hdo).trans hoo'
    refine wpAny_bind (wpAny_dictEpoch hoo'' hdo' ?_)
    rw [if_neg (by simp)]
    refine wpAny_pure ⟨_, x + 1, rfl, hrest, hlt, ⟨_, _, ep₁ + 1, Heap.get?_update_self _ ho₁ (Obj.isFreed_of_dict (Obj.data_mapDictKeys hd₁ _)),
      hc₁.mapDictKeys _, Obj.data_mapDictKeys hd₁ _, hk₁.push hkey _, ?_, ?_⟩, hoo'', hs'.trans (Heap.SameBut.update ..)⟩
    · have := hp₁.append hkey ((PySem.strKind prog w).hash k') v
      rw [List.take_add_one, hkv]
      obtain ⟨l⟩ := es₁
      simpa using this
    · exact (List.Sublist.map _ (List.take_sublist _ _)).nodup hno
  · rintro b s' ⟨h', i, rfl, hr, hi, hd', hoo', hs'⟩
    have hin : i = eso.size := by
      rcases Nat.lt_or_ge i eso.size with h | h
      · have e : eso.size - i = (eso.size - (i + 1)) + 1 := by omega
        rw [e, List.range'_succ] at hr; exact nomatch hr
      · exact Nat.le_antisymm hi h
    refine wpAny_pure (hQ h' ?_ hs')
    rw [hin, ← hlen, List.take_length] at hd'; exact hd'

theorem keywordsIn_strs {f : Value} {d : Addr} {more : List (Str × Value)} {Q : List (Str × Value) → Shared → Prop} (hd : s.heap.DictOf (PySem.strKind prog w) d more) (h : Q more s) :
    wpAny (model prog w) A (keywordsIn f d) Q E s := by
  obtain ⟨od, es, ep, hod, hcd, hdd, hkd, hpd, hnd⟩ := id hd
  unfold keywordsIn
  refine wpAny_bind (wpAny_dictEntries hod hdd ?_)
  refine wpAny_bind ?_
  rw [← Array.forIn_toList]
  refine wpAny_forIn_list _ (fun rest kw s' => s' = s ∧ ∃ rm, Pairs (PySem.strKind prog w) rest rm ∧ more = kw ++ rm) _ ?_ ?_ _ _ ⟨rfl, more, hpd, rfl⟩
  · rintro e rest kw s' ⟨hs, rm, hp, hm⟩
    cases hp with
    | cons h1 h2 hr =>
      rename_i kv kvs
      obtain ⟨t, ht⟩ := Value.isStrOf_shape h1
      rw [ht]
      exact wpAny_pure ⟨hs, kvs, hr, by rw [hm, h2]; simp⟩
  · rintro kw s' ⟨hs, rm, hp, hm⟩
    cases hp
    rw [List.append_nil] at hm
    subst hs hm
    exact wpAny_pure h

theorem evalArgs_starKw {f : Value} {x : Sem Value} {o : Addr} {more : List (Str × Value)} {Q : Args → Shared → Prop}
    (hx : ∀ (s' : Shared) (Q' : Value → Shared → Prop) (E' : Value → Shared → Prop), (∀ b ob, s.heap.get? b = some ob → s'.heap.get? b = some ob) → Q' (.ref o) s' → wpAny (model prog w) A x Q' E' s')
    (hoS : (o == sysModules) = false) (ho : s.heap.DictOf (PySem.strKind prog w) o more) (hsz : more.length ≤ sizeLine)
    (hQ : ∀ h', (∀ b ob, s.heap.get? b = some ob → h'.get? b = some ob) → Q ⟨[], more⟩ { s with heap := h' }) :
    wpAny (model prog w) A (evalArgs f true [] [(none, x)]) Q E s := by
  unfold evalArgs
  refine wpAny_bind (wpAny_bind (wpAny_pure (wpAny_pure ?_)))
  refine wpAny_bind (wpAny_pure ?_)
  refine wpAny_holding ?_
  rw [if_neg (by simp)]
  have hup : ∀ b ob, s.heap.get? b = some ob → (s.heap.push { cls := .type "dict", data := .dict #[] }).get? b = some ob := fun b ob e => Heap.get?_push_of_some _ e
  have hlt : o < s.heap.objs.size := by obtain ⟨ob, _, _, e, _⟩ := ho; exact Heap.lt_size e
  have hne : s.heap.objs.size ≠ o := Nat.ne_of_gt hlt
  have hnew : (s.heap.push { cls := .type "dict", data := .dict #[] }).DictOf (PySem.strKind prog w) s.heap.objs.size [] :=
    ⟨_, #[], 0, Heap.get?_push_size _ rfl, ⟨rfl, rfl, rfl⟩, rfl, fun e h => by simp at h, .nil, List.nodup_nil⟩
  have ho' : (s.heap.push { cls := .type "dict", data := .dict #[] }).DictOf (PySem.strKind prog w) o more := by
    obtain ⟨ob, es, ep, e, r⟩ := ho
    exact ⟨ob, es, ep, hup _ _ e, r⟩
  refine wpAny_bind ?_
  unfold mergedKeywords
  refine wpAny_bind (wpAny_alloc ?_)
  refine wpAny_bind (wpAny_holding ?_)
  dsimp only
  refine wpAny_bind ?_
  rw [List.forIn_cons]
  refine wpAny_bind ?_
  dsimp only
  rw [if_pos (show ([] : List (Str × Sem Value)).isEmpty = true from rfl)]
  refine wpAny_bind (wpAny_pure ?_)
  refine wpAny_bind (hx _ _ _ hup ?_)
  refine wpAny_bind ?_
  refine wpAny_onRaise (wpAny_mono (E := fun _ _ => False) ?_ (fun _ _ x => x) fun _ _ x => x.elim)
  refine wpAny_holding ?_
  refine wpAny_tryCatch (wpAny_mono (E := fun _ _ => False) ?_ (fun _ _ x => x) fun _ _ x => x.elim)
  refine wpAny_onRaise (wpAny_mono (E := fun _ _ => False) ?_ (fun _ _ x => x) fun _ _ x => x.elim)
  refine merge_nil hne hoS hnew ho' (fun h' hd' hs' => ?_) hsz
  refine wpAny_pure ?_
  dsimp only
  rw [List.forIn_nil]
  refine wpAny_pure ?_
  rw [if_pos (show ([] : List (Str × Sem Value)).isEmpty = true from rfl)]
  refine wpAny_pure (wpAny_pure ?_)
  refine wpAny_bind (wpAny_pure ?_)
  refine wpAny_bind (wpAny_holding (keywordsIn_strs hd' (wpAny_pure ?_)))
  exact hQ h' fun b ob e => hs'.extBut b ob (Nat.ne_of_lt (Heap.lt_size e)) (hup _ _ e)

theorem callWith_starKw {f : Value} {first : List Value} {pos : Pos} {Q : Value → Shared → Prop} {P : Heap → Prop} {keywords : List (Option Str × Sem Value)} (hst : keywords.any (·.1.isNone) = true)
    (hk : ∀ h, P h → ∃ k, (k = Keeper.frame ∨ k = Keeper.machine ∨ k = Keeper.boundFrame) ∧ Looks (model prog w) h (keeperOf f) k)
    (h : wpAny (model prog w) A (evalArgs f true [] keywords) (fun a s₁ => P s₁.heap ∧ wpAny (model prog w) A (call f (first ++ a.pos) a.kw) Q E s₁) E s) : wpAny (model prog w) A (callWith pos f first [] keywords) Q E s := by
  unfold callWith
  refine wpAny_bind (wpAny_holding (wpAny_mono h (fun a s₁ h₁ => wpAny_bind (wpAny_standAt ?_)) fun _ _ x => x))
  obtain ⟨k, hk', L⟩ := hk _ h₁.1
  simp only [hst, Bool.or_true]
  refine wpAny_bind (L.here ?_)
  have tail : ∀ {t : Sem Value}, wpAny (model prog w) A t Q E s₁ → wpAny (model prog w) A (t >>= fun r => holding [r] point >>= fun _ => pure r) Q E s₁ :=
    fun ht => wpAny_bind (wpAny_mono ht (fun r s₂ hr => wpAny_bind (wpAny_holding (wpAny_point (wpAny_pure hr)))) fun _ _ x => x)
  have marked (mk : Value) : wpAny (model prog w) A (callMarked mk f (first ++ a.pos) a.kw) Q E s₁ := by unfold callMarked; exact Calls.wpAny_keep h₁.2
  rcases hk' with rfl | rfl | rfl <;> dsimp only <;> first | exact tail (marked _) | exact tail (wpAny_operating h₁.2)
end

section
variable {prog : Program} {w : World} {A : Around} {E : Value → Shared → Prop} {s : Shared} {h₀ : Heap} {L : Addr} {m : Str → Option Value} {news : List (Addr × Obj)} {K : Frag} {env : Env}
theorem callWith_KS {pos p kp : Pos} {f : Value} {first : List Value} {kx : Str} {o : Addr} {ob : Obj} {more : List (Str × Value)} {Q : Value → Shared → Prop}
    (F : Fr h₀ L s.heap m) (X : K.In h₀) (N : News h₀ L s.heap news) (hk : keepIn K f = true)
    (hN : ∀ (s' : Shared) (Q' : Value → Shared → Prop) (E' : Value → Shared → Prop), Fr h₀ L s'.heap m → Q' (.ref o) s' → wpAny (model prog w) A (eval (.Name kx p) env) Q' E' s')
    (hm : (o, ob) ∈ news) (hob : ob.IsDictOf (PySem.strKind prog w) more) (hoS : (o == sysModules) = false) (hsz : more.length ≤ sizeLine)
    (h : ∀ h', Fr h₀ L h' m → News h₀ L h' news → wpAny (model prog w) A (call f (first ++ []) more) Q E { s with heap := h' }) :
    wpAny (model prog w) A (callWith pos f first (backTo pos (starEach [] env)) (backToKw pos (keywordEach [⟨none, .Name kx p, kp⟩] env))) Q E s := by
  refine callWith_starKw (P := fun h => K.In h) rfl (fun h X => keeps_K hk h X) ?_
  refine evalArgs_starKw (o := o) (more := more) (fun s' Q' E' hup q => ?_) hoS ?_ hsz fun h' hup => ?_
  · exact wpAny_bind (hN s' _ _ (F.keeps hup) (wpAny_bind (wpAny_standAt (wpAny_pure q))))
  · obtain ⟨es, ep, r⟩ := hob
    exact ⟨ob, es, ep, (N _ hm).1, r⟩
  · exact ⟨X.keeps (F.keeps hup).keep, h h' (F.keeps hup) (N.grown hup)⟩
end
end

/-! UBind -/
section

theorem lookup_none_of {l : List (Str × Value)} {n : Str} (h : n ∉ l.map (·.1)) : l.lookup n = none := by
  induction l with
  | nil => rfl
  | cons p l ih =>
    obtain ⟨a, b⟩ := p
    rw [List.map_cons, List.mem_cons, not_or] at h
    rw [List.lookup_cons]
    have : (n == a) = false := by simpa using h.1
    rw [this]
    exact ih h.2
theorem filterMap_congr' {α β : Type} {l : List α} {f g : α → Option β} (h : ∀ x ∈ l, f x = g x) : l.filterMap f = l.filterMap g := by
  induction l with
  | nil => rfl
  | cons x l ih => rw [List.filterMap_cons, List.filterMap_cons, h x (.head _), ih fun y hy => h y (.tail _ hy)]
theorem lookup_append_some {l r : List (Str × Value)} {n : Str} : (l ++ r).lookup n = (l.lookup n).or (r.lookup n) := by
  induction l with
  | nil => simp
  | cons p l ih =>
    obtain ⟨a, b⟩ := p
    rw [List.cons_append, List.lookup_cons, List.lookup_cons]
    cases n == a <;> simp [ih]

/-- keywords alone, each a parameter with the default None -/
theorem binds_kw {s : Shared} {fd : FuncData} {self : Str} {fs : List Str} {v : Value} {more : List (Str × Value)} {T : Addr} {o : Obj} {items : Array Value} {n : Nat}
    (hpo : fd.params.posonlyargs = []) (hpa : fd.params.args.map (·.arg) = self :: fs) (hko : fd.params.kwonlyargs = []) (hva : fd.params.vararg = none) (hka : fd.params.kwarg = none)
    (hd : fd.defaults = .ref T) (ho : s.heap.get? T = some o) (hc : o.cls = .type "tuple") (hs : o.data = .seq items n) (hit : items.toList = List.replicate fs.length .none)
    (hself : self ∉ fs) (hfs : fs.Nodup) (hmk : ∀ kv ∈ more, kv.1 ∈ fs) (hmn : (more.map (·.1)).Nodup) :
    BindsTo s fd ⟨[v], more⟩ ((self, v) :: fs.map fun f => (f, (more.lookup f).getD .none)) := by
  intro M A E Q hQ
  unfold bindArgs
  simp only [hpo, hpa, hko, hva, hka, List.map_nil, List.nil_append, List.length_cons, List.length_nil, List.zip_cons_cons, List.zip_nil_right, List.append_nil]
  refine wpAny_bind ?_
  refine wpAny_forIn_list _ (fun rest acc s' => s' = s ∧ ∃ pre, more = pre ++ rest ∧ acc = ([(self, v)] ++ pre, [])) _ ?_ ?_ _ _ ⟨rfl, [], rfl, rfl⟩
  · rintro ⟨k, x⟩ rest acc s' ⟨hs', pre, hm, rfl⟩
    have hk : k ∈ fs := hmk (k, x) (by rw [hm]; simp)
    have hne : k ≠ self := fun e => hself (e ▸ hk)
    have hnp : k ∉ pre.map (·.1) := by
      rw [hm, List.map_append, List.map_cons, List.nodup_append] at hmn
      exact fun hin => hmn.2.2 k hin k (List.mem_cons_self) rfl
    have hl : ([(self, v)] ++ pre).lookup k = none := by
      rw [lookup_append_some, lookup_none_of hnp, Option.or_none]
      exact lookup_none_of (by simpa using hne)
    rw [if_pos (by simp [hk])]
    dsimp only
    rw [hl]
    rw [if_neg (by simp)]
    exact wpAny_pure ⟨hs', pre ++ [(k, x)], by rw [hm]; simp, by simp⟩
  rintro acc s' ⟨hs9, pre, hm, rfl⟩
  rw [hs9]
  clear hs9 s'
  rw [List.append_nil] at hm
  subst hm
  dsimp only
  refine wpAny_bind ?_
  rw [hd]
  refine wpAny_seqItems ho hs ?_
  have hil : items.toList.length = fs.length := by rw [hit, List.length_replicate]
  rw [if_neg (by simp)]
  have e1 : List.drop (fs.length - (fs.length + 1)) items.toList = items.toList := by
    rw [show fs.length - (fs.length + 1) = 0 by omega, List.drop_zero]
  have e2 : fs.length + 1 - fs.length = 1 := by omega
  simp only [Option.getD_some, hil, e1, e2]
  have his : items.size = fs.length := by simpa using hil
  rw [if_neg (by simp [List.lookup_cons, his, e2])]
  refine wpAny_bind ?_
  rw [hit]
  refine wpAny_forIn_list _ (fun rest slots s' => s' = s ∧ (∀ p ∈ rest, p.2 = Value.none) ∧ (rest.map (·.1)).Nodup ∧ (∀ x ∈ rest.map (·.1), x ∈ fs) ∧ (∀ x ∈ rest.map (·.1), slots.lookup x = more.lookup x) ∧
    (∀ x ∈ fs, x ∉ rest.map (·.1) → slots.lookup x = some ((more.lookup x).getD .none)) ∧ slots.lookup self = some v) _ ?_ ?_ _ _ ?_
  · rintro ⟨k, x⟩ rest slots s' ⟨hs', h1, h2, h3, h4, h5, h6⟩
    have hx : x = .none := h1 (k, x) (.head _)
    subst hx
    have hk : k ∈ fs := h3 k (by simp)
    have hks : k ≠ self := fun e => hself (e ▸ hk)
    rw [List.map_cons, List.nodup_cons] at h2
    dsimp only
    cases hl : slots.lookup k with
    | none =>
      rw [if_pos (by rfl)]
      refine wpAny_pure ⟨hs', fun p hp => h1 p (.tail _ hp), h2.2, fun x hx => h3 x (by simp only [List.map_cons]; exact .tail _ hx), fun x hx => ?_, fun x hx hn => ?_, ?_⟩
      · rw [lookup_append_some, h4 x (by simp only [List.map_cons]; exact .tail _ hx)]
        rw [lookup_none_of (l := [(k, Value.none)]) (n := x) (by simp only [List.map_cons, List.map_nil, List.mem_singleton]; rintro rfl; exact h2.1 hx), Option.or_none]
      · by_cases e : x = k
        · subst e
          rw [lookup_append_some, hl, ← h4 x (by simp), hl]
          simp [List.lookup_cons]
        · rw [lookup_append_some, h5 x hx (by simp only [List.map_cons, List.mem_cons, not_or]; exact ⟨e, hn⟩)]
          rfl
      · rw [lookup_append_some, h6]; rfl
    | some y =>
      rw [if_neg (by simp)]
      refine wpAny_pure ⟨hs', fun p hp => h1 p (.tail _ hp), h2.2, fun x hx => h3 x (by simp only [List.map_cons]; exact .tail _ hx), fun x hx => h4 x (by simp only [List.map_cons]; exact .tail _ hx), fun x hx hn => ?_, h6⟩
      by_cases e : x = k
      · subst e
        rw [← h4 x (by simp), hl]; rfl
      · exact h5 x hx (by simp only [List.map_cons, List.mem_cons, not_or]; exact ⟨e, hn⟩)
  · rintro slots s' ⟨rfl, _, _, _, _, h5, h6⟩
    rw [List.forIn_nil]
    refine wpAny_bind (wpAny_pure ?_)
    rw [if_neg (by simp)]
    have hfin : (self :: fs).filterMap (fun n => (slots.lookup n).map (n, ·)) = (self, v) :: fs.map fun f => (f, (more.lookup f).getD .none) := by
      rw [List.filterMap_cons, h6]
      simp only [Option.map_some]
      congr 1
      rw [← List.filterMap_eq_map]
      refine filterMap_congr' fun x hx => ?_
      rw [h5 x hx (by simp)]
      rfl
    try simp only [List.append_nil]
    first
      | (rw [hfin]; exact wpAny_pure hQ)
      | (refine wpAny_pure ?_; rw [hfin]; exact hQ)
  · have hz : ((((self :: fs).drop 1).zip (List.replicate fs.length Value.none)).map (·.1)) = fs := by
      show ((fs.zip (List.replicate fs.length Value.none)).map Prod.fst) = fs
      rw [List.map_fst_zip (by rw [List.length_replicate]; exact Nat.le_refl _)]
    refine ⟨rfl, fun p hp => ?_, by rw [hz]; exact hfs, fun x hx => by rw [hz] at hx; exact hx, fun x hx => ?_, fun x hx hn => absurd (by rw [hz]; exact hx) hn, by simp [List.lookup_cons]⟩
    · exact List.eq_of_mem_replicate (List.of_mem_zip (a := p.1) (b := p.2) hp).2
    · rw [hz] at hx
      have : (x == self) = false := by simpa using fun e : x = self => hself (e ▸ hx)
      simp [List.lookup_cons, this]
end

/-! UCmp -/
section

def toPy : Option Int → PyData
  | none => .none
  | some n => .int n
theorem toPy_shaped (ds : List (Option Int)) : SeqAt.shaped (.list (ds.map toPy)) = true := by
  have h1 : ∀ ds : List (Option Int), PyData.canLayAll0 (ds.map toPy) = true := fun ds => by
    induction ds with
    | nil => rfl
    | cons d r ih => cases d <;> simp [toPy, PyData.canLayAll0, PyData.canLay0, ih]
  have h2 : ∀ ds : List (Option Int), PyData.depthAll (ds.map toPy) = 0 := fun ds => by
    induction ds with
    | nil => rfl
    | cons d r ih => cases d <;> simp [toPy, PyData.depthAll, PyData.depth, ih]
  simp [SeqAt.shaped, PyData.canLay0, PyData.depth, h1, h2]
theorem toPy_eqv (ds : List (Option Int)) : PyData.eqv (.list (ds.map toPy)) (.list (ds.map toPy)) = true := by
  have h1 : ∀ ds : List (Option Int), PyData.eqvAll (ds.map toPy) (ds.map toPy) = true := fun ds => by
    induction ds with
    | nil => rfl
    | cons d r ih => cases d <;> simp [toPy, PyData.eqvAll, PyData.eqv, ih]
  simp only [PyData.eqv, h1]
section
variable {prog : Program} {w : World} {A : Around} {E : Value → Shared → Prop} {s : Shared}
theorem ne_same {a b : Addr} {xs ys : List Value} {ds : List (Option Int)} {Q : Value → Shared → Prop} (ha : s.heap.IsList a xs.toArray) (hb : s.heap.IsList b ys.toArray)
    (hx : CarriedAll xs (ds.map toPy)) (hy : CarriedAll ys (ds.map toPy)) (hu : A.units + 64 < cLine) (h : Q (.bool false) s) :
    wpAny (model prog w) A (compareOp .NotEq (.ref a) (.ref b)) Q E s :=
  ne_dataH (reads_newData ha hx) (reads_newData hb hy) (toPy_shaped ds) (toPy_shaped ds) hu (by rw [toPy_eqv]; exact h)
end
end

/-! UTxt -/
abbrev num (n : Int) : Str := PySem.Str.ofString (toString n)
theorem num_len {n : Int} (h0 : 0 ≤ n) (h1 : n < 10 ^ 120) : (num n).length ≤ 120 := toString_length_le h0 (by decide) h1
theorem num_len1 {n : Int} (h0 : 0 ≤ n) : 1 ≤ (num n).length := KLn.one_le h0
section
variable {prog : Program} {w : World} {A : Around} {E : Value → Shared → Prop} {s : Shared} {Q : Value → Shared → Prop}
theorem str_big {n : Int} {t : Tok} (h0 : 0 ≤ n) (h1 : n < 10 ^ 120) (h : ∀ x tx k, x = num n → x.length ≤ 120 → Q (.str x tx) { s with toks := k }) :
    wpAny (model prog w) A (call (.type "str") [.int n t]) Q E s := by
  have h2 : (10 : Int) ^ 120 ≤ 2 ^ 1920 := by decide +kernel
  refine P.str_of_int (shown (N := 2 ^ 1920) ?_ (Int.lt_of_lt_of_le h1 h2) (Int.le_refl _)) (h _ _ _ rfl (num_len h0 h1))
  exact Int.lt_of_lt_of_le (by decide +kernel) h0
theorem add_b {x y : Str} {t u : Tok} {m k : Nat} (hx : x.length ≤ m) (hy : y.length ≤ k) (hz : m + k ≤ 16777216) (h : ∀ z tz c, z = x ++ y → z.length ≤ m + k → Q (.str z tz) { s with toks := c }) :
    wpAny (model prog w) A (binaryOp .Add (.str x t) (.str y u)) Q E s :=
  KXadd.add hx hy hz fun t' c g => h _ t' c rfl (by have := g.2; omega)
end
theorem len_le_of {x : Str} {n : Nat} (h : x.length = n) : x.length ≤ n := Nat.le_of_eq h
def DLen (kvs : List (Str × Value)) (n : Nat) : Prop := kvs.length ≤ n
theorem DLen.s {kvs : List (Str × Value)} {k : Str} {v : Value} {n : Nat} (h : DLen kvs n) : DLen (stored kvs k v) (n + 1) := Nat.le_trans (stored_length_le kvs k v) (Nat.succ_le_succ h)
theorem DLen.fit {kvs : List (Str × Value)} {n : Nat} (h : DLen kvs n) (hn : n ≤ 100) : kvs.length ≤ sizeLine := by rw [sizeLine_eq]; exact Nat.le_trans h (Nat.le_trans hn (by decide))
theorem DLen.mono {kvs : List (Str × Value)} {n m : Nat} (h : DLen kvs n) (hm : n ≤ m) : DLen kvs m := Nat.le_trans h hm
theorem DLen.nil : DLen [] 0 := Nat.le_refl _
theorem clean_any {α : Type} {M : Model} {A : Around} {t : Sem α} {Q : α → Shared → Prop} {E : Value → Shared → Prop} {s s' : Shared} (e : s = s') (h : wpAny M A t Q E s') : wpAny M A t Q E s := e ▸ h
theorem clean_cons {M : Model} {A : Around} {st : Stmt} {rest : List Stmt} {env : Env} {Q : Flow → Shared → Prop} {E : Value → Shared → Prop} {s s' : Shared} (e : s = s') (h : wpAny M A (exec st env) (fun f s' => match f with | .next => wpAny M A (execs rest env) Q E s' | f => Q f s') E s') : wpAny M A (execs (st :: rest) env) Q E s := e ▸ wpAny_execs_cons h
theorem clean_leaveK {h₀ : Heap} {L : Addr} {m : Str → Option Value} {g : Heap} {R : Result → Shared → Prop} {v : Value} {s s' : Shared} (e : s = s') (h : LeaveK h₀ L m g R v s') : LeaveK h₀ L m g R v s := e ▸ h
local macro_rules | `(tactic| walk_at "execs cons") => `(tactic| (k_here; with_reducible refine clean_cons ?hs9 ?_; (case hs9 => ((try dsimp only); exact rfl))))
local macro_rules | `(tactic| walk_at "setItem ref str") => `(tactic| (k_here; k_dflt (refine' PySem.W.kda_set (knd := PySem.strKind _ _) ?F ?N ?U ?d (strKind_is _ _ _ _) ?z ?_; (case F => k_asm); (case N => k_asm); (case U => k_updF); (case d => k_asm); (case z => exact DLen.fit (n := 19) (by repeat (first | exact DLen.mono (by with_reducible assumption) (by decide) | exact DLen.mono DLen.nil (by decide) | refine DLen.s ?_)) (by decide))); intro h' o' F' N' hd'; (try dsimp only at N'); (try ((first | with_reducible refine clean_any ?hs9 ?_ | with_reducible refine clean_leaveK ?hs9 ?_); (case hs9 => (dsimp only; exact rfl))))))

/-! UWords -/
section

abbrev lst (x : Str) : List Nat := x.cps.toList
theorem lst_app (a b : Str) : lst (a ++ b) = lst a ++ lst b := KAf.app_list a b
theorem lst_inj {a b : Str} (h : lst a = lst b) : a = b := PySem.Str.ext' (Array.toList_inj.mp h)
theorem lst_len (a : Str) : (lst a).length = a.length := Array.length_toList

theorem cut_uniq {c : Nat} : ∀ {p q r t : List Nat}, c ∉ p → c ∉ q → p ++ c :: r = q ++ c :: t → p = q ∧ r = t
  | [], [], r, t, _, _, h => ⟨rfl, by simpa using h⟩
  | [], b :: q, r, t, _, hq, h => by
    rw [List.nil_append, List.cons_append] at h
    injection h with h1 h2
    exact absurd (h1 ▸ List.mem_cons_self) hq
  | a :: p, [], r, t, hp, _, h => by
    rw [List.nil_append, List.cons_append] at h
    injection h with h1 h2
    exact absurd (h1 ▸ List.mem_cons_self) hp
  | a :: p, b :: q, r, t, hp, hq, h => by
    rw [List.cons_append, List.cons_append] at h
    injection h with h1 h2
    obtain ⟨e1, e2⟩ := cut_uniq (fun m => hp (List.mem_cons_of_mem _ m)) (fun m => hq (List.mem_cons_of_mem _ m)) h2
    exact ⟨by rw [h1, e1], e2⟩
theorem join_cons2 (y p q : Str) (r : List Str) : PySem.Str.join y (p :: q :: r) = p ++ y ++ PySem.Str.join y (q :: r) := rfl
theorem join_uniq {c : Nat} : ∀ {ps qs : List Str}, ps ≠ [] → qs ≠ [] → (∀ p ∈ ps, c ∉ lst p) → (∀ q ∈ qs, c ∉ lst q) → PySem.Str.join ⟨#[c]⟩ ps = PySem.Str.join ⟨#[c]⟩ qs → ps = qs
  | [], _, h, _, _, _, _ => absurd rfl h
  | _, [], _, h, _, _, _ => absurd rfl h
  | [p], [q], _, _, _, _, h => by
    have : p = q := h
    rw [this]
  | [p], q :: q' :: r, _, _, hp, _, h => by
    have h' : p = q ++ ⟨#[c]⟩ ++ PySem.Str.join ⟨#[c]⟩ (q' :: r) := h
    exact absurd (by rw [h', lst_app, lst_app]; simp) (hp p (.head _))
  | p :: p' :: r, [q], _, _, _, hq, h => by
    have h' : p ++ ⟨#[c]⟩ ++ PySem.Str.join ⟨#[c]⟩ (p' :: r) = q := h
    exact absurd (by rw [← h', lst_app, lst_app]; simp) (hq q (.head _))
  | p :: p' :: r, q :: q' :: t, _, _, hp, hq, h => by
    rw [join_cons2, join_cons2] at h
    have h' := congrArg lst h
    rw [lst_app, lst_app, lst_app, lst_app, List.append_assoc, List.append_assoc] at h'
    obtain ⟨e1, e2⟩ := cut_uniq (c := c) (hp p (.head _)) (hq q (.head _)) h'
    have := join_uniq (List.cons_ne_nil p' r) (List.cons_ne_nil q' t) (fun x hx => hp x (.tail _ hx)) (fun x hx => hq x (.tail _ hx)) (lst_inj e2)
    rw [lst_inj e1, this]
theorem split_ne (x y : Str) : Txt.split x y ≠ [] := by
  unfold Txt.split
  split
  · exact List.cons_ne_nil _ _
  · split
    · exact List.cons_ne_nil _ _
    · rw [StrLaws.partsBetween_eq]
      obtain ⟨p, r, e⟩ := StrLaws.partsFrom_ne x y.length 0 (Builtin.Str.occurrences x y 0 x.length (x.length + 1))
      rw [e]
      exact List.cons_ne_nil _ _
theorem split_uniq {x : Str} {c : Nat} {ps : List Str} (hne : ps ≠ []) (hj : PySem.Str.join ⟨#[c]⟩ ps = x) (hf : ∀ p ∈ ps, c ∉ lst p) : Txt.split x ⟨#[c]⟩ = ps :=
  join_uniq (split_ne x _) hne (StrLaws.split_free x c) hf ((StrLaws.join_split x _).trans hj.symm)

def NoSp (x : Str) : Prop := (lst x).all (fun c => !Unicode.isSpace c) = true
theorem NoSp.app {a b : Str} (ha : NoSp a) (hb : NoSp b) : NoSp (a ++ b) := by
  unfold NoSp at *
  rw [lst_app, List.all_append, ha, hb]; rfl
theorem scan_one {a : Str} (h : NoSp a) : KWd.scan a = ([], a) := by
  have := KWk.scan_plain (a := PySem.Str.empty) (y := a) KWd.scan_empty h
  have e : PySem.Str.empty ++ a = a := KT.empty_app a
  rwa [e] at this
theorem words_one {a : Str} (h : NoSp a) (hl : a.length ≠ 0) : Txt.words a = [a] := by
  rw [KWd.words_of (scan_one h), if_neg hl]; rfl
theorem words_two {a b : Str} (ha : NoSp a) (hla : a.length ≠ 0) (hb : NoSp b) (hlb : b.length ≠ 0) : Txt.words ((a ++ " ") ++ b) = [a, b] := by
  have h1 := KWk.scan_blank (e := PySem.Str.empty) (scan_one ha) hla rfl
  have h2 := KWk.scan_plain h1 hb
  have e : PySem.Str.empty ++ b = b := KT.empty_app b
  rw [e] at h2
  rw [KWd.words_of h2, if_neg hlb]; rfl
theorem words_three {a b c : Str} (ha : NoSp a) (hla : a.length ≠ 0) (hb : NoSp b) (hlb : b.length ≠ 0) (hc : NoSp c) (hlc : c.length ≠ 0) : Txt.words ((((a ++ " ") ++ b) ++ " ") ++ c) = [a, b, c] := by
  have h1 := KWk.scan_blank (e := PySem.Str.empty) (scan_one ha) hla rfl
  have h2 := KWk.scan_plain h1 hb
  have e : ∀ b : Str, PySem.Str.empty ++ b = b := KT.empty_app
  rw [e] at h2
  have h3 := KWk.scan_blank (e := PySem.Str.empty) h2 hlb rfl
  have h4 := KWk.scan_plain h3 hc
  rw [e] at h4
  rw [KWd.words_of h4, if_neg hlc]; rfl
end

/-! UNum -/
section

theorem num_lst {n : Int} (h0 : 0 ≤ n) : AllDigits (lst (num n)) ∧ lst (num n) ≠ [] ∧ ((digitsVal (lst (num n)) : Nat) : Int) = n := by
  obtain ⟨m, rfl⟩ := Int.eq_ofNat_of_zero_le h0
  have e : lst (num ((m : Nat) : Int)) = (Nat.toDigits 10 m).map Char.toNat := KIN.signs_num m
  rw [e]
  refine ⟨fun c hc => ?_, fun q => ?_, ?_⟩
  · obtain ⟨ch, hch, e⟩ := List.mem_map.mp hc
    have r := digit_range (Nat.isDigit_of_mem_toDigits (by decide) (by decide) hch)
    rw [← e]; exact r
  · have h := toDigits_len_ge 10 m
    rw [List.map_eq_nil_iff.mp q] at h
    exact absurd h (by decide)
  · rw [KIN.val_back]
/-- signs that int() reads as they stand -/
theorem ascii_same {x : Str} (h : ∀ c ∈ lst x, 33 ≤ c ∧ c ≤ 126) : numTextOf x = lst x ∧ numSeenOf x = lst x := by
  have e1 : numTextOf x = x.cps.toList := by
    refine if_pos ?_
    rw [← Array.all_toList, List.all_eq_true]
    intro c hc
    have := h c hc
    exact decide_eq_true (by omega)
  refine ⟨e1, ?_⟩
  show (numTextOf x).takeWhile _ = _
  rw [e1]
  refine takeWhile_all fun c hc => ?_
  have := h c hc
  exact bne_iff_ne.mpr (by omega)
theorem intText_plus {x : Str} {cs : List Nat} (hx : lst x = 43 :: cs) (h : AllDigits cs) (h1 : cs ≠ []) (h2 : x.length ≤ 4300) : PySem.intText? x = some (((digitsVal cs : Nat) : Int)) := by
  have hs : ∀ c ∈ lst x, 33 ≤ c ∧ c ≤ 126 := by
    rw [hx]
    intro c hc
    rcases List.mem_cons.mp hc with e | hc
    · omega
    · have := h c hc; omega
  obtain ⟨e1, e2⟩ := ascii_same hs
  have hl : (lst x).length = x.length := Array.length_toList
  unfold PySem.intText?
  rw [e1, e2, if_pos (beq_self_eq_true _)]
  rw [hx] at hl ⊢
  rw [List.length_cons] at hl
  have es : sign ((43 :: cs).dropWhile blank) = (false, cs) := by rw [dropWhile_of (by decide)]; rfl
  have ec : core (43 :: cs) = cs := by
    unfold core
    rw [es]
    show (cs.reverse.dropWhile blank).reverse = cs
    rw [dropWhile_digits h.reverse, List.reverse_reverse]
  rw [ec, es, digits_of h h1]
  have hsz := push_size cs #[]
  have hv := push_foldl cs #[]
  show (if _ ≤ 4300 then some (worth false _) else none) = _
  rw [if_pos (by rw [hsz]; simp only [Array.size_empty]; omega)]
  unfold worth digitsVal
  rw [hv]
  rfl
theorem num_reads {n : Int} (h0 : 0 ≤ n) (h1 : n < 10 ^ 120) : PySem.intText? (num n) = some n := by
  obtain ⟨a, b, c⟩ := num_lst h0
  rw [intText_digits a b (Nat.le_trans (num_len h0 h1) (by decide))]
  rw [show (num n).cps.toList = lst (num n) from rfl, c]
theorem num_nosp {n : Int} (h0 : 0 ≤ n) : NoSp (num n) := by
  obtain ⟨a, _, _⟩ := num_lst h0
  unfold NoSp
  rw [List.all_eq_true]
  intro c hc
  have := a c hc
  rw [KWk.nosp (by omega) (by omega)]; rfl
theorem num_free {n : Int} {c : Nat} (h0 : 0 ≤ n) (hc : c < 48) : c ∉ lst (num n) := fun m => by
  have := (num_lst h0).1 c m
  omega
theorem num_free' {n : Int} {c : Nat} (h0 : 0 ≤ n) (hc : 57 < c) : c ∉ lst (num n) := fun m => by
  have := (num_lst h0).1 c m
  omega
end

/-! UUnp -/
section

section
variable {prog : Program} {w : World} {A : Around} {E : Value → Shared → Prop} {s : Shared} {env : Env}
theorem draw_short {it l : Addr} {items : Array Value} (hh : A.handled = none) (hne : l ≠ it) : ∀ (n i : Nat) (s : Shared) (Q : List Value → Shared → Prop), s.heap.IsListIter it l i → s.heap.IsList l items → i ≤ items.size → items.size < i + n →
    (∀ h', Heap.ExtBut it s.heap h' → Q (items.toList.drop i) { s with heap := h' }) → wpAny (model prog w) A (draw (.ref it) n) Q E s
  | 0, i, s, Q, _, _, h1, h2, _ => by omega
  | n + 1, i, s, Q, hit, hl, hi, hlt, hQ => by
    show wpAny _ _ (pyNext (.ref it) >>= _) Q E s
    by_cases hlt' : i < items.size
    · refine wpAny_bind (wpAny_pyNext_list_item hit hl (x := items[i]) (by simp [hlt']) fun h₁ hit₁ hs₁ => ?_)
      refine wpAny_bind (wpAny_holding (draw_short hh hne n (i + 1) _ _ hit₁ (hl.extBut hs₁.extBut hne) (by omega) (by omega) fun h₂ he₂ => wpAny_pure ?_))
      have hd : items.toList.drop i = items[i] :: items.toList.drop (i + 1) := by simp [List.drop_eq_getElem_cons, hlt']
      have := hQ h₂ (fun b o hb e => he₂ b o hb (hs₁.extBut b o hb e))
      rw [hd] at this
      exact this
    · have hie : i = items.size := by omega
      subst hie
      refine wpAny_bind (wpAny_pyNext_list_end hh hit hl (by simp) fun h₂ he₂ => wpAny_pure ?_)
      have := hQ h₂ he₂
      rwa [List.drop_eq_nil_of_le (by simp)] at this

theorem unpack_bad {l : Addr} {items : Array Value} {n : Nat} {Q : List Value → Shared → Prop} (hh : A.handled = none) (hl : s.heap.IsList l items) (hsz : items.size ≠ n) (hn : n ≤ 9) (hi : items.size ≤ 9)
    (hE : ∀ h₁ h' tk e, (∀ b o, s.heap.get? b = some o → h₁.get? b = some o) → Heap.NewExc h₁ h' e "ValueError" → E (.ref e) { s with heap := h', toks := tk }) :
    wpAny (model prog w) A (unpackItems (.ref l) n none) Q E s := by
  have hlt : l ≠ s.heap.objs.size := by obtain ⟨o, ho, _⟩ := hl; exact Nat.ne_of_lt (Heap.lt_size ho)
  have up : ∀ {h' : Heap}, Heap.ExtBut s.heap.objs.size (s.heap.push { cls := .type "list_iterator", data := .fields #[.ref l, .int 0 0] }) h' → ∀ b o, s.heap.get? b = some o → h'.get? b = some o :=
    fun he b o e => he b o (Nat.ne_of_lt (Heap.lt_size e)) (Heap.get?_push_of_some _ e)
  have m1 : ∀ n : Nat, n ≤ 9 → ∀ k : Nat, k ≤ 9 → (PySem.Str.ofString (s!"not enough values to unpack (expected {n}, got {k})")).length ≤ 100 := by decide +kernel
  have m2 : ∀ n : Nat, n ≤ 9 → (PySem.Str.ofString (s!"too many values to unpack (expected {n})")).length ≤ 100 := by decide +kernel
  unfold unpackItems
  refine wpAny_bind ?_
  unfold notIterableAtAll
  refine wpAny_bind (wpAny_specialOf hl.typeIs slot_list_iter.lookup ?_)
  refine wpAny_pure ?_
  simp only [Bool.false_eq_true, if_false]
  refine wpAny_bind (wpAny_holding (wpAny_pyIter_list hl ?_))
  by_cases hlt2 : items.size < n
  · refine wpAny_bind (wpAny_holding (draw_short hh hlt n 0 _ _ ⟨_, Heap.get?_push_size _ rfl, rfl, rfl⟩ (hl.push _) (by omega) (by omega) fun h₁ he₁ => ?_))
    rw [List.drop_zero, Array.length_toList]
    rw [if_pos hlt2]
    refine wpAny_bind (wpAny_rule ?_)
    refine wpAny_bind (wpAny_raiseErrorMade plainExc_ValueError hh (fun h' tk e hx => hE h₁ h' tk e (up he₁) hx) (Nat.le_trans (m1 _ hn _ hi) (by rw [sizeLine_eq]; decide)))
  · refine wpAny_bind (wpAny_holding (kun_draw hlt n 0 _ _ ⟨_, Heap.get?_push_size _ rfl, rfl, rfl⟩ (hl.push _) (by omega) fun h₁ hit₁ hs₁ => ?_))
    rw [if_neg (by simp; omega)]
    have hl₁ : h₁.IsList l items := (hl.push _).extBut hs₁.extBut hlt
    refine wpAny_bind (wpAny_holding (wpAny_pyNext_list_item hit₁ hl₁ (x := items[n]'(by omega)) (by first | (simp; done) | (simp; omega)) fun h₂ hit₂ hs₂ => ?_))
    simp only [Option.isSome_some, if_true]
    refine wpAny_bind (wpAny_rule ?_)
    refine wpAny_bind (wpAny_raiseErrorMade plainExc_ValueError hh (fun h' tk e hx => hE h₂ h' tk e (up fun b o hb e => hs₂.extBut b o hb (hs₁.extBut b o hb e)) hx) (Nat.le_trans (m2 _ hn) (by rw [sizeLine_eq]; decide)))
theorem assign_bad {l : Addr} {items : Array Value} {elts : List Expr} {k : Nat} {pos : Pos} {Q : Unit → Shared → Prop} (hh : A.handled = none) (hl : s.heap.IsList l items) (hsz : items.size ≠ (assignEach elts env).length) (hn : (assignEach elts env).length ≤ 9) (hi : items.size ≤ 9)
    (hstar : (assignEach elts env).findIdx? (·.1) = none)
    (hE : ∀ h₁ h' tk e, (∀ b o, s.heap.get? b = some o → h₁.get? b = some o) → Heap.NewExc h₁ h' e "ValueError" → E (.ref e) { s with heap := h', toks := tk }) :
    wpAny (model prog w) A (assign (.Tuple elts k pos) env (.ref l)) Q E s := by
  rw [assign_Tuple]
  refine wpAny_bind (wpAny_standAt ?_)
  unfold unpack
  rw [hstar]
  exact wpAny_bind (wpAny_holding (unpack_bad hh hl hsz hn hi hE))
end
end

/-! P1 -/
section

inductive Sg : Str → Int → Prop
  | none : Sg "" 1
  | plus : Sg "+" 1
  | minus : Sg "-" (-1)
def Two (z : Str) (n : Int) : Prop := z = Txt.slice ("0" ++ num n) (some (-2)) none ∧ 0 ≤ n ∧ n < 60
theorem two_all : ∀ k : Nat, k < 60 → (Txt.slice ("0" ++ num (k : Int)) (some (-2)) none).length ≤ 2 := by decide +kernel
theorem Two.len {z : Str} {n : Int} (h : Two z n) : z.length ≤ 2 := by
  obtain ⟨rfl, h0, h1⟩ := h
  obtain ⟨k, rfl⟩ := Int.eq_ofNat_of_zero_le h0
  exact two_all k (by omega)

theorem slice_minus (x : Str) : Txt.slice ("-" ++ x) (some 1) none = x := by
  have hl : ("-" ++ x : Str).length = x.length + 1 := by rw [PySem.Str.length_append]; rw [show (("-" : Str)).length = 1 from by decide]; omega
  rw [slice_from_eq (b := ((("-" ++ x : Str).length : Nat) : Int)) (by decide) (by rw [hl]; omega) rfl]
  refine lst_inj ?_
  have e : ("-" ++ x : Str).cps.toList = 45 :: lst x := lst_app "-" x
  show List.take _ (List.drop _ ("-" ++ x : Str).cps.toList) = lst x
  rw [e]
  show List.take _ (lst x) = lst x
  refine List.take_of_length_le ?_
  rw [lst_len, hl]
  omega
theorem starts_minus (x : Str) : Txt.startswith ("-" ++ x) "-" = true := KT.starts_app "-" x
theorem starts_not {x : Str} {c : Nat} {cs : List Nat} (h : lst x = c :: cs) (hc : c ≠ 45) : Txt.startswith x "-" = false := by
  unfold Txt.startswith
  rw [StrLaws.subAt_eq, List.drop_zero]
  have e1 : ("-" : Str).length = 1 := by decide
  have e2 : ("-" : Str).cps.toList = [45] := by decide
  rw [e1, e2, show x.cps.toList = c :: cs from h]
  have : (List.take 1 (c :: cs) == [45]) = false := by
    simp [hc]
  rw [this, Bool.and_false]

/-- the sign ahead of a part, as the reader takes it off -/
structure Signed (f p : Str) (neg : Bool) : Prop where
  starts : Txt.startswith f "-" = neg
  cut : Txt.slice f (some 1) none = if neg then p else Txt.slice f (some 1) none
  same : neg = false → p = f
theorem signed_plain {f : Str} {c : Nat} {cs : List Nat} (h : lst f = c :: cs) (hc : c ≠ 45) : Signed f f false := ⟨starts_not h hc, by simp, fun _ => rfl⟩
theorem signed_minus (p : Str) : Signed ("-" ++ p) p true := ⟨starts_minus p, by simp [slice_minus], fun h => by cases h⟩

/-- a mark and a number, with the mark's minus taken off -/
theorem mark_num {mark : Str} {turn n : Int} (h : Sg mark turn) (h0 : 0 ≤ n) (h1 : n < 10 ^ 120) :
    PySem.intText? (mark ++ num n) = some (turn * n) ∧ NoSp (mark ++ num n) ∧ (mark ++ num n).length ≠ 0 ∧ (mark ++ num n).length ≤ 121 ∧ (∀ c, c < 43 ∨ 57 < c → c ∉ lst (mark ++ num n)) ∧ 58 ∉ lst (mark ++ num n) := by
  obtain ⟨hd, hn, hv⟩ := num_lst h0
  have hl := num_len h0 h1
  have hl1 := num_len1 h0
  have hnz : NoSp (num n) := num_nosp h0
  cases h with
  | none =>
    have e : ("" : Str) ++ num n = num n := KT.empty_app _
    rw [e]
    refine ⟨by rw [num_reads h0 h1, Int.one_mul], hnz, by omega, by omega, fun c hc m => ?_, fun m => ?_⟩
    · have := hd c m; omega
    · have := hd _ m; omega
  | plus =>
    have e : lst ("+" ++ num n) = 43 :: lst (num n) := lst_app _ _
    have hlen : ("+" ++ num n : Str).length = (num n).length + 1 := by rw [PySem.Str.length_append, show (("+" : Str)).length = 1 from by decide]; omega
    refine ⟨by rw [intText_plus e hd hn (by rw [hlen]; omega), hv, Int.one_mul], NoSp.app (by unfold NoSp; decide +kernel) hnz, by omega, by omega, fun c hc m => ?_, fun m => ?_⟩
    · rw [e] at m
      rcases List.mem_cons.mp m with q | m
      · omega
      · have := hd c m; omega
    · rw [e] at m
      rcases List.mem_cons.mp m with q | m
      · omega
      · have := hd _ m; omega
  | minus =>
    have e : lst ("-" ++ num n) = 45 :: lst (num n) := lst_app _ _
    have hlen : ("-" ++ num n : Str).length = (num n).length + 1 := by rw [PySem.Str.length_append, show (("-" : Str)).length = 1 from by decide]; omega
    refine ⟨by rw [intText_neg (by exact e) hd hn (by rw [hlen]; omega), hv]; congr 1; omega, NoSp.app (by unfold NoSp; decide +kernel) hnz, by omega, by omega, fun c hc m => ?_, fun m => ?_⟩
    · rw [e] at m
      rcases List.mem_cons.mp m with q | m
      · omega
      · have := hd c m; omega
    · rw [e] at m
      rcases List.mem_cons.mp m with q | m
      · omega
      · have := hd _ m; omega
end

/-! P2 -/
section

def sgn (neg : Bool) : Int := if neg then -1 else 1
theorem dash_eq : ("-" : Str) = ⟨#[45]⟩ := by decide
theorem colon_eq : (":" : Str) = ⟨#[58]⟩ := by decide
theorem assoc (a b c : Str) : a ++ b ++ c = a ++ (b ++ c) := PySem.Str.append_assoc a b c
theorem split1 {x a : Str} {c : Nat} (h : x = a) (ha : c ∉ lst a) : Txt.split x ⟨#[c]⟩ = [a] :=
  split_uniq (List.cons_ne_nil _ _) (by rw [h]; rfl) (by intro p hp; rw [List.mem_singleton.mp hp]; exact ha)
theorem split2 {x a b : Str} {c : Nat} (h : x = a ++ ⟨#[c]⟩ ++ b) (ha : c ∉ lst a) (hb : c ∉ lst b) : Txt.split x ⟨#[c]⟩ = [a, b] :=
  split_uniq (List.cons_ne_nil _ _) (by rw [h]; rfl) (List.forall_mem_cons.mpr ⟨ha, List.forall_mem_cons.mpr ⟨hb, List.forall_mem_nil _⟩⟩)
theorem split3 {x a b d : Str} {c : Nat} (h : x = a ++ ⟨#[c]⟩ ++ b ++ ⟨#[c]⟩ ++ d) (ha : c ∉ lst a) (hb : c ∉ lst b) (hd : c ∉ lst d) : Txt.split x ⟨#[c]⟩ = [a, b, d] :=
  split_uniq (List.cons_ne_nil _ _) (by rw [h]; show a ++ ⟨#[c]⟩ ++ (b ++ ⟨#[c]⟩ ++ d) = _; simp only [assoc]) (List.forall_mem_cons.mpr ⟨ha, List.forall_mem_cons.mpr ⟨hb, List.forall_mem_cons.mpr ⟨hd, List.forall_mem_nil _⟩⟩⟩)
theorem split4 {x a b d e : Str} {c : Nat} (h : x = a ++ ⟨#[c]⟩ ++ b ++ ⟨#[c]⟩ ++ d ++ ⟨#[c]⟩ ++ e) (ha : c ∉ lst a) (hb : c ∉ lst b) (hd : c ∉ lst d) (he : c ∉ lst e) : Txt.split x ⟨#[c]⟩ = [a, b, d, e] :=
  split_uniq (List.cons_ne_nil _ _) (by rw [h]; show a ++ ⟨#[c]⟩ ++ (b ++ ⟨#[c]⟩ ++ (d ++ ⟨#[c]⟩ ++ e)) = _; simp only [assoc]) (List.forall_mem_cons.mpr ⟨ha, List.forall_mem_cons.mpr ⟨hb, List.forall_mem_cons.mpr ⟨hd, List.forall_mem_cons.mpr ⟨he, List.forall_mem_nil _⟩⟩⟩⟩)

def Refused (b : Str) : Prop := (numSeenOf b).length ≤ 640 ∧ digits? 10 (core (numSeenOf b)) = none ∧ (reprText b).length ≤ sizeLine
/-- the first number of a part behind the mark that is taken off -/
structure Head (mark a : Str) (neg : Bool) (n k : Int) : Prop where
  sig : ∀ r : Str, ∃ p, p = a ++ r ∧ Signed (mark ++ num n ++ r) p neg
  reads : PySem.intText? a = some k
  len : a.length ≤ 121
  nodash : 45 ∉ lst a
  nocolon : 58 ∉ lst a
theorem head_of {mark : Str} {turn n : Int} (h : Sg mark turn) (h0 : 0 ≤ n) (h1 : n < 10 ^ 120) : ∃ a neg, Head mark a neg n (turn * n * sgn neg) ∧ turn = sgn neg := by
  obtain ⟨hd, hn, hv⟩ := num_lst h0
  have m := mark_num h h0 h1
  cases h with
  | none =>
    refine ⟨num n, false, ⟨fun r => ⟨_, rfl, ?_⟩, ?_, Nat.le_trans (num_len h0 h1) (by decide), num_free h0 (by decide), num_free' h0 (by decide)⟩, rfl⟩
    · have e : ("" : Str) ++ num n = num n := KT.empty_app _
      rw [e]
      cases q : lst (num n) with
      | nil => exact absurd q hn
      | cons c cs =>
        have := hd c (by rw [q]; exact .head _)
        exact signed_plain (c := c) (cs := cs ++ lst r) (by rw [lst_app, q]; rfl) (by omega)
    · rw [num_reads h0 h1]; simp [sgn]
  | plus =>
    refine ⟨"+" ++ num n, false, ⟨fun r => ⟨_, rfl, ?_⟩, ?_, m.2.2.2.1, ?_, m.2.2.2.2.2⟩, rfl⟩
    · exact signed_plain (c := 43) (cs := lst (num n) ++ lst r) (by rw [lst_app, lst_app]; rfl) (by decide)
    · rw [m.1]; simp [sgn]
    · intro q
      rw [lst_app] at q
      rcases List.mem_append.mp q with q | q
      · exact absurd q (by decide)
      · exact num_free h0 (by decide) q
  | minus =>
    refine ⟨num n, true, ⟨fun r => ⟨_, rfl, ?_⟩, ?_, Nat.le_trans (num_len h0 h1) (by decide), num_free h0 (by decide), num_free' h0 (by decide)⟩, rfl⟩
    · rw [assoc]; exact signed_minus _
    · rw [num_reads h0 h1]; simp [sgn]

theorem twelve : ∀ k : Nat, k < 12 → Refused (num (k : Int) ++ "x") ∧ (num (k : Int)).length ≤ 2 := by
  unfold Refused
  rw [sizeLine_eq]
  decide +kernel
theorem sixty : ∀ k : Nat, k < 60 → PySem.intText? (Txt.slice ("0" ++ num (k : Int)) (some (-2)) none) = some (k : Int) ∧ Refused (Txt.slice ("0" ++ num (k : Int)) (some (-2)) none ++ "s") ∧
    (lst (Txt.slice ("0" ++ num (k : Int)) (some (-2)) none)).all (fun c => 48 ≤ c && c ≤ 57) = true ∧ (Txt.slice ("0" ++ num (k : Int)) (some (-2)) none).length = 2 := by
  unfold Refused
  rw [sizeLine_eq]
  decide +kernel
end

/-! P3 -/
section

/-- what a case of the law's is: the text, the fields due, the spoilt text -/
inductive CaseOf : Str → List (Option Int) → Str → Prop
  | c0 {mark b : Str} {turn y m : Int} (h : Sg mark turn) (y0 : 0 ≤ y) (y1 : y < 10 ^ 120) (m0 : 0 ≤ m) (m1 : m < 12)
      (hb : b = mark ++ num y ∨ b = mark ++ num y ++ "-" ++ num m ++ "-1" ∨ b = mark ++ num y ++ "-" ++ num m ++ "x") :
      CaseOf (mark ++ num y ++ "-" ++ num m) [none, none, none, some (turn * y), some (turn * m), none, none, none, none, none, none] b
  | c1 {md mt b z1 z2 : Str} {ud ut n h i s : Int} (hd : Sg md ud) (n0 : 0 ≤ n) (n1 : n < 10 ^ 120) (ht : Sg mt ut) (h0 : 0 ≤ h) (h1 : h < 10 ^ 120) (hi : Two z1 i) (hs : Two z2 s)
      (hb : b = mt ++ num h ++ ":" ++ z1 ∨ b = mt ++ num h ++ ":" ++ z1 ++ ":" ++ z2 ++ ":07" ∨ b = mt ++ num h ++ ":" ++ z1 ++ ":" ++ z2 ++ "s") :
      CaseOf (md ++ num n ++ " " ++ (mt ++ num h ++ ":" ++ z1 ++ ":" ++ z2)) [none, none, none, none, none, none, some (ud * n), some (ut * h), some (ut * i), some (ut * s), none] (md ++ num n ++ " " ++ b)
  | c2 {mark md mt b z1 z2 : Str} {turn ud ut y m n h i s : Int} (hm : Sg mark turn) (y0 : 0 ≤ y) (y1 : y < 10 ^ 120) (m0 : 0 ≤ m) (m1 : m < 12) (hd : Sg md ud) (n0 : 0 ≤ n) (n1 : n < 10 ^ 120) (ht : Sg mt ut) (h0 : 0 ≤ h) (h1 : h < 10 ^ 120) (hi : Two z1 i) (hs : Two z2 s)
      (hb : b = mark ++ num y ∨ b = mark ++ num y ++ "-" ++ num m ++ "-1" ∨ b = mark ++ num y ++ "-" ++ num m ++ "x") :
      CaseOf (mark ++ num y ++ "-" ++ num m ++ " " ++ (md ++ num n) ++ " " ++ (mt ++ num h ++ ":" ++ z1 ++ ":" ++ z2)) [none, none, none, some (turn * y), some (turn * m), none, some (ud * n), some (ut * h), some (ut * i), some (ut * s), none]
        (b ++ " " ++ (md ++ num n) ++ " " ++ (mt ++ num h ++ ":" ++ z1 ++ ":" ++ z2))
  | c3 {mark md mt b z1 z2 : Str} {turn ud ut y m n h i s : Int} (hm : Sg mark turn) (y0 : 0 ≤ y) (y1 : y < 10 ^ 120) (m0 : 0 ≤ m) (m1 : m < 12) (hd : Sg md ud) (n0 : 0 ≤ n) (n1 : n < 10 ^ 120) (ht : Sg mt ut) (h0 : 0 ≤ h) (h1 : h < 10 ^ 120) (hi : Two z1 i) (hs : Two z2 s)
      (hb : b = mt ++ num h ++ ":" ++ z1 ∨ b = mt ++ num h ++ ":" ++ z1 ++ ":" ++ z2 ++ ":07" ∨ b = mt ++ num h ++ ":" ++ z1 ++ ":" ++ z2 ++ "s") :
      CaseOf (mark ++ num y ++ "-" ++ num m ++ " " ++ (md ++ num n) ++ " " ++ (mt ++ num h ++ ":" ++ z1 ++ ":" ++ z2)) [none, none, none, some (turn * y), some (turn * m), none, some (ud * n), some (ut * h), some (ut * i), some (ut * s), none]
        (mark ++ num y ++ "-" ++ num m ++ " " ++ (md ++ num n) ++ " " ++ b)
end

/-! P4 -/
section

/-- what a good text of the SQL standard tells -/
inductive Good : Str → List (Option Int) → Prop
  | mon {f p a b : Str} {neg : Bool} {y m : Int} (hsg : Signed f p neg) (hsp : Txt.split p "-" = [a, b]) (hla : a.length ≤ 640) (hlb : b.length ≤ 640) (hia : PySem.intText? a = some y) (hib : PySem.intText? b = some m)
      (hn : NoSp f) (h0 : f.length ≠ 0) (hl : f.length ≤ 1000) (hpl : p.length ≤ 1000) (hP : Txt.startswith f "P" = false) (hA : Txt.startswith f "@" = false) (hcol : Txt.contains f ":" = false) : Good f [none, none, none, some (y * sgn neg), some (m * sgn neg), none, none, none, none, none, none]
  | day {d u p a b c : Str} {neg : Bool} {n x y z : Int} (hld : d.length ≤ 640) (hid : PySem.intText? d = some n) (hnd : NoSp d) (hd0 : d.length ≠ 0)
      (hsg : Signed u p neg) (hsp : Txt.split p ":" = [a, b, c]) (hla : a.length ≤ 640) (hlb : b.length ≤ 640) (hlc : c.length ≤ 640) (hia : PySem.intText? a = some x) (hib : PySem.intText? b = some y) (hic : PySem.intText? c = some z)
      (hn : NoSp u) (h0 : u.length ≠ 0) (hl : u.length ≤ 1000) (hpl : p.length ≤ 1000) (hP : Txt.startswith (d ++ " " ++ u) "P" = false) (hA : Txt.startswith (d ++ " " ++ u) "@" = false) (hal : Txt.isalpha (Txt.item u 0) = false) : Good (d ++ " " ++ u) [none, none, none, none, none, none, some n, some (x * sgn neg), some (y * sgn neg), some (z * sgn neg), none]
  | all {f q a' b' d u p a b c : Str} {neg neg' : Bool} {y' m' n x y z : Int} (hsg' : Signed f q neg') (hsp' : Txt.split q "-" = [a', b']) (hla' : a'.length ≤ 640) (hlb' : b'.length ≤ 640) (hia' : PySem.intText? a' = some y') (hib' : PySem.intText? b' = some m')
      (hn' : NoSp f) (h0' : f.length ≠ 0) (hl' : f.length ≤ 1000) (hpl' : q.length ≤ 1000)
      (hld : d.length ≤ 640) (hid : PySem.intText? d = some n) (hnd : NoSp d) (hd0 : d.length ≠ 0)
      (hsg : Signed u p neg) (hsp : Txt.split p ":" = [a, b, c]) (hla : a.length ≤ 640) (hlb : b.length ≤ 640) (hlc : c.length ≤ 640) (hia : PySem.intText? a = some x) (hib : PySem.intText? b = some y) (hic : PySem.intText? c = some z)
      (hn : NoSp u) (h0 : u.length ≠ 0) (hl : u.length ≤ 1000) (hpl : p.length ≤ 1000) (hP : Txt.startswith (f ++ " " ++ d ++ " " ++ u) "P" = false) (hA : Txt.startswith (f ++ " " ++ d ++ " " ++ u) "@" = false) (hal : Txt.isalpha (Txt.item d 0) = false) :
      Good (f ++ " " ++ d ++ " " ++ u) [none, none, none, some (y' * sgn neg'), some (m' * sgn neg'), none, some n, some (x * sgn neg), some (y * sgn neg), some (z * sgn neg), none]


theorem starts_c {x : Str} {c k : Nat} {cs : List Nat} (h : lst x = c :: cs) (hc : c ≠ k) : Txt.startswith x ⟨#[k]⟩ = false := by
  unfold Txt.startswith
  rw [StrLaws.subAt_eq, List.drop_zero, show x.cps.toList = c :: cs from h]
  have : (List.take (PySem.Str.length ⟨#[k]⟩) (c :: cs) == (⟨#[k]⟩ : Str).cps.toList) = false := by
    show (List.take 1 (c :: cs) == [k]) = false
    simp [hc]
  rw [this, Bool.and_false]
theorem contains_none {x : Str} {k : Nat} (h : k ∉ lst x) : Txt.contains x ⟨#[k]⟩ = false := by
  obtain ⟨f, hf⟩ := StrLaws.occ_chain x ⟨#[k]⟩ 1
  unfold Txt.contains
  cases q : Builtin.Str.occurrences x ⟨#[k]⟩ 0 x.length 1 with
  | nil => rfl
  | cons i r =>
    rw [q] at hf
    have h2 := hf.2.1.2
    rw [StrLaws.subAt_eq] at h2
    have h3 : (x.cps.toList.drop i).take 1 = [k] := eq_of_beq h2
    have : k ∈ (x.cps.toList.drop i).take 1 := by rw [h3]; exact .head _
    exact absurd (List.mem_of_mem_drop (List.mem_of_mem_take this)) h
theorem first_of {mark : Str} {turn n : Int} (h : Sg mark turn) (h0 : 0 ≤ n) : ∃ c cs, lst (mark ++ num n) = c :: cs ∧ 43 ≤ c ∧ c ≤ 57 := by
  obtain ⟨hd, hn, _⟩ := num_lst h0
  cases h with
  | none =>
    have e : ("" : Str) ++ num n = num n := KT.empty_app _
    rw [e]
    cases q : lst (num n) with
    | nil => exact absurd q hn
    | cons c cs => have := hd c (by rw [q]; exact .head _); exact ⟨c, cs, rfl, by omega, by omega⟩
  | plus => exact ⟨43, lst (num n), lst_app _ _, by omega, by omega⟩
  | minus => exact ⟨45, lst (num n), lst_app _ _, by omega, by omega⟩
theorem P_eq : ("P" : Str) = ⟨#[80]⟩ := by decide
theorem at_eq : ("@" : Str) = ⟨#[64]⟩ := by decide
theorem starts_P {x : Str} {c : Nat} {cs : List Nat} (h : lst x = c :: cs) (hc : c ≤ 57) : Txt.startswith x "P" = false ∧ Txt.startswith x "@" = false := by
  rw [P_eq, at_eq]
  exact ⟨starts_c h (by omega), starts_c h (by omega)⟩
theorem alpha_no : ∀ c, c ≤ 57 → Txt.isalpha ⟨#[c]⟩ = false := by decide +kernel
theorem item_no {x : Str} {c : Nat} {cs : List Nat} (h : lst x = c :: cs) (hc : c ≤ 57) : Txt.isalpha (Txt.item x 0) = false := by
  rw [item_meets (n := c) (by decide) (by
    have : x.cps.toList[0]? = some c := by rw [show x.cps.toList = c :: cs from h]; rfl
    simpa using this)]
  exact alpha_no c hc
theorem sgn_sq (n : Int) (neg : Bool) : n * sgn neg * sgn neg = n := by cases neg <;> simp [sgn]
theorem dash_nosp : NoSp "-" := by unfold NoSp; decide +kernel
theorem colon_nosp : NoSp ":" := by unfold NoSp; decide +kernel
theorem two_facts {z : Str} {n : Int} (h : Two z n) : PySem.intText? z = some n ∧ Refused (z ++ "s") ∧ (∀ c, c < 48 ∨ 57 < c → c ∉ lst z) ∧ z.length = 2 ∧ NoSp z := by
  obtain ⟨rfl, h0, h1⟩ := h
  obtain ⟨k, rfl⟩ := Int.eq_ofNat_of_zero_le h0
  obtain ⟨a, b, c, d⟩ := sixty k (by omega)
  rw [List.all_eq_true] at c
  refine ⟨a, b, fun x hx hm => ?_, d, ?_⟩
  · have := c x hm
    simp only [Bool.and_eq_true, decide_eq_true_eq] at this
    omega
  · unfold NoSp
    rw [List.all_eq_true]
    intro x hm
    have := c x hm
    simp only [Bool.and_eq_true, decide_eq_true_eq] at this
    rw [KWk.nosp (by omega) (by omega)]; rfl
/-- a month part, read -/
theorem mon_read {mark : Str} {turn y m : Int} (h : Sg mark turn) (y0 : 0 ≤ y) (y1 : y < 10 ^ 120) (m0 : 0 ≤ m) (m1 : m < 12) :
    ∃ p a neg, Signed (mark ++ num y ++ "-" ++ num m) p neg ∧ Txt.split p "-" = [a, num m] ∧ a.length ≤ 640 ∧ (num m).length ≤ 640 ∧ PySem.intText? a = some (turn * y * sgn neg) ∧ PySem.intText? (num m) = some m ∧ turn = sgn neg ∧
      NoSp (mark ++ num y ++ "-" ++ num m) ∧ (mark ++ num y ++ "-" ++ num m).length ≠ 0 ∧ (mark ++ num y ++ "-" ++ num m).length ≤ 1000 ∧ p.length ≤ 1000 ∧ 58 ∉ lst (mark ++ num y ++ "-" ++ num m) := by
  obtain ⟨a, neg, H, ht⟩ := head_of h y0 y1
  obtain ⟨p, hp, hs⟩ := H.sig ("-" ++ num m)
  have mn := mark_num h y0 y1
  have ml := num_len m0 (Int.lt_trans m1 (by decide : (12 : Int) < 10 ^ 120))
  have e1 : (("-" : Str)).length = 1 := by decide
  rw [← assoc] at hs
  refine ⟨p, a, neg, hs, ?_, Nat.le_trans H.len (by decide), by omega, H.reads, num_reads m0 (Int.lt_trans m1 (by decide)), ht, NoSp.app (NoSp.app mn.2.1 dash_nosp) (num_nosp m0), ?_, ?_, ?_, ?_⟩
  · rw [dash_eq]
    exact split2 (by rw [hp, ← assoc, dash_eq]) H.nodash (num_free m0 (by decide))
  · rw [PySem.Str.length_append, PySem.Str.length_append]; omega
  · rw [PySem.Str.length_append, PySem.Str.length_append]; have := mn.2.2.2.1; omega
  · rw [hp, PySem.Str.length_append, PySem.Str.length_append]; have := H.len; omega
  · rw [lst_app, lst_app]
    intro q
    rcases List.mem_append.mp q with q | q
    · rcases List.mem_append.mp q with q | q
      · exact mn.2.2.2.2.2 q
      · exact absurd q (by decide)
    · exact num_free' m0 (by decide) q
/-- a time part, read -/
theorem tim_read {mark z1 z2 : Str} {turn h i s : Int} (hs : Sg mark turn) (h0 : 0 ≤ h) (h1 : h < 10 ^ 120) (hi : Two z1 i) (hz : Two z2 s) :
    ∃ p a neg, Signed (mark ++ num h ++ ":" ++ z1 ++ ":" ++ z2) p neg ∧ Txt.split p ":" = [a, z1, z2] ∧ a.length ≤ 640 ∧ z1.length ≤ 640 ∧ z2.length ≤ 640 ∧ PySem.intText? a = some (turn * h * sgn neg) ∧ PySem.intText? z1 = some i ∧ PySem.intText? z2 = some s ∧ turn = sgn neg ∧
      NoSp (mark ++ num h ++ ":" ++ z1 ++ ":" ++ z2) ∧ (mark ++ num h ++ ":" ++ z1 ++ ":" ++ z2).length ≠ 0 ∧ (mark ++ num h ++ ":" ++ z1 ++ ":" ++ z2).length ≤ 1000 ∧ p.length ≤ 1000 := by
  obtain ⟨a, neg, H, ht⟩ := head_of hs h0 h1
  obtain ⟨p, hp, hsg⟩ := H.sig (":" ++ z1 ++ ":" ++ z2)
  have mn := mark_num hs h0 h1
  obtain ⟨r1, _, f1, l1, n1⟩ := two_facts hi
  obtain ⟨r2, _, f2, l2, n2⟩ := two_facts hz
  have e1 : ((":" : Str)).length = 1 := by decide
  rw [← assoc, ← assoc, ← assoc] at hsg
  refine ⟨p, a, neg, hsg, ?_, Nat.le_trans H.len (by decide), by omega, by omega, H.reads, r1, r2, ht, NoSp.app (NoSp.app (NoSp.app (NoSp.app mn.2.1 colon_nosp) n1) colon_nosp) n2, ?_, ?_, ?_⟩
  · rw [colon_eq]
    exact split3 (by rw [hp, ← assoc, ← assoc, ← assoc, colon_eq]) H.nocolon (f1 _ (by omega)) (f2 _ (by omega))
  · rw [PySem.Str.length_append, PySem.Str.length_append, PySem.Str.length_append, PySem.Str.length_append]; omega
  · rw [PySem.Str.length_append, PySem.Str.length_append, PySem.Str.length_append, PySem.Str.length_append]; have := mn.2.2.2.1; omega
  · rw [hp, PySem.Str.length_append, PySem.Str.length_append, PySem.Str.length_append, PySem.Str.length_append]; have := H.len; omega
theorem good_all {mark md mt z1 z2 : Str} {turn ud ut y m n h i s : Int} (hm : Sg mark turn) (y0 : 0 ≤ y) (y1 : y < 10 ^ 120) (m0 : 0 ≤ m) (m1 : m < 12) (hd : Sg md ud) (n0 : 0 ≤ n) (n1 : n < 10 ^ 120) (ht : Sg mt ut) (h0 : 0 ≤ h) (h1 : h < 10 ^ 120) (hi : Two z1 i) (hs : Two z2 s) :
    Good (mark ++ num y ++ "-" ++ num m ++ " " ++ (md ++ num n) ++ " " ++ (mt ++ num h ++ ":" ++ z1 ++ ":" ++ z2)) [none, none, none, some (turn * y), some (turn * m), none, some (ud * n), some (ut * h), some (ut * i), some (ut * s), none] := by
  obtain ⟨p', a', neg', r1, r2, r3, r4, r5, r6, r7, r8, r9, r10, r11, r12⟩ := mon_read hm y0 y1 m0 m1
  obtain ⟨p, a, neg, q1, q2, q3, q4, q5, q6, q7, q8, q9, q10, q11, q12, q13⟩ := tim_read ht h0 h1 hi hs
  obtain ⟨c, cs, hc, _, hc2⟩ := first_of hm y0
  obtain ⟨c', cs', hc', _, hc2'⟩ := first_of hd n0
  have md' := mark_num hd n0 n1
  obtain ⟨s1, s2⟩ := starts_P (x := mark ++ num y ++ "-" ++ num m ++ " " ++ (md ++ num n) ++ " " ++ (mt ++ num h ++ ":" ++ z1 ++ ":" ++ z2)) (c := c) (cs := cs ++ lst "-" ++ lst (num m) ++ lst " " ++ lst (md ++ num n) ++ lst " " ++ lst (mt ++ num h ++ ":" ++ z1 ++ ":" ++ z2))
    (by rw [lst_app, lst_app, lst_app, lst_app, lst_app, lst_app, hc]; rfl) hc2
  have g := Good.all r1 r2 r3 r4 r5 r6 r8 r9 r10 r11 (Nat.le_trans md'.2.2.2.1 (by decide)) md'.1 md'.2.1 md'.2.2.1 q1 q2 q3 q4 q5 q6 q7 q8 q10 q11 q12 q13 s1 s2 (item_no hc' hc2')
  rw [sgn_sq, Int.mul_comm m (sgn neg'), ← r7, sgn_sq, Int.mul_comm i (sgn neg), Int.mul_comm s (sgn neg), ← q9] at g
  exact g
theorem good_day {md mt z1 z2 : Str} {ud ut n h i s : Int} (hd : Sg md ud) (n0 : 0 ≤ n) (n1 : n < 10 ^ 120) (ht : Sg mt ut) (h0 : 0 ≤ h) (h1 : h < 10 ^ 120) (hi : Two z1 i) (hs : Two z2 s) :
    Good (md ++ num n ++ " " ++ (mt ++ num h ++ ":" ++ z1 ++ ":" ++ z2)) [none, none, none, none, none, none, some (ud * n), some (ut * h), some (ut * i), some (ut * s), none] := by
  obtain ⟨p, a, neg, q1, q2, q3, q4, q5, q6, q7, q8, q9, q10, q11, q12, q13⟩ := tim_read ht h0 h1 hi hs
  obtain ⟨c, cs, hc, _, hc2⟩ := first_of hd n0
  obtain ⟨c', cs', hc', _, hc2'⟩ := first_of ht h0
  have md' := mark_num hd n0 n1
  obtain ⟨s1, s2⟩ := starts_P (x := md ++ num n ++ " " ++ (mt ++ num h ++ ":" ++ z1 ++ ":" ++ z2)) (c := c) (cs := cs ++ lst " " ++ lst (mt ++ num h ++ ":" ++ z1 ++ ":" ++ z2)) (by rw [lst_app, lst_app, hc]; rfl) hc2
  have g := Good.day (Nat.le_trans md'.2.2.2.1 (by decide)) md'.1 md'.2.1 md'.2.2.1 q1 q2 q3 q4 q5 q6 q7 q8 q10 q11 q12 q13 s1 s2
    (item_no (c := c') (cs := cs' ++ lst ":" ++ lst z1 ++ lst ":" ++ lst z2) (by rw [lst_app, lst_app, lst_app, lst_app, hc']; rfl) hc2')
  rw [sgn_sq, Int.mul_comm i (sgn neg), Int.mul_comm s (sgn neg), ← q9] at g
  exact g
theorem CaseOf.good {text bad : Str} {ds : List (Option Int)} (h : CaseOf text ds bad) : Good text ds := by
  cases h with
  | c0 h y0 y1 m0 m1 hb =>
    obtain ⟨p, a, neg, q1, q2, q3, q4, q5, q6, q7, q8, q9, q10, q11, q12⟩ := mon_read h y0 y1 m0 m1
    obtain ⟨c, cs, hc, _, hc2⟩ := first_of h y0
    obtain ⟨s1, s2⟩ := starts_P (x := _ ++ num _ ++ "-" ++ num _) (c := c) (cs := cs ++ lst "-" ++ lst (num _)) (by rw [lst_app, lst_app, hc]; rfl) hc2
    have g := Good.mon q1 q2 q3 q4 q5 q6 q8 q9 q10 q11 s1 s2 (by rw [colon_eq]; exact contains_none q12)
    rw [sgn_sq, Int.mul_comm _ (sgn neg), ← q7] at g
    exact g
  | c1 hd n0 n1 ht h0 h1 hi hs hb => exact good_day hd n0 n1 ht h0 h1 hi hs
  | c2 h y0 y1 m0 m1 hd n0 n1 ht h0 h1 hi hs hb => exact good_all h y0 y1 m0 m1 hd n0 n1 ht h0 h1 hi hs
  | c3 h y0 y1 m0 m1 hd n0 n1 ht h0 h1 hi hs hb => exact good_all h y0 y1 m0 m1 hd n0 n1 ht h0 h1 hi hs
end

/-! P5 -/
section

/-- a month part that fails: by its pieces or by its second number -/
inductive BadM : Str → Prop
  | b1 {f p pa : Str} {neg : Bool} {ya : Int} (hsg : Signed f p neg) (hsp : Txt.split p "-" = [pa]) (hla : pa.length ≤ 640) (hia : PySem.intText? pa = some ya) (hf : f.length ≤ 1000) (hpl : p.length ≤ 1000) (hn : NoSp f) (h0 : f.length ≠ 0) : BadM f
  | b3 {f p pa pb pc : Str} {neg : Bool} {ya yb yc : Int} (hsg : Signed f p neg) (hsp : Txt.split p "-" = [pa, pb, pc]) (hla : pa.length ≤ 640) (hia : PySem.intText? pa = some ya) (hlb : pb.length ≤ 640) (hib : PySem.intText? pb = some yb) (hlc : pc.length ≤ 640) (hic : PySem.intText? pc = some yc)
      (hf : f.length ≤ 1000) (hpl : p.length ≤ 1000) (hn : NoSp f) (h0 : f.length ≠ 0) : BadM f
  | br {f p pa pb : Str} {neg : Bool} {ya : Int} (hsg : Signed f p neg) (hsp : Txt.split p "-" = [pa, pb]) (hla : pa.length ≤ 640) (hia : PySem.intText? pa = some ya) (hrf : Refused pb) (hf : f.length ≤ 1000) (hpl : p.length ≤ 1000) (hn : NoSp f) (h0 : f.length ≠ 0) : BadM f
/-- a time part that fails: by its pieces or by its seconds -/
inductive BadT : Str → Prop
  | b2 {u p pa pb : Str} {neg : Bool} (hsg : Signed u p neg) (hsp : Txt.split p ":" = [pa, pb]) (hf : u.length ≤ 1000) (hpl : p.length ≤ 1000) (hn : NoSp u) (h0 : u.length ≠ 0) : BadT u
  | b4 {u p pa pb pc pe : Str} {neg : Bool} (hsg : Signed u p neg) (hsp : Txt.split p ":" = [pa, pb, pc, pe]) (hf : u.length ≤ 1000) (hpl : p.length ≤ 1000) (hn : NoSp u) (h0 : u.length ≠ 0) : BadT u
  | br {u p pa pb pc : Str} {neg : Bool} {ya yb : Int} (hsg : Signed u p neg) (hsp : Txt.split p ":" = [pa, pb, pc]) (hla : pa.length ≤ 640) (hlb : pb.length ≤ 640) (hia : PySem.intText? pa = some ya) (hib : PySem.intText? pb = some yb) (hrf : Refused pc)
      (hf : u.length ≤ 1000) (hpl : p.length ≤ 1000) (hn : NoSp u) (h0 : u.length ≠ 0) : BadT u
theorem app_nil (x : Str) : x ++ ("" : Str) = x := by
  have e : ("" : Str) = ⟨#[]⟩ := by decide
  rw [e]
  show (⟨x.cps ++ #[]⟩ : Str) = x
  rw [Array.append_empty]
theorem one_nosp : NoSp "1" := by unfold NoSp; decide +kernel
theorem x_nosp : NoSp "x" := by unfold NoSp; decide +kernel
theorem s_nosp : NoSp "s" := by unfold NoSp; decide +kernel
theorem o7_nosp : NoSp ":07" := by unfold NoSp; decide +kernel
theorem d1_nosp : NoSp "-1" := by unfold NoSp; decide +kernel
theorem mon_bad {mark b : Str} {turn y m : Int} (h : Sg mark turn) (y0 : 0 ≤ y) (y1 : y < 10 ^ 120) (m0 : 0 ≤ m) (m1 : m < 12)
    (hb : b = mark ++ num y ∨ b = mark ++ num y ++ "-" ++ num m ++ "-1" ∨ b = mark ++ num y ++ "-" ++ num m ++ "x") : BadM b := by
  obtain ⟨a, neg, H, ht⟩ := head_of h y0 y1
  have mn := mark_num h y0 y1
  have mr : PySem.intText? (num m) = some m := num_reads m0 (Int.lt_trans m1 (by decide))
  obtain ⟨k, hk⟩ := Int.eq_ofNat_of_zero_le m0
  have tw : Refused (num m ++ "x") ∧ (num m).length ≤ 2 := by rw [hk]; exact twelve k (by omega)
  have l1 := mn.2.2.2.1
  have l0 := mn.2.2.1
  have l2 := H.len
  have e1 : (("-" : Str)).length = 1 := by decide
  have e2 : (("-1" : Str)).length = 2 := by decide
  have e3 : (("x" : Str)).length = 1 := by decide
  rcases hb with rfl | rfl | rfl
  · obtain ⟨p, hp, hs⟩ := H.sig ""
    have z : mark ++ num y ++ "" = mark ++ num y := app_nil _
    have z' : a ++ ("" : Str) = a := app_nil _
    rw [z] at hs
    rw [z'] at hp
    subst hp
    exact .b1 hs (by rw [dash_eq]; exact split1 rfl H.nodash) (by omega) H.reads (by omega) (by omega) mn.2.1 l0
  · obtain ⟨p, hp, hs⟩ := H.sig ("-" ++ num m ++ "-1")
    rw [← assoc, ← assoc] at hs
    refine .b3 (pa := a) (pb := num m) (pc := "1") (ya := turn * y * sgn neg) (yb := m) (yc := 1) hs ?_ (by omega) H.reads (by omega) mr (by decide) (by decide +kernel) ?_ ?_ ?_ ?_
    · rw [dash_eq]
      exact split3 (by
        have q : ("-1" : Str) = ⟨#[45]⟩ ++ "1" := by decide
        rw [hp, q, dash_eq]; simp only [assoc]) H.nodash (num_free m0 (by decide)) (by decide)
    · simp only [PySem.Str.length_append]; simp only [PySem.Str.length_append] at l1; omega
    · rw [hp]; simp only [PySem.Str.length_append]; omega
    · exact NoSp.app (NoSp.app (NoSp.app mn.2.1 dash_nosp) (num_nosp m0)) d1_nosp
    · simp only [PySem.Str.length_append]; omega
  · obtain ⟨p, hp, hs⟩ := H.sig ("-" ++ num m ++ "x")
    rw [← assoc, ← assoc] at hs
    refine .br (pa := a) (pb := num m ++ "x") (ya := turn * y * sgn neg) hs ?_ (by omega) H.reads tw.1 ?_ ?_ ?_ ?_
    · rw [dash_eq]
      exact split2 (by rw [hp, dash_eq]; simp only [assoc]) H.nodash (by
        rw [lst_app]; intro q
        rcases List.mem_append.mp q with q | q
        · exact num_free m0 (by decide) q
        · exact absurd q (by decide))
    · simp only [PySem.Str.length_append]; simp only [PySem.Str.length_append] at l1; omega
    · rw [hp]; simp only [PySem.Str.length_append]; omega
    · exact NoSp.app (NoSp.app (NoSp.app mn.2.1 dash_nosp) (num_nosp m0)) x_nosp
    · simp only [PySem.Str.length_append]; omega
theorem tim_bad {mt b z1 z2 : Str} {ut h i s : Int} (ht : Sg mt ut) (h0 : 0 ≤ h) (h1 : h < 10 ^ 120) (hi : Two z1 i) (hs : Two z2 s)
    (hb : b = mt ++ num h ++ ":" ++ z1 ∨ b = mt ++ num h ++ ":" ++ z1 ++ ":" ++ z2 ++ ":07" ∨ b = mt ++ num h ++ ":" ++ z1 ++ ":" ++ z2 ++ "s") : BadT b := by
  obtain ⟨a, neg, H, _⟩ := head_of ht h0 h1
  have mn := mark_num ht h0 h1
  obtain ⟨r1, _, f1, t1, n1⟩ := two_facts hi
  obtain ⟨r2, rf, f2, t2, n2⟩ := two_facts hs
  have l1 := mn.2.2.2.1
  have l0 := mn.2.2.1
  have l2 := H.len
  have e1 : ((":" : Str)).length = 1 := by decide
  have e2 : ((":07" : Str)).length = 3 := by decide
  have e3 : (("s" : Str)).length = 1 := by decide
  rcases hb with rfl | rfl | rfl
  · obtain ⟨p, hp, hs⟩ := H.sig (":" ++ z1)
    rw [← assoc] at hs
    refine .b2 (pa := a) (pb := z1) hs ?_ ?_ ?_ (NoSp.app (NoSp.app mn.2.1 colon_nosp) n1) ?_
    · rw [colon_eq]
      exact split2 (by rw [hp, colon_eq]; simp only [assoc]) H.nocolon (f1 _ (by omega))
    · simp only [PySem.Str.length_append]; simp only [PySem.Str.length_append] at l1; omega
    · rw [hp]; simp only [PySem.Str.length_append]; omega
    · simp only [PySem.Str.length_append]; omega
  · obtain ⟨p, hp, hs⟩ := H.sig (":" ++ z1 ++ ":" ++ z2 ++ ":07")
    rw [← assoc, ← assoc, ← assoc, ← assoc] at hs
    refine .b4 (pa := a) (pb := z1) (pc := z2) (pe := "07") hs ?_ ?_ ?_ (NoSp.app (NoSp.app (NoSp.app (NoSp.app (NoSp.app mn.2.1 colon_nosp) n1) colon_nosp) n2) o7_nosp) ?_
    · rw [colon_eq]
      exact split4 (by
        have q : (":07" : Str) = ⟨#[58]⟩ ++ "07" := by decide
        rw [hp, q, colon_eq]; simp only [assoc]) H.nocolon (f1 _ (by omega)) (f2 _ (by omega)) (by decide)
    · simp only [PySem.Str.length_append]; simp only [PySem.Str.length_append] at l1; omega
    · rw [hp]; simp only [PySem.Str.length_append]; omega
    · simp only [PySem.Str.length_append]; omega
  · obtain ⟨p, hp, hs⟩ := H.sig (":" ++ z1 ++ ":" ++ z2 ++ "s")
    rw [← assoc, ← assoc, ← assoc, ← assoc] at hs
    refine .br (pa := a) (pb := z1) (pc := z2 ++ "s") hs ?_ (by omega) (by omega) H.reads r1 rf ?_ ?_ (NoSp.app (NoSp.app (NoSp.app (NoSp.app (NoSp.app mn.2.1 colon_nosp) n1) colon_nosp) n2) s_nosp) ?_
    · rw [colon_eq]
      exact split3 (by rw [hp, colon_eq]; simp only [assoc]) H.nocolon (f1 _ (by omega)) (by
        rw [lst_app]; intro q
        rcases List.mem_append.mp q with q | q
        · exact f2 _ (by omega) q
        · exact absurd q (by decide))
    · simp only [PySem.Str.length_append]; simp only [PySem.Str.length_append] at l1; omega
    · rw [hp]; simp only [PySem.Str.length_append]; omega
    · simp only [PySem.Str.length_append]; omega
/-- a number that stands alone as the days -/
structure Days (d : Str) (n : Int) : Prop where
  len : d.length ≤ 640
  reads : PySem.intText? d = some n
  nosp : NoSp d
  ne : d.length ≠ 0
/-- what a spoilt text of the SQL standard is -/
inductive Bad : Str → Prop
  | mon {f : Str} (hf : BadM f) : Bad f
  | day {d u : Str} {n : Int} (hd : Days d n) (hu : BadT u) : Bad (d ++ " " ++ u)
  | allM {f d u : Str} {n : Int} (hf : BadM f) (hd : Days d n) (hn : NoSp u) (h0 : u.length ≠ 0) (hl : u.length ≤ 1000) : Bad (f ++ " " ++ d ++ " " ++ u)
  | allT {f q a b d u : Str} {neg : Bool} {y m n : Int} (hsg : Signed f q neg) (hsp : Txt.split q "-" = [a, b]) (hla : a.length ≤ 640) (hlb : b.length ≤ 640) (hia : PySem.intText? a = some y) (hib : PySem.intText? b = some m)
      (hn : NoSp f) (h0 : f.length ≠ 0) (hl : f.length ≤ 1000) (hpl : q.length ≤ 1000) (hd : Days d n) (hu : BadT u) : Bad (f ++ " " ++ d ++ " " ++ u)
theorem BadM.len {f : Str} (h : BadM f) : f.length ≤ 1000 := by cases h <;> assumption
theorem BadT.len {f : Str} (h : BadT f) : f.length ≤ 1000 := by cases h <;> assumption
theorem Bad.len {f : Str} (h : Bad f) : f.length ≤ 3000 := by
  have e : ((" " : Str)).length = 1 := by decide
  cases h with
  | mon hf => have := hf.len; omega
  | day hd hu => have := hu.len; have := hd.len; simp only [PySem.Str.length_append]; omega
  | allM hf hd hn h0 hl => have := hf.len; have := hd.len; simp only [PySem.Str.length_append]; omega
  | allT hsg hsp hla hlb hia hib hn h0 hl hpl hd hu => have := hu.len; have := hd.len; simp only [PySem.Str.length_append]; omega
theorem days_of {md : Str} {ud n : Int} (hd : Sg md ud) (n0 : 0 ≤ n) (n1 : n < 10 ^ 120) : Days (md ++ num n) (ud * n) := by
  have md' := mark_num hd n0 n1
  exact ⟨Nat.le_trans md'.2.2.2.1 (by decide), md'.1, md'.2.1, md'.2.2.1⟩
theorem CaseOf.bad {text bad : Str} {ds : List (Option Int)} (h : CaseOf text ds bad) : Bad bad := by
  cases h with
  | c0 h y0 y1 m0 m1 hb => exact .mon (mon_bad h y0 y1 m0 m1 hb)
  | c1 hd n0 n1 ht h0 h1 hi hs hb => exact .day (days_of hd n0 n1) (tim_bad ht h0 h1 hi hs hb)
  | c2 h y0 y1 m0 m1 hd n0 n1 ht h0 h1 hi hs hb =>
    obtain ⟨p, a, neg, q1, q2, q3, q4, q5, q6, q7, q8, q9, q10, q11, q12, q13⟩ := tim_read ht h0 h1 hi hs
    exact .allM (mon_bad h y0 y1 m0 m1 hb) (days_of hd n0 n1) q10 q11 q12
  | c3 h y0 y1 m0 m1 hd n0 n1 ht h0 h1 hi hs hb =>
    obtain ⟨p', a', neg', r1, r2, r3, r4, r5, r6, r7, r8, r9, r10, r11, r12⟩ := mon_read h y0 y1 m0 m1
    exact .allT r1 r2 r3 r4 r5 r6 r8 r9 r10 r11 (days_of hd n0 n1) (tim_bad ht h0 h1 hi hs hb)
end

/-! UDefs -/
section

def fdAt (K : Frag) (a : Addr) : Option FuncData := match K.lookup a with | some o => (match o.data with | .func fd => some fd | _ => none) | none => none
def rowAt (K : Frag) (a : Addr) (n : Nat) : Option Stmt := match fdAt K a with | some fd => (match fd.body with | .stmts l => l[n]? | _ => none) | none => none
def scopeAt (K : Frag) (a : Addr) : Option Scope := match fdAt K a with | some fd => (match fd with | { scope := x, .. } => some x) | none => none
def qualAt (K : Frag) (a : Addr) : Option Str := match fdAt K a with | some fd => (match fd with | { qualname := x, .. } => some x) | none => none
def codeAt (K : Frag) (a : Addr) : Option Value := match fdAt K a with | some fd => (match fd with | { code := x, .. } => some x) | none => none
abbrev pickRow (K : Params → Frag) (a : Addr) (n : Nat) {x : Stmt} (_ : ∀ p, rowAt (K p) a n = some x) : Stmt := x
abbrev pickScope (K : Params → Frag) (a : Addr) {x : Scope} (_ : ∀ p, scopeAt (K p) a = some x) : Scope := x
abbrev pickQual (K : Params → Frag) (a : Addr) {x : Str} (_ : ∀ p, qualAt (K p) a = some x) : Str := x
abbrev pickCode (K : Params → Frag) (a : Addr) {x : Value} (_ : ∀ p, codeAt (K p) a = some x) : Value := x
section
variable {M : Model} {A : Around} {E : Value → Shared → Prop} {s : Shared} {env : Env}
theorem wp_execs_append (a b : List Stmt) : ∀ (Γ : Ctx) (Q : Flow → Pos → Shared → Prop) (E : Value → Pos → Shared → Prop) (p : Pos) (s : Shared),
    Sem.wp M Γ (execs a env) (fun f p' s' => match f with | .next => Sem.wp M Γ (execs b env) Q E p' s' | f => Q f p' s') E p s → Sem.wp M Γ (execs (a ++ b) env) Q E p s := by
  induction a with
  | nil => intro Γ Q E p s h; exact h
  | cons x a ih =>
    intro Γ Q E p s h
    rw [List.cons_append, execs_cons, Sem.wp_bind']
    rw [execs_cons, Sem.wp_bind'] at h
    refine Sem.wp_mono M Γ _ (fun f p' s' hf => ?_) (fun _ _ _ y => y) _ _ h
    cases f <;> first | exact ih Γ Q E p' s' hf | exact hf
theorem execs_split (n : Nat) {l : List Stmt} {Q : Flow → Shared → Prop}
    (h : wpAny M A (execs (l.take n) env) (fun f s' => match f with | .next => wpAny M A (execs (l.drop n) env) Q E s' | f => Q f s') E s) : wpAny M A (execs l env) Q E s := fun Γ p i => by
  have e := List.take_append_drop n l
  rw [← e]
  refine wp_execs_append _ _ Γ _ _ p s (Sem.wp_mono M Γ _ (fun f p' s' hf => ?_) (fun _ _ _ y => y) _ _ (h Γ p i))
  cases f <;> first | exact hf Γ p' i | exact hf
theorem execs_splitC (n : Nat) {l : List Stmt} {Q : Flow → Shared → Prop}
    (h : wpC M A (execs (l.take n) env) (fun f s' => match f with | .next => wpC M A (execs (l.drop n) env) Q E s' | f => Q f s') E s) : wpC M A (execs l env) Q E s := fun Γ p i u => by
  have e := List.take_append_drop n l
  rw [← e]
  refine wp_execs_append _ _ Γ _ _ p s (Sem.wp_mono M Γ _ (fun f p' s' hf => ?_) (fun _ _ _ y => y) _ _ (h Γ p i u))
  cases f <;> first | exact hf Γ p' i u | exact hf
theorem fr_congr {h₀ h : Heap} {L : Addr} {m m' : Str → Option Value} (F : Fr h₀ L h m) (e : ∀ y, m y = m' y) : Fr h₀ L h m' := (funext e : m = m') ▸ F
end
end

/-! D1 -/
section

abbrev sql.S0 : Stmt := pickRow Mine.hd.heap_39 51 0 fun _ => rfl
abbrev sql.S1 : Stmt := pickRow Mine.hd.heap_39 51 1 fun _ => rfl
abbrev sql.S2 : Stmt := pickRow Mine.hd.heap_39 51 2 fun _ => rfl
abbrev sql.S3 : Stmt := pickRow Mine.hd.heap_39 51 3 fun _ => rfl
abbrev sql.S4 : Stmt := pickRow Mine.hd.heap_39 51 4 fun _ => rfl
abbrev sql.S5 : Stmt := pickRow Mine.hd.heap_39 51 5 fun _ => rfl
abbrev sql.S6 : Stmt := pickRow Mine.hd.heap_39 51 6 fun _ => rfl
abbrev sql.S7 : Stmt := pickRow Mine.hd.heap_39 51 7 fun _ => rfl
abbrev sql.scope : Scope := pickScope Mine.hd.heap_39 51 fun _ => rfl
abbrev sql.qual : Str := pickQual Mine.hd.heap_39 51 fun _ => rfl
abbrev sql.code : Value := pickCode Mine.hd.heap_39 51 fun _ => rfl
abbrev fstr.S0 : Stmt := pickRow Mine.hd.heap_39 61 0 fun _ => rfl
abbrev fstr.scope : Scope := pickScope Mine.hd.heap_39 61 fun _ => rfl
abbrev fstr.qual : Str := pickQual Mine.hd.heap_39 61 fun _ => rfl
abbrev fstr.code : Value := pickCode Mine.hd.heap_39 61 fun _ => rfl
abbrev flds.S0 : Stmt := pickRow Mine.hd.heap_39 161 0 fun _ => rfl
abbrev flds.scope : Scope := pickScope Mine.hd.heap_39 161 fun _ => rfl
abbrev flds.qual : Str := pickQual Mine.hd.heap_39 161 fun _ => rfl
abbrev flds.code : Value := pickCode Mine.hd.heap_39 161 fun _ => rfl
abbrev rfd.S0 : Stmt := pickRow Mine.hd.heap_39 168 0 fun _ => rfl
abbrev rfd.S1 : Stmt := pickRow Mine.hd.heap_39 168 1 fun _ => rfl
abbrev rfd.scope : Scope := pickScope Mine.hd.heap_39 168 fun _ => rfl
abbrev rfd.qual : Str := pickQual Mine.hd.heap_39 168 fun _ => rfl
abbrev rfd.code : Value := pickCode Mine.hd.heap_39 168 fun _ => rfl
section
variable {prog : Program} {w : World} {A₀ A : Around} {s : Shared} {base h₀ : Heap} {outer : List Env} {L : Addr} {m : Str → Option Value} {env : Env} {K : Frag} {p : Program} {loose : List Str} {mean : ExcName → Option Value} {mg mb : Str → Option Value}
  {R : Result → Shared → Prop} {name qual : Str} {params : Arguments} {body : List Stmt} {scope : Scope} {dV kV doc pm cdv ct oc : Value} {an od : Option Addr} {osl : Array (Option Value)} {f : Addr} {args : Args} {binds : List (Str × Value)}
/-- a def with cells that writes into nothing of its caller's: all stays -/
theorem code_defCF (B : Below A₀ base outer h₀) (F : Fr h₀ L s.heap m) (X₀ : K.In h₀) (T : Top p loose mean mg mb h₀) (hA : A.frames = some (env :: outer)) (hf : env.frame = some L) (hke : env.scope.kind = .function)
    (ho : K.lookup f = some ⟨oc, od, .func (fnOf name qual params body scope dV kV doc pm an cdv ct), osl⟩) (hcd : codeIn K cdv qual = true) (hroom : A.depth < recursionLimit)
    (hbind : BindsTo s (fnOf name qual params body scope dV kV doc pm an cdv ct) args binds) (hkind : (binds.all fun y => scope.names.lookup y.1 == some .local || scope.names.lookup y.1 == some .cell) = true)
    (hnd : ((cellsFrom 0 scope.names []).map (·.1)).Nodup)
    (h : ∀ L' h₁ tk cells, Fr s.heap L' h₁ (bindL (envOfC qual scope L' f cdv).kindOf binds fun _ => none) → News s.heap L' h₁ cells →
      CellsAre (bindC (envOfC qual scope L' f cdv).kindOf binds fun _ => none) (cellsFrom (L' + 1) scope.names []) cells → Below A base (env :: outer) s.heap → K.In s.heap → Top p loose mean mg mb s.heap →
      wpAny (model prog w) (A.deeper (envOfC qual scope L' f cdv)) (execs body (envOfC qual scope L' f cdv))
        (fun fl s' => R (.ok (.ret (match fl with | .ret v => v | _ => .none))) s')
        (fun e s' => wpAny (model prog w) (A.deeper (envOfC qual scope L' f cdv)) (leaving (envOfC qual scope L' f cdv) e) (fun _ s'' => R (.error e) s'') (fun e' s'' => R (.error e') s'') s')
        { s with heap := h₁, toks := tk })
    (hco : scope.isCoroutine = false) (hgen : scope.isGenerator = false) (hk : scope.kind = .function) : codeAny (model prog w) A (.call (.ref f) args) R s := by
  have X := X₀.keeps F.keep
  have ho' := X _ _ ho
  have N : News h₀ L s.heap [] := News.nil
  obtain ⟨FG, BG, st, lv⟩ := groundX (R := R) B F N hA hf hke
  have BG' : Below A base (env :: outer) s.heap := BG
  refine codeAny_call_function hroom ho' rfl hco hgen rfl (codeRec_of X hcd) (hbind _ _ _ _ ?_)
  refine wpAny_newFunctionEnv_cells hk (kindsX hkind _) fun env' he s' x => ?_
  subst he
  refine ⟨(T.nolimit.keeps F.keep).keeps x.toInCall.keep, codeAny_func ?_⟩
  obtain ⟨h₁, tk, rfl, _⟩ := x.done
  have hk₁ := x.toInCall.keep
  obtain ⟨cells, NC, Y⟩ := Cl.news (h₀ := s.heap) (Nat.le_refl _) fun n c hm => ⟨x.cell n c (lookup_of_mem_nodup (cellsFrom_names scope.names 0 (s.heap.objs.size + 1) [] [] rfl ▸ hnd) hm), x.above n c hm⟩
  exact h s.heap.objs.size h₁ tk cells ⟨x.toInCall.ns, fun b o e => hk₁ b o e, Nat.le_refl _⟩ NC Y BG' X (T.keeps F.keep)
end
end

/-! M1 -/
section

abbrev FIELDS : List Str := ["millennia", "centuries", "decades", "years", "months", "weeks", "days", "hours", "minutes", "seconds", "microseconds"]

abbrev fent (w : World) (gv : Str → Value) (f : Str) (t : Tok) : DictEntry := { hash := PyData.keyHash w.params f, key := .str f t, val := gv f }
abbrev fdict (w : World) (gv : Str → Value) (t0 t1 t2 t3 t4 t5 t6 t7 t8 t9 t10 : Tok) (n : Nat) : Obj :=
  dictOf [{ hash := PyData.keyHash w.params "millennia", key := .str "millennia" t0, val := gv "millennia" }, { hash := PyData.keyHash w.params "centuries", key := .str "centuries" t1, val := gv "centuries" }, { hash := PyData.keyHash w.params "decades", key := .str "decades" t2, val := gv "decades" }, { hash := PyData.keyHash w.params "years", key := .str "years" t3, val := gv "years" }, { hash := PyData.keyHash w.params "months", key := .str "months" t4, val := gv "months" }, { hash := PyData.keyHash w.params "weeks", key := .str "weeks" t5, val := gv "weeks" }, { hash := PyData.keyHash w.params "days", key := .str "days" t6, val := gv "days" }, { hash := PyData.keyHash w.params "hours", key := .str "hours" t7, val := gv "hours" }, { hash := PyData.keyHash w.params "minutes", key := .str "minutes" t8, val := gv "minutes" }, { hash := PyData.keyHash w.params "seconds", key := .str "seconds" t9, val := gv "seconds" }, { hash := PyData.keyHash w.params "microseconds", key := .str "microseconds" t10, val := gv "microseconds" }] n
theorem make_spec (w : World) {dp un : Nat} {gd : Option (List Code)} {cn : Str} {cs : Scope} {a : Addr} {ccd : Value} {cl : List (Str × Addr)} {outer : List Env} {A₀ : Around} {base h₀ : Heap} {L : Addr} {m : Str → Option Value} {s : Shared} {mean : ExcName → Option Value} {mg mb : Str → Option Value} {loose : List Str}
    {Q E : Value → Shared → Prop} {news : List (Addr × Obj)} {more : List (Str × Value)}
    (B : Below A₀ base outer h₀) (F : Fr h₀ L s.heap m) (X : (Mine.hd.heap_39 w.params).In h₀) (N : News h₀ L s.heap news) (T : Top Mine.hd.view_39 loose mean mg mb h₀) (hk : cs.kind = .function) (hd : dp + 3 < recursionLimit)
    (hmk : ∀ kv ∈ more, kv.1 ∈ FIELDS) (hmn : (more.map (·.1)).Nodup)
    (ret : ∀ x dx gv t0 t1 t2 t3 t4 t5 t6 t7 t8 t9 t10 n h' tk, (∀ f, (more.lookup f).getD Value.none = gv f) → Fr h₀ L h' m → News h₀ L h' ((x, instObj 108 dx) :: (dx, fdict w gv t0 t1 t2 t3 t4 t5 t6 t7 t8 t9 t10 n) :: news) → (∀ p ∈ news, p.1 < dx) → dx < x → Q (.ref x) { s with heap := h', toks := tk }) :
    wpAny (model Challenge.rw_eg5033_01.row.prog w) (ktrTop dp un gd cn cs L a ccd cl outer) (call (.ref 108) [] more) Q E s := by
  revert X
  w_top off
  k_fill
  intro X
  k_dflt (refine' call_cls ?k1 ?k2 ?k3 ?k4 ?k5 ?k6 ?_; (case k1 => k_asm); (case k2 => k_asm); (case k3 => k_asm); (case k4 => k_is); (case k5 => k_is); (case k6 => k_is); k_whole)
  intro x' d' h' F' N' l1 l2
  have l1c := l1
  have l2c := l2
  (try k_lt l1)
  (try k_lt2 l2)
  have X9 := X.keeps F'.keep
  obtain ⟨g, hg⟩ : ∃ g : Str → Value, ∀ f, (more.lookup f).getD Value.none = g f := ⟨_, fun _ => rfl⟩
  have hb := fun (fd : FuncData) (o : Obj) (n : Nat) h1 h2 h3 h4 h5 h6 h7 h8 h9 => binds_kw (s := { s with heap := h' }) (fd := fd) (o := o) (n := n) (self := "self") (fs := FIELDS) (v := .ref x') (more := more) (T := 65) (items := #[.none, .none, .none, .none, .none, .none, .none, .none, .none, .none, .none]) h1 h2 h3 h4 h5 h6 (X9 _ _ h7) h8 h9 rfl (by decide) (by decide) hmk hmn
  simp only [hg] at hb
  k_dflt (refine' code_def ?k1 ?k2 ?k3 ?k4 ?k5 ?kA ?kF ?kK ?k6 ?k7 ?k8 ?k9 ?kB ?_ ?c2 ?c3 ?c4 ?c5; (case kA => exact rfl); (case kF => exact rfl); (case kK => assumption); (case k1 => k_asm); (case k2 => k_asm); (case k3 => k_asm); (case k4 => k_asm); (case k5 => k_asm); (case k6 => k_is); (case k7 => k_is); (case k8 => ktr_room); (case k9 => exact hb _ _ _ rfl rfl rfl rfl rfl rfl rfl rfl rfl))
  case kB => exact locs rfl
  case c2 => exact rfl
  case c3 => exact rfl
  case c4 => exact rfl
  case c5 => decide
  k_whole
  intro g' L' h' FG' F' N' B' X' T'
  dsimp only
  (try k_fold)
  clear hb hmk hmn X9
  k_steps
  (with_reducible rename Fr _ _ _ _ => kF)
  (with_reducible rename News _ _ _ _ => kN)
  exact ret _ _ g _ _ _ _ _ _ _ _ _ _ _ _ _ _ hg (by k_asm) (by k_asm) l1c l2c
end

/-! S1 -/
section

abbrev sqlEnv (L : Addr) : Env := envOfC sql.qual sql.scope L 51 sql.code
def mS0 (txt : Value) : Str → Option Value := fun y => if y = "interval_str" then some txt else if y = "cls" then some (.ref 108) else none
def mS (kw parts day month txt : Value) : Str → Option Value := fun y => if y = "kwargs" then some kw else if y = "parts" then some parts else if y = "day_parts" then some day else if y = "month_part" then some month else if y = "interval_str" then some txt else if y = "cls" then some (.ref 108) else none

local macro_rules | `(tactic| walk_at "call builtin:str.split") => `(tactic| (k_here; (with_reducible show wpAny _ _ (call (Value.builtin "str.split") _) _ _ _); first
  | (refine KSpl.split0 (by k_asm) (by k_asm) ?_ (by assumption); intro D' l' h' k' e' a' F' N' l1; (try k_lt l1); rw [‹Txt.words _ = _›] at e'; (kspl_open e'); (simp only [strValues, List.map_cons, List.map_nil] at N' a'); (try ((first | with_reducible refine clean_any ?hs9 ?_ | with_reducible refine clean_leaveK ?hs9 ?_); (case hs9 => (dsimp only; exact rfl)))))
  | (refine KSpl.split1 (by k_asm) (by k_asm) (by decide) ?_ (by assumption); intro D' l' h' k' e' a' F' N' l1; (try k_lt l1); rw [‹Txt.split _ _ = _›] at e'; (kspl_open e'); (simp only [strValues, List.map_cons, List.map_nil] at N' a'); (try ((first | with_reducible refine clean_any ?hs9 ?_ | with_reducible refine clean_leaveK ?hs9 ?_); (case hs9 => (dsimp only; exact rfl)))))))


section
variable {w : World} {dp un : Nat} {gd : Option (List Code)} {cn : Str} {cs : Scope} {a : Addr} {ccd : Value} {cl : List (Str × Addr)} {outer : List Env} {A₀ : Around} {base g : Heap} {L Lc : Addr} {s : Shared} {mean : ExcName → Option Value} {mg mb : Str → Option Value} {loose : List Str}
theorem pre1 {Qx : Flow → Shared → Prop} {E : Value → Shared → Prop} {R : Shared → Prop} {text f : Str} {t : Tok} {c : Addr} {oc : Obj}
    (B : Below (ktrTop dp un gd cn cs Lc a ccd cl outer) base (envX cn cs Lc a ccd cl :: outer) g) (F : Fr g L s.heap (mS0 (.str text t))) (X : (Mine.hd.heap_39 w.params).In g) (N : News g L s.heap [(c, oc)]) (T : Top Mine.hd.view_39 loose mean mg mb g)
    (hw : Txt.words text = [f]) (hsz : text.length + 2 ≤ sizeLine)
    (k : ∀ h' tk o kd pl tf, Fr g L h' (mS (.ref kd) (.ref pl) .none (.str f tf) (.str text t)) → News g L h' [(kd, o), (pl, listOf #[.str f tf] 0), (c, oc)] → @LT.lt Nat _ c pl → @LT.lt Nat _ pl kd → (kd == sysModules) = false → o.IsDictOf (PySem.strKind Challenge.rw_eg5033_01.row.prog w) [] → R { s with heap := h', toks := tk }) :
    wpAny (model Challenge.rw_eg5033_01.row.prog w) ((ktrTop dp un gd cn cs Lc a ccd cl outer).deeper (sqlEnv L)) (execs [sql.S0, sql.S1, sql.S2, sql.S3, sql.S4] (sqlEnv L)) (fun fl s' => match fl with | .next => R s' | fl => Qx fl s') E s := by
  revert X
  w_top off
  k_fill
  intro X
  unfold sql.S0 sql.S1 sql.S2 sql.S3 sql.S4 pickRow
  unfold mS0 at F
  unfold sqlEnv sql.scope sql.qual sql.code pickScope pickQual pickCode
  k_steps
  (with_reducible rename Fr _ _ _ _ => kF)
  (with_reducible rename News _ _ _ _ => kN)
  refine k _ _ _ _ _ _ (fr_congr kF fun y => ?_) kN (by omega) (by omega) (by assumption) (by assumption)
  by_cases h1 : y = "kwargs"
  · subst h1; with_unfolding_all rfl
  by_cases h2 : y = "parts"
  · subst h2; with_unfolding_all rfl
  by_cases h3 : y = "day_parts"
  · subst h3; with_unfolding_all rfl
  by_cases h4 : y = "month_part"
  · subst h4; with_unfolding_all rfl
  by_cases h5 : y = "interval_str"
  · subst h5; with_unfolding_all rfl
  by_cases h6 : y = "cls"
  · subst h6; with_unfolding_all rfl
  unfold mS
  simp only [if_neg h1, if_neg h2, if_neg h3, if_neg h4, if_neg h5, if_neg h6]
theorem pre2 {Qx : Flow → Shared → Prop} {E : Value → Shared → Prop} {R : Shared → Prop} {text d u : Str} {t : Tok} {c : Addr} {oc : Obj}
    (B : Below (ktrTop dp un gd cn cs Lc a ccd cl outer) base (envX cn cs Lc a ccd cl :: outer) g) (F : Fr g L s.heap (mS0 (.str text t))) (X : (Mine.hd.heap_39 w.params).In g) (N : News g L s.heap [(c, oc)]) (T : Top Mine.hd.view_39 loose mean mg mb g)
    (hw : Txt.words text = [d, u]) (hsz : text.length + 2 ≤ sizeLine)
    (k : ∀ h' tk o kd pl td tu, Fr g L h' (mS (.ref kd) (.ref pl) (.ref pl) .none (.str text t)) → News g L h' [(kd, o), (pl, listOf #[.str d td, .str u tu] 0), (c, oc)] → @LT.lt Nat _ c pl → @LT.lt Nat _ pl kd → (kd == sysModules) = false → o.IsDictOf (PySem.strKind Challenge.rw_eg5033_01.row.prog w) [] → R { s with heap := h', toks := tk }) :
    wpAny (model Challenge.rw_eg5033_01.row.prog w) ((ktrTop dp un gd cn cs Lc a ccd cl outer).deeper (sqlEnv L)) (execs [sql.S0, sql.S1, sql.S2, sql.S3, sql.S4] (sqlEnv L)) (fun fl s' => match fl with | .next => R s' | fl => Qx fl s') E s := by
  revert X
  k_fill
  intro X
  unfold sql.S0 sql.S1 sql.S2 sql.S3 sql.S4 pickRow
  unfold mS0 at F
  unfold sqlEnv sql.scope sql.qual sql.code pickScope pickQual pickCode
  k_steps
  (with_reducible rename Fr _ _ _ _ => kF)
  (with_reducible rename News _ _ _ _ => kN)
  refine k _ _ _ _ _ _ _ (fr_congr kF fun y => ?_) kN (by omega) (by omega) (by assumption) (by assumption)
  by_cases h1 : y = "kwargs"
  · subst h1; with_unfolding_all rfl
  by_cases h2 : y = "parts"
  · subst h2; with_unfolding_all rfl
  by_cases h3 : y = "day_parts"
  · subst h3; with_unfolding_all rfl
  by_cases h4 : y = "month_part"
  · subst h4; with_unfolding_all rfl
  by_cases h5 : y = "interval_str"
  · subst h5; with_unfolding_all rfl
  by_cases h6 : y = "cls"
  · subst h6; with_unfolding_all rfl
  unfold mS
  simp only [if_neg h1, if_neg h2, if_neg h3, if_neg h4, if_neg h5, if_neg h6]
theorem pre3 {Qx : Flow → Shared → Prop} {E : Value → Shared → Prop} {R : Shared → Prop} {text f d u : Str} {t : Tok} {c : Addr} {oc : Obj}
    (B : Below (ktrTop dp un gd cn cs Lc a ccd cl outer) base (envX cn cs Lc a ccd cl :: outer) g) (F : Fr g L s.heap (mS0 (.str text t))) (X : (Mine.hd.heap_39 w.params).In g) (N : News g L s.heap [(c, oc)]) (T : Top Mine.hd.view_39 loose mean mg mb g)
    (hw : Txt.words text = [f, d, u]) (hsz : text.length + 2 ≤ sizeLine)
    (k : ∀ h' tk o kd pl ql tf td tu, Fr g L h' (mS (.ref kd) (.ref pl) (.ref ql) (.str f tf) (.str text t)) → News g L h' [(kd, o), (ql, listOf #[.str d td, .str u tu] 0), (pl, listOf #[.str f tf, .str d td, .str u tu] 0), (c, oc)] → @LT.lt Nat _ c pl → @LT.lt Nat _ pl ql → @LT.lt Nat _ ql kd → (kd == sysModules) = false → o.IsDictOf (PySem.strKind Challenge.rw_eg5033_01.row.prog w) [] → R { s with heap := h', toks := tk }) :
    wpAny (model Challenge.rw_eg5033_01.row.prog w) ((ktrTop dp un gd cn cs Lc a ccd cl outer).deeper (sqlEnv L)) (execs [sql.S0, sql.S1, sql.S2, sql.S3, sql.S4] (sqlEnv L)) (fun fl s' => match fl with | .next => R s' | fl => Qx fl s') E s := by
  revert X
  k_fill
  intro X
  unfold sql.S0 sql.S1 sql.S2 sql.S3 sql.S4 pickRow
  unfold mS0 at F
  unfold sqlEnv sql.scope sql.qual sql.code pickScope pickQual pickCode
  k_steps
  (with_reducible rename Fr _ _ _ _ => kF)
  (with_reducible rename News _ _ _ _ => kN)
  refine k _ _ _ _ _ _ _ _ _ (fr_congr kF fun y => ?_) kN (by omega) (by omega) (by omega) (by assumption) (by assumption)
  by_cases h1 : y = "kwargs"
  · subst h1; with_unfolding_all rfl
  by_cases h2 : y = "parts"
  · subst h2; with_unfolding_all rfl
  by_cases h3 : y = "day_parts"
  · subst h3; with_unfolding_all rfl
  by_cases h4 : y = "month_part"
  · subst h4; with_unfolding_all rfl
  by_cases h5 : y = "interval_str"
  · subst h5; with_unfolding_all rfl
  by_cases h6 : y = "cls"
  · subst h6; with_unfolding_all rfl
  unfold mS
  simp only [if_neg h1, if_neg h2, if_neg h3, if_neg h4, if_neg h5, if_neg h6]
end
end
local macro_rules | `(tactic| walk_at "mine_pad_S1_0") => `(tactic| skip)
local macro_rules | `(tactic| walk_at "mine_pad_S1_1") => `(tactic| skip)

/-! S2 -/
section

local macro_rules | `(tactic| walk_at "call builtin:str.split") => `(tactic| (k_here; (with_reducible show wpAny _ _ (call (Value.builtin "str.split") _) _ _ _); first
  | (refine KSpl.split0 (by k_asm) (by k_asm) ?_ (by assumption); intro D' l' h' k' e' a' F' N' l1; (try k_lt l1); rw [‹Txt.words _ = _›] at e'; (kspl_open e'); (simp only [strValues, List.map_cons, List.map_nil] at N' a'); (try ((first | with_reducible refine clean_any ?hs9 ?_ | with_reducible refine clean_leaveK ?hs9 ?_); (case hs9 => (dsimp only; exact rfl)))))
  | (refine KSpl.split1 (by k_asm) (by k_asm) (by decide) ?_ (by assumption); intro D' l' h' k' e' a' F' N' l1; (try k_lt l1); rw [‹Txt.split _ _ = _›] at e'; (kspl_open e'); (simp only [strValues, List.map_cons, List.map_nil] at N' a'); (try ((first | with_reducible refine clean_any ?hs9 ?_ | with_reducible refine clean_leaveK ?hs9 ?_); (case hs9 => (dsimp only; exact rfl)))))))
local macro_rules | `(tactic| walk_at "call builtin:str.startswith") => `(tactic| (k_here; refine SC.startswith ?_; rw [‹Txt.startswith _ _ = _›]))
def mP (p : Value) (m : Str → Option Value) : Str → Option Value := fun y => if y = "p" then some p else m y
theorem news_two {h₀ h : Heap} {L a b : Addr} {o p : Obj} {news : List (Addr × Obj)} (N : News h₀ L h news) (ha : (a, o) ∈ news) (hb : (b, p) ∈ news) : News h₀ L h [(a, o), (b, p)] := fun q hq => by
  rcases List.mem_cons.mp hq with rfl | hq
  · exact N _ ha
  · rw [List.mem_singleton.mp hq]; exact N _ hb
theorem news_three {h₀ h : Heap} {L a b c : Addr} {o p q : Obj} {news : List (Addr × Obj)} (N : News h₀ L h news) (ha : (a, o) ∈ news) (hb : (b, p) ∈ news) (hc : (c, q) ∈ news) : News h₀ L h [(a, o), (b, p), (c, q)] := fun r hr => by
  rcases List.mem_cons.mp hr with rfl | hr
  · exact N _ ha
  · exact news_two N hb hc r hr
theorem at_end {R : Shared → Prop} {Qx : Flow → Shared → Prop} {s : Shared} (h : R s) : (match Flow.next with | .next => R s | fl => Qx fl s) := h

section
variable {w : World} {dp un : Nat} {gd : Option (List Code)} {cn : Str} {cs : Scope} {a : Addr} {ccd : Value} {cl : List (Str × Addr)} {outer : List Env} {A₀ : Around} {base g : Heap} {L Lc : Addr} {s : Shared} {mean : ExcName → Option Value} {mg mb : Str → Option Value} {loose : List Str}
theorem segM {Qx : Flow → Shared → Prop} {E : Value → Shared → Prop} {R : Shared → Prop} {f p pa pb : Str} {tf : Tok} {kd dl : Addr} {o oc lo : Obj} {v₀ : Option Value} {parts day txt : Value} {neg : Bool} {ya yb : Int}
    (B : Below (ktrTop dp un gd cn cs Lc a ccd cl outer) base (envX cn cs Lc a ccd cl :: outer) g) (F : Fr g L s.heap (mS (.ref kd) parts day (.str f tf) txt)) (X : (Mine.hd.heap_39 w.params).In g) (N : News g L s.heap [(kd, o), (dl, lo), (L + 1, oc)]) (T : Top Mine.hd.view_39 loose mean mg mb g)
    (hco : oc.data = .cell v₀) (ho : o.IsDictOf (PySem.strKind Challenge.rw_eg5033_01.row.prog w) []) (hl1 : @LT.lt Nat _ (L + 1) dl) (hl2 : @LT.lt Nat _ dl kd) (hks : (kd == sysModules) = false)
    (hsg : Signed f p neg) (hsp : Txt.split p "-" = [pa, pb]) (hf : f.length ≤ 1000) (hpl : p.length + 2 ≤ sizeLine) (hla : pa.length ≤ 640) (hlb : pb.length ≤ 640) (hia : PySem.intText? pa = some ya) (hib : PySem.intText? pb = some yb)
    (k : ∀ h' tk o' oc' tp ts ty tm, Fr g L h' (mP (.str p tp) (mS (.ref kd) parts day (.str f tf) txt)) → News g L h' [(kd, o'), (dl, lo), (L + 1, oc')] → oc'.data = .cell (some (.int (sgn neg) ts)) → o'.IsDictOf (PySem.strKind Challenge.rw_eg5033_01.row.prog w) (stored (stored [] "years" (.int (ya * sgn neg) ty)) "months" (.int (yb * sgn neg) tm)) → R { s with heap := h', toks := tk }) :
    wpAny (model Challenge.rw_eg5033_01.row.prog w) ((ktrTop dp un gd cn cs Lc a ccd cl outer).deeper (sqlEnv L)) (exec sql.S5 (sqlEnv L)) (fun fl s' => match fl with | .next => R s' | fl => Qx fl s') E s := by
  revert X
  w_top off
  k_fill
  intro X
  unfold sql.S5 pickRow
  unfold mS at F
  unfold sqlEnv sql.scope sql.qual sql.code pickScope pickQual pickCode
  cases neg with
  | true =>
    have h1 := hsg.starts
    have h2 : Txt.slice f (some 1) none = p := hsg.cut
    subst h2
    k_steps
    (with_reducible rename Fr _ _ _ _ => kF)
    (with_reducible rename News _ _ _ _ => kN)
    refine k _ _ _ _ _ _ _ _ kF (news_three kN (by k_mem) (by k_mem) (by k_mem)) (by assumption) (by assumption)
  | false =>
    have h1 := hsg.starts
    have h2 := hsg.same rfl
    subst h2
    k_steps
    (with_reducible rename Fr _ _ _ _ => kF)
    (with_reducible rename News _ _ _ _ => kN)
    refine k _ _ _ _ _ _ _ _ kF (news_three kN (by k_mem) (by k_mem) (by k_mem)) (by assumption) (by assumption)
end
end
local macro_rules | `(tactic| walk_at "mine_pad_S2_0") => `(tactic| skip)
local macro_rules | `(tactic| walk_at "mine_pad_S2_1") => `(tactic| skip)
local macro_rules | `(tactic| walk_at "mine_pad_S2_2") => `(tactic| skip)

/-! S3 -/
section

local macro_rules | `(tactic| walk_at "call builtin:str.split") => `(tactic| (k_here; (with_reducible show wpAny _ _ (call (Value.builtin "str.split") _) _ _ _); first
  | (refine KSpl.split0 (by k_asm) (by k_asm) ?_ (by assumption); intro D' l' h' k' e' a' F' N' l1; (try k_lt l1); rw [‹Txt.words _ = _›] at e'; (kspl_open e'); (simp only [strValues, List.map_cons, List.map_nil] at N' a'); (try ((first | with_reducible refine clean_any ?hs9 ?_ | with_reducible refine clean_leaveK ?hs9 ?_); (case hs9 => (dsimp only; exact rfl)))))
  | (refine KSpl.split1 (by k_asm) (by k_asm) (by decide) ?_ (by assumption); intro D' l' h' k' e' a' F' N' l1; (try k_lt l1); rw [‹Txt.split _ _ = _›] at e'; (kspl_open e'); (simp only [strValues, List.map_cons, List.map_nil] at N' a'); (try ((first | with_reducible refine clean_any ?hs9 ?_ | with_reducible refine clean_leaveK ?hs9 ?_); (case hs9 => (dsimp only; exact rfl)))))))
local macro_rules | `(tactic| walk_at "call builtin:str.startswith") => `(tactic| (k_here; refine SC.startswith ?_; rw [‹Txt.startswith _ _ = _›]))
theorem news_one {h₀ h : Heap} {L a : Addr} {o : Obj} {news : List (Addr × Obj)} (N : News h₀ L h news) (ha : (a, o) ∈ news) : News h₀ L h [(a, o)] := fun q hq => by
  rw [List.mem_singleton.mp hq]; exact N _ ha
section
variable {w : World} {dp un : Nat} {gd : Option (List Code)} {cn : Str} {cs : Scope} {a : Addr} {ccd : Value} {cl : List (Str × Addr)} {outer : List Env} {A₀ : Around} {base g : Heap} {L Lc : Addr} {s : Shared} {mean : ExcName → Option Value} {mg mb : Str → Option Value} {loose : List Str}
def mPo (p : Option Value) (m : Str → Option Value) : Str → Option Value := fun y => if y = "p" then p else m y
theorem segT {Qx : Flow → Shared → Prop} {E : Value → Shared → Prop} {R : Shared → Prop} {d u p pa pb pc : Str} {td tu : Tok} {kd dl : Addr} {o oc : Obj} {v₀ pv : Option Value} {parts month txt : Value} {neg : Bool} {yd ya yb yc : Int} {kvs : List (Str × Value)}
    (B : Below (ktrTop dp un gd cn cs Lc a ccd cl outer) base (envX cn cs Lc a ccd cl :: outer) g) (F : Fr g L s.heap (mPo pv (mS (.ref kd) parts (.ref dl) month txt))) (X : (Mine.hd.heap_39 w.params).In g) (N : News g L s.heap [(kd, o), (dl, listOf #[.str d td, .str u tu] 0), (L + 1, oc)]) (T : Top Mine.hd.view_39 loose mean mg mb g)
    (hco : oc.data = .cell v₀) (ho : o.IsDictOf (PySem.strKind Challenge.rw_eg5033_01.row.prog w) kvs) (hkv : DLen kvs 2) (hl1 : @LT.lt Nat _ (L + 1) dl) (hl2 : @LT.lt Nat _ dl kd) (hks : (kd == sysModules) = false)
    (hld : d.length ≤ 640) (hid : PySem.intText? d = some yd)
    (hsg : Signed u p neg) (hsp : Txt.split p ":" = [pa, pb, pc]) (hf : u.length ≤ 1000) (hpl : p.length + 2 ≤ sizeLine) (hla : pa.length ≤ 640) (hlb : pb.length ≤ 640) (hlc : pc.length ≤ 640) (hia : PySem.intText? pa = some ya) (hib : PySem.intText? pb = some yb) (hic : PySem.intText? pc = some yc)
    (k : ∀ h' tk o' m' t0 t1 t2 t3, Fr g L h' m' → m' "cls" = some (.ref 108) → m' "kwargs" = some (.ref kd) → News g L h' [(kd, o')] → o'.IsDictOf (PySem.strKind Challenge.rw_eg5033_01.row.prog w) (stored (stored (stored (stored kvs "days" (.int yd t0)) "hours" (.int (ya * sgn neg) t1)) "minutes" (.int (yb * sgn neg) t2)) "seconds" (.int (yc * sgn neg) t3)) → R { s with heap := h', toks := tk }) :
    wpAny (model Challenge.rw_eg5033_01.row.prog w) ((ktrTop dp un gd cn cs Lc a ccd cl outer).deeper (sqlEnv L)) (exec sql.S6 (sqlEnv L)) (fun fl s' => match fl with | .next => R s' | fl => Qx fl s') E s := by
  revert X
  w_top off
  k_fill
  intro X
  unfold sql.S6 pickRow
  unfold mPo mS at F
  unfold sqlEnv sql.scope sql.qual sql.code pickScope pickQual pickCode
  cases neg with
  | true =>
    have h1 := hsg.starts
    have h2 : Txt.slice u (some 1) none = p := hsg.cut
    subst h2
    k_steps
    (with_reducible rename Fr _ _ _ _ => kF)
    (with_reducible rename News _ _ _ _ => kN)
    exact k _ _ _ _ _ _ _ _ kF (by with_unfolding_all rfl) (by with_unfolding_all rfl) (news_one kN (by k_mem)) (by assumption)
  | false =>
    have h1 := hsg.starts
    have h2 := hsg.same rfl
    subst h2
    k_steps
    (with_reducible rename Fr _ _ _ _ => kF)
    (with_reducible rename News _ _ _ _ => kN)
    exact k _ _ _ _ _ _ _ _ kF (by with_unfolding_all rfl) (by with_unfolding_all rfl) (news_one kN (by k_mem)) (by assumption)
end
end
local macro_rules | `(tactic| walk_at "mine_pad_S3_0") => `(tactic| skip)
local macro_rules | `(tactic| walk_at "mine_pad_S3_1") => `(tactic| skip)
local macro_rules | `(tactic| walk_at "mine_pad_S3_2") => `(tactic| skip)

/-! S4 -/
section

local macro_rules | `(tactic| walk_at "callWith ref") => `(tactic| (k_here; k_dflt (refine' callWith_KS ?F ?X ?N ?k ?hN ?m ?o ?S ?z ?_; (case F => k_asm); (case X => k_asm); (case N => k_asm); (case k => k_is); (case hN => (intro s9 Q9 E9 F9 q9; exact nameX_L F9 (by assumption) q9)); (case m => k_mem); (case o => k_asm); (case S => assumption); (case z => assumption); k_whole; intro h' F' N'; (try k_sweep); (try ((first | with_reducible refine clean_any ?hs9 ?_ | with_reducible refine clean_leaveK ?hs9 ?_); (case hs9 => (dsimp only; exact rfl)))))))
local macro_rules | `(tactic| walk_at "eval Name") => `(tactic| (k_here; with_unfolding_all refine nameX_L (by k_asm) (by assumption) ?_))
section
variable {w : World} {dp un : Nat} {gd : Option (List Code)} {cn : Str} {cs : Scope} {a : Addr} {ccd : Value} {cl : List (Str × Addr)} {outer : List Env} {A₀ : Around} {base g : Heap} {L Lc : Addr} {s : Shared} {mean : ExcName → Option Value} {mg mb : Str → Option Value} {loose : List Str}
theorem skipT {Qx : Flow → Shared → Prop} {E : Value → Shared → Prop} {R : Shared → Prop} {p : Value} {kw parts month txt : Value} {news : List (Addr × Obj)}
    (B : Below (ktrTop dp un gd cn cs Lc a ccd cl outer) base (envX cn cs Lc a ccd cl :: outer) g) (F : Fr g L s.heap (mP p (mS kw parts .none month txt))) (X : (Mine.hd.heap_39 w.params).In g) (N : News g L s.heap news) (T : Top Mine.hd.view_39 loose mean mg mb g) (k : R s) :
    wpAny (model Challenge.rw_eg5033_01.row.prog w) ((ktrTop dp un gd cn cs Lc a ccd cl outer).deeper (sqlEnv L)) (exec sql.S6 (sqlEnv L)) (fun fl s' => match fl with | .next => R s' | fl => Qx fl s') E s := by
  revert X
  w_top off
  k_fill
  intro X
  unfold sql.S6 pickRow
  unfold mP mS at F
  unfold sqlEnv sql.scope sql.qual sql.code pickScope pickQual pickCode
  k_steps
  exact k
theorem skipM {Qx : Flow → Shared → Prop} {E : Value → Shared → Prop} {R : Shared → Prop} {kw parts day txt : Value} {news : List (Addr × Obj)}
    (B : Below (ktrTop dp un gd cn cs Lc a ccd cl outer) base (envX cn cs Lc a ccd cl :: outer) g) (F : Fr g L s.heap (mS kw parts day .none txt)) (X : (Mine.hd.heap_39 w.params).In g) (N : News g L s.heap news) (T : Top Mine.hd.view_39 loose mean mg mb g) (k : R s) :
    wpAny (model Challenge.rw_eg5033_01.row.prog w) ((ktrTop dp un gd cn cs Lc a ccd cl outer).deeper (sqlEnv L)) (exec sql.S5 (sqlEnv L)) (fun fl s' => match fl with | .next => R s' | fl => Qx fl s') E s := by
  revert X
  k_fill
  intro X
  unfold sql.S5 pickRow
  unfold mS at F
  unfold sqlEnv sql.scope sql.qual sql.code pickScope pickQual pickCode
  k_steps
  exact k
theorem segR {Q : Flow → Shared → Prop} {E : Value → Shared → Prop} {kd : Addr} {o : Obj} {kvs : List (Str × Value)} {m' : Str → Option Value}
    (B : Below ((ktrTop dp un gd cn cs Lc a ccd cl outer)) base (envX cn cs Lc a ccd cl :: outer) g) (F : Fr g L s.heap m') (X : (Mine.hd.heap_39 w.params).In g) (N : News g L s.heap [(kd, o)]) (T : Top Mine.hd.view_39 loose mean mg mb g) (hd : dp + 7 < recursionLimit)
    (hm1 : m' "cls" = some (.ref 108)) (hm2 : m' "kwargs" = some (.ref kd)) (hks : (kd == sysModules) = false) (hob : o.IsDictOf (PySem.strKind Challenge.rw_eg5033_01.row.prog w) kvs) (hsz : kvs.length ≤ sizeLine)
    (hmk : ∀ kv ∈ kvs, kv.1 ∈ FIELDS) (hmn : (kvs.map (·.1)).Nodup)
    (k : ∀ x dx gv t0 t1 t2 t3 t4 t5 t6 t7 t8 t9 t10 n h' tk, (∀ f, (kvs.lookup f).getD Value.none = gv f) → Fr g L h' m' → News g L h' ((x, instObj 108 dx) :: (dx, fdict w gv t0 t1 t2 t3 t4 t5 t6 t7 t8 t9 t10 n) :: [(kd, o)]) → dx < x → Q (.ret (.ref x)) { s with heap := h', toks := tk }) :
    wpAny (model Challenge.rw_eg5033_01.row.prog w) ((ktrTop dp un gd cn cs Lc a ccd cl outer).deeper (sqlEnv L)) (exec sql.S7 (sqlEnv L)) Q E s := by
  revert X
  k_fill
  intro X
  unfold sql.S7 pickRow
  unfold sqlEnv sql.scope sql.qual sql.code pickScope pickQual pickCode
  k_steps
  (with_reducible rename Fr _ _ _ _ => kF)
  (with_reducible rename News _ _ _ _ => kN)
  k_dflt (refine make_spec w B kF X kN T ?_ (by ktr_room) hmk hmn ?_)
  · exact rfl
  · intro x dx gv t0 t1 t2 t3 t4 t5 t6 t7 t8 t9 t10 n h' tk hg F' N' _ l2
    exact k x dx gv t0 t1 t2 t3 t4 t5 t6 t7 t8 t9 t10 n h' tk hg F' N' l2
end

theorem kv_mon {a b : Value} : stored (stored ([] : List (Str × Value)) "years" a) "months" b = [((("years" : Str)), a), ("months", b)] := by with_unfolding_all rfl
theorem kv_day {a b c d : Value} : stored (stored (stored (stored ([] : List (Str × Value)) "days" a) "hours" b) "minutes" c) "seconds" d = [((("days" : Str)), a), ("hours", b), ("minutes", c), ("seconds", d)] := by with_unfolding_all rfl
theorem kv_all {x y a b c d : Value} : stored (stored (stored (stored [((("years" : Str)), x), ("months", y)] "days" a) "hours" b) "minutes" c) "seconds" d = [((("years" : Str)), x), ("months", y), ("days", a), ("hours", b), ("minutes", c), ("seconds", d)] := by with_unfolding_all rfl
theorem DLen.two (h : DLen [] 0) : DLen [] 2 := h.mono (by decide)
theorem DLen.two2 {a b : Str × Value} : DLen [a, b] 2 := Nat.le_refl 2
local macro_rules | `(tactic| walk_at "mine_k_keys9") => `(tactic| (simp only [List.forall_mem_cons]; decide))
local macro_rules | `(tactic| walk_at "mine_k_nd9") => `(tactic| (simp only [List.map_cons, List.map_nil]; decide))

local macro_rules | `(tactic| walk_at "mine_c_enter") => `(tactic| (refine' code_defCF ?k1 ?k2 ?k3 ?k5 ?kA ?kF ?kK ?k6 ?k7 ?k8 ?k9 ?kB ?kD ?_ ?c2 ?c3 ?c4; (case kA => exact rfl); (case kF => exact rfl); (case kK => assumption); (case k1 => k_asm); (case k2 => k_asm); (case k3 => k_asm); (case k5 => k_asm); (case k6 => k_is); (case k7 => k_is); (case k8 => ktr_room); (case k9 => exact BindsTo.of_eq rfl); (case kB => exact rfl); (case kD => decide +kernel); (case c2 => exact rfl); (case c3 => exact rfl); (case c4 => exact rfl); k_whole))

section
variable {w : World} {dp un : Nat} {gd : Option (List Code)} {cn : Str} {cs : Scope} {a : Addr} {ccd : Value} {cl : List (Str × Addr)} {outer : List Env} {A₀ : Around} {base h₀ : Heap} {L : Addr} {s : Shared} {mean : ExcName → Option Value} {mg mb : Str → Option Value} {loose : List Str} {m : Str → Option Value}
theorem sql_goodK {Q E : Value → Shared → Prop} {text : Str} {ds : List (Option Int)} {t : Tok}
    (B : Below A₀ base outer h₀) (F : Fr h₀ L s.heap m) (X : (Mine.hd.heap_39 w.params).In h₀) (T : Top Mine.hd.view_39 loose mean mg mb h₀) (hk : cs.kind = .function) (hd : dp + 9 < recursionLimit) (G : Good text ds)
    (ret : ∀ x dx gv t0 t1 t2 t3 t4 t5 t6 t7 t8 t9 t10 n h' tk, CarriedAll (FIELDS.map gv) (ds.map toPy) → h'.get? x = some (instObj 108 dx) → h'.get? dx = some (fdict w gv t0 t1 t2 t3 t4 t5 t6 t7 t8 t9 t10 n) → s.heap.get? x = none → s.heap.get? dx = none → @LT.lt Nat _ dx x →
      (∀ b o, s.heap.get? b = some o → h'.get? b = some o) → Q (.ref x) { s with heap := h', toks := tk }) :
    codeAny (model Challenge.rw_eg5033_01.row.prog w) (ktrTop dp un gd cn cs L a ccd cl outer) (.call (.ref 51) ⟨[.ref 108, .str text t], []⟩) (fun r s' => match r with | .ok (.ret v) => Q v s' | .ok _ => False | .error e => E e s') s := by
  revert X
  k_fill
  intro X
  k_dflt (walk_at "mine_c_enter")
  intro L' h₁ tk cells F' N' Y' B' X' T'
  k_cells Y'
  dsimp only
  have F1 : Fr s.heap L' h₁ (mS0 (.str text t)) := fr_congr F' fun y => by
    unfold mS0
    by_cases h1 : y = "interval_str"
    · subst h1; with_unfolding_all rfl
    by_cases h2 : y = "cls"
    · subst h2; with_unfolding_all rfl
    have e1 : (sqlEnv L').kindOf "cls" = some .local := by with_unfolding_all rfl
    have e2 : (sqlEnv L').kindOf "interval_str" = some .local := by with_unfolding_all rfl
    show bindL (sqlEnv L').kindOf [("cls", .ref 108), ("interval_str", .str text t)] (fun _ => none) y = _
    simp only [bindL, e1, e2, if_true, if_neg h1, if_neg h2]
  cases G with
  | mon hsg hsp hla hlb hia hib hn h0 hl hpl hP hA hcol =>
    refine execs_split 5 ?_
    k_dflt (refine pre1 B' F1 X' N' T' (words_one hn h0) (by rw [sizeLine_eq]; omega) ?_)
    intro h2 tk2 o kd pl tf F2 N2 l1 l2 hks hob
    k_dflt (refine wpAny_execs_cons (segM B' F2 X' (news_three N2 (by k_mem) (by k_mem) (by k_mem)) T' (by assumption) hob l1 l2 hks hsg hsp hl (by rw [sizeLine_eq]; omega) hla hlb hia hib ?_))
    intro h3 tk3 o3 oc3 tp ts ty tm F3 N3 hco3 hob3
    rw [kv_mon] at hob3
    k_dflt (refine wpAny_execs_cons (skipT B' F3 X' N3 T' ?_))
    k_dflt (refine wpAny_execs_cons (segR B' F3 X' (news_one N3 (by k_mem)) T' (by omega) (by with_unfolding_all rfl) (by with_unfolding_all rfl) hks hob3 (by rw [sizeLine_eq]; exact Nat.le_of_ble_eq_true rfl) (by (walk_at "mine_k_keys9")) (by (walk_at "mine_k_nd9")) ?_))
    intro x dx gv t0 t1 t2 t3 t4 t5 t6 t7 t8 t9 t10 n h4 tk4 hg F4 N4 l3
    have c : ∀ f, gv f = (List.lookup f _).getD .none := fun f => (hg f).symm
    refine ret x dx gv t0 t1 t2 t3 t4 t5 t6 t7 t8 t9 t10 n h4 tk4 ?_ (N4 _ (.head _)).1 (N4 _ (.tail _ (.head _))).1 (N4 _ (.head _)).2.2 (N4 _ (.tail _ (.head _))).2.2 l3 F4.keep
    simp only [FIELDS, List.map_cons, List.map_nil, c]
    with_unfolding_all (repeat (first | exact CarriedAll.nil | exact CarriedAll.cons Carried.none CarriedAll.nil | refine CarriedAll.cons Carried.none ?_ | refine CarriedAll.cons (Carried.int _ _) ?_))
  | day hld hid hnd hd0 hsg hsp hla hlb hlc hia hib hic hn h0 hl hpl hP hA hal =>
    refine execs_split 5 ?_
    k_dflt (refine pre2 B' F1 X' N' T' (words_two hnd hd0 hn h0) (by rw [sizeLine_eq]; rw [PySem.Str.length_append, PySem.Str.length_append]; have : ((" " : Str)).length = 1 := (by decide); omega) ?_)
    intro h2 tk2 o kd pl td tu F2 N2 l1 l2 hks hob
    k_dflt (refine wpAny_execs_cons (skipM B' F2 X' N2 T' ?_))
    have F2' := fr_congr (m' := mPo none (mS (.ref kd) (.ref pl) (.ref pl) .none _)) F2 fun y => by
      unfold mPo
      by_cases h1 : y = "p"
      · subst h1; with_unfolding_all rfl
      · rw [if_neg h1]
    k_dflt (refine wpAny_execs_cons (segT B' F2' X' N2 T' (by assumption) hob DLen.nil.two l1 l2 hks hld hid hsg hsp hl (by rw [sizeLine_eq]; omega) hla hlb hlc hia hib hic ?_))
    intro h3 tk3 o3 m' u0 u1 u2 u3 F3 m1 m2 N3 hob3
    rw [kv_day] at hob3
    k_dflt (refine wpAny_execs_cons (segR B' F3 X' N3 T' (by omega) m1 m2 hks hob3 (by rw [sizeLine_eq]; exact Nat.le_of_ble_eq_true rfl) (by (walk_at "mine_k_keys9")) (by (walk_at "mine_k_nd9")) ?_))
    intro x dx gv t0 t1 t2 t3 t4 t5 t6 t7 t8 t9 t10 n h4 tk4 hg F4 N4 l3
    have c : ∀ f, gv f = (List.lookup f _).getD .none := fun f => (hg f).symm
    refine ret x dx gv t0 t1 t2 t3 t4 t5 t6 t7 t8 t9 t10 n h4 tk4 ?_ (N4 _ (.head _)).1 (N4 _ (.tail _ (.head _))).1 (N4 _ (.head _)).2.2 (N4 _ (.tail _ (.head _))).2.2 l3 F4.keep
    simp only [FIELDS, List.map_cons, List.map_nil, c]
    with_unfolding_all (repeat (first | exact CarriedAll.nil | exact CarriedAll.cons Carried.none CarriedAll.nil | refine CarriedAll.cons Carried.none ?_ | refine CarriedAll.cons (Carried.int _ _) ?_))
  | all hsg' hsp' hla' hlb' hia' hib' hn' h0' hl' hpl' hld hid hnd hd0 hsg hsp hla hlb hlc hia hib hic hn h0 hl hpl hP hA hal =>
    refine execs_split 5 ?_
    k_dflt (refine pre3 B' F1 X' N' T' (words_three hn' h0' hnd hd0 hn h0) (by rw [sizeLine_eq]; rw [PySem.Str.length_append, PySem.Str.length_append, PySem.Str.length_append, PySem.Str.length_append]; have : ((" " : Str)).length = 1 := (by decide); omega) ?_)
    intro h2 tk2 o kd pl ql tf td tu F2 N2 l1 l2 l2' hks hob
    k_dflt (refine wpAny_execs_cons (segM B' F2 X' (news_three N2 (by k_mem) (by k_mem) (by k_mem)) T' (by assumption) hob (by omega) l2' hks hsg' hsp' hl' (by rw [sizeLine_eq]; omega) hla' hlb' hia' hib' ?_))
    intro h3 tk3 o3 oc3 tp ts ty tm F3 N3 hco3 hob3
    rw [kv_mon] at hob3
    k_dflt (refine wpAny_execs_cons (segT B' (pv := some _) F3 X' N3 T' hco3 hob3 DLen.two2 (by omega) l2' hks hld hid hsg hsp hl (by rw [sizeLine_eq]; omega) hla hlb hlc hia hib hic ?_))
    intro h5 tk5 o5 m' u0 u1 u2 u3 F5 m1 m2 N5 hob5
    rw [kv_all] at hob5
    k_dflt (refine wpAny_execs_cons (segR B' F5 X' N5 T' (by omega) m1 m2 hks hob5 (by rw [sizeLine_eq]; exact Nat.le_of_ble_eq_true rfl) (by (walk_at "mine_k_keys9")) (by (walk_at "mine_k_nd9")) ?_))
    intro x dx gv t0 t1 t2 t3 t4 t5 t6 t7 t8 t9 t10 n h4 tk4 hg F4 N4 l3
    have c : ∀ f, gv f = (List.lookup f _).getD .none := fun f => (hg f).symm
    refine ret x dx gv t0 t1 t2 t3 t4 t5 t6 t7 t8 t9 t10 n h4 tk4 ?_ (N4 _ (.head _)).1 (N4 _ (.tail _ (.head _))).1 (N4 _ (.head _)).2.2 (N4 _ (.tail _ (.head _))).2.2 l3 F4.keep
    simp only [FIELDS, List.map_cons, List.map_nil, c]
    with_unfolding_all (repeat (first | exact CarriedAll.nil | exact CarriedAll.cons Carried.none CarriedAll.nil | refine CarriedAll.cons Carried.none ?_ | refine CarriedAll.cons (Carried.int _ _) ?_))
end
end
local macro_rules | `(tactic| walk_at "mine_pad_S4_0") => `(tactic| skip)
local macro_rules | `(tactic| walk_at "mine_pad_S4_1") => `(tactic| skip)
local macro_rules | `(tactic| walk_at "mine_pad_S4_2") => `(tactic| skip)
local macro_rules | `(tactic| walk_at "mine_pad_S4_3") => `(tactic| skip)
local macro_rules | `(tactic| walk_at "mine_pad_S4_4") => `(tactic| skip)
local macro_rules | `(tactic| walk_at "mine_pad_S4_5") => `(tactic| skip)

/-! N1 -/
local macro_rules | `(tactic| walk_at "mine_f_enter") => `(tactic| (refine' code_defF ?k1 ?k2 ?k3 ?k4 ?k5 ?kA ?kF ?kK ?k6 ?k7 ?k8 ?k9 ?kB ?_ ?c2 ?c3 ?c4 ?c5; (case kA => exact rfl); (case kF => exact rfl); (case kK => assumption); (case k1 => k_asm); (case k2 => k_asm); (case k3 => k_asm); (case k4 => assumption); (case k5 => k_asm); (case k6 => k_is); (case k7 => k_is); (case k8 => ktr_room); (case k9 => exact BindsTo.of_eq rfl); (case c5 => decide); (case kB => exact locs rfl); (case c2 => exact rfl); (case c3 => exact rfl); (case c4 => exact rfl); k_whole))

theorem next_spec (w : World) {dp un : Nat} {gd : Option (List Code)} {cn : Str} {cs : Scope} {a : Addr} {ccd : Value} {cl : List (Str × Addr)} {outer : List Env} {A₀ : Around} {base h₀ : Heap} {L : Addr} {m : Str → Option Value} {s : Shared} {mean : ExcName → Option Value} {mg mb : Str → Option Value} {loose : List Str}
    {Q E : Value → Shared → Prop} {st sc : Addr} {vs : List Value} {ns : List Int} {c limit : Int} {t tl : Tok} {n : Nat}
    (B : Below A₀ base outer h₀) (F : Fr h₀ L s.heap m) (X : (Mine.hd.heap_39 w.params).In h₀) (N : News h₀ L s.heap [(st, listOf #[.ref sc, .int c t] n)]) (T : Top Mine.hd.view_39 loose mean mg mb h₀) (hk : cs.kind = .function) (hd : dp + 3 < recursionLimit)
    (hsc : s.heap.IsList sc vs.toArray) (hne : sc ≠ st) (hvs : IntsAre vs ns) (hlen : ns.length ≤ 63) (hc : 0 ≤ c) (h0 : 0 < limit) (h1 : limit ≤ 60)
    (ret : ∀ r tr c' t' n' h' tk, 0 ≤ r → r < limit → 0 ≤ c' → h'.get? st = some (listOf #[.ref sc, .int c' t'] n') → (∀ b o, b ≠ st → s.heap.get? b = some o → h'.get? b = some o) → Q (.int r tr) { s with heap := h', toks := tk }) :
    wpAny (model Challenge.rw_eg5033_01.row.prog w) (ktrTop dp un gd cn cs L a ccd cl outer) (call (.ref 119) [.ref st, .int limit tl]) Q E s := by
  revert X
  w_top off
  k_fill
  intro X
  refine wpAny_call ?_
  k_dflt (walk_at "mine_f_enter")
  intro g' L' h' hg' F' N' B' X' T' l1'
  (try dsimp only)
  (try k_fold)
  k_lt l1'
  have hsc' : g'.IsList sc vs.toArray := by
    obtain ⟨o, ho, r⟩ := hsc
    exact ⟨o, hg' _ _ (by simpa using hne) ho, r⟩
  have hg2 : ∀ b o, b ≠ st → s.heap.get? b = some o → g'.get? b = some o := fun b o hb e => hg' b o (by simpa using hb) e
  clear hsc hg'
  k_steps
  all_goals (with_reducible rename Fr _ _ _ _ => kF)
  all_goals (with_reducible rename News _ _ _ _ => kN)
  all_goals refine ret _ _ _ _ _ _ _ ?_ ?_ ?_ (kN _ (.head _)).1 (fun b o hb e => kF.keep _ _ (hg2 b o hb e))
  all_goals first | omega | exact Int.emod_nonneg _ (by omega) | exact Int.emod_lt_of_pos _ h0 | exact Int.fmod_nonneg_of_pos _ h0 | exact Int.fmod_lt_of_pos _ h0 | skip

/-! F1 -/
section

local macro_rules | `(tactic| walk_at "call builtin:str.split") => `(tactic| (k_here; (with_reducible show wpAny _ _ (call (Value.builtin "str.split") _) _ _ _); first
  | (refine KSpl.split0 (by k_asm) (by k_asm) ?_ (by assumption); intro D' l' h' k' e' a' F' N' l1; (try k_lt l1); rw [‹Txt.words _ = _›] at e'; (kspl_open e'); (simp only [strValues, List.map_cons, List.map_nil] at N' a'); (try ((first | with_reducible refine clean_any ?hs9 ?_ | with_reducible refine clean_leaveK ?hs9 ?_); (case hs9 => (dsimp only; exact rfl)))))))
local macro_rules | `(tactic| walk_at "call builtin:str.startswith") => `(tactic| (k_here; refine SC.startswith ?_; rw [‹Txt.startswith _ _ = _›]))
local macro_rules | `(tactic| walk_at "subscriptTail") => `(tactic| (k_here; (with_reducible show wpAny _ _ (subscriptTail _ _ (Value.str _ _) (Value.int _ _)) _ _ _); (refine KXi.item (n := _) rfl (by omega) (by omega) (by omega) ?_); intro _))
theorem in_strT {prog : Program} {w : World} {A : Around} {E : Value → Shared → Prop} {s : Shared} {Q : Value → Shared → Prop} {x y : Str} {t u : Tok} {b : Bool} (hc : Txt.contains x y = b) (h : Q (.bool b) s) : wpAny (model prog w) A (compareOp .In (.str y u) (.str x t)) Q E s :=
  PyProof.Rows.in_str (by subst hc; exact h)
local macro_rules | `(tactic| walk_at "compareOp In str str") => `(tactic| (k_here; refine in_strT (by with_reducible assumption) ?_))
local macro_rules | `(tactic| walk_at "call builtin:str.isalpha") => `(tactic| (k_here; (refine KXw.isalpha (by with_reducible assumption) ?_)))
theorem none_of_keeps {h h' : Heap} {b : Addr} (k : ∀ b o, h.get? b = some o → h'.get? b = some o) (e : h'.get? b = none) : h.get? b = none := by
  cases q : h.get? b with
  | none => rfl
  | some o => rw [k _ _ q] at e; cases e
section
variable {w : World} {dp un : Nat} {gd : Option (List Code)} {cn : Str} {cs : Scope} {a : Addr} {ccd : Value} {cl : List (Str × Addr)} {outer : List Env} {A₀ : Around} {base h₀ : Heap} {L : Addr} {s : Shared} {mean : ExcName → Option Value} {mg mb : Str → Option Value} {loose : List Str} {m : Str → Option Value}
theorem fstr_goodK {Q E : Value → Shared → Prop} {text : Str} {ds : List (Option Int)} {t : Tok}
    (B : Below A₀ base outer h₀) (F : Fr h₀ L s.heap m) (X : (Mine.hd.heap_39 w.params).In h₀) (T : Top Mine.hd.view_39 loose mean mg mb h₀) (hk : cs.kind = .function) (hd : dp + 11 < recursionLimit) (G : Good text ds)
    (ret : ∀ x dx gv t0 t1 t2 t3 t4 t5 t6 t7 t8 t9 t10 n h' tk, CarriedAll (FIELDS.map gv) (ds.map toPy) → h'.get? x = some (instObj 108 dx) → h'.get? dx = some (fdict w gv t0 t1 t2 t3 t4 t5 t6 t7 t8 t9 t10 n) → s.heap.get? x = none → s.heap.get? dx = none → @LT.lt Nat _ dx x →
      (∀ b o, s.heap.get? b = some o → h'.get? b = some o) → Q (.ref x) { s with heap := h', toks := tk }) :
    codeAny (model Challenge.rw_eg5033_01.row.prog w) (ktrTop dp un gd cn cs L a ccd cl outer) (.call (.ref 61) ⟨[.ref 108, .str text t], []⟩) (fun r s' => match r with | .ok (.ret v) => Q v s' | .ok _ => False | .error e => E e s') s := by
  have N : News h₀ L s.heap [] := News.nil
  revert X
  w_top off
  k_fill
  intro X
  k_dflt (walk_at "mine_f_enter")
  intro g' L' h' hg' F' N' B' X' T' l1'
  dsimp only at F' ⊢
  (try k_fold)
  have fin : ∀ (s₂ : Shared) (mt : Str → Option Value) (news : List (Addr × Obj)) (q : Addr) (Qr Er : Value → Shared → Prop), (∃ hh tk, s₂ = { s with heap := hh, toks := tk }) → Fr g' L' s₂.heap mt → News g' L' s₂.heap news → (q, methodObj (.ref 51) (.ref 108)) ∈ news →
      (∀ v s', Q v s' → Qr v s') →
      wpAny (model Challenge.rw_eg5033_01.row.prog w) ((ktrTop dp un gd cn cs L a ccd cl outer).deeper (envOf fstr.qual fstr.scope L' 61 fstr.code)) (call (.ref q) [.str text t]) Qr Er s₂ := by
    rintro s₂ mt news q Qr Er ⟨hh, tk, rfl⟩ F₂ N₂ hq hQ
    refine call_meth N₂ hq ?_
    k_dflt (refine sql_goodK B' F₂ X' T' ?_ (by ktr_room) G ?_)
    · exact rfl
    intro x dx gv t0 t1 t2 t3 t4 t5 t6 t7 t8 t9 t10 n h3 tk3 hc e1 e2 n1 n2 l k3
    refine hQ _ _ (ret x dx gv t0 t1 t2 t3 t4 t5 t6 t7 t8 t9 t10 n h3 tk3 hc e1 e2 ?_ ?_ l ?_)
    · exact none_of_keeps (fun b o e => F₂.keep _ _ (hg' b o (by simp) e)) n1
    · exact none_of_keeps (fun b o e => F₂.keep _ _ (hg' b o (by simp) e)) n2
    · exact fun b o e => k3 _ _ (F₂.keep _ _ (hg' b o (by simp) e))
  clear N F
  cases G with
  | mon hsg hsp hla hlb hia hib hn h0 hl hpl hP hA hcol =>
    have hw := words_one hn h0
    have hsz : text.length + 2 ≤ sizeLine := by rw [sizeLine_eq]; omega
    k_steps
    (with_reducible rename Fr _ _ _ _ => kF)
    (with_reducible rename News _ _ _ _ => kN)
    exact fin _ _ _ _ _ _ ⟨_, _, rfl⟩ kF kN (by k_mem) (fun v s' h => h)
  | @day d u p a b c neg n x y z hld hid hnd hd0 hsg hsp hla hlb hlc hia hib hic hn h0 hl hpl hP hA hal =>
    have hw := words_two hnd hd0 hn h0
    have hl2 : ((" " : Str)).length = 1 := by decide
    have hsz : (d ++ " " ++ u).length + 2 ≤ sizeLine := by rw [sizeLine_eq, PySem.Str.length_append, PySem.Str.length_append]; omega
    generalize d ++ " " ++ u = text at hw hP hA hsz fin ret F' ⊢
    k_steps
    (with_reducible rename Fr _ _ _ _ => kF)
    (with_reducible rename News _ _ _ _ => kN)
    exact fin _ _ _ _ _ _ ⟨_, _, rfl⟩ kF kN (by k_mem) (fun v s' h => h)
  | @all f q a' b' d u p a b c neg neg' y' m' n x y z hsg' hsp' hla' hlb' hia' hib' hn' h0' hl' hpl' hld hid hnd hd0 hsg hsp hla hlb hlc hia hib hic hn h0 hl hpl hP hA hal =>
    have hw := words_three hn' h0' hnd hd0 hn h0
    have hl2 : ((" " : Str)).length = 1 := by decide
    have hsz : (f ++ " " ++ d ++ " " ++ u).length + 2 ≤ sizeLine := by rw [sizeLine_eq, PySem.Str.length_append, PySem.Str.length_append, PySem.Str.length_append, PySem.Str.length_append]; omega
    generalize f ++ " " ++ d ++ " " ++ u = text at hw hP hA hsz fin ret F' ⊢
    k_steps
    (with_reducible rename Fr _ _ _ _ => kF)
    (with_reducible rename News _ _ _ _ => kN)
    exact fin _ _ _ _ _ _ ⟨_, _, rfl⟩ kF kN (by k_mem) (fun v s' h => h)
end
end
local macro_rules | `(tactic| walk_at "mine_pad_F1_0") => `(tactic| skip)
local macro_rules | `(tactic| walk_at "mine_pad_F1_1") => `(tactic| skip)
local macro_rules | `(tactic| walk_at "mine_pad_F1_2") => `(tactic| skip)
local macro_rules | `(tactic| walk_at "mine_pad_F1_3") => `(tactic| skip)
local macro_rules | `(tactic| walk_at "mine_pad_F1_4") => `(tactic| skip)
local macro_rules | `(tactic| walk_at "mine_pad_F1_5") => `(tactic| skip)

/-! B1 -/
section

local macro_rules | `(tactic| walk_at "call builtin:str.split") => `(tactic| (k_here; (with_reducible show wpAny _ _ (call (Value.builtin "str.split") _) _ _ _); first
  | (refine KSpl.split0 (by k_asm) (by k_asm) ?_ (by assumption); intro D' l' h' k' e' a' F' N' l1; (try k_lt l1); rw [‹Txt.words _ = _›] at e'; (kspl_open e'); (simp only [strValues, List.map_cons, List.map_nil] at N' a'); (try ((first | with_reducible refine clean_any ?hs9 ?_ | with_reducible refine clean_leaveK ?hs9 ?_); (case hs9 => (dsimp only; exact rfl)))))
  | (refine KSpl.split1 (by k_asm) (by k_asm) (by decide) ?_ (by assumption); intro D' l' h' k' e' a' F' N' l1; (try k_lt l1); rw [‹Txt.split _ _ = _›] at e'; (kspl_open e'); (simp only [strValues, List.map_cons, List.map_nil] at N' a'); (try ((first | with_reducible refine clean_any ?hs9 ?_ | with_reducible refine clean_leaveK ?hs9 ?_); (case hs9 => (dsimp only; exact rfl)))))))
local macro_rules | `(tactic| walk_at "call builtin:str.startswith") => `(tactic| (k_here; refine SC.startswith ?_; rw [‹Txt.startswith _ _ = _›]))
theorem kept_type {M : Model} {T : String} {h : Heap} : Kept M (.type T) h := ⟨.machine, .inr (.inl rfl), .now⟩
section
variable {w : World} {dp un : Nat} {gd : Option (List Code)} {cn : Str} {cs : Scope} {a : Addr} {ccd : Value} {cl : List (Str × Addr)} {outer : List Env} {A₀ : Around} {base g : Heap} {L Lc : Addr} {s : Shared} {mean : ExcName → Option Value} {mg mb : Str → Option Value} {loose : List Str}
theorem segM_b1 {E : Value → Shared → Prop} {f p pa : Str} {tf : Tok} {kd dl : Addr} {o oc lo : Obj} {v₀ : Option Value} {parts day txt : Value} {neg : Bool} {ya : Int}
    (B : Below (ktrTop dp un gd cn cs Lc a ccd cl outer) base (envX cn cs Lc a ccd cl :: outer) g) (F : Fr g L s.heap (mS (.ref kd) parts day (.str f tf) txt)) (X : (Mine.hd.heap_39 w.params).In g) (N : News g L s.heap [(kd, o), (dl, lo), (L + 1, oc)]) (T : Top Mine.hd.view_39 loose mean mg mb g)
    (hco : oc.data = .cell v₀) (hl1 : @LT.lt Nat _ (L + 1) dl) (hl2 : @LT.lt Nat _ dl kd)
    (hsg : Signed f p neg) (hsp : Txt.split p "-" = [pa]) (hf : f.length ≤ 1000) (hpl : p.length + 2 ≤ sizeLine) (hla : pa.length ≤ 640) (hia : PySem.intText? pa = some ya)
    (hE : ∀ e h₁ hh tk m', Fr g L h₁ m' → Heap.NewExc h₁ hh e "ValueError" → E (.ref e) { s with heap := hh, toks := tk }) :
    wpAny (model Challenge.rw_eg5033_01.row.prog w) ((ktrTop dp un gd cn cs Lc a ccd cl outer).deeper (sqlEnv L)) (exec sql.S5 (sqlEnv L)) (fun _ _ => False) E s := by
  revert X
  w_top off
  k_fill
  intro X
  unfold sql.S5 pickRow
  unfold mS at F
  unfold sqlEnv sql.scope sql.qual sql.code pickScope pickQual pickCode
  cases neg with
  | true =>
    have h1 := hsg.starts
    have h2 : Txt.slice f (some 1) none = p := hsg.cut
    subst h2
    k_steps
    (with_reducible rename Fr _ _ _ _ => kF)
    (with_reducible rename News _ _ _ _ => kN)
    k_dflt (refine assign_bad rfl ⟨_, (kN (_, LCg.lst _) (by k_mem)).1, rfl, _, rfl⟩ ?_ ?_ ?_ ?_ fun h₁ h' tk e k9 hx => hE e h₁ h' tk _ (kF.keeps k9) hx)
    · exact (by decide : (1 : Nat) ≠ 2)
    · exact (by decide : (2 : Nat) ≤ 9)
    · exact (by decide : (1 : Nat) ≤ 9)
    · with_unfolding_all rfl
  | false =>
    have h1 := hsg.starts
    have h2 := hsg.same rfl
    subst h2
    k_steps
    (with_reducible rename Fr _ _ _ _ => kF)
    (with_reducible rename News _ _ _ _ => kN)
    k_dflt (refine assign_bad rfl ⟨_, (kN (_, LCg.lst _) (by k_mem)).1, rfl, _, rfl⟩ ?_ ?_ ?_ ?_ fun h₁ h' tk e k9 hx => hE e h₁ h' tk _ (kF.keeps k9) hx)
    · exact (by decide : (1 : Nat) ≠ 2)
    · exact (by decide : (2 : Nat) ≤ 9)
    · exact (by decide : (1 : Nat) ≤ 9)
    · with_unfolding_all rfl
theorem segM_b3 {E : Value → Shared → Prop} {f p pa pb pc : Str} {tf : Tok} {kd dl : Addr} {o oc lo : Obj} {v₀ : Option Value} {parts day txt : Value} {neg : Bool} {ya yb yc : Int}
    (B : Below (ktrTop dp un gd cn cs Lc a ccd cl outer) base (envX cn cs Lc a ccd cl :: outer) g) (F : Fr g L s.heap (mS (.ref kd) parts day (.str f tf) txt)) (X : (Mine.hd.heap_39 w.params).In g) (N : News g L s.heap [(kd, o), (dl, lo), (L + 1, oc)]) (T : Top Mine.hd.view_39 loose mean mg mb g)
    (hco : oc.data = .cell v₀) (hl1 : @LT.lt Nat _ (L + 1) dl) (hl2 : @LT.lt Nat _ dl kd)
    (hsg : Signed f p neg) (hsp : Txt.split p "-" = [pa, pb, pc]) (hf : f.length ≤ 1000) (hpl : p.length + 2 ≤ sizeLine) (hla : pa.length ≤ 640) (hia : PySem.intText? pa = some ya) (hlb : pb.length ≤ 640) (hib : PySem.intText? pb = some yb) (hlc : pc.length ≤ 640) (hic : PySem.intText? pc = some yc)
    (hE : ∀ e h₁ hh tk m', Fr g L h₁ m' → Heap.NewExc h₁ hh e "ValueError" → E (.ref e) { s with heap := hh, toks := tk }) :
    wpAny (model Challenge.rw_eg5033_01.row.prog w) ((ktrTop dp un gd cn cs Lc a ccd cl outer).deeper (sqlEnv L)) (exec sql.S5 (sqlEnv L)) (fun _ _ => False) E s := by
  revert X
  k_fill
  intro X
  unfold sql.S5 pickRow
  unfold mS at F
  unfold sqlEnv sql.scope sql.qual sql.code pickScope pickQual pickCode
  cases neg with
  | true =>
    have h1 := hsg.starts
    have h2 : Txt.slice f (some 1) none = p := hsg.cut
    subst h2
    k_steps
    (with_reducible rename Fr _ _ _ _ => kF)
    (with_reducible rename News _ _ _ _ => kN)
    k_dflt (refine assign_bad rfl ⟨_, (kN (_, LCg.lst _) (by k_mem)).1, rfl, _, rfl⟩ ?_ ?_ ?_ ?_ fun h₁ h' tk e k9 hx => hE e h₁ h' tk _ (kF.keeps k9) hx)
    · exact (by decide : (3 : Nat) ≠ 2)
    · exact (by decide : (2 : Nat) ≤ 9)
    · exact (by decide : (3 : Nat) ≤ 9)
    · with_unfolding_all rfl
  | false =>
    have h1 := hsg.starts
    have h2 := hsg.same rfl
    subst h2
    k_steps
    (with_reducible rename Fr _ _ _ _ => kF)
    (with_reducible rename News _ _ _ _ => kN)
    k_dflt (refine assign_bad rfl ⟨_, (kN (_, LCg.lst _) (by k_mem)).1, rfl, _, rfl⟩ ?_ ?_ ?_ ?_ fun h₁ h' tk e k9 hx => hE e h₁ h' tk _ (kF.keeps k9) hx)
    · exact (by decide : (3 : Nat) ≠ 2)
    · exact (by decide : (2 : Nat) ≤ 9)
    · exact (by decide : (3 : Nat) ≤ 9)
    · with_unfolding_all rfl
end
end
local macro_rules | `(tactic| walk_at "mine_pad_B1_0") => `(tactic| skip)
local macro_rules | `(tactic| walk_at "mine_pad_B1_1") => `(tactic| skip)
local macro_rules | `(tactic| walk_at "mine_pad_B1_2") => `(tactic| skip)

/-! B2 -/
section

local macro_rules | `(tactic| walk_at "call builtin:str.split") => `(tactic| (k_here; (with_reducible show wpAny _ _ (call (Value.builtin "str.split") _) _ _ _); first
  | (refine KSpl.split0 (by k_asm) (by k_asm) ?_ (by assumption); intro D' l' h' k' e' a' F' N' l1; (try k_lt l1); rw [‹Txt.words _ = _›] at e'; (kspl_open e'); (simp only [strValues, List.map_cons, List.map_nil] at N' a'); (try ((first | with_reducible refine clean_any ?hs9 ?_ | with_reducible refine clean_leaveK ?hs9 ?_); (case hs9 => (dsimp only; exact rfl)))))
  | (refine KSpl.split1 (by k_asm) (by k_asm) (by decide) ?_ (by assumption); intro D' l' h' k' e' a' F' N' l1; (try k_lt l1); rw [‹Txt.split _ _ = _›] at e'; (kspl_open e'); (simp only [strValues, List.map_cons, List.map_nil] at N' a'); (try ((first | with_reducible refine clean_any ?hs9 ?_ | with_reducible refine clean_leaveK ?hs9 ?_); (case hs9 => (dsimp only; exact rfl)))))))
local macro_rules | `(tactic| walk_at "call builtin:str.startswith") => `(tactic| (k_here; refine SC.startswith ?_; rw [‹Txt.startswith _ _ = _›]))
section
variable {w : World} {dp un : Nat} {gd : Option (List Code)} {cn : Str} {cs : Scope} {a : Addr} {ccd : Value} {cl : List (Str × Addr)} {outer : List Env} {A₀ : Around} {base g : Heap} {L Lc : Addr} {s : Shared} {mean : ExcName → Option Value} {mg mb : Str → Option Value} {loose : List Str}
theorem segM_br {Rr : Result → Shared → Prop} {Q : Flow → Shared → Prop} {f p pa pb : Str} {tf : Tok} {kd dl : Addr} {o oc lo : Obj} {v₀ : Option Value} {parts day txt : Value} {neg : Bool} {ya : Int}
    (B : Below (ktrTop dp un gd cn cs Lc a ccd cl outer) base (envX cn cs Lc a ccd cl :: outer) g) (F : Fr g L s.heap (mS (.ref kd) parts day (.str f tf) txt)) (X : (Mine.hd.heap_39 w.params).In g) (N : News g L s.heap [(kd, o), (dl, lo), (L + 1, oc)]) (T : Top Mine.hd.view_39 loose mean mg mb g)
    (hco : oc.data = .cell v₀) (hl1 : @LT.lt Nat _ (L + 1) dl) (hl2 : @LT.lt Nat _ dl kd)
    (hsg : Signed f p neg) (hsp : Txt.split p "-" = [pa, pb]) (hf : f.length ≤ 1000) (hpl : p.length + 2 ≤ sizeLine) (hla : pa.length ≤ 640) (hia : PySem.intText? pa = some ya) (hrf : Refused pb)
    (hR : ∀ e tk h', RaisedSN base g (envX cn cs Lc a ccd cl :: outer) e (.type "ValueError") [] h' → g.UpToSlots h' → Rr (.error (.ref e)) { s with heap := h', toks := tk }) :
    wpC (model Challenge.rw_eg5033_01.row.prog w) ((ktrTop dp un gd cn cs Lc a ccd cl outer).deeper (sqlEnv L)) (exec sql.S5 (sqlEnv L)) Q
      (fun e s' => wpAny (model Challenge.rw_eg5033_01.row.prog w) ((ktrTop dp un gd cn cs Lc a ccd cl outer).deeper (sqlEnv L)) (leaving (sqlEnv L) e) (fun _ s'' => Rr (.error e) s'') (fun e' s'' => Rr (.error e') s'') s') s := by
  revert X
  w_top off
  k_fill
  intro X
  unfold sql.S5 pickRow
  unfold mS at F
  unfold sqlEnv sql.scope sql.qual sql.code pickScope pickQual pickCode
  refine wpC_If (wpC_any ?_)
  k_steps
  cases neg with
  | true =>
    have h1 := hsg.starts
    have h2 : Txt.slice f (some 1) none = p := hsg.cut
    subst h2
    refine wpC_plain ?_
    k_steps
    (with_reducible rename Fr _ _ _ _ => kF)
    (with_reducible rename News _ _ _ _ => kN)
    refine wpC_execs_cons (wpC_Assign ?_)
    k_dflt (refine wpC_LC B kF rfl rfl (by with_unfolding_all rfl) (by decide) (by rfl) (by decide) (by rfl) hR ?_)
    k_steps
    (with_reducible rename Fr _ _ _ _ => kF2)
    (with_reducible rename News _ _ _ _ => kN2)
    k_dflt (refine LCSrc.mk rfl kF2 kN2 _ (fun p hp => hp) (.head _) (by with_unfolding_all exact Nat.le_of_ble_eq_true rfl) 1 (by exact (by decide : (1 : Nat) < 2)) ?_)
    intro g1
    intro v' I' oI' C' oC' D2 m' h' tk' E' hv' hC' hx' F' N' off' ne'
    with_unfolding_all lcg_open hv'
    (try simp only [LCg.Off3, and_true] at off')
    k_steps
    intro v2 I2 oI2 C2 oC2 D3 m2 h2 tk2 hv2 hC2 hx2 F2 N2 off2 ne2
    with_unfolding_all lcg_open hv2
    (try simp only [LCg.Off3, and_true] at off2)
    refine wpC_BinOp (wpC_Call_Name ?_)
    k_steps
    refine wpC_spliced_cons (wpC_any ?_)
    with_reducible rw [if_neg Bool.false_ne_true]
    k_steps
    refine wpC_spliced_nil ?_
    refine And.intro kept_type ?_
    refine int_refuse rfl hrf.1 hrf.2.1 hrf.2.2 ?_
    intro h3 tk3 e hx3
    have z2 := N2 (C2, oC2) (by k_mem)
    have z3 : h2.Ns C2 m2 := hC2.ns z2.1
    clear N2 kN kN2 kF kF2 F' N'
    refine ⟨e, h2, _, rfl, hx3, F2, (fun _ h9 => nomatch h9), z3, (fun _ h9 => (nomatch h9)), z2.2.1, z2.2.2, ?_⟩
    exact ⟨h3, tk3, rfl⟩
  | false =>
    have h1 := hsg.starts
    have h2 := hsg.same rfl
    subst h2
    refine wpC_plain ?_
    k_steps
    (with_reducible rename Fr _ _ _ _ => kF)
    (with_reducible rename News _ _ _ _ => kN)
    refine wpC_execs_cons (wpC_Assign ?_)
    k_dflt (refine wpC_LC B kF rfl rfl (by with_unfolding_all rfl) (by decide) (by rfl) (by decide) (by rfl) hR ?_)
    k_steps
    (with_reducible rename Fr _ _ _ _ => kF2)
    (with_reducible rename News _ _ _ _ => kN2)
    k_dflt (refine LCSrc.mk rfl kF2 kN2 _ (fun p hp => hp) (.head _) (by with_unfolding_all exact Nat.le_of_ble_eq_true rfl) 1 (by exact (by decide : (1 : Nat) < 2)) ?_)
    intro g1
    intro v' I' oI' C' oC' D2 m' h' tk' E' hv' hC' hx' F' N' off' ne'
    with_unfolding_all lcg_open hv'
    (try simp only [LCg.Off3, and_true] at off')
    k_steps
    intro v2 I2 oI2 C2 oC2 D3 m2 h2 tk2 hv2 hC2 hx2 F2 N2 off2 ne2
    with_unfolding_all lcg_open hv2
    (try simp only [LCg.Off3, and_true] at off2)
    refine wpC_BinOp (wpC_Call_Name ?_)
    k_steps
    refine wpC_spliced_cons (wpC_any ?_)
    with_reducible rw [if_neg Bool.false_ne_true]
    k_steps
    refine wpC_spliced_nil ?_
    refine And.intro kept_type ?_
    refine int_refuse rfl hrf.1 hrf.2.1 hrf.2.2 ?_
    intro h3 tk3 e hx3
    have z2 := N2 (C2, oC2) (by k_mem)
    have z3 : h2.Ns C2 m2 := hC2.ns z2.1
    clear N2 kN kN2 kF kF2 F' N'
    refine ⟨e, h2, _, rfl, hx3, F2, (fun _ h9 => nomatch h9), z3, (fun _ h9 => (nomatch h9)), z2.2.1, z2.2.2, ?_⟩
    exact ⟨h3, tk3, rfl⟩
end
end
local macro_rules | `(tactic| walk_at "mine_pad_B2_0") => `(tactic| skip)
local macro_rules | `(tactic| walk_at "mine_pad_B2_1") => `(tactic| skip)
local macro_rules | `(tactic| walk_at "mine_pad_B2_2") => `(tactic| skip)

/-! B3 -/
section

local macro_rules | `(tactic| walk_at "call builtin:str.split") => `(tactic| (k_here; (with_reducible show wpAny _ _ (call (Value.builtin "str.split") _) _ _ _); first
  | (refine KSpl.split0 (by k_asm) (by k_asm) ?_ (by assumption); intro D' l' h' k' e' a' F' N' l1; (try k_lt l1); rw [‹Txt.words _ = _›] at e'; (kspl_open e'); (simp only [strValues, List.map_cons, List.map_nil] at N' a'); (try ((first | with_reducible refine clean_any ?hs9 ?_ | with_reducible refine clean_leaveK ?hs9 ?_); (case hs9 => (dsimp only; exact rfl)))))
  | (refine KSpl.split1 (by k_asm) (by k_asm) (by decide) ?_ (by assumption); intro D' l' h' k' e' a' F' N' l1; (try k_lt l1); rw [‹Txt.split _ _ = _›] at e'; (kspl_open e'); (simp only [strValues, List.map_cons, List.map_nil] at N' a'); (try ((first | with_reducible refine clean_any ?hs9 ?_ | with_reducible refine clean_leaveK ?hs9 ?_); (case hs9 => (dsimp only; exact rfl)))))))
local macro_rules | `(tactic| walk_at "call builtin:str.startswith") => `(tactic| (k_here; refine SC.startswith ?_; rw [‹Txt.startswith _ _ = _›]))
section
variable {w : World} {dp un : Nat} {gd : Option (List Code)} {cn : Str} {cs : Scope} {a : Addr} {ccd : Value} {cl : List (Str × Addr)} {outer : List Env} {A₀ : Around} {base g : Heap} {L Lc : Addr} {s : Shared} {mean : ExcName → Option Value} {mg mb : Str → Option Value} {loose : List Str}
theorem segT_b2 {E : Value → Shared → Prop} {d u p pa pb : Str} {td tu : Tok} {kd dl : Addr} {o oc : Obj} {v₀ pv : Option Value} {parts month txt : Value} {neg : Bool} {yd : Int} {kvs : List (Str × Value)}
    (B : Below (ktrTop dp un gd cn cs Lc a ccd cl outer) base (envX cn cs Lc a ccd cl :: outer) g) (F : Fr g L s.heap (mPo pv (mS (.ref kd) parts (.ref dl) month txt))) (X : (Mine.hd.heap_39 w.params).In g) (N : News g L s.heap [(kd, o), (dl, listOf #[.str d td, .str u tu] 0), (L + 1, oc)]) (T : Top Mine.hd.view_39 loose mean mg mb g)
    (hco : oc.data = .cell v₀) (ho : o.IsDictOf (PySem.strKind Challenge.rw_eg5033_01.row.prog w) kvs) (hkv : DLen kvs 2) (hl1 : @LT.lt Nat _ (L + 1) dl) (hl2 : @LT.lt Nat _ dl kd) (hks : (kd == sysModules) = false)
    (hld : d.length ≤ 640) (hid : PySem.intText? d = some yd)
    (hsg : Signed u p neg) (hsp : Txt.split p ":" = [pa, pb]) (hf : u.length ≤ 1000) (hpl : p.length + 2 ≤ sizeLine)
    (hE : ∀ e h₁ hh tk m', Fr g L h₁ m' → Heap.NewExc h₁ hh e "ValueError" → E (.ref e) { s with heap := hh, toks := tk }) :
    wpAny (model Challenge.rw_eg5033_01.row.prog w) ((ktrTop dp un gd cn cs Lc a ccd cl outer).deeper (sqlEnv L)) (exec sql.S6 (sqlEnv L)) (fun _ _ => False) E s := by
  revert X
  w_top off
  k_fill
  intro X
  unfold sql.S6 pickRow
  unfold mPo mS at F
  unfold sqlEnv sql.scope sql.qual sql.code pickScope pickQual pickCode
  cases neg with
  | true =>
    have h1 := hsg.starts
    have h2 : Txt.slice u (some 1) none = p := hsg.cut
    subst h2
    k_steps
    (with_reducible rename Fr _ _ _ _ => kF)
    (with_reducible rename News _ _ _ _ => kN)
    k_dflt (refine assign_bad rfl ⟨_, (kN (_, W.listOf _ 0) (by k_mem)).1, rfl, _, rfl⟩ ?_ ?_ ?_ ?_ fun h₁ h' tk e k9 hx => hE e h₁ h' tk _ (kF.keeps k9) hx)
    · exact (by decide : (2 : Nat) ≠ 3)
    · exact (by decide : (3 : Nat) ≤ 9)
    · exact (by decide : (2 : Nat) ≤ 9)
    · with_unfolding_all rfl
  | false =>
    have h1 := hsg.starts
    have h2 := hsg.same rfl
    subst h2
    k_steps
    (with_reducible rename Fr _ _ _ _ => kF)
    (with_reducible rename News _ _ _ _ => kN)
    k_dflt (refine assign_bad rfl ⟨_, (kN (_, W.listOf _ 0) (by k_mem)).1, rfl, _, rfl⟩ ?_ ?_ ?_ ?_ fun h₁ h' tk e k9 hx => hE e h₁ h' tk _ (kF.keeps k9) hx)
    · exact (by decide : (2 : Nat) ≠ 3)
    · exact (by decide : (3 : Nat) ≤ 9)
    · exact (by decide : (2 : Nat) ≤ 9)
    · with_unfolding_all rfl
theorem segT_b4 {E : Value → Shared → Prop} {d u p pa pb pc pe : Str} {td tu : Tok} {kd dl : Addr} {o oc : Obj} {v₀ pv : Option Value} {parts month txt : Value} {neg : Bool} {yd : Int} {kvs : List (Str × Value)}
    (B : Below (ktrTop dp un gd cn cs Lc a ccd cl outer) base (envX cn cs Lc a ccd cl :: outer) g) (F : Fr g L s.heap (mPo pv (mS (.ref kd) parts (.ref dl) month txt))) (X : (Mine.hd.heap_39 w.params).In g) (N : News g L s.heap [(kd, o), (dl, listOf #[.str d td, .str u tu] 0), (L + 1, oc)]) (T : Top Mine.hd.view_39 loose mean mg mb g)
    (hco : oc.data = .cell v₀) (ho : o.IsDictOf (PySem.strKind Challenge.rw_eg5033_01.row.prog w) kvs) (hkv : DLen kvs 2) (hl1 : @LT.lt Nat _ (L + 1) dl) (hl2 : @LT.lt Nat _ dl kd) (hks : (kd == sysModules) = false)
    (hld : d.length ≤ 640) (hid : PySem.intText? d = some yd)
    (hsg : Signed u p neg) (hsp : Txt.split p ":" = [pa, pb, pc, pe]) (hf : u.length ≤ 1000) (hpl : p.length + 2 ≤ sizeLine)
    (hE : ∀ e h₁ hh tk m', Fr g L h₁ m' → Heap.NewExc h₁ hh e "ValueError" → E (.ref e) { s with heap := hh, toks := tk }) :
    wpAny (model Challenge.rw_eg5033_01.row.prog w) ((ktrTop dp un gd cn cs Lc a ccd cl outer).deeper (sqlEnv L)) (exec sql.S6 (sqlEnv L)) (fun _ _ => False) E s := by
  revert X
  k_fill
  intro X
  unfold sql.S6 pickRow
  unfold mPo mS at F
  unfold sqlEnv sql.scope sql.qual sql.code pickScope pickQual pickCode
  cases neg with
  | true =>
    have h1 := hsg.starts
    have h2 : Txt.slice u (some 1) none = p := hsg.cut
    subst h2
    k_steps
    (with_reducible rename Fr _ _ _ _ => kF)
    (with_reducible rename News _ _ _ _ => kN)
    k_dflt (refine assign_bad rfl ⟨_, (kN (_, W.listOf _ 0) (by k_mem)).1, rfl, _, rfl⟩ ?_ ?_ ?_ ?_ fun h₁ h' tk e k9 hx => hE e h₁ h' tk _ (kF.keeps k9) hx)
    · exact (by decide : (4 : Nat) ≠ 3)
    · exact (by decide : (3 : Nat) ≤ 9)
    · exact (by decide : (4 : Nat) ≤ 9)
    · with_unfolding_all rfl
  | false =>
    have h1 := hsg.starts
    have h2 := hsg.same rfl
    subst h2
    k_steps
    (with_reducible rename Fr _ _ _ _ => kF)
    (with_reducible rename News _ _ _ _ => kN)
    k_dflt (refine assign_bad rfl ⟨_, (kN (_, W.listOf _ 0) (by k_mem)).1, rfl, _, rfl⟩ ?_ ?_ ?_ ?_ fun h₁ h' tk e k9 hx => hE e h₁ h' tk _ (kF.keeps k9) hx)
    · exact (by decide : (4 : Nat) ≠ 3)
    · exact (by decide : (3 : Nat) ≤ 9)
    · exact (by decide : (4 : Nat) ≤ 9)
    · with_unfolding_all rfl
end
end
local macro_rules | `(tactic| walk_at "mine_pad_B3_0") => `(tactic| skip)
local macro_rules | `(tactic| walk_at "mine_pad_B3_1") => `(tactic| skip)
local macro_rules | `(tactic| walk_at "mine_pad_B3_2") => `(tactic| skip)

/-! B4 -/
section

local macro_rules | `(tactic| walk_at "call builtin:str.split") => `(tactic| (k_here; (with_reducible show wpAny _ _ (call (Value.builtin "str.split") _) _ _ _); first
  | (refine KSpl.split0 (by k_asm) (by k_asm) ?_ (by assumption); intro D' l' h' k' e' a' F' N' l1; (try k_lt l1); rw [‹Txt.words _ = _›] at e'; (kspl_open e'); (simp only [strValues, List.map_cons, List.map_nil] at N' a'); (try ((first | with_reducible refine clean_any ?hs9 ?_ | with_reducible refine clean_leaveK ?hs9 ?_); (case hs9 => (dsimp only; exact rfl)))))
  | (refine KSpl.split1 (by k_asm) (by k_asm) (by decide) ?_ (by assumption); intro D' l' h' k' e' a' F' N' l1; (try k_lt l1); rw [‹Txt.split _ _ = _›] at e'; (kspl_open e'); (simp only [strValues, List.map_cons, List.map_nil] at N' a'); (try ((first | with_reducible refine clean_any ?hs9 ?_ | with_reducible refine clean_leaveK ?hs9 ?_); (case hs9 => (dsimp only; exact rfl)))))))
local macro_rules | `(tactic| walk_at "call builtin:str.startswith") => `(tactic| (k_here; refine SC.startswith ?_; rw [‹Txt.startswith _ _ = _›]))
section
variable {w : World} {dp un : Nat} {gd : Option (List Code)} {cn : Str} {cs : Scope} {a : Addr} {ccd : Value} {cl : List (Str × Addr)} {outer : List Env} {A₀ : Around} {base g : Heap} {L Lc : Addr} {s : Shared} {mean : ExcName → Option Value} {mg mb : Str → Option Value} {loose : List Str}
theorem segT_br {Rr : Result → Shared → Prop} {Q : Flow → Shared → Prop} {d u p pa pb pc : Str} {td tu : Tok} {kd dl : Addr} {o oc : Obj} {v₀ pv : Option Value} {parts month txt : Value} {neg : Bool} {yd ya yb : Int} {kvs : List (Str × Value)}
    (B : Below (ktrTop dp un gd cn cs Lc a ccd cl outer) base (envX cn cs Lc a ccd cl :: outer) g) (F : Fr g L s.heap (mPo pv (mS (.ref kd) parts (.ref dl) month txt))) (X : (Mine.hd.heap_39 w.params).In g) (N : News g L s.heap [(kd, o), (dl, listOf #[.str d td, .str u tu] 0), (L + 1, oc)]) (T : Top Mine.hd.view_39 loose mean mg mb g)
    (hco : oc.data = .cell v₀) (ho : o.IsDictOf (PySem.strKind Challenge.rw_eg5033_01.row.prog w) kvs) (hkv : DLen kvs 2) (hl1 : @LT.lt Nat _ (L + 1) dl) (hl2 : @LT.lt Nat _ dl kd) (hks : (kd == sysModules) = false)
    (hld : d.length ≤ 640) (hid : PySem.intText? d = some yd)
    (hsg : Signed u p neg) (hsp : Txt.split p ":" = [pa, pb, pc]) (hf : u.length ≤ 1000) (hpl : p.length + 2 ≤ sizeLine) (hla : pa.length ≤ 640) (hlb : pb.length ≤ 640) (hia : PySem.intText? pa = some ya) (hib : PySem.intText? pb = some yb) (hrf : Refused pc)
    (hR : ∀ e tk h', RaisedSN base g (envX cn cs Lc a ccd cl :: outer) e (.type "ValueError") [] h' → g.UpToSlots h' → Rr (.error (.ref e)) { s with heap := h', toks := tk }) :
    wpC (model Challenge.rw_eg5033_01.row.prog w) ((ktrTop dp un gd cn cs Lc a ccd cl outer).deeper (sqlEnv L)) (exec sql.S6 (sqlEnv L)) Q
      (fun e s' => wpAny (model Challenge.rw_eg5033_01.row.prog w) ((ktrTop dp un gd cn cs Lc a ccd cl outer).deeper (sqlEnv L)) (leaving (sqlEnv L) e) (fun _ s'' => Rr (.error e) s'') (fun e' s'' => Rr (.error e') s'') s') s := by
  revert X
  w_top off
  k_fill
  intro X
  unfold sql.S6 pickRow
  unfold mPo mS at F
  unfold sqlEnv sql.scope sql.qual sql.code pickScope pickQual pickCode
  refine wpC_If (wpC_any ?_)
  k_steps
  cases neg with
  | true =>
    have h1 := hsg.starts
    have h2 : Txt.slice u (some 1) none = p := hsg.cut
    subst h2
    refine wpC_plain ?_
    k_steps
    refine wpC_plain ?_
    k_steps
    refine wpC_plain ?_
    k_steps
    refine wpC_plain ?_
    k_steps
    refine wpC_plain ?_
    k_steps
    refine wpC_plain ?_
    k_steps
    refine wpC_execs_cons (wpC_Assign ?_)
    refine wpC_BinOp (wpC_Call_Name ?_)
    k_steps
    refine wpC_spliced_cons (wpC_any ?_)
    first | with_reducible rw [if_neg Bool.false_ne_true] | skip
    k_steps
    refine wpC_spliced_nil ?_
    refine And.intro kept_type ?_
    refine int_refuse rfl hrf.1 hrf.2.1 hrf.2.2 ?_
    intro h3 tk3 e hx3
    (with_reducible rename Fr _ _ _ _ => kF)
    refine leave_newX (news := []) B hx3 kF (fun _ h9 => nomatch h9) rfl rfl ?_
    intro h4 r4 u4
    exact hR e tk3 h4 r4 u4
  | false =>
    have h1 := hsg.starts
    have h2 := hsg.same rfl
    subst h2
    refine wpC_plain ?_
    k_steps
    refine wpC_plain ?_
    k_steps
    refine wpC_plain ?_
    k_steps
    refine wpC_plain ?_
    k_steps
    refine wpC_plain ?_
    k_steps
    refine wpC_plain ?_
    k_steps
    refine wpC_execs_cons (wpC_Assign ?_)
    refine wpC_BinOp (wpC_Call_Name ?_)
    k_steps
    refine wpC_spliced_cons (wpC_any ?_)
    first | with_reducible rw [if_neg Bool.false_ne_true] | skip
    k_steps
    refine wpC_spliced_nil ?_
    refine And.intro kept_type ?_
    refine int_refuse rfl hrf.1 hrf.2.1 hrf.2.2 ?_
    intro h3 tk3 e hx3
    (with_reducible rename Fr _ _ _ _ => kF)
    refine leave_newX (news := []) B hx3 kF (fun _ h9 => nomatch h9) rfl rfl ?_
    intro h4 r4 u4
    exact hR e tk3 h4 r4 u4
end
end
local macro_rules | `(tactic| walk_at "mine_pad_B4_0") => `(tactic| skip)
local macro_rules | `(tactic| walk_at "mine_pad_B4_1") => `(tactic| skip)
local macro_rules | `(tactic| walk_at "mine_pad_B4_2") => `(tactic| skip)

/-! B5 -/
section

section
variable {w : World} {dp un : Nat} {gd : Option (List Code)} {cn : Str} {cs : Scope} {a : Addr} {ccd : Value} {cl : List (Str × Addr)} {outer : List Env} {A₀ : Around} {base g : Heap} {L Lc : Addr} {s : Shared} {mean : ExcName → Option Value} {mg mb : Str → Option Value} {loose : List Str}
theorem badM_S5 {Rr : Result → Shared → Prop} {Q : Flow → Shared → Prop} {f : Str} {tf : Tok} {kd dl : Addr} {o oc lo : Obj} {v₀ : Option Value} {parts day txt : Value}
    (B : Below (ktrTop dp un gd cn cs Lc a ccd cl outer) base (envX cn cs Lc a ccd cl :: outer) g) (F : Fr g L s.heap (mS (.ref kd) parts day (.str f tf) txt)) (X : (Mine.hd.heap_39 w.params).In g) (N : News g L s.heap [(kd, o), (dl, lo), (L + 1, oc)]) (T : Top Mine.hd.view_39 loose mean mg mb g)
    (hco : oc.data = .cell v₀) (hl1 : @LT.lt Nat _ (L + 1) dl) (hl2 : @LT.lt Nat _ dl kd) (hb : BadM f)
    (hR : ∀ e tk h', RaisedSN base g (envX cn cs Lc a ccd cl :: outer) e (.type "ValueError") [] h' → g.UpToSlots h' → Rr (.error (.ref e)) { s with heap := h', toks := tk }) :
    wpC (model Challenge.rw_eg5033_01.row.prog w) ((ktrTop dp un gd cn cs Lc a ccd cl outer).deeper (sqlEnv L)) (exec sql.S5 (sqlEnv L)) Q
      (fun e s' => wpAny (model Challenge.rw_eg5033_01.row.prog w) ((ktrTop dp un gd cn cs Lc a ccd cl outer).deeper (sqlEnv L)) (leaving (sqlEnv L) e) (fun _ s'' => Rr (.error e) s'') (fun e' s'' => Rr (.error e') s'') s') s := by
  cases hb with
  | b1 hsg hsp hla hia hf hpl hn h0 =>
    exact wpC_mono (wpC_any (segM_b1 B F X N T hco hl1 hl2 hsg hsp hf (by rw [sizeLine_eq]; omega) hla hia (fun e h₁ hh tk m' F' hx => leave_newX (news := []) B hx F' (fun _ h9 => nomatch h9) rfl rfl fun h' r u => hR e tk h' r u))) (fun _ _ h => h.elim) (fun _ _ h => h)
  | b3 hsg hsp hla hia hlb hib hlc hic hf hpl hn h0 =>
    exact wpC_mono (wpC_any (segM_b3 B F X N T hco hl1 hl2 hsg hsp hf (by rw [sizeLine_eq]; omega) hla hia hlb hib hlc hic (fun e h₁ hh tk m' F' hx => leave_newX (news := []) B hx F' (fun _ h9 => nomatch h9) rfl rfl fun h' r u => hR e tk h' r u))) (fun _ _ h => h.elim) (fun _ _ h => h)
  | br hsg hsp hla hia hrf hf hpl hn h0 =>
    exact segM_br B F X N T hco hl1 hl2 hsg hsp hf (by rw [sizeLine_eq]; omega) hla hia hrf hR
theorem badT_S6 {Rr : Result → Shared → Prop} {Q : Flow → Shared → Prop} {d u : Str} {td tu : Tok} {kd dl : Addr} {o oc : Obj} {v₀ pv : Option Value} {parts month txt : Value} {yd : Int} {kvs : List (Str × Value)}
    (B : Below (ktrTop dp un gd cn cs Lc a ccd cl outer) base (envX cn cs Lc a ccd cl :: outer) g) (F : Fr g L s.heap (mPo pv (mS (.ref kd) parts (.ref dl) month txt))) (X : (Mine.hd.heap_39 w.params).In g) (N : News g L s.heap [(kd, o), (dl, listOf #[.str d td, .str u tu] 0), (L + 1, oc)]) (T : Top Mine.hd.view_39 loose mean mg mb g)
    (hco : oc.data = .cell v₀) (ho : o.IsDictOf (PySem.strKind Challenge.rw_eg5033_01.row.prog w) kvs) (hkv : DLen kvs 2) (hl1 : @LT.lt Nat _ (L + 1) dl) (hl2 : @LT.lt Nat _ dl kd) (hks : (kd == sysModules) = false)
    (hd : Days d yd) (hb : BadT u)
    (hR : ∀ e tk h', RaisedSN base g (envX cn cs Lc a ccd cl :: outer) e (.type "ValueError") [] h' → g.UpToSlots h' → Rr (.error (.ref e)) { s with heap := h', toks := tk }) :
    wpC (model Challenge.rw_eg5033_01.row.prog w) ((ktrTop dp un gd cn cs Lc a ccd cl outer).deeper (sqlEnv L)) (exec sql.S6 (sqlEnv L)) Q
      (fun e s' => wpAny (model Challenge.rw_eg5033_01.row.prog w) ((ktrTop dp un gd cn cs Lc a ccd cl outer).deeper (sqlEnv L)) (leaving (sqlEnv L) e) (fun _ s'' => Rr (.error e) s'') (fun e' s'' => Rr (.error e') s'') s') s := by
  cases hb with
  | b2 hsg hsp hf hpl hn h0 =>
    exact wpC_mono (wpC_any (segT_b2 B F X N T hco ho hkv hl1 hl2 hks hd.len hd.reads hsg hsp hf (by rw [sizeLine_eq]; omega) (fun e h₁ hh tk m' F' hx => leave_newX (news := []) B hx F' (fun _ h9 => nomatch h9) rfl rfl fun h' r u => hR e tk h' r u))) (fun _ _ h => h.elim) (fun _ _ h => h)
  | b4 hsg hsp hf hpl hn h0 =>
    exact wpC_mono (wpC_any (segT_b4 B F X N T hco ho hkv hl1 hl2 hks hd.len hd.reads hsg hsp hf (by rw [sizeLine_eq]; omega) (fun e h₁ hh tk m' F' hx => leave_newX (news := []) B hx F' (fun _ h9 => nomatch h9) rfl rfl fun h' r u => hR e tk h' r u))) (fun _ _ h => h.elim) (fun _ _ h => h)
  | br hsg hsp hla hlb hia hib hrf hf hpl hn h0 =>
    exact segT_br B F X N T hco ho hkv hl1 hl2 hks hd.len hd.reads hsg hsp hf (by rw [sizeLine_eq]; omega) hla hlb hia hib hrf hR
end
end

/-! B6 -/
section

theorem badM_nosp {f : Str} (h : BadM f) : NoSp f ∧ f.length ≠ 0 := by cases h <;> exact ⟨by assumption, by assumption⟩
theorem badT_nosp {f : Str} (h : BadT f) : NoSp f ∧ f.length ≠ 0 := by cases h <;> exact ⟨by assumption, by assumption⟩
section
variable {w : World} {dp un : Nat} {gd : Option (List Code)} {cn : Str} {cs : Scope} {a : Addr} {ccd : Value} {cl : List (Str × Addr)} {outer : List Env} {A₀ : Around} {base g : Heap} {L Lc : Addr} {s : Shared} {mean : ExcName → Option Value} {mg mb : Str → Option Value} {loose : List Str}
theorem bad_body {Rr : Result → Shared → Prop} {Q : Flow → Shared → Prop} {text : Str} {t : Tok} {oc : Obj} {v₀ : Option Value}
    (B : Below (ktrTop dp un gd cn cs Lc a ccd cl outer) base (envX cn cs Lc a ccd cl :: outer) g) (F : Fr g L s.heap (mS0 (.str text t))) (X : (Mine.hd.heap_39 w.params).In g) (N : News g L s.heap [(L + 1, oc)]) (T : Top Mine.hd.view_39 loose mean mg mb g)
    (hco : oc.data = .cell v₀) (hb : Bad text) (hsz : text.length + 2 ≤ sizeLine)
    (hR : ∀ e tk h', RaisedSN base g (envX cn cs Lc a ccd cl :: outer) e (.type "ValueError") [] h' → g.UpToSlots h' → Rr (.error (.ref e)) { s with heap := h', toks := tk }) :
    wpC (model Challenge.rw_eg5033_01.row.prog w) ((ktrTop dp un gd cn cs Lc a ccd cl outer).deeper (sqlEnv L)) (execs [sql.S0, sql.S1, sql.S2, sql.S3, sql.S4, sql.S5, sql.S6, sql.S7] (sqlEnv L)) Q
      (fun e s' => wpAny (model Challenge.rw_eg5033_01.row.prog w) ((ktrTop dp un gd cn cs Lc a ccd cl outer).deeper (sqlEnv L)) (leaving (sqlEnv L) e) (fun _ s'' => Rr (.error e) s'') (fun e' s'' => Rr (.error e') s'') s') s := by
  refine execs_splitC 5 (wpC_any ?_)
  cases hb with
  | mon hf =>
    have hn := badM_nosp hf
    refine pre1 (R := fun s' => wpC _ _ _ _ _ s') B F X N T (words_one hn.1 hn.2) hsz ?_
    intro h2 tk2 o kd pl tf F2 N2 l1 l2 hks hob
    refine wpC_execs_cons (badM_S5 B F2 X (news_three N2 (by k_mem) (by k_mem) (by k_mem)) T hco l1 l2 hf fun e tk h' r u => hR e tk h' r u)
  | day hd hu =>
    have hn := badT_nosp hu
    refine pre2 (R := fun s' => wpC _ _ _ _ _ s') B F X N T (words_two hd.nosp hd.ne hn.1 hn.2) hsz ?_
    intro h2 tk2 o kd pl td tu F2 N2 l1 l2 hks hob
    refine wpC_execs_cons (wpC_any (skipM B F2 X N2 T ?_))
    have F2' := fr_congr (m' := mPo none (mS (.ref kd) (.ref pl) (.ref pl) .none _)) F2 fun y => by
      unfold mPo
      by_cases h1 : y = "p"
      · subst h1; with_unfolding_all rfl
      · rw [if_neg h1]
    refine wpC_execs_cons (badT_S6 B F2' X N2 T hco hob DLen.nil.two l1 l2 hks hd hu fun e tk h' r u => hR e tk h' r u)
  | allM hf hd hnu h0u hlu =>
    have hn := badM_nosp hf
    refine pre3 (R := fun s' => wpC _ _ _ _ _ s') B F X N T (words_three hn.1 hn.2 hd.nosp hd.ne hnu h0u) hsz ?_
    intro h2 tk2 o kd pl ql tf td tu F2 N2 l1 l2 l2' hks hob
    refine wpC_execs_cons (badM_S5 B F2 X (news_three N2 (by k_mem) (by k_mem) (by k_mem)) T hco (dl := ql) (by omega) l2' hf fun e tk h' r u => hR e tk h' r u)
  | allT hsg' hsp' hla' hlb' hia' hib' hn' h0' hl' hpl' hd hu =>
    have hn := badT_nosp hu
    refine pre3 (R := fun s' => wpC _ _ _ _ _ s') B F X N T (words_three hn' h0' hd.nosp hd.ne hn.1 hn.2) hsz ?_
    intro h2 tk2 o kd pl ql tf td tu F2 N2 l1 l2 l2' hks hob
    refine wpC_execs_cons (wpC_any (segM B F2 X (news_three N2 (by k_mem) (by k_mem) (by k_mem)) T hco hob (by omega) l2' hks hsg' hsp' hl' (by rw [sizeLine_eq]; omega) hla' hlb' hia' hib' ?_))
    intro h3 tk3 o3 oc3 tp ts ty tm F3 N3 hco3 hob3
    rw [kv_mon] at hob3
    refine wpC_execs_cons (badT_S6 B (pv := some _) F3 X N3 T hco3 hob3 DLen.two2 (by omega) l2' hks hd hu fun e tk h' r u => hR e tk h' r u)
end
end

/-! B7 -/
section

local macro_rules | `(tactic| walk_at "mine_c_enterC") => `(tactic| (refine' codeC_defC (news := []) ?k1 ?k2 ?k3 ?kN ?k5 ?kA ?kF ?kK ?k6 ?k7 ?k8 ?k9 ?kB ?kD ?_ ?c2 ?c3 ?c4; (case kN => exact fun _ h9 => nomatch h9); (case kA => exact rfl); (case kF => exact rfl); (case kK => assumption); (case k1 => k_asm); (case k2 => k_asm); (case k3 => k_asm); (case k5 => k_asm); (case k6 => k_is); (case k7 => k_is); (case k8 => ktr_room); (case k9 => exact BindsTo.of_eq rfl); (case kB => exact rfl); (case kD => decide +kernel); (case c2 => exact rfl); (case c3 => exact rfl); (case c4 => exact rfl); k_whole))
section
variable {w : World} {dp un : Nat} {gd : Option (List Code)} {cn : Str} {cs : Scope} {a : Addr} {ccd : Value} {cl : List (Str × Addr)} {outer : List Env} {A₀ : Around} {base h₀ : Heap} {L : Addr} {s : Shared} {mean : ExcName → Option Value} {mg mb : Str → Option Value} {loose : List Str} {m : Str → Option Value}
theorem sql_badK {R : Result → Shared → Prop} {text : Str} {t : Tok}
    (B : Below A₀ base outer h₀) (F : Fr h₀ L s.heap m) (X : (Mine.hd.heap_39 w.params).In h₀) (T : Top Mine.hd.view_39 loose mean mg mb h₀) (hk : cs.kind = .function) (hd : dp + 9 < recursionLimit) (G : Bad text)
    (ret : ∀ e g tk h', Fr h₀ L g m → RaisedSN base g (envX cn cs L a ccd cl :: outer) e (.type "ValueError") [] h' → g.UpToSlots h' → R (.error (.ref e)) { s with heap := h', toks := tk }) :
    codeC (model Challenge.rw_eg5033_01.row.prog w) (ktrTop dp un gd cn cs L a ccd cl outer) (.call (.ref 51) ⟨[.ref 108, .str text t], []⟩) R s := by
  have hsz : text.length + 2 ≤ sizeLine := by have := G.len; rw [sizeLine_eq]; omega
  revert X
  w_top off
  k_fill
  intro X
  k_dflt (walk_at "mine_c_enterC")
  intro g L' h₁ tk cells FG F' N' Y' B' X' T' _
  rw [List.append_nil] at N'
  k_cells Y'
  have F1 : Fr g L' h₁ (mS0 (.str text t)) := fr_congr F' fun y => by
    unfold mS0
    by_cases h1 : y = "interval_str"
    · subst h1; with_unfolding_all rfl
    by_cases h2 : y = "cls"
    · subst h2; with_unfolding_all rfl
    have e1 : (sqlEnv L').kindOf "cls" = some .local := by with_unfolding_all rfl
    have e2 : (sqlEnv L').kindOf "interval_str" = some .local := by with_unfolding_all rfl
    show bindL (sqlEnv L').kindOf [("cls", .ref 108), ("interval_str", .str text t)] (fun _ => none) y = _
    simp only [bindL, e1, e2, if_true, if_neg h1, if_neg h2]
  refine bad_body (Rr := R) (L := L') (s := { s with heap := h₁, toks := tk }) B' F1 X' N' T' (by assumption) G hsz ?_
  intro e tk2 h' r u
  exact ret e g tk2 h' FG r u
end
end
local macro_rules | `(tactic| walk_at "mine_pad_B7_0") => `(tactic| skip)
local macro_rules | `(tactic| walk_at "mine_pad_B7_1") => `(tactic| skip)

/-! R1 -/
section

def LeaveS0F (fs : List Addr) (h₀ : Heap) (L : Addr) (m : Str → Option Value) (g : Heap) (R : Result → Shared → Prop) (v : Value) (s' : Shared) : Prop :=
  ∃ g' L' m', KtsTurn fs g g' ∧ Fr g' L' s'.heap m' ∧ (Fr h₀ L s'.heap m → (∀ b o, b ≠ L → g.get? b = some o → s'.heap.get? b = some o) → R (.ok (.ret v)) s')
section
variable {prog : Program} {w : World} {A₀ A : Around} {s : Shared} {base h₀ : Heap} {outer : List Env} {L : Addr} {m : Str → Option Value} {env : Env} {K : Frag} {p : Program} {loose : List Str} {mean : ExcName → Option Value} {mg mb : Str → Option Value}
  {R : Result → Shared → Prop} {name qual : Str} {params : Arguments} {body : List Stmt} {scope : Scope} {dV kV doc pm cdv ct oc : Value} {an od : Option Addr} {osl : Array (Option Value)} {f : Addr} {args : Args} {binds : List (Str × Value)}
/-- a def that catches, called from the law's own frame: all but the frame stays -/
theorem codeC_defS0F (B : Below A₀ base [] h₀) (F : Fr h₀ L s.heap m) (X₀ : K.In h₀) (T : Top p loose mean mg mb h₀) (hA : A.frames = some [env]) (hf : env.frame = some L) (hke : env.scope.kind = .function)
    (ho : K.lookup f = some ⟨oc, od, .func (fnOf name qual params body scope dV kV doc pm an cdv ct), osl⟩) (hcd : codeIn K cdv qual = true) (hroom : A.depth < recursionLimit)
    (hbind : BindsTo s (fnOf name qual params body scope dV kV doc pm an cdv ct) args binds) (hloc : ∀ y ∈ binds, scope.names.lookup y.1 = some .local)
    (h : ∀ L' h₁, Fr s.heap L' h₁ (fun y => binds.reverse.lookup y) → Below A base [env] s.heap → K.In s.heap → Top p loose mean mg mb s.heap → KtsDicts ([env].filterMap (·.frame)) s.heap →
      wpC (model prog w) (A.deeper (envOf qual scope L' f cdv)) (execs body (envOf qual scope L' f cdv))
        (fun fl s' => LeaveS0F ([env].filterMap (·.frame)) h₀ L m s.heap R (match fl with | .ret v => v | _ => .none) s')
        (fun e s' => wpAny (model prog w) (A.deeper (envOf qual scope L' f cdv)) (leaving (envOf qual scope L' f cdv) e) (fun _ s'' => R (.error e) s'') (fun e' s'' => R (.error e') s'') s')
        { s with heap := h₁, toks := s.toks + binds.length })
    (hco : scope.isCoroutine = false) (hgen : scope.isGenerator = false) (hk : scope.kind = .function)
    (hcell : ∀ x ∈ scope.names, x.2 ≠ .cell) : codeC (model prog w) A (.call (.ref f) args) R s := by
  have X := X₀.keeps F.keep
  have N : News h₀ L s.heap [] := News.nil
  obtain ⟨FG, BG, st, _⟩ := groundX (R := R) B F N hA hf hke
  have BG' : Below A base [env] s.heap := BG
  obtain ⟨oL, es, ep, hLg, hLd, hLk, hLf⟩ := F.ns
  have hNs : ∀ (sl : Array (Option Value)) h', h'.get? L = some { oL with slots := sl } → Heap.Ns h' L m := fun sl h' e => ⟨_, es, ep, e, hLd, hLk, hLf⟩
  have kmem : ∀ {b : Addr}, b ∈ [env].filterMap (·.frame) → b = L := fun hm => by
    obtain ⟨en, he, hf'⟩ := List.mem_filterMap.mp hm
    rw [List.mem_singleton.mp he] at hf'
    exact Option.some.inj (hf'.symm.trans hf)
  refine codeC_call_def (fd := fnOf name qual params body scope dV kV doc pm an cdv ct) (body := body) (binds := binds) hroom (X _ _ ho) rfl (T.nolimit.keeps F.keep) (codeRec_of X hcd) rfl hbind hcell hloc (fun h₁ hns hk₁ => ?_) hco hgen hk
  refine wpC_mono (h s.heap.objs.size h₁ ⟨hns, hk₁, Nat.le_refl _⟩ BG' X (T.keeps F.keep) (fun b hb => by
      rw [kmem hb]; exact ⟨oL, es, ep, hLg, hLd⟩)) (fun fl s' hl => ?_) fun _ _ y => y
  obtain ⟨g', L', m', T', F', k⟩ := hl
  have nL₀ : h₀.get? L = none := kts_self F
  obtain ⟨sl, hs⟩ := T'.up hLg
  refine k ⟨hNs sl _ (F'.keep _ _ hs), fun b o e => F'.keep b o (T'.other b o (F.keep b o e) (fun q => by
    rw [kmem q, nL₀] at e
    cases e)), F.above⟩ fun b o ne e => F'.keep b o (T'.other b o e fun q => ne (kmem q))
end
section
variable {w : World} {dp un : Nat} {gd : Option (List Code)} {cn : Str} {cs : Scope} {a : Addr} {ccd : Value} {cl : List (Str × Addr)} {A₀ : Around} {base h₀ : Heap} {L : Addr} {s : Shared} {mean : ExcName → Option Value} {mg mb : Str → Option Value} {loose : List Str} {m : Str → Option Value}
theorem refused_specK {R : Result → Shared → Prop} {text : Str} {t : Tok}
    (B : Below A₀ base [] h₀) (F : Fr h₀ L s.heap m) (X : (Mine.hd.heap_39 w.params).In h₀) (T : Top Mine.hd.view_39 loose mean mg mb h₀)
    (XB : (Mine.hd.heap_39 w.params).In base) (TB : Top Mine.hd.view_39 loose mean mg mb base) (hk : cs.kind = .function) (hd : dp + 11 < recursionLimit) (G : Bad text)
    (ret : ∀ h' tk, Fr h₀ L h' m → (∀ b o, b ≠ L → s.heap.get? b = some o → h'.get? b = some o) → R (.ok (.ret (.bool true))) { s with heap := h', toks := tk }) :
    codeC (model Challenge.rw_eg5033_01.row.prog w) (ktrTop dp un gd cn cs L a ccd cl []) (.call (.ref 168) ⟨[.str text t], []⟩) R s := by
  revert X XB
  w_top off
  k_fill
  intro X XB
  k_dflt (refine' codeC_defS0F (env := envX cn cs L a ccd cl) B F X T ?kA ?kF ?kK ?k6 ?k7 ?k8 ?k9 ?kB ?_ ?c2 ?c3 ?c4 ?c5; (case kA => exact rfl); (case kF => exact rfl); (case kK => exact hk); (case k6 => k_is); (case k7 => k_is); (case k8 => ktr_room); (case k9 => exact BindsTo.of_eq rfl); (case kB => exact locs rfl); (case c2 => exact rfl); (case c3 => exact rfl); (case c4 => exact rfl); (case c5 => decide); k_whole)
  intro L' h₁ F' B' X' T' D'
  dsimp only at F'
  have N' : News s.heap L' h₁ [] := News.nil
  have key : ∀ h' tk g' m', KtsTurn ([envX cn cs L a ccd cl].filterMap (·.frame)) s.heap g' → Fr g' L' h' m' → LeaveS0F ([envX cn cs L a ccd cl].filterMap (·.frame)) h₀ L m s.heap R (.bool true) { s with heap := h', toks := tk } :=
    fun h' tk g' m' T' F' => ⟨g', L', m', T', F', fun f k => ret h' tk f k⟩
  clear ret F X T B
  refine wpC_execs_cons (wpC_Try ?_)
  refine wpC_execs_cons (wpC_Expr (wpC_Call_Attr ?_))
  k_steps
  refine wpC_spliced_cons (wpC_any ?_)
  with_reducible rw [if_neg Bool.false_ne_true]
  k_steps
  refine wpC_spliced_nil ?_
  (with_reducible rename Fr _ _ _ _ => kF)
  (with_reducible rename News _ _ _ _ => kN)
  have zq := kN (_, methodObj (.ref 51) (.ref 108)) (by k_mem)
  refine And.intro (kept_M (K := Mine.hd.heap_39 w.params) (f := 51) (self := .ref 108) ⟨zq.1, X'.keeps kF.keep⟩ (by k_is)) ?_
  refine wpC_call (method_callC zq.1 ?_)
  k_dflt (refine sql_badK B' kF X' T' ?_ (by ktr_room) G ?_)
  · exact rfl
  intro e g tk h' Fg Rg ug
  dsimp only
  k_dflt (refine' caught_SN0 (T' := "ValueError") (g₀ := s.heap) Rg Fg B' ug XB TB D' KtsTurn.refl ?ex PyProof.Rows.Boot.«ValueError» ?hn PySem.F.isExc_ValueError PySem.F.notTuple_ValueError ?hs ?_; (case hs => kts_sub); (case ex => k_is); (case hn => decide); k_whole)
  intro h2 g2 T2 F2 N2 K2 X2 P2 D2
  clear kF kN Fg Rg ug
  k_steps
  exact key _ _ _ _ T2 (by with_reducible assumption)
end
end

/-! N3 -/
local macro_rules | `(tactic| walk_at "mine_u_enter") => `(tactic| (refine' code_def ?k1 ?k2 ?k3 ?k4 ?k5 ?kA ?kF ?kK ?k6 ?k7 ?k8 ?k9 ?kB ?_ ?c2 ?c3 ?c4 ?c5; (case kA => exact rfl); (case kF => exact rfl); (case kK => first | exact rfl | assumption); (case k1 => k_asm); (case k2 => k_asm); (case k3 => k_asm); (case k4 => k_asm); (case k5 => k_asm); (case k6 => k_is); (case k7 => k_is); (case k8 => ktr_room); (case k9 => exact BindsTo.of_eq rfl); (case c5 => decide); (case kB => exact locs rfl); (case c2 => exact rfl); (case c3 => exact rfl); (case c4 => exact rfl); k_whole; intro g' L' h' FG' F' N' B' X' T'; (try dsimp only); (try k_lift B'); (try k_fold)))
local macro_rules | `(tactic| walk_at "call ref") => `(tactic| (k_here; k_dflt (refine wpAny_call ?_; (walk_at "mine_u_enter"))))
theorem great_spec (w : World) {dp un : Nat} {gd : Option (List Code)} {cn : Str} {cs : Scope} {a : Addr} {ccd : Value} {cl : List (Str × Addr)} {outer : List Env} {A₀ : Around} {base h₀ : Heap} {L : Addr} {m : Str → Option Value} {s : Shared} {mean : ExcName → Option Value} {mg mb : Str → Option Value} {loose : List Str}
    {Q E : Value → Shared → Prop} {st sc : Addr} {vs : List Value} {ns : List Int} {c : Int} {t : Tok} {n : Nat}
    (B : Below A₀ base outer h₀) (F : Fr h₀ L s.heap m) (X : (Mine.hd.heap_39 w.params).In h₀) (N : News h₀ L s.heap [(st, listOf #[.ref sc, .int c t] n)]) (T : Top Mine.hd.view_39 loose mean mg mb h₀) (hk : cs.kind = .function) (hd : dp + 3 < recursionLimit)
    (hsc : s.heap.IsList sc vs.toArray) (hne : sc ≠ st) (hvs : IntsAre vs ns) (hlen : ns.length ≤ 63) (hc : 0 ≤ c)
    (ret : ∀ r tr c' t' n' h' tk, 0 ≤ r → r < 10 ^ 120 → 0 ≤ c' → h'.get? st = some (listOf #[.ref sc, .int c' t'] n') → (∀ b o, b ≠ st → s.heap.get? b = some o → h'.get? b = some o) → Q (.int r tr) { s with heap := h', toks := tk }) :
    wpAny (model Challenge.rw_eg5033_01.row.prog w) (ktrTop dp un gd cn cs L a ccd cl outer) (call (.ref 133) [.ref st]) Q E s := by
  revert X
  w_top off
  k_fill
  intro X
  refine wpAny_call ?_
  k_dflt (walk_at "mine_f_enter")
  intro g' L' h' hg' F' N' B' X' T' l1'
  (try dsimp only)
  (try k_fold)
  k_lt l1'
  have hsc' : g'.IsList sc vs.toArray := by
    obtain ⟨o, ho, r⟩ := hsc
    exact ⟨o, hg' _ _ (by simpa using hne) ho, r⟩
  have hg2 : ∀ b o, b ≠ st → s.heap.get? b = some o → g'.get? b = some o := fun b o hb e => hg' b o (by simpa using hb) e
  clear hsc hg'
  k_steps
  all_goals (with_reducible rename Fr _ _ _ _ => kF)
  all_goals (with_reducible rename News _ _ _ _ => kN)
  all_goals refine ret _ _ _ _ _ _ _ ?_ ?_ ?_ (kN _ (.head _)).1 (fun b o hb e => kF.keep _ _ (hg2 b o hb e))
  all_goals first | omega | skip
  all_goals first
    | assumption
    | (rw [show Int.toNat 120 = 120 from rfl, if_neg (Int.not_lt.mpr (Int.fmod_nonneg_of_pos _ (show (0 : Int) < 10 ^ 120 by decide)))]; exact Int.fmod_lt_of_pos _ (by decide))
    | skip

/-! N4 -/
section
variable {w : World} {dp un : Nat} {gd : Option (List Code)} {cn : Str} {cs : Scope} {a : Addr} {ccd : Value} {cl : List (Str × Addr)} {outer : List Env} {A₀ : Around} {base h₀ : Heap} {L : Addr} {m : Str → Option Value} {s : Shared} {mean : ExcName → Option Value} {mg mb : Str → Option Value} {loose : List Str}
    {Q E : Value → Shared → Prop} {st sc : Addr} {vs : List Value} {ns : List Int} {c limit : Int} {t tl : Tok} {n : Nat} {news : List (Addr × Obj)} {g : Obj → List (Addr × Obj)}
theorem one_of (N : News h₀ L s.heap news) {o : Obj} (U : UpdF st o news g) : News h₀ L s.heap [(st, o)] := by
  obtain ⟨own, rest, rfl, _, _, _⟩ := U.split
  intro p hp
  rw [List.mem_singleton.mp hp]
  exact N _ (List.mem_append_right _ (.head _))
theorem next_use (B : Below A₀ base outer h₀) (F : Fr h₀ L s.heap m) (X : (Mine.hd.heap_39 w.params).In h₀) (N : News h₀ L s.heap news) (T : Top Mine.hd.view_39 loose mean mg mb h₀) (hk : cs.kind = .function) (hd : dp + 3 < recursionLimit)
    (U : UpdF st (listOf #[.ref sc, .int c t] n) news g)
    (hsc : s.heap.IsList sc vs.toArray) (hne : sc ≠ st) (hvs : IntsAre vs ns) (hlen : ns.length ≤ 63) (hc : 0 ≤ c) (h0 : 0 < limit) (h1 : limit ≤ 60)
    (ret : ∀ r tr c' t' n' h' tk, 0 ≤ r → r < limit → 0 ≤ c' → Fr h₀ L h' m → News h₀ L h' (g (listOf #[.ref sc, .int c' t'] n')) → Q (.int r tr) { s with heap := h', toks := tk }) :
    wpAny (model Challenge.rw_eg5033_01.row.prog w) (ktrTop dp un gd cn cs L a ccd cl outer) (call (.ref 119) [.ref st, .int limit tl]) Q E s := by
  have N1 := one_of N U
  have z := N1 _ (.head _)
  exact next_spec w B F X N1 T hk hd hsc hne hvs hlen hc h0 h1 fun r tr c' t' n' h' tk r0 r1 hc' e k => ret r tr c' t' n' h' tk r0 r1 hc' (but_fr F z.2.2 (Ne.symm z.2.1) k) (but_news N U k e)
theorem great_use (B : Below A₀ base outer h₀) (F : Fr h₀ L s.heap m) (X : (Mine.hd.heap_39 w.params).In h₀) (N : News h₀ L s.heap news) (T : Top Mine.hd.view_39 loose mean mg mb h₀) (hk : cs.kind = .function) (hd : dp + 3 < recursionLimit)
    (U : UpdF st (listOf #[.ref sc, .int c t] n) news g)
    (hsc : s.heap.IsList sc vs.toArray) (hne : sc ≠ st) (hvs : IntsAre vs ns) (hlen : ns.length ≤ 63) (hc : 0 ≤ c)
    (ret : ∀ r tr c' t' n' h' tk, 0 ≤ r → r < 10 ^ 120 → 0 ≤ c' → Fr h₀ L h' m → News h₀ L h' (g (listOf #[.ref sc, .int c' t'] n')) → Q (.int r tr) { s with heap := h', toks := tk }) :
    wpAny (model Challenge.rw_eg5033_01.row.prog w) (ktrTop dp un gd cn cs L a ccd cl outer) (call (.ref 133) [.ref st]) Q E s := by
  have N1 := one_of N U
  have z := N1 _ (.head _)
  exact great_spec w B F X N1 T hk hd hsc hne hvs hlen hc fun r tr c' t' n' h' tk r0 r1 hc' e k => ret r tr c' t' n' h' tk r0 r1 hc' (but_fr F z.2.2 (Ne.symm z.2.1) k) (but_news N U k e)
end
local macro_rules | `(tactic| walk_at "call ref") => `(tactic| (k_here; k_dflt (first
  | (refine' next_use ?B ?F ?X ?N ?T ?k ?d ?U ?sc ?ne ?vs ?len ?c ?l0 ?l1 ?_; (case B => k_asm); (case F => k_asm); (case X => k_asm); (case N => k_asm); (case T => k_asm); (case k => first | exact rfl | assumption); (case d => ktr_room); (case U => k_updF); (case sc => is_list); (case ne => first | assumption | k_ne); (case vs => assumption); (case len => first | assumption | omega); (case c => first | assumption | decide); (case l0 => decide); (case l1 => decide); k_whole; intro r' tr' c' t' n' h' tk' hr0' hr1' hc' F' N'; (try dsimp only at N'); (try k_sweep); (try ((first | with_reducible refine clean_any ?hs9 ?_ | with_reducible refine clean_leaveK ?hs9 ?_); (case hs9 => (dsimp only; exact rfl)))))
  | (refine' great_use ?B ?F ?X ?N ?T ?k ?d ?U ?sc ?ne ?vs ?len ?c ?_; (case B => k_asm); (case F => k_asm); (case X => k_asm); (case N => k_asm); (case T => k_asm); (case k => first | exact rfl | assumption); (case d => ktr_room); (case U => k_updF); (case sc => is_list); (case ne => first | assumption | k_ne); (case vs => assumption); (case len => first | assumption | omega); (case c => first | assumption | decide); k_whole; intro r' tr' c' t' n' h' tk' hr0' hr1' hc' F' N'; (try dsimp only at N'); (try k_sweep); (try ((first | with_reducible refine clean_any ?hs9 ?_ | with_reducible refine clean_leaveK ?hs9 ?_); (case hs9 => (dsimp only; exact rfl))))))))

abbrev tup (its : Array Value) : Obj := { cls := .type "tuple", data := .seq its }
theorem signed_spec (w : World) {dp un : Nat} {gd : Option (List Code)} {cn : Str} {cs : Scope} {a : Addr} {ccd : Value} {cl : List (Str × Addr)} {outer : List Env} {A₀ : Around} {base h₀ : Heap} {L : Addr} {m : Str → Option Value} {s : Shared} {mean : ExcName → Option Value} {mg mb : Str → Option Value} {loose : List Str}
    {Q E : Value → Shared → Prop} {st sc : Addr} {vs : List Value} {ns : List Int} {c : Int} {t : Tok} {n : Nat}
    (B : Below A₀ base outer h₀) (F : Fr h₀ L s.heap m) (X : (Mine.hd.heap_39 w.params).In h₀) (N : News h₀ L s.heap [(st, listOf #[.ref sc, .int c t] n)]) (T : Top Mine.hd.view_39 loose mean mg mb h₀) (hk : cs.kind = .function) (hd : dp + 5 < recursionLimit)
    (hsc : s.heap.IsList sc vs.toArray) (hne : sc ≠ st) (hvs : IntsAre vs ns) (hlen : ns.length ≤ 63) (hc : 0 ≤ c)
    (ret : ∀ r mark turn tm tt c' t' n' h' tk, Sg mark turn → 0 ≤ c' → h'.get? st = some (listOf #[.ref sc, .int c' t'] n') → h'.get? r = some (tup #[.str mark tm, .int turn tt]) → (∀ b o, s.heap.get? b = some o → @Ne Nat b r) →
      (∀ b o, b ≠ st → s.heap.get? b = some o → h'.get? b = some o) → Q (.ref r) { s with heap := h', toks := tk }) :
    wpAny (model Challenge.rw_eg5033_01.row.prog w) (ktrTop dp un gd cn cs L a ccd cl outer) (call (.ref 147) [.ref st]) Q E s := by
  revert X
  w_top off
  k_fill
  intro X
  refine wpAny_call ?_
  k_dflt (walk_at "mine_f_enter")
  intro g' L' h' hg' F' N' B' X' T' l1'
  (try dsimp only)
  (try k_fold)
  k_lt l1'
  have hsc' : g'.IsList sc vs.toArray := by
    obtain ⟨o, ho, r⟩ := hsc
    exact ⟨o, hg' _ _ (by simpa using hne) ho, r⟩
  have hg2 : ∀ b o, b ≠ st → s.heap.get? b = some o → g'.get? b = some o := fun b o hb e => hg' b o (by simpa using hb) e
  clear hsc hg'
  k_steps
  all_goals (with_reducible rename Fr _ _ _ _ => kF)
  all_goals (with_reducible rename News _ _ _ _ => kN)
  all_goals (
    refine ret _ _ _ _ _ _ _ _ _ _ ?sg (by assumption) (kN (st, _) (by k_mem)).1 (kN _ (show (_, tup #[.str _ _, .int _ _]) ∈ _ by k_mem)).1 (fun b o e => ?ne) (fun b o hb e => kF.keep _ _ (hg2 b o hb e))
    case sg => first | exact Sg.none | exact Sg.plus | exact Sg.minus
    case ne =>
      by_cases hb : b = st
      · subst hb; k_ne
      · intro q; subst q
        have z1 := hg2 _ _ hb e
        have z2 : g'.get? b = none := (kN (b, _) (by k_mem)).2.2
        rw [z1] at z2; cases z2)

/-! N5r -/
section
variable {prog : Program} {A : Around} {w : World} {dp un : Nat} {gd : Option (List Code)} {cn : Str} {cs : Scope} {a : Addr} {ccd : Value} {cl : List (Str × Addr)} {outer : List Env} {A₀ : Around} {base h₀ : Heap} {L : Addr} {m : Str → Option Value} {s : Shared} {mean : ExcName → Option Value} {mg mb : Str → Option Value} {loose : List Str}
    {Q E : Value → Shared → Prop} {st sc : Addr} {vs : List Value} {ns : List Int} {c limit : Int} {t tl : Tok} {n : Nat} {news : List (Addr × Obj)} {g : Obj → List (Addr × Obj)}
theorem off1_of {D : Addr} : ∀ {l : List (Addr × Obj)}, (∀ p ∈ l, @Ne Nat p.1 D) → LCg.Off1 D l
  | [], _ => trivial
  | p :: _, h => ⟨h p (.head _), off1_of fun q hq => h q (.tail _ hq)⟩
theorem signed_use (B : Below A₀ base outer h₀) (F : Fr h₀ L s.heap m) (X : (Mine.hd.heap_39 w.params).In h₀) (N : News h₀ L s.heap news) (T : Top Mine.hd.view_39 loose mean mg mb h₀) (hk : cs.kind = .function) (hd : dp + 5 < recursionLimit)
    (U : UpdF st (listOf #[.ref sc, .int c t] n) news g)
    (hsc : s.heap.IsList sc vs.toArray) (hne : sc ≠ st) (hvs : IntsAre vs ns) (hlen : ns.length ≤ 63) (hc : 0 ≤ c)
    (ret : ∀ r mark turn tm tt c' t' n' h' tk, Sg mark turn → mark.length ≤ 1 → 0 ≤ c' → Fr h₀ L h' m → News h₀ L h' ((r, tup #[.str mark tm, .int turn tt]) :: g (listOf #[.ref sc, .int c' t'] n')) → LCg.Off1 r (g (listOf #[.ref sc, .int c' t'] n')) → Q (.ref r) { s with heap := h', toks := tk }) :
    wpAny (model Challenge.rw_eg5033_01.row.prog w) (ktrTop dp un gd cn cs L a ccd cl outer) (call (.ref 147) [.ref st]) Q E s := by
  have N1 := one_of N U
  have z := N1 _ (.head _)
  refine signed_spec w B F X N1 T hk hd hsc hne hvs hlen hc fun r mark turn tm tt c' t' n' h' tk hs hc' e er hf k => ?_
  have N2 := but_news N U k e
  refine ret r mark turn tm tt c' t' n' h' tk hs (by cases hs <;> decide) hc' (but_fr F z.2.2 (Ne.symm z.2.1) k) (fun p hp => ?_) (off1_of fun p hp => ?_)
  · rcases List.mem_cons.mp hp with rfl | hp
    · refine ⟨er, fun q => ?_, ?_⟩
      · obtain ⟨o, _, _, ho, _⟩ := F.ns
        exact hf _ o ho q.symm
      · cases q : h₀.get? r with
        | none => rfl
        | some o => exact absurd rfl (hf _ _ (F.keep _ _ q))
    · exact N2 p hp
  · obtain ⟨own, rest, rfl, hg, _, _⟩ := U.split
    rw [hg] at hp
    have : ∃ o, (p.1, o) ∈ own ++ (st, listOf #[.ref sc, .int c t] n) :: rest := by
      rcases List.mem_append.mp hp with hp | hp
      · exact ⟨p.2, List.mem_append_left _ hp⟩
      · rcases List.mem_cons.mp hp with rfl | hp
        · exact ⟨_, List.mem_append_right _ (.head _)⟩
        · exact ⟨p.2, List.mem_append_right _ (.tail _ hp)⟩
    obtain ⟨o, ho⟩ := this
    exact hf _ _ (N _ ho).1
theorem pick3 {value slice : PySem.Expr} {l : Addr} {x y z : Str} {tx ty tz : Tok} {k : Int} {u : Tok} (hl : s.heap.IsList l [Value.str x tx, .str y ty, .str z tz].toArray) (h0 : 0 ≤ k) (h3 : k < 3)
    {nx ny nz : Nat} (hx : x.length ≤ nx) (hy : y.length ≤ ny) (hz : z.length ≤ nz) (bx : nx ≤ 1000) (by' : ny ≤ 1000) (bz : nz ≤ 1000) (h : ∀ v tv, (v = x ∨ v = y ∨ v = z) → v.length ≤ 1000 → Q (.str v tv) s)
    (hs : ∀ i : Int, subscripted slice false (.ref l) (.int i u) = operate [.ref l, .int i u] (getItem (.ref l) (.int i u)) := by intro _; with_unfolding_all rfl) :
    wpAny (model prog w) A (subscriptTail value slice (.ref l) (.int k u)) Q E s := by
  have hk : k = 0 ∨ k = 1 ∨ k = 2 := by omega
  rcases hk with rfl | rfl | rfl
  · exact item_litK (v := .str x tx) hl (by decide) (by decide) rfl (h _ _ (.inl rfl) (Nat.le_trans hx bx)) (hs _)
  · exact item_litK (v := .str y ty) hl (by decide) (by decide) rfl (h _ _ (.inr (.inl rfl)) (Nat.le_trans hy by')) (hs _)
  · exact item_litK (v := .str z tz) hl (by decide) (by decide) rfl (h _ _ (.inr (.inr rfl)) (Nat.le_trans hz bz)) (hs _)
end
local macro_rules | `(tactic| walk_at "call ref") => `(tactic| (k_here; k_dflt (
  (refine' signed_use ?B ?F ?X ?N ?T ?k ?d ?U ?sc ?ne ?vs ?len ?c ?_; (case B => k_asm); (case F => k_asm); (case X => k_asm); (case N => k_asm); (case T => k_asm); (case k => first | exact rfl | assumption); (case d => ktr_room); (case U => k_updF); (case sc => is_list); (case ne => first | assumption | k_ne); (case vs => assumption); (case len => first | assumption | omega); (case c => first | assumption | decide); k_whole; intro r' mark' turn' tm' tt' c' t' n' h' tk' hs' hml' hc' F' N' o1'; (try dsimp only at N' o1'); (try simp only [LCg.Off1, and_true] at o1'); (try k_sweep); (try ((first | with_reducible refine clean_any ?hs9 ?_ | with_reducible refine clean_leaveK ?hs9 ?_); (case hs9 => (dsimp only; exact rfl))))))))
local macro_rules | `(tactic| walk_at "subscriptTail") => `(tactic| (k_here; (with_reducible show wpAny _ _ (subscriptTail _ _ (Value.ref _) (Value.int _ _)) _ _ _); (with_unfolding_all refine' pick3 ?l ?a ?b ?c ?d ?e ?f ?g ?h ?_; (case l => is_list); (case a => assumption); (case b => assumption); (case c => (first | with_reducible assumption | exact len_le_of (by kln_w) | exact Nat.le_refl _)); (case d => (first | with_reducible assumption | exact len_le_of (by kln_w) | exact Nat.le_refl _)); (case e => (first | with_reducible assumption | exact len_le_of (by kln_w) | exact Nat.le_refl _)); (case f => decide); (case g => decide); (case h => decide)); intro v' tv' hv' hvl'))


theorem sg_mul {mark : Str} {turn n : Int} (h : Sg mark turn) : IntMulOk turn n := IntMulOk.of_left (by cases h <;> decide)
local macro_rules | `(tactic| walk_at "binaryOp Mult int int") => `(tactic| (k_here; with_reducible refine P.mul_int ?_ (sg_mul (by assumption))))
local macro_rules | `(tactic| walk_at "call type:str") => `(tactic| (k_here; (with_reducible show wpAny _ _ (call (Value.type "str") [Value.int _ _]) _ _ _); (refine str_big (by omega) (by omega) ?_); intro x' tx' k' hx' hxl'; (try ((first | with_reducible refine clean_any ?hs9 ?_ | with_reducible refine clean_leaveK ?hs9 ?_); (case hs9 => (dsimp only; exact rfl))))))
local macro_rules | `(tactic| walk_at "binaryOp Add str str") => `(tactic| (k_here; (with_reducible show wpAny _ _ (binaryOp Operator.Add (Value.str _ _) (Value.str _ _)) _ _ _); (refine add_b (by (first | with_reducible assumption | exact len_le_of (by kln_w) | exact Nat.le_refl _)) (by (first | with_reducible assumption | exact len_le_of (by kln_w) | exact Nat.le_refl _)) (by decide) ?_); intro z' tz' c' hz' hzl'; (try ((first | with_reducible refine clean_any ?hs9 ?_ | with_reducible refine clean_leaveK ?hs9 ?_); (case hs9 => (dsimp only; exact rfl))))))

/-! N6 -/
theorem two_spec (w : World) {dp un : Nat} {gd : Option (List Code)} {cn : Str} {cs : Scope} {a : Addr} {ccd : Value} {cl : List (Str × Addr)} {outer : List Env} {A₀ : Around} {base h₀ : Heap} {L : Addr} {m : Str → Option Value} {s : Shared} {mean : ExcName → Option Value} {mg mb : Str → Option Value} {loose : List Str}
    {Q E : Value → Shared → Prop} {i : Int} {t : Tok} {news : List (Addr × Obj)}
    (B : Below A₀ base outer h₀) (F : Fr h₀ L s.heap m) (X : (Mine.hd.heap_39 w.params).In h₀) (N : News h₀ L s.heap news) (T : Top Mine.hd.view_39 loose mean mg mb h₀) (hk : cs.kind = .function) (hd : dp + 3 < recursionLimit)
    (h0 : 0 ≤ i) (h1 : i < 60)
    (ret : ∀ z tz h' tk, Two z i → z.length ≤ 2 → Fr h₀ L h' m → News h₀ L h' news → Q (.str z tz) { s with heap := h', toks := tk }) :
    wpAny (model Challenge.rw_eg5033_01.row.prog w) (ktrTop dp un gd cn cs L a ccd cl outer) (call (.ref 140) [.int i t]) Q E s := by
  revert X
  w_top off
  k_fill
  intro X
  refine wpAny_call ?_
  k_dflt (walk_at "mine_u_enter")
  k_steps
  exact ret _ _ _ _ ⟨by subst_vars; rfl, h0, h1⟩ (Two.len ⟨by subst_vars; rfl, h0, h1⟩) (by assumption) (by assumption)
local macro_rules | `(tactic| walk_at "call ref") => `(tactic| (k_here; k_dflt (
  (refine' two_spec _ ?B ?F ?X ?N ?T ?k ?d ?l0 ?l1 ?_; (case B => k_asm); (case F => k_asm); (case X => k_asm); (case N => k_asm); (case T => k_asm); (case k => first | exact rfl | assumption); (case d => ktr_room); (case l0 => omega); (case l1 => omega); k_whole; intro z' tz' h' tk' hz' hzl' F' N'; (try k_sweep); (try ((first | with_reducible refine clean_any ?hs9 ?_ | with_reducible refine clean_leaveK ?hs9 ?_); (case hs9 => (dsimp only; exact rfl))))))))

/-! C1 -/
section

abbrev lcase.S0 : Stmt := pickRow Mine.hd.heap_39 154 0 fun _ => rfl
abbrev lcase.S1 : Stmt := pickRow Mine.hd.heap_39 154 1 fun _ => rfl
abbrev lcase.S2 : Stmt := pickRow Mine.hd.heap_39 154 2 fun _ => rfl
abbrev lcase.S3 : Stmt := pickRow Mine.hd.heap_39 154 3 fun _ => rfl
abbrev lcase.S4 : Stmt := pickRow Mine.hd.heap_39 154 4 fun _ => rfl
abbrev lcase.S5 : Stmt := pickRow Mine.hd.heap_39 154 5 fun _ => rfl
abbrev lcase.S6 : Stmt := pickRow Mine.hd.heap_39 154 6 fun _ => rfl
abbrev lcase.S7 : Stmt := pickRow Mine.hd.heap_39 154 7 fun _ => rfl
abbrev lcase.S8 : Stmt := pickRow Mine.hd.heap_39 154 8 fun _ => rfl
abbrev lcase.scope : Scope := pickScope Mine.hd.heap_39 154 fun _ => rfl
abbrev lcase.qual : Str := pickQual Mine.hd.heap_39 154 fun _ => rfl
abbrev lcase.code : Value := pickCode Mine.hd.heap_39 154 fun _ => rfl
abbrev caseEnv (L : Addr) : Env := envOf lcase.qual lcase.scope L 154 lcase.code
/-- the names of _law_case, those that a later statement reads first -/
def mA (st D : Addr) (sh f fb dp sd sb : Value) (m : Str → Option Value) : Str → Option Value := fun y => if y = "shape" then some sh else if y = "due" then some (.ref D) else if y = "state" then some (.ref st)
  else if y = "first" then some f else if y = "first_bad" then some fb else if y = "days_part" then some dp else if y = "second" then some sd else if y = "second_bad" then some sb else m y
theorem mA_of {g h : Heap} {L st D : Addr} {sh f fb dp sd sb : Value} {m : Str → Option Value} (F : Fr g L h m) (h1 : m "shape" = some sh) (h2 : m "due" = some (.ref D)) (h3 : m "state" = some (.ref st)) (h4 : m "first" = some f)
    (h5 : m "first_bad" = some fb) (h6 : m "days_part" = some dp) (h7 : m "second" = some sd) (h8 : m "second_bad" = some sb) : Fr g L h (mA st D sh f fb dp sd sb m) := fr_congr F fun y => by
  unfold mA
  by_cases e1 : y = "shape"
  · rw [if_pos e1, e1, h1]
  rw [if_neg e1]
  by_cases e2 : y = "due"
  · rw [if_pos e2, e2, h2]
  rw [if_neg e2]
  by_cases e3 : y = "state"
  · rw [if_pos e3, e3, h3]
  rw [if_neg e3]
  by_cases e4 : y = "first"
  · rw [if_pos e4, e4, h4]
  rw [if_neg e4]
  by_cases e5 : y = "first_bad"
  · rw [if_pos e5, e5, h5]
  rw [if_neg e5]
  by_cases e6 : y = "days_part"
  · rw [if_pos e6, e6, h6]
  rw [if_neg e6]
  by_cases e7 : y = "second"
  · rw [if_pos e7, e7, h7]
  rw [if_neg e7]
  by_cases e8 : y = "second_bad"
  · rw [if_pos e8, e8, h8]
  rw [if_neg e8]
theorem news_pair {h₀ h : Heap} {L a b : Addr} {o p : Obj} (ha : h.get? a = some o ∧ a ≠ L ∧ h₀.get? a = none) (hb : h.get? b = some p ∧ b ≠ L ∧ h₀.get? b = none) : News h₀ L h [(a, o), (b, p)] := fun q hq => by
  rcases List.mem_cons.mp hq with rfl | hq
  · exact ha
  · rw [List.mem_singleton.mp hq]; exact hb
/-- the list of the fields due -/
abbrev dueObj (a3 a4 a6 a7 a8 a9 : Value) (n : Nat) : Obj := listOf #[.none, .none, .none, a3, a4, .none, a6, a7, a8, a9, .none] n
section
variable {w : World} {dp un : Nat} {gd : Option (List Code)} {cn : Str} {cs : Scope} {a : Addr} {ccd : Value} {cl : List (Str × Addr)} {outer : List Env} {A₀ : Around} {base g : Heap} {L Lc : Addr} {m : Str → Option Value} {s : Shared} {mean : ExcName → Option Value} {mg mb : Str → Option Value} {loose : List Str}
theorem case_B {Qx : Flow → Shared → Prop} {E : Value → Shared → Prop} {R : Shared → Prop} {st sc D : Addr} {vs : List Value} {ns : List Int} {c sh : Int} {t tsh : Tok} {n nn : Nat} {e1 e2 e3 e4 e5 : Value}
    (B : Below (ktrTop dp un gd cn cs Lc a ccd cl outer) base (envX cn cs Lc a ccd cl :: outer) g) (F : Fr g L s.heap (mA st D (.int sh tsh) e1 e2 e3 e4 e5 m)) (X : (Mine.hd.heap_39 w.params).In g)
    (N : News g L s.heap [(D, dueObj .none .none .none .none .none .none nn), (st, listOf #[.ref sc, .int c t] n)]) (T : Top Mine.hd.view_39 loose mean mg mb g) (hd : dp + 7 < recursionLimit)
    (hsg : g.IsList sc vs.toArray) (hne : sc ≠ st) (hDs : @LT.lt Nat _ st D) (hvs : IntsAre vs ns) (hlen : ns.length ≤ 63) (hc : 0 ≤ c) (hs1 : sh ≠ 1)
    (ret : ∀ mark turn y mo b t1 t2 ty tm c' t' n' n2 m' h' tk, Sg mark turn → 0 ≤ y → y < 10 ^ 120 → 0 ≤ mo → mo < 12 → mark.length ≤ 1 → (num y).length ≤ 120 → (num mo).length ≤ 120 → b.length ≤ 1000 →
      (b = mark ++ num y ∨ b = mark ++ num y ++ "-" ++ num mo ++ "-1" ∨ b = mark ++ num y ++ "-" ++ num mo ++ "x") → 0 ≤ c' →
      Fr g L h' (mA st D (.int sh tsh) (.str (mark ++ num y ++ "-" ++ num mo) t1) (.str b t2) e3 e4 e5 m') → News g L h' [(D, dueObj (.int (turn * y) ty) (.int (turn * mo) tm) .none .none .none .none n2), (st, listOf #[.ref sc, .int c' t'] n')] →
      R { s with heap := h', toks := tk }) :
    wpAny (model Challenge.rw_eg5033_01.row.prog w) ((ktrTop dp un gd cn cs Lc a ccd cl outer).deeper (caseEnv L)) (exec lcase.S3 (caseEnv L)) (fun fl s' => match fl with | .next => R s' | fl => Qx fl s') E s := by
  revert X
  w_top off
  k_fill
  intro X
  unfold lcase.S3 pickRow
  unfold mA at F
  unfold caseEnv lcase.scope lcase.qual lcase.code pickScope pickQual pickCode
  have hdd : D ≠ st := Nat.ne_of_gt hDs
  k_steps
  all_goals (first | (exfalso; omega) | skip)
  subst_vars
  (with_reducible rename Fr _ _ _ _ => kF)
  (with_reducible rename News _ _ _ _ => kN)
  (with_reducible rename Sg _ _ => kS)
  have kF2 := mA_of (sh := .int sh tsh) (D := D) (st := st) kF (by with_unfolding_all rfl) (by with_unfolding_all rfl) (by with_unfolding_all rfl) (by with_unfolding_all rfl) (by with_unfolding_all rfl) (by with_unfolding_all rfl) (by with_unfolding_all rfl) (by with_unfolding_all rfl)
  have z1 := kN (D, _) (by k_mem)
  have z2 := kN (st, _) (by k_mem)
  have kN2 := news_pair z1 z2
  clear kF kN
  refine ret _ _ _ _ _ _ _ _ _ _ _ _ _ _ _ _ kS ?a ?b ?c ?d ?e ?f ?g ?h ?i ?j kF2 kN2
  all_goals (with_reducible assumption)
end
end

/-! C2 -/
section

section
variable {w : World} {dp un : Nat} {gd : Option (List Code)} {cn : Str} {cs : Scope} {a : Addr} {ccd : Value} {cl : List (Str × Addr)} {outer : List Env} {A₀ : Around} {base g : Heap} {L Lc : Addr} {m : Str → Option Value} {s : Shared} {mean : ExcName → Option Value} {mg mb : Str → Option Value} {loose : List Str}
theorem case_B0 {Qx : Flow → Shared → Prop} {E : Value → Shared → Prop} {R : Shared → Prop} {st D : Addr} {tsh : Tok} {e1 e2 e3 e4 e5 : Value} {news : List (Addr × Obj)}
    (B : Below (ktrTop dp un gd cn cs Lc a ccd cl outer) base (envX cn cs Lc a ccd cl :: outer) g) (F : Fr g L s.heap (mA st D (.int 1 tsh) e1 e2 e3 e4 e5 m)) (X : (Mine.hd.heap_39 w.params).In g)
    (N : News g L s.heap news) (T : Top Mine.hd.view_39 loose mean mg mb g) (ret : ∀ tk, R { s with toks := tk }) :
    wpAny (model Challenge.rw_eg5033_01.row.prog w) ((ktrTop dp un gd cn cs Lc a ccd cl outer).deeper (caseEnv L)) (exec lcase.S3 (caseEnv L)) (fun fl s' => match fl with | .next => R s' | fl => Qx fl s') E s := by
  revert X
  w_top off
  k_fill
  intro X
  unfold lcase.S3 pickRow
  unfold mA at F
  unfold caseEnv lcase.scope lcase.qual lcase.code pickScope pickQual pickCode
  k_steps
  exact ret _
theorem case_C {Qx : Flow → Shared → Prop} {E : Value → Shared → Prop} {R : Shared → Prop} {st sc D : Addr} {vs : List Value} {ns : List Int} {c sh : Int} {t tsh : Tok} {n nn : Nat} {e1 e2 e3 e4 e5 a3 a4 : Value}
    (B : Below (ktrTop dp un gd cn cs Lc a ccd cl outer) base (envX cn cs Lc a ccd cl :: outer) g) (F : Fr g L s.heap (mA st D (.int sh tsh) e1 e2 e3 e4 e5 m)) (X : (Mine.hd.heap_39 w.params).In g)
    (N : News g L s.heap [(D, dueObj a3 a4 .none .none .none .none nn), (st, listOf #[.ref sc, .int c t] n)]) (T : Top Mine.hd.view_39 loose mean mg mb g) (hd : dp + 7 < recursionLimit)
    (hsg : g.IsList sc vs.toArray) (hne : sc ≠ st) (hDs : @LT.lt Nat _ st D) (hvs : IntsAre vs ns) (hlen : ns.length ≤ 63) (hc : 0 ≤ c) (hs1 : sh ≠ 0)
    (ret : ∀ md ud d mt ut h i j z1 z2 b t0 t1 t2 t6 t7 t8 t9 c' t' n' n2 m' h' tk, Sg md ud → 0 ≤ d → d < 10 ^ 120 → Sg mt ut → 0 ≤ h → h < 10 ^ 120 → Two z1 i → Two z2 j → md.length ≤ 1 → (num d).length ≤ 120 → mt.length ≤ 1 → (num h).length ≤ 120 → z1.length ≤ 2 → z2.length ≤ 2 → b.length ≤ 1000 →
      (b = mt ++ num h ++ ":" ++ z1 ∨ b = mt ++ num h ++ ":" ++ z1 ++ ":" ++ z2 ++ ":07" ∨ b = mt ++ num h ++ ":" ++ z1 ++ ":" ++ z2 ++ "s") → 0 ≤ c' →
      Fr g L h' (mA st D (.int sh tsh) e1 e2 (.str (md ++ num d) t0) (.str (mt ++ num h ++ ":" ++ z1 ++ ":" ++ z2) t1) (.str b t2) m') → News g L h' [(D, dueObj a3 a4 (.int (ud * d) t6) (.int (ut * h) t7) (.int (ut * i) t8) (.int (ut * j) t9) n2), (st, listOf #[.ref sc, .int c' t'] n')] →
      R { s with heap := h', toks := tk }) :
    wpAny (model Challenge.rw_eg5033_01.row.prog w) ((ktrTop dp un gd cn cs Lc a ccd cl outer).deeper (caseEnv L)) (exec lcase.S4 (caseEnv L)) (fun fl s' => match fl with | .next => R s' | fl => Qx fl s') E s := by
  revert X
  k_fill
  intro X
  unfold lcase.S4 pickRow
  unfold mA at F
  unfold caseEnv lcase.scope lcase.qual lcase.code pickScope pickQual pickCode
  have hdd : D ≠ st := Nat.ne_of_gt hDs
  k_steps
  all_goals (first | (exfalso; omega) | skip)
  subst_vars
  (with_reducible rename Fr _ _ _ _ => kF)
  (with_reducible rename News _ _ _ _ => kN)
  have kF2 := mA_of (sh := .int sh tsh) (D := D) (st := st) kF (by with_unfolding_all rfl) (by with_unfolding_all rfl) (by with_unfolding_all rfl) (by with_unfolding_all rfl) (by with_unfolding_all rfl) (by with_unfolding_all rfl) (by with_unfolding_all rfl) (by with_unfolding_all rfl)
  have z1 := kN (D, _) (by k_mem)
  have z2 := kN (st, _) (by k_mem)
  have kN2 := news_pair z1 z2
  clear kF kN
  refine ret _ _ _ _ _ _ _ _ _ _ _ _ _ _ _ _ _ _ _ _ _ _ _ _ _ ?q1 ?q2 ?q3 ?q4 ?q5 ?q6 ?q7 ?q8 ?q9 ?q10 ?q11 ?q12 ?q13 ?q14 ?q15 ?q16 ?q17 kF2 kN2
  all_goals (with_reducible assumption)
end
end

/-! C3 -/
section

theorem case_spec (w : World) {dp un : Nat} {gd : Option (List Code)} {cn : Str} {cs : Scope} {a : Addr} {ccd : Value} {cl : List (Str × Addr)} {outer : List Env} {A₀ : Around} {base h₀ : Heap} {L : Addr} {m : Str → Option Value} {s : Shared} {mean : ExcName → Option Value} {mg mb : Str → Option Value} {loose : List Str}
    {Q E : Value → Shared → Prop} {st sc : Addr} {vs : List Value} {ns : List Int} {c : Int} {t : Tok} {n : Nat}
    (B : Below A₀ base outer h₀) (F : Fr h₀ L s.heap m) (X : (Mine.hd.heap_39 w.params).In h₀) (N : News h₀ L s.heap [(st, listOf #[.ref sc, .int c t] n)]) (T : Top Mine.hd.view_39 loose mean mg mb h₀) (hk : cs.kind = .function) (hd : dp + 7 < recursionLimit)
    (hsc : s.heap.IsList sc vs.toArray) (hne : sc ≠ st) (hvs : IntsAre vs ns) (hlen : ns.length ≤ 63) (hc : 0 ≤ c)
    (ret : ∀ q d text bad vals t1 t2 c' t' n' nn ds h' tk, CaseOf text ds bad → CarriedAll vals (ds.map toPy) → 0 ≤ c' → h'.get? st = some (listOf #[.ref sc, .int c' t'] n') → h'.get? q = some (tup #[.str text t1, .ref d, .str bad t2]) → h'.get? d = some (listOf vals.toArray nn) →
      (∀ b o, s.heap.get? b = some o → @Ne Nat b q ∧ @Ne Nat b d) → @Ne Nat q d → (∀ b o, b ≠ st → s.heap.get? b = some o → h'.get? b = some o) → Q (.ref q) { s with heap := h', toks := tk }) :
    wpAny (model Challenge.rw_eg5033_01.row.prog w) (ktrTop dp un gd cn cs L a ccd cl outer) (call (.ref 154) [.ref st]) Q E s := by
  revert X
  w_top off
  k_fill
  intro X
  refine wpAny_call ?_
  k_dflt (walk_at "mine_f_enter")
  intro g' L' h' hg' F' N' B' X' T' l1'
  dsimp only at F' ⊢
  (try k_fold)
  k_lt l1'
  have hsc' : g'.IsList sc vs.toArray := by
    obtain ⟨o, ho, r⟩ := hsc
    exact ⟨o, hg' _ _ (by simpa using hne) ho, r⟩
  have hg2 : ∀ b o, b ≠ st → s.heap.get? b = some o → g'.get? b = some o := fun b o hb e => hg' b o (by simpa using hb) e
  have fin : ∀ (D q : Addr) (text bad : Str) (ds : List (Option Int)) (vals : List Value) (t1 t2 : Tok) (c' : Int) (t' : Tok) (n' nn : Nat) (m' : Str → Option Value) (h' : Heap) (tk : Nat), CaseOf text ds bad → CarriedAll vals (ds.map toPy) → 0 ≤ c' → Fr g' L' h' m' → @Ne Nat D st → @Ne Nat q st → @Ne Nat q D →
      h'.get? q = some (tup #[.str text t1, .ref D, .str bad t2]) ∧ q ≠ L' ∧ g'.get? q = none → h'.get? D = some (listOf vals.toArray nn) ∧ D ≠ L' ∧ g'.get? D = none → h'.get? st = some (listOf #[.ref sc, .int c' t'] n') →
      Q (.ref q) { s with heap := h', toks := tk } := by
    intro D q text bad ds vals t1 t2 c' t' n' nn m' h' tk hco hca hc' kF hDs hqs hqD zq zD zs
    refine ret q D text bad vals t1 t2 c' t' n' nn ds h' tk hco hca hc' zs zq.1 zD.1 (fun b o e => ?_) hqD (fun b o hb e => kF.keep _ _ (hg2 b o hb e))
    by_cases hb : b = st
    · subst hb; exact ⟨Ne.symm hqs, Ne.symm hDs⟩
    · have z1 := hg2 _ _ hb e
      refine ⟨fun x => ?_, fun x => ?_⟩
      · rw [x, zq.2.2] at z1; cases z1
      · rw [x, zD.2.2] at z1; cases z1
  clear hsc hg' ret hg2
  refine execs_split 3 ?_
  k_steps
  refine wpAny_execs_nil ?_
  (with_reducible rename Fr _ _ _ _ => kF)
  (with_reducible rename News _ _ _ _ => kN)
  (with_reducible rename @LT.lt Int _ _ 3 => h3)
  have hsp : ∀ r : Int, r < 3 → 0 ≤ r → r = 0 ∨ r = 1 ∨ r = 2 := by omega
  have kF2 := mA_of kF (by with_unfolding_all rfl) (by with_unfolding_all rfl) (by with_unfolding_all rfl) (by with_unfolding_all rfl) (by with_unfolding_all rfl) (by with_unfolding_all rfl) (by with_unfolding_all rfl) (by with_unfolding_all rfl)
  have zD := kN (_, dueObj .none .none .none .none .none .none _) (by k_mem)
  have zs := kN (st, _) (by k_mem)
  have kN2 := news_pair zD zs
  clear kF kN zD zs
  rcases hsp _ h3 (by with_reducible assumption) with e | e | e
  · subst e
    k_dflt (refine wpAny_execs_cons (case_B B' kF2 X' kN2 T' (by omega) hsc' hne ?lt hvs hlen ?c0 (by decide) ?_))
    case lt => omega
    case c0 => with_reducible assumption
    intro mark turn y mo b t1 t2 ty tm c2 t2' n2 n3 m2 h2 tk2 hS y0 y1 m0 m1 hl1 hl2 hl3 hbl hb hc2 F2 N2
    clear kF2 kN2
    unfold mA at F2
    dsimp only
    k_steps
    subst_vars
    (with_reducible rename Fr _ _ _ _ => kF)
    (with_reducible rename News _ _ _ _ => kN)
    have zq := kN (_, tup #[.str _ _, .ref _, .str _ _]) (by k_mem)
    have zD := kN (_, dueObj _ _ _ _ _ _ _) (by k_mem)
    have zs := kN (st, _) (by k_mem)
    have zs1 := zs.1
    clear zs kN
    (try k_unfold)
    refine fin _ _ _ _ _ _ _ _ _ _ _ _ _ _ _ (CaseOf.c0 hS y0 y1 m0 m1 hb) ?_ (by with_reducible assumption) kF (by k_ne) (by k_ne) (by k_ne) zq zD zs1
    with_unfolding_all (repeat (first | exact CarriedAll.nil | refine CarriedAll.cons Carried.none ?_ | refine CarriedAll.cons (Carried.int _ _) ?_))
  · subst e
    k_dflt (refine wpAny_execs_cons (case_B0 B' kF2 X' kN2 T' ?_))
    intro tk1
    dsimp only
    k_dflt (refine wpAny_execs_cons (case_C B' kF2 X' kN2 T' (by omega) hsc' hne ?lt3 hvs hlen ?c3 (by decide) ?_))
    case lt3 => omega
    case c3 => with_reducible assumption
    intro md ud d mt ut h i j z1 z2 b t0 t1 t2 t6 t7 t8 t9 c2 t2' n2 n3 m2 h2 tk2 hS d0 d1 hS2 h0 h1 hz1 hz2 l1 l2 l3 l4 l5 l6 hbl hb hc2 F2 N2
    clear kF2 kN2
    unfold mA at F2
    dsimp only
    k_steps
    subst_vars
    (with_reducible rename Fr _ _ _ _ => kF)
    (with_reducible rename News _ _ _ _ => kN)
    have zq := kN (_, tup #[.str _ _, .ref _, .str _ _]) (by k_mem)
    have zD := kN (_, dueObj _ _ _ _ _ _ _) (by k_mem)
    have zs := kN (st, _) (by k_mem)
    have zs1 := zs.1
    clear zs kN
    (try k_unfold)
    refine fin _ _ _ _ _ _ _ _ _ _ _ _ _ _ _ (CaseOf.c1 hS d0 d1 hS2 h0 h1 hz1 hz2 hb) ?_ (by with_reducible assumption) kF (by k_ne) (by k_ne) (by k_ne) zq zD zs1
    with_unfolding_all (repeat (first | exact CarriedAll.nil | refine CarriedAll.cons Carried.none ?_ | refine CarriedAll.cons (Carried.int _ _) ?_))
  · subst e
    k_dflt (refine wpAny_execs_cons (case_B B' kF2 X' kN2 T' (by omega) hsc' hne ?lt4 hvs hlen ?c4 (by decide) ?_))
    case lt4 => omega
    case c4 => with_reducible assumption
    intro mark turn y mo b1 t1 t2 ty tm c2 t2' n2 n3 m2 h2 tk2 hS y0 y1 m0 m1 hl1 hl2 hl3 hbl1 hb1 hc2 F2 N2
    clear kF2 kN2
    dsimp only
    k_dflt (refine wpAny_execs_cons (case_C (s := { s with heap := h2, toks := tk2 }) B' F2 X' N2 T' (by omega) hsc' hne ?lt2 hvs hlen hc2 (by decide) ?_))
    case lt2 => omega
    intro md ud d mt ut h i j z1 z2 b t10 t11 t12 t6 t7 t8 t9 c3 t3' n4 n5 m3 h3' tk3 hS1 d0 d1 hS2 h0 h1 hz1 hz2 l1 l2 l3 l4 l5 l6 hbl hb hc3 F3 N3
    clear F2 N2
    unfold mA at F3
    dsimp only
    k_steps
    all_goals (
      subst_vars
      (with_reducible rename Fr _ _ _ _ => kF)
      (with_reducible rename News _ _ _ _ => kN)
      have zq := kN (_, tup #[.str _ _, .ref _, .str _ _]) (by k_mem)
      have zD := kN (_, dueObj _ _ _ _ _ _ _) (by k_mem)
      have zs := kN (st, _) (by k_mem)
      have zs1 := zs.1
      clear zs kN
      (try k_unfold)
      refine fin _ _ _ _ _ _ _ _ _ _ _ _ _ _ _ (by first | exact CaseOf.c2 hS y0 y1 m0 m1 hS1 d0 d1 hS2 h0 h1 hz1 hz2 hb1 | exact CaseOf.c3 hS y0 y1 m0 m1 hS1 d0 d1 hS2 h0 h1 hz1 hz2 hb) ?_ (by with_reducible assumption) kF (by k_ne) (by k_ne) (by k_ne) zq zD zs1
      with_unfolding_all (repeat (first | exact CarriedAll.nil | refine CarriedAll.cons Carried.none ?_ | refine CarriedAll.cons (Carried.int _ _) ?_)))
end

/-! L1 -/
section

section
variable {w : World} {dp un : Nat} {gd : Option (List Code)} {cn : Str} {cs : Scope} {a : Addr} {ccd : Value} {cl : List (Str × Addr)} {outer : List Env} {A₀ : Around} {base h₀ : Heap} {L : Addr} {m : Str → Option Value} {s : Shared} {mean : ExcName → Option Value} {mg mb : Str → Option Value} {loose : List Str}
    {Q E : Value → Shared → Prop} {st sc : Addr} {vs : List Value} {ns : List Int} {c : Int} {t : Tok} {n : Nat} {rest : List (Addr × Obj)}
abbrev stObj (sc : Addr) (c : Int) (t : Tok) (n : Nat) : Obj := listOf #[.ref sc, .int c t] n
theorem case_use (B : Below A₀ base outer h₀) (F : Fr h₀ L s.heap m) (X : (Mine.hd.heap_39 w.params).In h₀) (N : News h₀ L s.heap ((st, stObj sc c t n) :: rest)) (hr : ∀ p ∈ rest, @Ne Nat p.1 st) (T : Top Mine.hd.view_39 loose mean mg mb h₀) (hk : cs.kind = .function) (hd : dp + 7 < recursionLimit)
    (hsc : s.heap.IsList sc vs.toArray) (hne : sc ≠ st) (hvs : IntsAre vs ns) (hlen : ns.length ≤ 63) (hc : 0 ≤ c)
    (ret : ∀ q d text bad vals t1 t2 c' t' n' nn ds h' tk, CaseOf text ds bad → CarriedAll vals (ds.map toPy) → 0 ≤ c' → Fr h₀ L h' m →
      News h₀ L h' ((st, stObj sc c' t' n') :: (q, tup #[.str text t1, .ref d, .str bad t2]) :: (d, listOf vals.toArray nn) :: rest) →
      (∀ b o, s.heap.get? b = some o → @Ne Nat b q ∧ @Ne Nat b d) → @Ne Nat q d → (∀ b o, b ≠ st → s.heap.get? b = some o → h'.get? b = some o) → Q (.ref q) { s with heap := h', toks := tk }) :
    wpAny (model Challenge.rw_eg5033_01.row.prog w) (ktrTop dp un gd cn cs L a ccd cl outer) (call (.ref 154) [.ref st]) Q E s := by
  have N1 : News h₀ L s.heap [(st, stObj sc c t n)] := fun p hp => N p (by rw [List.mem_singleton.mp hp]; exact .head _)
  have z := N1 _ (.head _)
  refine case_spec w B F X N1 T hk hd hsc hne hvs hlen hc fun q d text bad vals t1 t2 c' t' n' nn ds h' tk hco hca hc' e1 e2 e3 hf hqd k => ?_
  have F' : Fr h₀ L h' m := but_fr F z.2.2 (Ne.symm z.2.1) k
  obtain ⟨oL, _, _, hoL, _⟩ := F.ns
  have n0 : ∀ b, (∀ b' o, s.heap.get? b' = some o → @Ne Nat b' b) → b ≠ L ∧ h₀.get? b = none := fun b hb => ⟨fun q => hb L _ hoL q.symm, by
    cases q : h₀.get? b with
    | none => rfl
    | some o => exact absurd rfl (hb _ _ (F.keep _ _ q))⟩
  refine ret q d text bad vals t1 t2 c' t' n' nn ds h' tk hco hca hc' F' (fun p hp => ?_) hf hqd k
  rcases List.mem_cons.mp hp with rfl | hp
  · exact ⟨e1, z.2⟩
  rcases List.mem_cons.mp hp with rfl | hp
  · exact ⟨e2, n0 q fun b o e => (hf b o e).1⟩
  rcases List.mem_cons.mp hp with rfl | hp
  · exact ⟨e3, n0 d fun b o e => (hf b o e).2⟩
  · have y := N p (.tail _ hp)
    exact ⟨k _ _ (hr p hp) y.1, y.2⟩

/-- a value of the list of cases: a triple that lies in the ledger -/
def CaseAt (news : List (Addr × Obj)) (y : Value) : Prop := ∃ q d text ds bad vals t1 t2 nn, y = .ref q ∧ CaseOf text ds bad ∧ CarriedAll vals (ds.map toPy) ∧ (q, tup #[.str text t1, .ref d, .str bad t2]) ∈ news ∧ (d, listOf vals.toArray nn) ∈ news
theorem CaseAt.more {news news' : List (Addr × Obj)} {y : Value} (h : ∀ p ∈ news, p ∈ news') (c : CaseAt news y) : CaseAt news' y := by
  obtain ⟨q, d, text, ds, bad, vals, t1, t2, nn, e, h1, h2, h3, h4⟩ := c
  exact ⟨q, d, text, ds, bad, vals, t1, t2, nn, e, h1, h2, h _ h3, h _ h4⟩

theorem mem_move3 {α : Type} {a b c d p : α} {l : List α} (h : p ∈ d :: a :: b :: c :: l) : p ∈ a :: b :: c :: d :: l := by
  simp only [List.mem_cons] at h ⊢
  rcases h with h | h | h | h | h <;> simp [h]
/-- the turns of the comprehension of the cases, once the element is walked -/
theorem comp_ind {prog : Program} {A : Around} {env : Env} {elt : Expr} {x : Str} {scope : Scope} {cl2 : List (Str × Addr)} {cel : Addr} {oc osc : Obj} {S : List (Addr × Obj) → Prop} {P : Nat → Value → Prop} {Fin : List Value → List (Addr × Obj) → Prop} {K1 : Nat}
    (step : ∀ (R : Value → List (Addr × Obj) → Prop) (c : Int) (t : Tok) (n : Nat) (rest : List (Addr × Obj)) (v : Value) (I : Addr) (oI : Obj) (C : Addr) (oC : Obj) (D : Addr) (ys : List Value) (m₂ : Str → Option Value) (h : Heap) (tk : Nat) (E' : Value → Shared → Prop), 0 ≤ c → (∀ p ∈ rest, @Ne Nat p.1 st) → LCg.NsObj oC m₂ → Fr h₀ L h m →
      News h₀ L h ((I, oI) :: (C, oC) :: (D, LCg.lst ys) :: (st, stObj sc c t n) :: (sc, osc) :: (cel, oc) :: rest) → (∀ p ∈ (st, stObj sc c t n) :: (sc, osc) :: (cel, oc) :: rest, p.1 ≠ I ∧ p.1 ≠ C ∧ p.1 ≠ D) → ((@Ne Nat I C) ∧ (@Ne Nat I D) ∧ (@Ne Nat C D)) →
      (∀ y c' t' n' q d text bad vals t1 t2 nn ds, y = .ref q → CaseOf text ds bad → CarriedAll vals (ds.map toPy) → 0 ≤ c' → (∀ p ∈ (q, tup #[.str text t1, .ref d, .str bad t2]) :: (d, listOf vals.toArray nn) :: rest, @Ne Nat p.1 st) → R y ((st, stObj sc c' t' n') :: (sc, osc) :: (cel, oc) :: (q, tup #[.str text t1, .ref d, .str bad t2]) :: (d, listOf vals.toArray nn) :: rest)) →
      wpAny (model prog w) A (eval elt (compEnvC scope cl2 C env)) (LCg.CompEnd h₀ L m { s with heap := h, toks := tk } I oI C oC D (LCg.lst ys) S R) E' { s with heap := h, toks := tk })
    (fin : ∀ ys c t n rest, ys.length = K1 → (∀ y ∈ ys, CaseAt rest y) → Fin ys ((st, stObj sc c t n) :: (sc, osc) :: (cel, oc) :: rest)) :
    ∀ (k i : Nat) (ys : List Value) (c : Int) (t : Tok) (n : Nat) (rest : List (Addr × Obj)), ys.length + k = K1 → 0 ≤ c → (∀ p ∈ rest, @Ne Nat p.1 st) → (∀ y ∈ ys, CaseAt rest y) →
      LCg.CompRest prog w A h₀ L m env elt x scope cl2 s S P Fin k i ys ((st, stObj sc c t n) :: (sc, osc) :: (cel, oc) :: rest) := by
  intro k
  induction k with
  | zero => intro i ys c t n rest hl hc hr hy; exact LCg.CompRest.zero (fin ys c t n rest (by omega) hy)
  | succ k ih =>
    intro i ys c t n rest hl hc hr hy
    refine LCg.CompRest.succ ?_
    intro v I oI C oC D m₂ h tk E' hP hC hx F N off ne
    refine step _ c t n rest v I oI C oC D ys m₂ h tk E' hc hr hC F N off.mem ne ?_
    intro y c' t' n' q d text bad vals t1 t2 nn ds e hco hca hc' hr'
    refine ih (i + 1) (ys ++ [y]) c' t' n' _ (by rw [List.length_append, List.length_singleton]; omega) hc' hr' ?_
    intro z hz
    rcases List.mem_append.mp hz with hz | hz
    · exact (hy z hz).more fun p hp => .tail _ (.tail _ hp)
    · rw [List.mem_singleton.mp hz]
      exact ⟨q, d, text, ds, bad, vals, t1, t2, nn, e, hco, hca, .head _, .tail _ (.head _)⟩
/-- the call of the element -/
theorem comp_call (B : Below A₀ base outer h₀) (X : (Mine.hd.heap_39 w.params).In h₀) (T : Top Mine.hd.view_39 loose mean mg mb h₀) (hk : cs.kind = .function) (hd : dp + 7 < recursionLimit)
    {R : Value → List (Addr × Obj) → Prop} {I C D cel : Addr} {oI oC oc osc : Obj} {ys : List Value} {s₀ : Shared} (F : Fr h₀ L s.heap m)
    (N : News h₀ L s.heap ((I, oI) :: (C, oC) :: (D, LCg.lst ys) :: (st, stObj sc c t n) :: (sc, osc) :: (cel, oc) :: rest)) (off : ∀ p ∈ (st, stObj sc c t n) :: (sc, osc) :: (cel, oc) :: rest, p.1 ≠ I ∧ p.1 ≠ C ∧ p.1 ≠ D)
    (hr : ∀ p ∈ rest, @Ne Nat p.1 st) (hsc : osc = listOf vs.toArray 0) (hne : sc ≠ st) (hnc : cel ≠ st) (hvs : IntsAre vs ns) (hlen : ns.length ≤ 63) (hc : 0 ≤ c)
    (he : ∃ h tk, s = { s₀ with heap := h, toks := tk })
    (ret : ∀ y c' t' n' q d text bad vals t1 t2 nn ds, y = .ref q → CaseOf text ds bad → CarriedAll vals (ds.map toPy) → 0 ≤ c' → (∀ p ∈ (q, tup #[.str text t1, .ref d, .str bad t2]) :: (d, listOf vals.toArray nn) :: rest, @Ne Nat p.1 st) → R y ((st, stObj sc c' t' n') :: (sc, osc) :: (cel, oc) :: (q, tup #[.str text t1, .ref d, .str bad t2]) :: (d, listOf vals.toArray nn) :: rest)) :
    wpAny (model Challenge.rw_eg5033_01.row.prog w) (ktrTop dp un gd cn cs L a ccd cl outer) (call (.ref 154) [.ref st]) (LCg.CompEnd h₀ L m s₀ I oI C oC D (LCg.lst ys) (fun _ => True) R) E s := by
  obtain ⟨h1, tk1, rfl⟩ := he
  have zs := N (sc, osc) (.tail _ (.tail _ (.tail _ (.tail _ (.head _)))))
  have zt := off (st, stObj sc c t n) (.head _)
  have N0 : News h₀ L h1 ((st, stObj sc c t n) :: (I, oI) :: (C, oC) :: (D, LCg.lst ys) :: (sc, osc) :: (cel, oc) :: rest) := fun p hp => N p (mem_move3 hp)
  refine case_use B F X N0 ?_ T hk hd (by subst hsc; exact ⟨_, zs.1, rfl, _, rfl⟩) hne hvs hlen hc ?_
  · intro p hp
    rcases List.mem_cons.mp hp with rfl | hp
    · exact Ne.symm zt.1
    rcases List.mem_cons.mp hp with rfl | hp
    · exact Ne.symm zt.2.1
    rcases List.mem_cons.mp hp with rfl | hp
    · exact Ne.symm zt.2.2
    rcases List.mem_cons.mp hp with rfl | hp
    · exact hne
    rcases List.mem_cons.mp hp with rfl | hp
    · exact hnc
    · exact hr p hp
  intro q d text bad vals t1 t2 c' t' n' nn ds h' tk hco hca hc' F' N' hf hqd k
  have al : ∀ p ∈ (I, oI) :: (C, oC) :: (D, LCg.lst ys) :: (st, stObj sc c t n) :: (sc, osc) :: (cel, oc) :: rest, p.1 ≠ q ∧ p.1 ≠ d := fun p hp => hf _ _ (N p hp).1
  have aI := al (I, oI) (.head _)
  have aC := al (C, oC) (.tail _ (.head _))
  have aD := al (D, LCg.lst ys) (.tail _ (.tail _ (.head _)))
  have aS := al (st, stObj sc c t n) (.tail _ (.tail _ (.tail _ (.head _))))
  refine ⟨h', tk, (st, stObj sc c' t' n') :: (sc, osc) :: (cel, oc) :: (q, tup #[.str text t1, .ref d, .str bad t2]) :: (d, listOf vals.toArray nn) :: rest, rfl, F', fun p hp => N' p ?_, LCg.Off3.of fun p hp => ?_, trivial, ret _ c' t' n' q d text bad vals t1 t2 nn ds rfl hco hca hc' fun p hp => ?_⟩
  · simp only [List.mem_cons] at hp ⊢
    rcases hp with h | h | h | h | h | h | h | h | h <;> simp [h]
  · rcases List.mem_cons.mp hp with rfl | hp
    · exact zt
    rcases List.mem_cons.mp hp with rfl | hp
    · exact off (sc, osc) (.tail _ (.head _))
    rcases List.mem_cons.mp hp with rfl | hp
    · exact off (cel, oc) (.tail _ (.tail _ (.head _)))
    rcases List.mem_cons.mp hp with rfl | hp
    · exact ⟨Ne.symm aI.1, Ne.symm aC.1, Ne.symm aD.1⟩
    rcases List.mem_cons.mp hp with rfl | hp
    · exact ⟨Ne.symm aI.2, Ne.symm aC.2, Ne.symm aD.2⟩
    · exact off p (.tail _ (.tail _ (.tail _ hp)))
  · rcases List.mem_cons.mp hp with rfl | hp
    · exact Ne.symm aS.1
    rcases List.mem_cons.mp hp with rfl | hp
    · exact Ne.symm aS.2
    · exact hr p hp
end
end

/-! L2 -/
section

abbrev law.S0 : Stmt := pickRow Mine.hd.heap_39 173 0 fun _ => rfl
abbrev law.S1 : Stmt := pickRow Mine.hd.heap_39 173 1 fun _ => rfl
abbrev law.S2 : Stmt := pickRow Mine.hd.heap_39 173 2 fun _ => rfl
abbrev law.S3 : Stmt := pickRow Mine.hd.heap_39 173 3 fun _ => rfl
abbrev law.scope : Scope := pickScope Mine.hd.heap_39 173 fun _ => rfl
abbrev law.qual : Str := pickQual Mine.hd.heap_39 173 fun _ => rfl
abbrev law.code : Value := pickCode Mine.hd.heap_39 173 fun _ => rfl
abbrev lawEnv (L fa : Addr) (cd : Value) : Env := envOfC law.qual law.scope L fa cd
section
variable {w : World} {H : Heap} {fa L sv : Addr} {cd : Value} {m : Str → Option Value} {s : Shared} {mean : ExcName → Option Value} {mg mb : Str → Option Value} {loose : List Str}
theorem law_S0 {Q : Flow → Shared → Prop} {E : Value → Shared → Prop} {vs : List Value} {ns : List Int} {oc : Obj}
    (F : Fr H L s.heap (fun y => if y = "script" then some (.ref sv) else none)) (X : (Mine.hd.heap_39 w.params).In H) (N : News H L s.heap [(L + 1, oc)]) (T : Top Mine.hd.view_39 loose mean mg mb H) (B : Below callerA H [] H)
    (hco : oc.data = .cell none) (hL : H.IsList sv vs.toArray) (hI : IntsAre vs ns) (hlen : ns.length ≤ 63)
    (ret : ∀ st sc t0 ws o' h' tk, IntsAre ws (ns.take 40) → Fr H L h' (fun y => if y = "script" then some (.ref sv) else none) → News H L h' [(st, listOf #[.ref sc, .int 0 t0] 0), (sc, listOf ws.toArray 0), (L + 1, o')] → o'.data = .cell (some (.ref st)) → @LT.lt Nat _ sc st → @LT.lt Nat _ (L + 1) sc → Q .next { s with heap := h', toks := tk }) :
    wpAny (model Challenge.rw_eg5033_01.row.prog w) (callerA.deeper (lawEnv L fa cd)) (exec law.S0 (lawEnv L fa cd)) Q E s := by
  revert X
  w_top off
  k_fill
  intro X
  unfold law.S0 lawEnv law.scope law.qual pickRow pickScope pickQual
  k_steps
  (with_reducible rename Fr _ _ _ _ => kF)
  (with_reducible rename News _ _ _ _ => kN)
  (with_reducible rename IntsAre _ _ => kI)
  refine ret _ _ _ _ _ _ _ kI kF kN ?_ ?_ ?_
  · with_reducible assumption
  · omega
  · omega
end
end

/-! L3 -/
section

section
variable {w : World} {H : Heap} {fa L sv : Addr} {cd : Value} {m : Str → Option Value} {s : Shared} {mean : ExcName → Option Value} {mg mb : Str → Option Value} {loose : List Str}
theorem range_three : ∀ r : Int, 0 ≤ r → r < 3 → Builtin.Range.small 0 (1 + r) 1 = true ∧ ∃ n : Nat, n ≤ 3 ∧ Builtin.Range.rangeSize 0 (1 + r) 1 = (n : Int) := by
  intro r h0 h3
  have h : r = 0 ∨ r = 1 ∨ r = 2 := by omega
  rcases h with rfl | rfl | rfl
  · exact ⟨by decide, 1, by decide, by decide⟩
  · exact ⟨by decide, 2, by decide, by decide⟩
  · exact ⟨by decide, 3, by decide, by decide⟩
theorem news_trip {h₀ h : Heap} {L a b c : Addr} {o p q : Obj} (ha : h.get? a = some o ∧ a ≠ L ∧ h₀.get? a = none) (hb : h.get? b = some p ∧ b ≠ L ∧ h₀.get? b = none) (hc : h.get? c = some q ∧ c ≠ L ∧ h₀.get? c = none) : News h₀ L h [(a, o), (b, p), (c, q)] := fun x hx => by
  rcases List.mem_cons.mp hx with rfl | hx
  · exact ha
  rcases List.mem_cons.mp hx with rfl | hx
  · exact hb
  · rw [List.mem_singleton.mp hx]; exact hc
/-- the comprehension's turns -/
theorem law_S1 {Q : Flow → Shared → Prop} {E : Value → Shared → Prop} {ws : List Value} {ms : List Int} {o' : Obj} {st sc : Addr} {t0 : Tok}
    (F : Fr H L s.heap (fun y => if y = "script" then some (.ref sv) else none)) (X : (Mine.hd.heap_39 w.params).In H) (N : News H L s.heap [(st, listOf #[.ref sc, .int 0 t0] 0), (sc, listOf ws.toArray 0), (L + 1, o')]) (T : Top Mine.hd.view_39 loose mean mg mb H) (B : Below callerA H [] H)
    (hco : o'.data = .cell (some (.ref st))) (hss : @LT.lt Nat _ sc st) (hsL : @LT.lt Nat _ (L + 1) sc) (hI : IntsAre ws ms) (hlen : ms.length ≤ 63)
    (ret : ∀ D ys news h' tk, (∀ y ∈ ys, CaseAt news y) → ys.length ≤ 3 → Fr H L h' (fun y => if y = "cases" then some (.ref D) else if y = "script" then some (.ref sv) else none) → News H L h' ((D, LCg.lst ys) :: news) → LCg.Off1 D news → Q .next { s with heap := h', toks := tk }) :
    wpAny (model Challenge.rw_eg5033_01.row.prog w) (callerA.deeper (lawEnv L fa cd)) (exec law.S1 (lawEnv L fa cd)) Q E s := by
  revert X
  w_top off
  k_fill
  intro X
  unfold law.S1 lawEnv law.scope law.qual pickRow pickScope pickQual
  k_dflt (refine LCg.Assign_ListComp_U (F₀ := F) (by rfl) (by with_unfolding_all rfl) (by with_unfolding_all rfl) (by decide) (by rfl) (by decide) (by rfl) (by rfl) (by rfl) ?_)
  repeat ((fail_if_success (with_reducible show LCg.CompSrc _ _ _ _ _ _ _ _ _ _ _ _ _ _)); walk1)
  (with_reducible rename Fr _ _ _ _ => kF)
  (with_reducible rename News _ _ _ _ => kN)
  (with_reducible rename IsRange _ _ _ _ _ _ _ _ => kR)
  (with_reducible rename @LT.lt Int _ _ 3 => h3)
  have zt := kN (st, _) (by k_mem)
  have zs := kN (sc, listOf ws.toArray 0) (by k_mem)
  have zc := kN (L + 1, o') (by k_mem)
  have kN2 := news_trip zt zs zc
  obtain ⟨hsm, n, hn3, hn⟩ := range_three _ (by with_reducible assumption) h3
  clear kN zt zs zc
  refine LCg.CompSrc.range (by rfl) kF kN2 kR hsm hn (by rw [sizeLine_eq]; omega) ?_
  intro gg
  refine comp_ind (K1 := n) ?step ?fin n 0 [] _ _ _ [] (by simp) (by with_reducible assumption) (fun _ h9 => nomatch h9) (fun _ h9 => nomatch h9)
  case fin =>
    intro ys c t n rest hl hy
    unfold LCg.FinA
    intro D h' tk F' N' o1
    exact ret D ys _ h' tk (fun y hy' => (hy y hy').more fun p hp => .tail _ (.tail _ (.tail _ hp))) (by omega) F' N' o1
  case step =>
    intro R c t n rest v I oI C oC D ys m₂ h tk E' hc hr hC F' N' off ne ret'
    clear kF kN2 kR ret
    repeat ((fail_if_success (with_reducible show wpAny _ _ (call (Value.ref 154) _) _ _ _)); walk1)
    k_dflt (refine comp_call (L := L) (s₀ := { s with heap := h, toks := tk }) B X T ?x1 ?x2 ?hF ?hN off hr rfl ?h1 ?h2 hI hlen hc ?h3 ret')
    case x1 => exact rfl
    case x2 => decide
    case hF => with_reducible assumption
    case hN => with_reducible assumption
    case h1 => exact Nat.ne_of_lt hss
    case h2 => exact Nat.ne_of_lt (Nat.lt_trans hsL hss)
    case h3 => exact ⟨_, _, rfl⟩
end
end

/-! L4 -/
section

local macro_rules | `(tactic| walk_at "getAttr ref") => `(tactic| (k_here; k_dflt (refine' get_own ?k1 ?k2 ?k3 ?k4 ?k5 ?k6 ?k7 ?k8 ?k9 ?_; (case k1 => k_asm); (case k2 => k_asm); (case k3 => k_inst); (case k4 => k_is); (case k5 => k_is); (case k6 => k_is); (case k7 => k_is); (case k8 => k_get); (case k9 => with_reducible assumption); k_whole)))
theorem handed_of {v : Value} {x : Option Int} (h : Carried v (toPy x)) : handedIn v = true := by
  cases x <;> cases h <;> rfl
theorem handed_all {gv : Str → Value} : ∀ {fs : List Str} {ds : List (Option Int)}, CarriedAll (fs.map gv) (ds.map toPy) → ∀ f ∈ fs, handedIn (gv f) = true
  | [], _, _, _, hf => nomatch hf
  | a :: fs, [], h, _, _ => nomatch h
  | a :: fs, d :: ds, h, f, hf => by
    cases h with
    | cons h1 h2 =>
      rcases List.mem_cons.mp hf with rfl | hf
      · exact handed_of h1
      · exact handed_all h2 f hf
theorem fields_spec (w : World) {dp un : Nat} {gd : Option (List Code)} {cn : Str} {cs : Scope} {a : Addr} {ccd : Value} {cl : List (Str × Addr)} {outer : List Env} {A₀ : Around} {base h₀ : Heap} {L : Addr} {m : Str → Option Value} {s : Shared} {mean : ExcName → Option Value} {mg mb : Str → Option Value} {loose : List Str}
    {Q E : Value → Shared → Prop} {x dx : Addr} {gv : Str → Value} {t0 t1 t2 t3 t4 t5 t6 t7 t8 t9 t10 : Tok} {n : Nat}
    (B : Below A₀ base outer h₀) (F : Fr h₀ L s.heap m) (X : (Mine.hd.heap_39 w.params).In h₀) (N : News h₀ L s.heap [(x, instObj 108 dx), (dx, fdict w gv t0 t1 t2 t3 t4 t5 t6 t7 t8 t9 t10 n)]) (T : Top Mine.hd.view_39 loose mean mg mb h₀) (hk : cs.kind = .function) (hd : dp + 3 < recursionLimit)
    (hdx : @LT.lt Nat _ dx x) (hv : ∀ f ∈ FIELDS, handedIn (gv f) = true)
    (ret : ∀ l n' h' tk, h'.get? l = some (listOf (FIELDS.map gv).toArray n') → s.heap.get? l = none → (∀ b o, s.heap.get? b = some o → h'.get? b = some o) → Q (.ref l) { s with heap := h', toks := tk }) :
    wpAny (model Challenge.rw_eg5033_01.row.prog w) (ktrTop dp un gd cn cs L a ccd cl outer) (call (.ref 161) [.ref x]) Q E s := by
  revert X
  w_top off
  k_fill
  intro X
  refine wpAny_call ?_
  k_dflt (walk_at "mine_f_enter")
  intro g' L' h' hg' F' N' B' X' T' l1'
  dsimp only at F' ⊢
  (try k_fold)
  k_lt l1'
  have zx0 := N (x, instObj 108 dx) (.head _)
  have zd0 := N (dx, _) (.tail _ (.head _))
  have hg2 : ∀ b o, @Ne Nat b x → @Ne Nat b dx → s.heap.get? b = some o → g'.get? b = some o := fun b o h1 h2 e => hg' b o (by
    intro hm
    rcases List.mem_cons.mp hm with h | hm
    · exact h1 h
    · exact h2 (List.mem_singleton.mp hm)) e
  clear hg'
  have v0 := hv "millennia" (by decide)
  have v1 := hv "centuries" (by decide)
  have v2 := hv "decades" (by decide)
  have v3 := hv "years" (by decide)
  have v4 := hv "months" (by decide)
  have v5 := hv "weeks" (by decide)
  have v6 := hv "days" (by decide)
  have v7 := hv "hours" (by decide)
  have v8 := hv "minutes" (by decide)
  have v9 := hv "seconds" (by decide)
  have v10 := hv "microseconds" (by decide)
  k_steps
  (with_reducible rename Fr _ _ _ _ => kF)
  (with_reducible rename News _ _ _ _ => kN)
  have zl := kN (_, listOf #[gv "millennia", _, _, _, _, _, _, _, _, _, _] _) (by k_mem)
  have zx := kN (x, instObj 108 dx) (by k_mem)
  have zd := kN (dx, fdict w gv t0 t1 t2 t3 t4 t5 t6 t7 t8 t9 t10 n) (by k_mem)
  clear kN
  (try k_unfold)
  refine ret _ _ _ _ zl.1 ?_ ?_
  · cases q : s.heap.get? _ with
    | none => rfl
    | some o =>
      have z := hg2 _ _ (by omega) (by omega) q
      rw [zl.2.2] at z
      cases z
  · intro b o e
    by_cases h1 : b = x
    · subst h1
      rw [zx0.1] at e
      cases e
      exact zx.1
    by_cases h2 : b = dx
    · subst h2
      rw [zd0.1] at e
      cases e
      exact zd.1
    · exact kF.keep _ _ (hg2 _ _ h1 h2 e)
section
variable {w : World} {dp un : Nat} {gd : Option (List Code)} {cn : Str} {cs : Scope} {a : Addr} {ccd : Value} {cl : List (Str × Addr)} {outer : List Env} {A₀ : Around} {base h₀ : Heap} {L : Addr} {m : Str → Option Value} {s : Shared} {mean : ExcName → Option Value} {mg mb : Str → Option Value} {loose : List Str}
theorem fields_use {Q E : Value → Shared → Prop} {x dx : Addr} {gv : Str → Value} {t0 t1 t2 t3 t4 t5 t6 t7 t8 t9 t10 : Tok} {n : Nat} {news : List (Addr × Obj)} {ds : List (Option Int)}
    (B : Below A₀ base outer h₀) (F : Fr h₀ L s.heap m) (X : (Mine.hd.heap_39 w.params).In h₀) (N : News h₀ L s.heap news) (T : Top Mine.hd.view_39 loose mean mg mb h₀) (hk : cs.kind = .function) (hd : dp + 3 < recursionLimit)
    (mx : (x, instObj 108 dx) ∈ news) (md : (dx, fdict w gv t0 t1 t2 t3 t4 t5 t6 t7 t8 t9 t10 n) ∈ news) (hdx : @LT.lt Nat _ dx x) (hv : CarriedAll (FIELDS.map gv) (ds.map toPy))
    (ret : ∀ l n' h' tk, Fr h₀ L h' m → News h₀ L h' ((l, listOf (FIELDS.map gv).toArray n') :: news) → (∀ p ∈ news, p.1 ≠ l) → Q (.ref l) { s with heap := h', toks := tk }) :
    wpAny (model Challenge.rw_eg5033_01.row.prog w) (ktrTop dp un gd cn cs L a ccd cl outer) (call (.ref 161) [.ref x]) Q E s := by
  have N2 : News h₀ L s.heap [(x, instObj 108 dx), (dx, fdict w gv t0 t1 t2 t3 t4 t5 t6 t7 t8 t9 t10 n)] := fun p hp => by
    rcases List.mem_cons.mp hp with rfl | hp
    · exact N _ mx
    · rw [List.mem_singleton.mp hp]; exact N _ md
  refine fields_spec w B F X N2 T hk hd hdx (handed_all hv) fun l n' h' tk e1 e2 k => ret l n' h' tk (F.keeps k) (fun p hp => ?_) fun p hp q => ?_
  · rcases List.mem_cons.mp hp with rfl | hp
    · refine ⟨e1, fun q => ?_, ?_⟩
      · obtain ⟨o, _, _, ho, _⟩ := F.ns
        have q' : l = L := q
        rw [q', ho] at e2
        cases e2
      · cases q : h₀.get? l with
        | none => rfl
        | some o => have := F.keep _ _ q; rw [e2] at this; cases this
    · exact ⟨k _ _ (N p hp).1, (N p hp).2⟩
  · have z := (N p hp).1
    rw [q, e2] at z
    cases z
end
end
local macro_rules | `(tactic| walk_at "mine_pad_L4_0") => `(tactic| skip)
local macro_rules | `(tactic| walk_at "mine_pad_L4_1") => `(tactic| skip)

/-! L5 -/
section

def forBody : Stmt → List Stmt
  | .For _ _ b _ _ => b
  | _ => []
local macro_rules | `(tactic| walk_at "call ref") => `(tactic| (k_here; k_dflt (refine' fields_use ?B ?F ?X ?N ?T ?k ?d ?m1 ?m2 ?l ?v ?_; (case B => k_asm); (case F => k_asm); (case X => k_asm); (case N => k_asm); (case T => k_asm); (case k => first | exact rfl | assumption); (case d => ktr_room); (case m1 => k_mem); (case m2 => k_mem); (case l => with_reducible assumption); (case v => with_reducible assumption); k_whole; intro l' n' h' tk' F' N' l1'; (try k_sweep); (try ((first | with_reducible refine clean_any ?hs9 ?_ | with_reducible refine clean_leaveK ?hs9 ?_); (case hs9 => (dsimp only; exact rfl)))))))
section
variable {w : World} {H : Heap} {fa L : Addr} {cd : Value} {m : Str → Option Value} {s : Shared} {mean : ExcName → Option Value} {mg mb : Str → Option Value} {loose : List Str}
theorem News.list_at {h₀ h : Heap} {L a : Addr} {xs : List Value} {n : Nat} {news : List (Addr × Obj)} (N : PyProof.Rows.News h₀ L h news) (hm : (a, listOf xs.toArray n) ∈ news) : h.IsList a xs.toArray := ⟨_, (N _ hm).1, rfl, _, rfl⟩
theorem inst_news {h₀ h h' : Heap} {x dx : Addr} {o p : Obj} {d : Addr × Obj} {q : Addr × Obj} {news : List (Addr × Obj)} (F : Fr h₀ L h m) (N : News h₀ L h (q :: d :: news)) (k : ∀ b o, h.get? b = some o → h'.get? b = some o) (e1 : h'.get? x = some o) (e2 : h'.get? dx = some p)
    (n1 : h.get? x = none) (n2 : h.get? dx = none) : News h₀ L h' ((x, o) :: (dx, p) :: d :: news) := by
  obtain ⟨oL, _, _, hoL, _⟩ := F.ns
  have nl : ∀ b, h.get? b = none → b ≠ L ∧ h₀.get? b = none := by
    intro b hb
    refine ⟨fun q => ?_, ?_⟩
    · rw [q, hoL] at hb
      cases hb
    · cases q : h₀.get? b with
      | none => rfl
      | some o =>
        have := F.keep _ _ q
        rw [hb] at this
        cases this
  intro r hr
  rcases List.mem_cons.mp hr with rfl | hr
  · exact ⟨e1, nl _ n1⟩
  rcases List.mem_cons.mp hr with rfl | hr
  · exact ⟨e2, nl _ n2⟩
  · have z := N r (.tail _ hr)
    exact ⟨k _ _ z.1, z.2⟩
theorem law_turn {Q : Flow → Shared → Prop} {E : Value → Shared → Prop} {text bad : Str} {ds : List (Option Int)} {vals : List Value} {d : Addr} {t1 t2 : Tok} {nn : Nat} {news : List (Addr × Obj)}
    (B : Below callerA H [] H) (F : Fr H L s.heap (fun y => if y = "spoilt" then some (.str bad t2) else if y = "due" then some (.ref d) else if y = "text" then some (.str text t1) else m y))
    (X : (Mine.hd.heap_39 w.params).In H) (N : News H L s.heap ((d, listOf vals.toArray nn) :: news)) (T : Top Mine.hd.view_39 loose mean mg mb H)
    (hca : CarriedAll vals (ds.map toPy)) (hco : CaseOf text ds bad)
    (ret : ∀ m' h' tk, Fr H L h' m' → News H L h' ((d, listOf vals.toArray nn) :: news) → Q .next { s with heap := h', toks := tk }) :
    wpC (model Challenge.rw_eg5033_01.row.prog w) (callerA.deeper (lawEnv L fa cd)) (execs (forBody law.S2) (lawEnv L fa cd)) Q E s := by
  have hG := hco.good
  have hB := hco.bad
  clear hco
  revert X
  w_top off
  k_fill
  intro X
  unfold law.S2 lawEnv law.scope law.qual pickRow pickScope pickQual
  dsimp only [forBody]
  refine wpC_execs_cons (wpC_AssignName (wpC_Call_Attr ?_))
  k_steps
  refine wpC_spliced_cons (wpC_any ?_)
  with_reducible rw [if_neg Bool.false_ne_true]
  k_steps
  refine wpC_spliced_nil ?_
  (with_reducible rename Fr _ _ _ _ => kF)
  (with_reducible rename News _ _ _ _ => kN)
  have zq := kN (_, methodObj (.ref 51) (.ref 108)) (by k_mem)
  refine And.intro (kept_M (K := Mine.hd.heap_39 w.params) (f := 51) (self := .ref 108) ⟨zq.1, X.keeps kF.keep⟩ (by k_is)) ?_
  refine wpC_call (method_callC zq.1 (codeC_any ?_))
  k_dflt (refine sql_goodK B kF X T ?y1 ?y2 hG ?_)
  case y1 => exact rfl
  case y2 => decide
  intro x dx gv u0 u1 u2 u3 u4 u5 u6 u7 u8 u9 u10 n3 h3 tk3 hc e1 e2 n1 n2 lt k3
  have F3 := kF.keeps k3
  have N3 := inst_news kF kN k3 e1 e2 n1 n2
  clear kF kN zq e1 e2 n1 n2 k3
  dsimp only
  k_steps
  refine wpC_plain ?_
  repeat ((fail_if_success (with_reducible show wpAny _ _ (compareOp CmpOp.NotEq _ _) _ _ _)); walk1)
  (with_reducible rename News _ _ _ _ => kN4)
  k_dflt (refine ne_same (Mine.News.list_at kN4 (by k_mem)) (Mine.News.list_at kN4 (by k_mem)) hc hca ?u1 ?_)
  case u1 => k_units
  k_steps
  (with_reducible rename Fr _ _ _ _ => kF4)
  with_reducible rename News _ _ _ _ => kN4b
  refine wpC_execs_cons (wpC_If (wpC_isTrue_Not (wpC_isTrue_Call (wpC_Call_Name ?_))))
  k_steps
  refine wpC_spliced_cons (wpC_any ?_)
  with_reducible rw [if_neg Bool.false_ne_true]
  k_steps
  refine wpC_spliced_nil ?_
  (with_reducible rename Fr _ _ _ _ => kF5)
  (with_reducible rename News _ _ _ _ => kN5)
  have N5 : News H L _ ((d, listOf vals.toArray nn) :: news) := fun p hp => kN5 p (.tail _ (.tail _ (.tail _ hp)))
  refine And.intro (kept_K (K := Mine.hd.heap_39 w.params) (X.keeps kF5.keep) (by k_is)) ?_
  refine wpC_call ?_
  k_dflt (refine refused_specK B kF5 X T X T ?z1 ?z2 hB ?_)
  case z1 => exact rfl
  case z2 => decide
  intro h6 tk6 F6 k6
  have N6 : News H L h6 ((d, listOf vals.toArray nn) :: news) := fun p hp => ⟨k6 _ _ (N5 p hp).2.1 (N5 p hp).1, (N5 p hp).2⟩
  clear kF5 kN5 N5 k6
  dsimp only
  k_steps
  refine wpC_execs_nil ?_
  dsimp only
  refine wpC_execs_cons (wpC_AssignName (wpC_Call_Attr ?_))
  k_steps
  refine wpC_spliced_cons (wpC_any ?_)
  with_reducible rw [if_neg Bool.false_ne_true]
  k_steps
  refine wpC_spliced_nil ?_
  (with_reducible rename Fr _ _ _ _ => kF7)
  (with_reducible rename News _ _ _ _ => kN7)
  have zq7 := kN7 (_, methodObj (.ref 61) (.ref 108)) (by k_mem)
  refine And.intro (kept_M (K := Mine.hd.heap_39 w.params) (f := 61) (self := .ref 108) ⟨zq7.1, X.keeps kF7.keep⟩ (by k_is)) ?_
  refine wpC_call (method_callC zq7.1 (codeC_any ?_))
  k_dflt (refine fstr_goodK B kF7 X T ?y3 ?y4 hG ?_)
  case y3 => exact rfl
  case y4 => decide
  intro x7 dx7 gv7 v0 v1 v2 v3 v4 v5 v6 v7 v8 v9 v10 n7 h8 tk8 hc7 e17 e27 n17 n27 lt7 k8
  have F8 := kF7.keeps k8
  have N8 := inst_news kF7 kN7 k8 e17 e27 n17 n27
  clear kF7 kN7 zq7 e17 e27 n17 n27 k8 hc lt
  dsimp only
  k_steps
  refine wpC_plain ?_
  repeat ((fail_if_success (with_reducible show wpAny _ _ (compareOp CmpOp.NotEq _ _) _ _ _)); walk1)
  (with_reducible rename News _ _ _ _ => kN9)
  k_dflt (refine ne_same (Mine.News.list_at kN9 (by k_mem)) (Mine.News.list_at kN9 (by k_mem)) hc7 hca ?u2 ?_)
  case u2 => k_units
  k_steps
  refine wpC_execs_nil ?_
  (with_reducible rename Fr _ _ _ _ => kFz)
  (with_reducible rename News _ _ _ _ => kNz)
  exact ret _ _ _ kFz (fun p hp => kNz p (.tail _ (.tail _ (.tail _ hp))))
end
end
local macro_rules | `(tactic| walk_at "mine_pad_L5_0") => `(tactic| skip)
local macro_rules | `(tactic| walk_at "mine_pad_L5_1") => `(tactic| skip)

/-! L6 -/
section

section
variable {prog : Program} {w : World} {A : Around} {E : Value → Shared → Prop} {s : Shared} {env : Env}
theorem codeC_forLoopT {R : Result → Shared → Prop} {target : Expr} {it : Value} {body : List Stmt} (I : Nat → Shared → Prop)
    (turn : ∀ n s, I n s → wpAny (model prog w) A (pyNext it) (fun r s₁ => match r with
      | none => R (.ok .next) s₁
      | some v => wpAny (model prog w) A (letOwnedTupleGo target it v) (fun _ s₁ => wpAny (model prog w) A (assign target env v) (fun _ s₂ => wpC (model prog w) A (execs body env) (fun f s₃ => match f with
          | .next | .cont => ∃ m, m < n ∧ I m s₃
          | .brk => R (.ok .next) s₃
          | .ret v => R (.ok (.ret v)) s₃) (notedBy (model prog w) A env fun e s' => R (.error e) s') s₂) (notedBy (model prog w) A env fun e s' => R (.error e) s') s₁) (notedBy (model prog w) A env fun e s' => R (.error e) s') s₁) (notedBy (model prog w) A env fun e s' => R (.error e) s') s)
    (n : Nat) (h : I n s) : codeC (model prog w) A (.forLoop target it body [] env) R s := by
  refine codeC_again rfl I (fun n s hI => ?_) n s h
  show wpC _ _ ((forTurn target it body [] env).onRaise (fun x => do noteFrame x env; theTreesLotGoes x)) _ _ s
  refine wpC_onRaise (wpC_mono (E := notedBy (model prog w) A env fun e s' => R (.error e) s') ?_ (fun _ _ x => x) fun _ _ hx => wpC_any (wpAny_bind (wpAny_mono hx (fun _ _ e => wpAny_theTreesLotGoes e) fun _ _ e => e)))
  simp only [forTurn]
  refine wpC_bind (wpC_standAt (wpC_bind (wpC_any (wpAny_onRaise (wpAny_mono (turn n s hI) (fun r s₁ h₁ => ?_) fun _ _ h' => wpAny_standAt h')))))
  cases r with
  | none => exact wpC_pure (.inr ⟨rfl, codeC_any (codeAny_block (wpAny_execs_nil h₁))⟩)
  | some v =>
    refine wpC_bind (wpC_any (wpAny_mono h₁ (fun _ s₂ h₂ => ?_) fun _ _ h' => h'))
    refine wpC_bind (wpC_any (wpAny_mono h₂ (fun _ s₂ h₂ => wpC_bind (wpC_mono h₂ (fun f s₃ h₃ => ?_) fun _ _ h' => h')) fun _ _ h' => h'))
    cases f with
    | next => exact wpC_pure (.inl ⟨rfl, h₃⟩)
    | cont => exact wpC_pure (.inl ⟨rfl, h₃⟩)
    | brk => exact wpC_pure h₃
    | ret v => exact wpC_pure h₃
end
section
variable {w : World} {H : Heap} {fa L D : Addr} {cd : Value} {m : Str → Option Value} {s : Shared} {mean : ExcName → Option Value} {mg mb : Str → Option Value} {loose : List Str}
def ForInv (H : Heap) (L D I : Addr) (ys : List Value) (news : List (Addr × Obj)) (s : Shared) (n : Nat) (s' : Shared) : Prop :=
  ∃ i h tk m', s' = { s with heap := h, toks := tk } ∧ i ≤ ys.length ∧ n = ys.length - i ∧ h.IsListIter I D i ∧ Fr H L h m' ∧ News H L h ((D, LCg.lst ys) :: news)
theorem law_S2 {Q : Flow → Shared → Prop} {E : Value → Shared → Prop} {ys : List Value} {news : List (Addr × Obj)}
    (B : Below callerA H [] H) (F : Fr H L s.heap (fun y => if y = "cases" then some (.ref D) else m y)) (X : (Mine.hd.heap_39 w.params).In H) (N : News H L s.heap ((D, LCg.lst ys) :: news)) (T : Top Mine.hd.view_39 loose mean mg mb H)
    (hy : ∀ y ∈ ys, CaseAt news y) (ret : ∀ m' h' tk, Fr H L h' m' → Q .next { s with heap := h', toks := tk }) :
    wpC (model Challenge.rw_eg5033_01.row.prog w) (callerA.deeper (lawEnv L fa cd)) (exec law.S2 (lawEnv L fa cd)) Q E s := by
  revert X
  w_top off
  k_fill
  intro X
  unfold law.S2 pickRow
  refine wpC_For ?_
  have hl : s.heap.IsList D ys.toArray := ⟨_, (N _ (.head _)).1, rfl, _, rfl⟩
  unfold lawEnv law.scope law.qual pickScope pickQual
  repeat ((fail_if_success (with_reducible show wpAny _ _ (pyIter _) _ _ _)); walk1)
  refine wpAny_pyIter_list hl ?_
  have nI : ∀ b o, s.heap.get? b = some o → b ≠ s.heap.objs.size := fun b o e => Nat.ne_of_lt (Heap.lt_size e)
  have hIH : H.get? s.heap.objs.size = none := next_is_new F
  have hLI : L ≠ s.heap.objs.size := by
    obtain ⟨o, _, _, ho, _⟩ := F.ns
    exact nI _ _ ho
  have offI : ∀ p ∈ (D, LCg.lst ys) :: news, p.1 ≠ s.heap.objs.size := fun p hp => nI _ _ (N p hp).1
  have up : ∀ b o, s.heap.get? b = some o → (s.heap.push { cls := .type "list_iterator", data := .fields #[.ref D, .int 0 0] }).get? b = some o := fun b o e => Heap.get?_push_of_some _ e
  have start : ForInv H L D s.heap.objs.size ys news s ys.length { s with heap := s.heap.push { cls := .type "list_iterator", data := .fields #[.ref D, .int 0 0] } } :=
    ⟨0, _, _, _, rfl, Nat.zero_le _, rfl, ⟨_, Heap.get?_push_size _ rfl, rfl, rfl⟩, F.keeps up, N.grown up⟩
  have hne : D ≠ s.heap.objs.size := offI (D, _) (.head _)
  clear up hl F N
  generalize s.heap.objs.size = I at nI hIH hLI offI start hne ⊢
  clear nI
  refine codeC_forLoopT (ForInv H L D I ys news s) ?turn ys.length start
  clear start
  case turn =>
  rintro n s' ⟨i, h, tk, m', rfl, hi, rfl, hit, F', N'⟩
  have hl' : h.IsList D ys.toArray := ⟨_, (N' _ (.head _)).1, rfl, _, rfl⟩
  have W := fun (A : Around) (hh : A.handled = none) => Walks.list (prog := Challenge.rw_eg5033_01.row.prog) (w := w) (A := A) hh I D hne ys.toArray
  by_cases hlt : i < ys.length
  · refine (W _ (by rfl)).item i _ _ _ (by simpa using hlt) ⟨hit, hl'⟩ fun v h₂ tk₂ hP st₂ k₂ => ?_
    have hv : v ∈ ys := List.mem_of_getElem? (i := i) (by simpa using hP)
    obtain ⟨q, d, text, ds, bad, vals, t1, t2, nn, rfl, hco, hca, mq, md⟩ := hy v hv
    obtain ⟨oI, heI, hIc⟩ := id st₂.1
    have F₂ : Fr H L h₂ m' := LCg.fr_but F' k₂ hLI hIH
    have N₂ : News H L h₂ ((D, LCg.lst ys) :: news) := LCg.news_but N' k₂ offI
    have N₃ : News H L h₂ ((q, tup #[.str text t1, .ref d, .str bad t2]) :: (d, listOf vals.toArray nn) :: (I, oI) :: (D, LCg.lst ys) :: news) := fun p hp => by
      rcases List.mem_cons.mp hp with rfl | hp
      · exact N₂ _ (.tail _ mq)
      rcases List.mem_cons.mp hp with rfl | hp
      · exact N₂ _ (.tail _ md)
      rcases List.mem_cons.mp hp with rfl | hp
      · exact ⟨heI, Ne.symm hLI, hIH⟩
      · exact N₂ _ hp
    dsimp only
    refine wpAny_letOwnedTupleGo_listiter st₂.1 ?_
    have hiter : ∀ h3 : Heap, h3.get? I = some oI → h3.IsListIter I D (i + 1) := fun h3 e => ⟨oI, e, hIc⟩
    clear F' N' k₂ st₂ heI hIc N₂ hl' hit mq md W hP hv
    k_steps
    (with_reducible rename Fr _ _ _ _ => kF)
    (with_reducible rename News _ _ _ _ => kN)
    k_dflt (refine law_turn (nn := nn) (news := (I, oI) :: (D, LCg.lst ys) :: news) B kF X ?hN1 T hca hco ?_)
    case hN1 => exact fun p hp => kN p (.tail _ hp)
    intro m3 h3 tk3 F3 N3
    exact ⟨_, by omega, i + 1, h3, tk3, m3, rfl, hlt, rfl, hiter h3 (N3 (I, oI) (.tail _ (.head _))).1, F3, fun p hp => N3 p (.tail _ (.tail _ hp))⟩
  · obtain rfl : i = ys.length := Nat.le_antisymm hi (Nat.not_lt.mp hlt)
    refine (W _ (by rfl)).done _ _ _ ⟨by simpa using hit, hl'⟩ fun h₂ tk₂ k₂ => ?_
    exact ret m' h₂ tk₂ (LCg.fr_but F' k₂ hLI hIH)
end
end

/-! L7 -/
section

section
variable {w : World} {H : Heap} {fa L sv : Addr} {cd : Value} {m : Str → Option Value} {s : Shared} {mean : ExcName → Option Value} {mg mb : Str → Option Value} {loose : List Str}
theorem law_body {Q : Flow → Shared → Prop} {E : Value → Shared → Prop} {vs : List Value} {ns : List Int} {oc : Obj}
    (F : Fr H L s.heap (fun y => if y = "script" then some (.ref sv) else none)) (X : (Mine.hd.heap_39 w.params).In H) (N : News H L s.heap [(L + 1, oc)]) (T : Top Mine.hd.view_39 loose mean mg mb H) (B : Below callerA H [] H)
    (hco : oc.data = .cell none) (hL : H.IsList sv vs.toArray) (hI : IntsAre vs ns) (hlen : ns.length ≤ 63)
    (ret : ∀ m' h' tk, Fr H L h' m' → Q (.ret (.bool true)) { s with heap := h', toks := tk }) :
    wpC (model Challenge.rw_eg5033_01.row.prog w) (callerA.deeper (lawEnv L fa cd)) (execs [law.S0, law.S1, law.S2, law.S3] (lawEnv L fa cd)) Q E s := by
  refine wpC_execs_cons (wpC_any (law_S0 F X N T B hco hL hI hlen ?_))
  intro st sc t0 ws o' h1 tk1 hI1 F1 N1 hco1 hss hsL
  have hl1 : (ns.take 40).length ≤ 63 := by rw [List.length_take]; omega
  dsimp only
  refine wpC_execs_cons (wpC_any (law_S1 (s := { s with heap := h1, toks := tk1 }) F1 X N1 T B hco1 hss hsL hI1 hl1 ?_))
  intro D ys news h2 tk2 hy _ F2 N2 _
  dsimp only
  refine wpC_execs_cons (law_S2 (s := { s with heap := h2, toks := tk2 }) B F2 X N2 T hy ?_)
  intro m3 h3 tk3 F3
  dsimp only
  clear F F1 N N1 F2 N2
  revert X
  w_top off
  k_fill
  intro X
  have N3 : News H L h3 [] := News.nil
  unfold law.S3 pickRow
  refine wpC_plain ?_
  k_steps
  exact ret _ _ _ F3
end
theorem law_entry : Challenge.rw_eg5033_01.Holds := by
  refine hd ?_
  k_fill
  intro w s₀ s₁ mg mb G Y fa o pm cd doc dV kV ho hd hcd hD hmg hg args vals as9 hpre hlay hrd hwl hlo
  have KX := kIn_of Y
  have X := (Ground.X G).1
  have V := (Ground.X G).2
  refine Ground.open G ?_
  intro T B D TE TW
  try (refine guard_noD D (by decide +kernel) ?_; clear D)
  obtain ⟨_, _, M⟩ := bmod_of_top T
  wrow_args hpre hlay hrd hwl hlo
  refine codeC_mono ?_ (fun _ _ g => GoodW.toG g)
  have K0 := below_caller (Top.heap T)
  have he := Dflts.none hD rfl; subst he; have he := Dflts.noKw hD; subst he
  refine codeC_topC (binds := [("script", _)]) K0 (Top.nolimit T) ho (fd_plain hd) hcd (by decide) (BindsTo.of_eq rfl) (fun n => kindsX (by rfl) n) (by decide +kernel) ?_
  intro L' h₁ tk cells F N Y0
  (with_reducible rename IntsAre _ _ => kI)
  (with_reducible rename Heap.IsList _ _ _ => kL)
  k_cells Y0
  rename_i o9 d9
  have hco : o9.data = .cell none := by rw [d9]; with_unfolding_all rfl
  have F1 := fr_congr (m' := fun y => if y = "script" then some _ else none) F fun y => by
    by_cases h1 : y = "script"
    · subst h1; with_unfolding_all rfl
    have e1 : (lawEnv L' fa cd).kindOf "script" = some .local := by with_unfolding_all rfl
    show bindL (lawEnv L' fa cd).kindOf [("script", _)] (fun _ => none) y = _
    simp only [bindL, e1, if_true, if_neg h1]
  clear d9 F
  k_dflt (refine law_body (L := L') (fa := fa) (cd := cd) F1 KX N T K0 hco kL kI (by omega) ?_)
  intro m' h' tk' F3
  dsimp only
  k_end
  wrow_close
end

end Mine

theorem PySem.Challenge.cw_eg5033_01_holds : PySem.Challenge.rw_eg5033_01.Holds :=
  Mine.law_entry
