import PyProof.Rows.All
import Wide.All
import OpenK.AllK
import Wide.FinOn
import PySem.Challenge.RW_ny0470_03
set_option maxRecDepth 100000
set_option Elab.async false
open PySem PySem.W PySem.Calls PyProof.Rows
namespace Mine

/-! ## contexts without a built-in that may hold a bytearray's memory -/

def badIds : List String := Builtin.Bytes.decodersThatHold ++ ["bytearray.__contains__", "bytearray.__mod__", "bytearray.__rmod__", "_struct.pack_into.held", "bytearray.find.held"]
def calmCode : Code → Bool
  | .builtin id _ => !badIds.contains id
  | _ => true
def CalmC (Γ : Ctx) : Prop := calmCode Γ.code = true ∧ ∀ x ∈ Γ.below, calmCode x.1 = true

def wpS {α : Type} (M : Model) (A : Around) (t : Sem α) (Q : α → Shared → Prop) (E : Value → Shared → Prop) (s : Shared) : Prop :=
  ∀ Γ p, Γ.In A → CalmC Γ → Sem.wp M Γ t (fun a _ s' => Q a s') (fun e _ s' => E e s') p s
def codeS (M : Model) (A : Around) (c : Code) (R : Result → Shared → Prop) (s : Shared) : Prop :=
  ∀ Γ p, Γ.code = c → Γ.Below A → CalmC Γ → wpCode M Γ R p s

theorem CalmC.enter {Γ : Ctx} (h : CalmC Γ) {c : Code} (hc : calmCode c = true) (hd : Option Value) (p : Pos) : CalmC (Γ.enter c hd p) :=
  ⟨hc, fun x hx => by rcases List.mem_cons.mp hx with rfl | hx; exact h.1; exact h.2 x hx⟩
theorem CalmC.goto {Γ : Ctx} (h : CalmC Γ) {c : Code} (hc : calmCode c = true) : CalmC (Γ.goto c) := ⟨hc, h.2⟩

section
variable {α β : Type} {M : Model} {A : Around} {E : Value → Shared → Prop} {s : Shared}

theorem wpS_any {t : Sem α} {Q : α → Shared → Prop} (h : wpAny M A t Q E s) : wpS M A t Q E s := fun Γ p hΓ _ => h Γ p hΓ
theorem codeS_any {c : Code} {R : Result → Shared → Prop} (h : codeAny M A c R s) : codeS M A c R s := fun Γ p hc hΓ _ => h Γ p hc hΓ
theorem wpS_pure {a : α} {Q : α → Shared → Prop} (h : Q a s) : wpS M A (pure a) Q E s := fun _ _ _ _ => h
theorem wpS_mono {t : Sem α} {Q Q' : α → Shared → Prop} {E' : Value → Shared → Prop} (h : wpS M A t Q E s)
    (hQ : ∀ a s, Q a s → Q' a s) (hE : ∀ e s, E e s → E' e s) : wpS M A t Q' E' s :=
  fun Γ p hΓ hc => Sem.wp_mono M Γ t (fun a _ s => hQ a s) (fun e _ s => hE e s) p s (h Γ p hΓ hc)
theorem wpS_bind {m : Sem α} {f : α → Sem β} {Q : β → Shared → Prop} (h : wpS M A m (fun a s' => wpS M A (f a) Q E s') E s) :
    wpS M A (m >>= f) Q E s := fun Γ p hΓ hc => by
  rw [Sem.wp_bind']
  exact Sem.wp_mono M Γ m (fun a p' s' h' => h' Γ p' hΓ hc) (fun _ _ _ h' => h') p s (h Γ p hΓ hc)
theorem wpS_holding {vs : List Value} {m : Sem α} {Q : α → Shared → Prop} (h : wpS M A m Q E s) : wpS M A (holding vs m) Q E s :=
  fun Γ p hΓ hc => by rw [Sem.wp_holding]; exact h Γ p hΓ hc
theorem wpS_keep {vs : List Value} {m : Sem α} {Q : α → Shared → Prop} (h : wpS M A m Q E s) : wpS M A (m.keep vs) Q E s :=
  fun Γ p hΓ hc => by rw [Sem.wp_keep]; exact h Γ p hΓ hc
theorem wpS_onRaise {m : Sem α} {k : Value → Sem Unit} {Q : α → Shared → Prop}
    (h : wpS M A m Q (fun e s' => wpS M A (k e) (fun _ s'' => E e s'') E s') s) : wpS M A (m.onRaise k) Q E s := fun Γ p hΓ hc => by
  rw [Sem.wp_onRaise]
  exact Sem.wp_mono M Γ m (fun _ _ _ h' => h') (fun e p' s' h' => h' Γ p' hΓ hc) p s (h Γ p hΓ hc)
theorem wpS_attempt {m : Sem α} {Q : Except Value α → Shared → Prop} (h : wpS M A m (fun a => Q (.ok a)) (fun e => Q (.error e)) s) :
    wpS M A m.attempt Q E s := fun Γ p hΓ hc => by rw [Sem.wp_attempt]; exact h Γ p hΓ hc
theorem wpS_standAt {pos : Pos} {Q : Unit → Shared → Prop} (h : Q () s) : wpS M A (standAt pos) Q E s := fun _ _ _ _ => h
theorem wpS_eq {t t' : Sem α} {Q : α → Shared → Prop} (e : t = t') (h : wpS M A t' Q E s) : wpS M A t Q E s := e ▸ h

theorem wpS_run {c : Code} {h : Option Value} {Q : Flow → Shared → Prop} (hcc : calmCode c = true)
    (hc : codeS M (A.mark h) c (fun r s' => match r with | .ok f => Q f s' | .error e => E e s') s) (hnb : h ≠ some byPass := by intro x; cases x) :
    wpS M A (run c h) Q E s :=
  fun Γ p hΓ hq => by rw [Sem.wp_run]; exact hc _ p rfl (hΓ.enter c h p hnb) (hq.enter hcc h p)
theorem wpS_runValue {c : Code} {Q : Value → Shared → Prop} (hcc : calmCode c = true)
    (hc : codeS M A c (fun r s' => match r with | .ok (.ret v) => Q v s' | .ok _ => False | .error e => E e s') s) :
    wpS M A (runValue c) Q E s := fun Γ p hΓ hq => by
  rw [Sem.wp_runValue]; exact hc _ p rfl (hΓ.enter c none p (by intro x; cases x)) (hq.enter hcc none p)
theorem wpS_call {f : Value} {pos : List Value} {kw : List (Str × Value)} {Q : Value → Shared → Prop}
    (hc : codeS M A (.call f ⟨pos, kw⟩) (fun r s' => match r with | .ok (.ret v) => Q v s' | .ok _ => False | .error e => E e s') s) :
    wpS M A (call f pos kw) Q E s := wpS_runValue rfl hc
theorem codeS_mono {c : Code} {R R' : Result → Shared → Prop} (h : codeS M A c R s) (hR : ∀ r s, R r s → R' r s) : codeS M A c R' s :=
  fun Γ p hc hΓ hq => wpCode_mono hR (h Γ p hc hΓ hq)
theorem codeS_of_tree {c : Code} {R : Result → Shared → Prop}
    (h : wpS M (A.under c) (M.den c) (fun fin s' => match fin with | .done f => R (.ok f) s' | .again c' => c'.quiet = true ∧ calmCode c' = true ∧ codeS M A c' R s')
      (fun e s' => R (.error e) s') s) : codeS M A c R s := fun Γ p hc hΓ hq => by
  rw [wpCode_iff_wp, hc]
  refine Sem.wp_mono M Γ _ (fun fin p' s' h' => ?_) (fun _ _ _ h' => h') p s (h Γ p (hc ▸ hΓ.in) hq)
  cases fin with
  | done f => exact h'
  | again c' => exact ⟨h'.1, h'.2.2 (Γ.goto c') p' rfl (hΓ.goto c') (hq.goto h'.2.1)⟩
theorem codeS_loop {c : Code} {R : Result → Shared → Prop} (hq : c.quiet = true) (hcc : calmCode c = true) (I : Nat → Shared → Prop)
    (turn : ∀ n s, I n s → wpS M (A.under c) (M.den c)
      (fun fin s' => match fin with | .done f => R (.ok f) s' | .again c' => c' = c ∧ ∃ m, m < n ∧ I m s') (fun e s' => R (.error e) s') s)
    (n : Nat) (h : I n s) : codeS M A c R s := by
  induction n using Nat.strongRecOn generalizing s with
  | ind n ih =>
    refine codeS_of_tree (wpS_mono (turn n s h) (fun fin s' hf => ?_) fun _ _ h' => h')
    cases fin with
    | done f => exact hf
    | again c' => obtain ⟨rfl, m, hm, hI⟩ := hf; exact ⟨hq, hcc, ih m hm hI⟩
end

/-! ## statements and expressions -/
section
variable {M : Model} {A : Around} {E : Value → Shared → Prop} {s : Shared} {env : Env}

theorem wpS_execs_nil {Q : Flow → Shared → Prop} (h : Q .next s) : wpS M A (execs [] env) Q E s := fun _ _ _ _ => h
theorem wpS_execs_cons {st rest} {Q : Flow → Shared → Prop}
    (h : wpS M A (exec st env) (fun f s' => match f with | .next => wpS M A (execs rest env) Q E s' | f => Q f s') E s) :
    wpS M A (execs (st :: rest) env) Q E s := by
  rw [execs_cons]
  refine wpS_bind (wpS_mono h (fun f s' h' => ?_) fun _ _ x => x)
  cases f <;> first | exact h' | exact wpS_pure h'
theorem wpS_Assign_Name {x pos' value pos} {Q : Flow → Shared → Prop}
    (h : wpS M A (eval value env) (fun v s₁ => wpAny M A (storeName env x v) (fun _ => Q .next) E s₁) E s)
    (hs : swapsWith value (some (.Name x pos')) pos.line env = pure false := by rfl) :
    wpS M A (exec (.Assign [.Name x pos'] value pos) env) Q E s := fun Γ p hΓ hc => by
  simp only [exec_Assign_Name env x pos' value pos hs, Sem.wp_bind', Sem.wp_cmd_standAt, Sem.wp_bindName, Sem.wp_pure']
  exact Sem.wp_mono M Γ _ (fun v _ s₁ h₁ => h₁ Γ _ hΓ) (fun _ _ _ h' => h') _ _ (h Γ _ hΓ hc)
theorem wpS_If {test body orelse pos} {Q : Flow → Shared → Prop}
    (h : wpS M A (isTrue test env (eval test env))
      (fun b s₂ => if b then wpS M A (execs body env) Q E s₂ else wpS M A (execs orelse env) Q E s₂) E s) :
    wpS M A (exec (.If test body orelse pos) env) Q E s := fun Γ p hΓ hc => by
  simp only [exec_If, Sem.wp_bind', Sem.wp_cmd_standAt]
  refine Sem.wp_mono M Γ _ (fun b p₂ s₂ h₂ => ?_) (fun _ _ _ h' => h') _ _ (h Γ _ hΓ hc)
  cases b <;> exact h₂ Γ p₂ hΓ hc
theorem wpS_Return {e pos} {Q : Flow → Shared → Prop} (h : wpS M A (eval e env) (fun v => Q (.ret v)) E s) :
    wpS M A (exec (.Return (some e) pos) env) Q E s := fun Γ p hΓ hc => by
  simp only [exec_Return_some, Sem.wp_bind', Sem.wp_cmd_standAt, Sem.wp_pure']; exact h Γ _ hΓ hc
theorem wpS_BinOp {l op r pos} {Q : Value → Shared → Prop}
    (h : wpS M A (eval l env) (fun a s₁ => wpS M A (eval r env) (fun b s₂ => wpS M A (binaryOp op a b) Q E s₂) E s₁) E s) :
    wpS M A (eval (.BinOp l op r pos) env) Q E s := fun Γ p hΓ hc => by
  simp only [eval_BinOp, Sem.wp_bind', Sem.wp_holding, Sem.wp_cmd_standAt, Sem.wp_operate]
  exact Sem.wp_mono M Γ _ (fun a p₁ s₁ h₁ => Sem.wp_mono M Γ _ (fun b _ s₂ h₂ => h₂ Γ _ hΓ hc) (fun _ _ _ h' => h') _ _ (h₁ Γ p₁ hΓ hc))
    (fun _ _ _ h' => h') _ _ (h Γ p hΓ hc)
theorem wpS_Compare1 {l op r pos} {Q : Value → Shared → Prop}
    (h : wpS M A (eval l env) (fun a s₁ => wpS M A (eval r env) (fun b s₂ => wpS M A (compareOp op a b) Q E s₂) E s₁) E s)
    (hm : behindInMarks op r = false := by with_unfolding_all rfl) :
    wpS M A (eval (.Compare l [op] [r] pos) env) Q E s := fun Γ p hΓ hc => by
  simp only [eval_Compare1, markedBehindIn_of_false hm, Sem.wp_bind', Sem.wp_holding, Sem.wp_cmd_standAt, Sem.wp_operate]
  exact Sem.wp_mono M Γ _ (fun a p₁ s₁ h₁ => Sem.wp_mono M Γ _ (fun b _ s₂ h₂ => h₂ Γ _ hΓ hc) (fun _ _ _ h' => h') _ _ (h₁ Γ p₁ hΓ hc))
    (fun _ _ _ h' => h') _ _ (h Γ p hΓ hc)
theorem wpS_isTrue_plain {e : Expr} {whole : Sem Value} {Q : Bool → Shared → Prop} (h : wpS M A whole (fun v s₁ => wpAny M A (truthy v) Q E s₁) E s)
    (he : isTrue e env whole = (do let v ← whole; standAt e.pos; holding [v] (truthy v)) := by rfl) : wpS M A (isTrue e env whole) Q E s := by
  rw [he]
  exact wpS_bind (wpS_mono h (fun v s₁ h₁ => wpS_bind (wpS_standAt (wpS_holding (wpS_any h₁)))) fun _ _ x => x)
theorem wpS_isTrue_not {x pos whole} {Q : Bool → Shared → Prop} (h : wpS M A (isTrue x env (eval x env)) (fun c s' => Q (!c) s') E s) :
    wpS M A (isTrue (.UnaryOp .Not x pos) env whole) Q E s := by
  show wpS M A (do return !(← isTrue x env (eval x env))) Q E s
  exact wpS_bind (wpS_mono h (fun c s' h' => wpS_pure h') fun _ _ x => x)
theorem wpS_And2 {x y pos} {Q : Value → Shared → Prop}
    (h : wpS M A (eval x env) (fun v s₁ => wpAny M A (truthy v) (fun b s₂ => if b then wpS M A (eval y env) Q E s₂ else Q v s₂) E s₁) E s) :
    wpS M A (eval (.BoolOp .And [x, y] pos) env) Q E s := by
  show wpS M A (do
    let v ← eval x env
    standAt pos
    let t ← holding [v] (truthy v)
    match BoolOp.And, t with
    | .And, false | .Or, true => pure v
    | _, _ => eval y env) Q E s
  refine wpS_bind (wpS_mono h (fun v s₁ h₁ => wpS_bind (wpS_standAt (wpS_bind (wpS_holding (wpS_mono (wpS_any h₁) (fun b s₂ h₂ => ?_) fun _ _ x => x))))) fun _ _ x => x)
  cases b
  · exact wpS_pure h₂
  · exact h₂

theorem wpS_callWith {P : Heap → Prop} {pos : Pos} {f : Value} {first : List Value} {Q : Value → Shared → Prop} {args : List (Bool × Sem Value)} {keywords : List (Option Str × Sem Value)} (hplain : (args.any (·.1) || keywords.any (·.1.isNone)) = false)
    (hk : ∀ h, P h → ∃ k, (k = Keeper.frame ∨ k = Keeper.machine ∨ k = Keeper.boundFrame) ∧ Looks M h (keeperOf f) k)
    (h : wpS M A (evalArgs f true args keywords) (fun a s₁ => P s₁.heap ∧ wpS M A (call f (first ++ a.pos) a.kw) Q E s₁) E s) : wpS M A (callWith pos f first args keywords) Q E s := by
  unfold callWith
  refine wpS_bind (wpS_holding (wpS_mono h (fun a s₁ h₁ => wpS_bind (wpS_standAt ?_)) fun _ _ x => x))
  obtain ⟨k, hk', L⟩ := hk _ h₁.1
  simp only [hplain]
  refine wpS_bind (wpS_any (L.here ?_))
  have tail : ∀ {t : Sem Value}, wpS M A t Q E s₁ → wpS M A (t >>= fun r => holding [r] point >>= fun _ => pure r) Q E s₁ :=
    fun ht => wpS_bind (wpS_mono ht (fun r s₂ hr => wpS_bind (wpS_holding (wpS_any (wpAny_point (wpS_pure hr))))) fun _ _ x => x)
  have marked (mk : Value) : wpS M A (callMarked mk f (first ++ a.pos) a.kw) Q E s₁ := by unfold callMarked; exact wpS_keep h₁.2
  rcases hk' with rfl | rfl | rfl <;> dsimp only <;> first | exact tail h₁.2 | (split <;> first | exact tail h₁.2 | exact tail (marked _))
theorem wpS_evalArgs {f : Value} {x : Sem Value} {rest : List (Bool × Sem Value)} {Q : Args → Shared → Prop}
    (h : wpS M A (spliced ((false, x) :: rest)) (fun vs s' => Q ⟨vs, []⟩ s') E s) : wpS M A (evalArgs f true ((false, x) :: rest) []) Q E s := by
  unfold evalArgs
  show wpS M A (spliced ((false, x) :: rest) >>= _) Q E s
  refine wpS_bind (wpS_mono h (fun vs s' h' => ?_) fun _ _ x => x)
  refine wpS_holding ?_
  exact wpS_bind (wpS_pure (wpS_bind (wpS_pure (wpS_pure h'))))
theorem wpS_spliced_nil {Q : List Value → Shared → Prop} (h : Q [] s) : wpS M A (spliced []) Q E s := fun _ _ _ _ => h
theorem wpS_spliced_cons {x : Sem Value} {rest : List (Bool × Sem Value)} {Q : List Value → Shared → Prop}
    (h : wpS M A x (fun v s₁ => wpS M A (spliced rest) (fun vs s₂ => Q (v :: vs) s₂) E s₁) E s) : wpS M A (spliced ((false, x) :: rest)) Q E s := by
  show wpS M A (x >>= fun v => pure [v] >>= fun here => holding here (spliced rest) >>= fun r => pure (here ++ r)) Q E s
  exact wpS_bind (wpS_mono h (fun v s₁ h₁ => wpS_bind (wpS_pure (wpS_bind (wpS_holding (wpS_mono h₁ (fun vs s₂ h₂ => wpS_pure h₂) fun _ _ x => x))))) fun _ _ x => x)
theorem wpS_Call_type {fn : Expr} {e : Expr} {rest : List Expr} {pos : Pos} {T : String} {Q : Value → Shared → Prop}
    (hf : wpAny M A (eval fn env) (fun v s₁ => v = .type T ∧ wpS M A (spliced (backTo pos (starEach (e :: rest) env))) (fun vs s₂ => wpS M A (call (.type T) vs) Q E s₂) E s₁) E s)
    (hc : eval (.Call fn (e :: rest) [] pos) env = (do callWith pos (← eval fn env) [] (backTo pos (starEach (e :: rest) env)) (backToKw pos (keywordEach [] env))) := by rfl)
    (he : starEach (e :: rest) env = (false, eval e env) :: starEach rest env := by rfl) (hplain : (backTo pos (starEach rest env)).any (·.1) = false := by rfl) :
    wpS M A (eval (.Call fn (e :: rest) [] pos) env) Q E s := by
  rw [hc]
  refine wpS_bind (wpS_mono (wpS_any hf) (fun v s₁ h₁ => ?_) fun _ _ x => x)
  obtain ⟨rfl, h₁⟩ := h₁
  rw [he] at h₁ ⊢
  refine wpS_callWith (P := fun _ => True) (by show ((false || (backTo pos (starEach rest env)).any (·.1)) || false) = false; rw [hplain]; rfl) (fun h _ => ⟨.machine, .inr (.inl rfl), Looks.of_pure rfl⟩) ?_
  exact wpS_evalArgs (wpS_mono h₁ (fun _ _ x => ⟨trivial, x⟩) fun _ _ x => x)
/-- a call whose callee is a def of the written part: the arguments, then the call -/
theorem wpS_Call_K {K : Frag} {fn : Expr} {e : Expr} {rest : List Expr} {pos : Pos} {f : Value} {Q : Value → Shared → Prop} (hk : keepIn K f = true)
    (hf : wpAny M A (eval fn env) (fun v s₁ => v = f ∧ wpS M A (spliced (backTo pos (starEach (e :: rest) env))) (fun vs s₂ => K.In s₂.heap ∧ wpS M A (call f vs) Q E s₂) E s₁) E s)
    (hc : eval (.Call fn (e :: rest) [] pos) env = (do callWith pos (← eval fn env) [] (backTo pos (starEach (e :: rest) env)) (backToKw pos (keywordEach [] env))) := by rfl)
    (he : starEach (e :: rest) env = (false, eval e env) :: starEach rest env := by rfl) (hplain : (backTo pos (starEach rest env)).any (·.1) = false := by rfl) :
    wpS M A (eval (.Call fn (e :: rest) [] pos) env) Q E s := by
  rw [hc]
  refine wpS_bind (wpS_mono (wpS_any hf) (fun v s₁ h₁ => ?_) fun _ _ x => x)
  obtain ⟨rfl, h₁⟩ := h₁
  rw [he] at h₁ ⊢
  refine wpS_callWith (P := fun h => K.In h) (by show ((false || (backTo pos (starEach rest env)).any (·.1)) || false) = false; rw [hplain]; rfl) (keeps_K hk) ?_
  exact wpS_evalArgs h₁
end

/-! ## calls of defs -/
section
variable {prog : Program} {w : World} {A : Around} {s : Shared} {R : Result → Shared → Prop}
theorem codeS_func {body env}
    (h : wpS (model prog w) (A.deeper env) (execs body env) (fun f s' => R (.ok (.ret (match f with | .ret v => v | _ => .none))) s') (fun _ _ => False) s) :
    codeS (model prog w) A (.func body env) R s := by
  refine codeS_of_tree ?_
  show wpS _ (A.deeper env) (do point; match ← (execs body env).onRaise (leaving env) with | .ret v => ret v | _ => ret .none) _ _ s
  refine wpS_bind (wpS_any (wpAny_point (wpS_bind (wpS_onRaise (wpS_mono h (fun f s' h' => ?_) fun _ _ h' => h'.elim)))))
  cases f <;> exact wpS_pure h'
theorem codeS_call_function {a : Addr} {args : Args} {o : Obj} {fd : FuncData} {body : List Stmt} (hroom : A.depth < recursionLimit)
    (ho : s.heap.get? a = some o)
    (hd' : o.data = .func fd) (hco : fd.scope.isCoroutine = false) (hgen : fd.scope.isGenerator = false) (hbody : fd.body = .stmts body) (hcd : s.heap.CodeRec fd.code fd.qualname)
    (h : wpAny (model prog w) A.in1 (bindArgs fd args) (fun binds s₁ =>
      wpAny (model prog w) A.in1 (newFunctionEnv fd.scope fd.globals fd.closure binds (fd.qualname ++ ".<locals>.") (some a) fd.code none fd.builtins)
        (fun env s₂ => s₂.heap.NoLimit ∧ codeS (model prog w) A (.func body env) R s₂) (fun e s' => R (.error e) s') s₁) (fun e s' => R (.error e) s') s) :
    codeS (model prog w) A (.call (.ref a) args) R s := by
  refine codeS_of_tree ?_
  show wpS _ A.in1 (callAny (.ref a) args) _ _ s
  simp only [callAny]
  refine wpS_any (wpAny_bind (wpAny_load ho ?_))
  obtain ⟨c, oc, vs, tq, hc, hoc, hdc, hq⟩ := hcd
  simp only [hd', callFunction, hco, hgen, hbody, hc]
  rw [hc] at h
  refine wpAny_bind (m := field (.ref c) 1) (wpAny_field hoc hdc hq (wpAny_bind (wpAny_pure ?_)))
  exact wpAny_bind (wpAny_mono h (fun binds s₁ h₁ => wpAny_bind (wpAny_mono h₁ (fun env s₂ h₂ => wpAny_bind (wpAny_enterFrame h₂.1 hroom
    (wpAny_pure ⟨rfl, rfl, h₂.2⟩))) fun _ _ h' => h')) fun _ _ h' => h')
theorem codeS_call_def {a : Addr} {o : Obj} {fd : FuncData} {body : List Stmt} {args : Args} {binds : List (Str × Value)}
    (hroom : A.depth < recursionLimit) (ho : s.heap.get? a = some o) (hdata : o.data = .func fd) (hlim : s.heap.NoLimit) (hcd : s.heap.CodeRec fd.code fd.qualname)
    (hbody : fd.body = .stmts body) (hbind : BindsTo s fd args binds)
    (hcell : ∀ x ∈ fd.scope.names, x.2 ≠ .cell) (hloc : ∀ x ∈ binds, fd.scope.names.lookup x.1 = some .local)
    (h : ∀ h₀, h₀.Ns s.heap.objs.size (fun x => binds.reverse.lookup x) → (∀ b o, s.heap.get? b = some o → h₀.get? b = some o) →
      wpS (model prog w) (A.deeper (callEnv fd s.heap.objs.size a)) (execs body (callEnv fd s.heap.objs.size a)) (fun f s' => R (.ok (.ret (match f with | .ret v => v | _ => .none))) s')
        (fun _ _ => False) { s with heap := h₀, toks := s.toks + binds.length })
    (hco : fd.scope.isCoroutine = false := by rfl) (hgen : fd.scope.isGenerator = false := by rfl) (hk : fd.scope.kind = .function := by rfl) :
    codeS (model prog w) A (.call (.ref a) args) R s := by
  refine codeS_call_function hroom ho hdata hco hgen hbody hcd (hbind _ _ _ _ ?_)
  refine wpAny_newFunctionEnv hcell hloc (fun h₀ hns₀ hsb₀ => ⟨hlim.fresh _ hsb₀, codeS_func (h h₀ hns₀ fun b o e => ?_)⟩) hk
  exact hsb₀.extBut b o (Nat.ne_of_lt (Heap.lt_size e)) (Heap.get?_push_of_some _ e)
theorem call_fullS {name : Str} {params : Arguments} {body : List Stmt} {scope : Scope}
    {dV kV pm cd doc : Value} {a : Addr} {o : Obj} {args : Args} {binds : List (Str × Value)}
    (hroom : A.depth < recursionLimit) (ho : s.heap.get? a = some o) (hdata : o.data = .func { docDef name params body scope pm cd doc with defaults := dV, kwdefaults := kV }) (hlim : s.heap.NoLimit) (hcd : s.heap.CodeRec cd name)
    (hbind : BindsTo s { docDef name params body scope pm cd doc with defaults := dV, kwdefaults := kV } args binds)
    (hloc : ∀ x ∈ binds, scope.names.lookup x.1 = some .local)
    (h : ∀ h₁, Fr s.heap s.heap.objs.size h₁ (fun x => binds.reverse.lookup x) →
      wpS (model prog w) (A.deeper (envOf name scope s.heap.objs.size a cd)) (execs body (envOf name scope s.heap.objs.size a cd))
        (fun f s' => R (.ok (.ret (match f with | .ret v => v | _ => .none))) s') (fun _ _ => False)
        { s with heap := h₁, toks := s.toks + binds.length })
    (hco : scope.isCoroutine = false := by rfl) (hgen : scope.isGenerator = false := by rfl) (hk : scope.kind = .function := by rfl)
    (hcell : ∀ x ∈ scope.names, x.2 ≠ .cell := by decide) :
    codeS (model prog w) A (.call (.ref a) args) R s :=
  codeS_call_def hroom ho hdata hlim hcd rfl hbind hcell hloc (fun h₁ hns hkeep => h h₁ ⟨hns, hkeep, Nat.le_refl _⟩) hco hgen hk
end

section
variable {prog : Program} {w : World} {A A₀ : Around} {s : Shared} {K : Frag} {L : Addr} {h₀ base : Heap} {m mg mb : Str → Option Value} {news : List (Addr × Obj)} {p : Program} {loose : List Str} {mean : ExcName → Option Value}
/-- a call of a def of the written part, in calm contexts: its body is run in a frame of its own -/
theorem code_defS {env : Env} {outer : List Env} {R : Result → Shared → Prop} {name qual : Str} {params : Arguments} {body : List Stmt} {scope : Scope} {dV kV doc pm cdv ct oc : Value} {an od : Option Addr} {osl : Array (Option Value)} {f : Addr} {args : Args} {binds : List (Str × Value)}
    (B : Below A₀ base outer h₀) (F : Fr h₀ L s.heap m) (X₀ : K.In h₀) (N : News h₀ L s.heap news) (T : Top p loose mean mg mb h₀) (hA : A.frames = some (env :: outer)) (hf : env.frame = some L) (hke : env.scope.kind = .function)
    (ho : K.lookup f = some ⟨oc, od, .func (fnOf name qual params body scope dV kV doc pm an cdv ct), osl⟩) (hcd : codeIn K cdv qual = true) (hroom : A.depth < recursionLimit)
    (hbind : BindsTo s (fnOf name qual params body scope dV kV doc pm an cdv ct) args binds) (hloc : ∀ y ∈ binds, scope.names.lookup y.1 = some .local)
    (h : ∀ g L' h₁, Fr h₀ L g m → Fr g L' h₁ (fun y => binds.reverse.lookup y) → News g L' h₁ news → Below A base (env :: outer) g → K.In g → Top p loose mean mg mb g → (∀ p ∈ news, p.1 < L') →
      wpS (model prog w) (A.deeper (envOf qual scope L' f cdv)) (execs body (envOf qual scope L' f cdv))
        (fun fl s' => LeaveK h₀ L m g R (match fl with | .ret v => v | _ => .none) s') (fun _ _ => False)
        { s with heap := h₁, toks := s.toks + binds.length })
    (hco : scope.isCoroutine = false) (hgen : scope.isGenerator = false) (hk : scope.kind = .function)
    (hcell : ∀ x ∈ scope.names, x.2 ≠ .cell) : codeS (model prog w) A (.call (.ref f) args) R s := by
  obtain ⟨FG, BG, st, lv⟩ := groundX (R := R) B F N hA hf hke
  have X := X₀.keeps F.keep
  refine codeS_call_def (fd := fnOf name qual params body scope dV kV doc pm an cdv ct) (body := body) (binds := binds) hroom (X _ _ ho) rfl (T.nolimit.keeps F.keep) (codeRec_of X hcd) rfl hbind hcell hloc (fun h₁ hns hk₁ => ?_) hco hgen hk
  exact wpS_mono (h _ s.heap.objs.size h₁ FG ⟨hns, fun b o e => hk₁ b o (of_hideAll _ e), Nat.le_of_eq (hideAll_size _ _)⟩
    (fun p hp => ⟨hk₁ _ _ (N p hp).1, Nat.ne_of_lt (Heap.lt_size (N p hp).1), hideAll_none _ (List.mem_map_of_mem hp)⟩) BG (X₀.keeps st) (T.keeps st) (fun p hp => Heap.lt_size (N p hp).1)) (fun fl s' hl => lv _ _ hl) fun _ _ y => y
end

section
variable {prog : Program} {w : World} {A A₀ : Around} {s : Shared} {K : Frag} {L : Addr} {h₀ base : Heap} {m mg mb : Str → Option Value} {news : List (Addr × Obj)} {p : Program} {loose : List Str} {mean : ExcName → Option Value}
/-- the same for a def some of whose names live in cells -/
theorem code_defCS {env : Env} {outer : List Env} {R : Result → Shared → Prop} {name qual : Str} {params : Arguments} {body : List Stmt} {scope : Scope} {dV kV doc pm cdv ct oc : Value} {an od : Option Addr} {osl : Array (Option Value)} {f : Addr} {args : Args} {binds : List (Str × Value)} (cls : Addr → List (Str × Addr))
    (B : Below A₀ base outer h₀) (F : Fr h₀ L s.heap m) (X₀ : K.In h₀) (N : News h₀ L s.heap news) (T : Top p loose mean mg mb h₀) (hA : A.frames = some (env :: outer)) (hf : env.frame = some L) (hke : env.scope.kind = .function)
    (ho : K.lookup f = some ⟨oc, od, .func (fnOf name qual params body scope dV kV doc pm an cdv ct), osl⟩) (hcd : codeIn K cdv qual = true) (hroom : A.depth < recursionLimit)
    (hbind : BindsTo s (fnOf name qual params body scope dV kV doc pm an cdv ct) args binds) (hkind : (binds.all fun y => scope.names.lookup y.1 == some .local || scope.names.lookup y.1 == some .cell) = true)
    (hnd : ((cellsFrom 0 scope.names []).map (·.1)).Nodup)
    (hcls : ∀ n, cellsFrom (n + 1) scope.names [] = cls n)
    (h : ∀ g L' h₁ tk cells, Fr h₀ L g m → Fr g L' h₁ (bindL (envOfC qual scope L' f cdv).kindOf binds fun _ => none) → News g L' h₁ (cells ++ news) →
      CellsAre (bindC (envOfC qual scope L' f cdv).kindOf binds fun _ => none) (cls L') cells → Below A base (env :: outer) g → K.In g → Top p loose mean mg mb g → (∀ p ∈ news, p.1 < L') →
      wpS (model prog w) (A.deeper (envX qual scope L' f cdv (cls L'))) (execs body (envX qual scope L' f cdv (cls L')))
        (fun fl s' => LeaveK h₀ L m g R (match fl with | .ret v => v | _ => .none) s') (fun _ _ => False)
        { s with heap := h₁, toks := tk })
    (hco : scope.isCoroutine = false) (hgen : scope.isGenerator = false) (hk : scope.kind = .function) : codeS (model prog w) A (.call (.ref f) args) R s := by
  obtain ⟨FG, BG, st, lv⟩ := groundX (R := R) B F N hA hf hke
  have X := X₀.keeps F.keep
  refine codeS_call_function hroom (X _ _ ho) rfl hco hgen rfl (codeRec_of X hcd) (hbind _ _ _ _ ?_)
  refine wpAny_newFunctionEnv_cells hk (kindsX hkind _) fun env' he s' x => ?_
  subst he
  refine ⟨(T.nolimit.keeps F.keep).keeps x.toInCall.keep, codeS_func ?_⟩
  obtain ⟨h₁, tk, rfl, _⟩ := x.done
  have hk₁ := x.toInCall.keep
  obtain ⟨cells, NC, Y⟩ := Cl.news (h₀ := s.heap) (Nat.le_refl _) fun n c hm => ⟨x.cell n c (lookup_of_mem_nodup (cellsFrom_names scope.names 0 (s.heap.objs.size + 1) [] [] rfl ▸ hnd) hm), x.above n c hm⟩
  rw [hcls] at Y
  have e : envOfC qual scope s.heap.objs.size f cdv = envX qual scope s.heap.objs.size f cdv (cls s.heap.objs.size) := by
    show envX qual scope s.heap.objs.size f cdv (cellsFrom (s.heap.objs.size + 1) scope.names []) = _
    rw [hcls]
  have hb := h _ s.heap.objs.size h₁ tk cells FG ⟨x.toInCall.ns, fun b o e => hk₁ b o (of_hideAll _ e), Nat.le_of_eq (hideAll_size _ _)⟩ (fun p hp => ?_) Y BG (X₀.keeps st) (T.keeps st) (fun p hp => Heap.lt_size (N p hp).1)
  · rw [← e] at hb
    exact wpS_mono hb (fun fl s' hl => lv _ _ hl) fun _ _ y => y
  rcases List.mem_append.mp hp with hp | hp
  · refine ⟨(NC p hp).1, (NC p hp).2.1, ?_⟩
    cases q : (hideAll s.heap (news.map (·.1))).get? p.1 with
    | none => rfl
    | some o => have := of_hideAll _ q; rw [(NC p hp).2.2] at this; cases this
  · exact ⟨hk₁ _ _ (N p hp).1, Nat.ne_of_lt (Heap.lt_size (N p hp).1), hideAll_none _ (List.mem_map_of_mem hp)⟩
/-- the first call, from the claim's caller -/
theorem code_topS {R : Result → Shared → Prop} {name qual : Str} {params : Arguments} {body : List Stmt} {scope : Scope} {dV kV doc pm cdv ct oc : Value} {an od : Option Addr} {osl : Array (Option Value)} {f : Addr} {args : Args} {binds : List (Str × Value)}
    (X : K.In s.heap) (T : Top p loose mean mg mb s.heap)
    (ho : K.lookup f = some ⟨oc, od, .func (fnOf name qual params body scope dV kV doc pm an cdv ct), osl⟩) (hcd : codeIn K cdv qual = true) (hroom : A.depth < recursionLimit)
    (hbind : BindsTo s (fnOf name qual params body scope dV kV doc pm an cdv ct) args binds) (hloc : ∀ y ∈ binds, scope.names.lookup y.1 = some .local)
    (h : ∀ L' h₁, s.heap.objs.size = L' → Fr s.heap L' h₁ (fun y => binds.reverse.lookup y) →
      wpS (model prog w) (A.deeper (envOf qual scope L' f cdv)) (execs body (envOf qual scope L' f cdv))
        (fun fl s' => R (.ok (.ret (match fl with | .ret v => v | _ => .none))) s') (fun _ _ => False)
        { s with heap := h₁, toks := s.toks + binds.length })
    (hco : scope.isCoroutine = false) (hgen : scope.isGenerator = false) (hk : scope.kind = .function)
    (hcell : ∀ x ∈ scope.names, x.2 ≠ .cell) : codeS (model prog w) A (.call (.ref f) args) R s :=
  codeS_call_def (fd := fnOf name qual params body scope dV kV doc pm an cdv ct) (body := body) (binds := binds) hroom (X _ _ ho) rfl T.nolimit (codeRec_of X hcd) rfl hbind hcell hloc
    (fun h₁ hns hk₁ => h _ h₁ rfl ⟨hns, hk₁, Nat.le_refl _⟩) hco hgen hk
theorem code_topCS {R : Result → Shared → Prop} {name qual : Str} {params : Arguments} {body : List Stmt} {scope : Scope} {dV kV doc pm cdv ct oc : Value} {an od : Option Addr} {osl : Array (Option Value)} {f : Addr} {args : Args} {binds : List (Str × Value)} (cls : Addr → List (Str × Addr))
    (X : K.In s.heap) (T : Top p loose mean mg mb s.heap)
    (ho : K.lookup f = some ⟨oc, od, .func (fnOf name qual params body scope dV kV doc pm an cdv ct), osl⟩) (hcd : codeIn K cdv qual = true) (hroom : A.depth < recursionLimit)
    (hbind : BindsTo s (fnOf name qual params body scope dV kV doc pm an cdv ct) args binds) (hkind : (binds.all fun y => scope.names.lookup y.1 == some .local || scope.names.lookup y.1 == some .cell) = true)
    (hnd : ((cellsFrom 0 scope.names []).map (·.1)).Nodup)
    (hcls : ∀ n, cellsFrom (n + 1) scope.names [] = cls n)
    (h : ∀ L' h₁ tk cells, s.heap.objs.size = L' → Fr s.heap L' h₁ (bindL (envOfC qual scope L' f cdv).kindOf binds fun _ => none) → News s.heap L' h₁ cells →
      CellsAre (bindC (envOfC qual scope L' f cdv).kindOf binds fun _ => none) (cls L') cells →
      wpS (model prog w) (A.deeper (envX qual scope L' f cdv (cls L'))) (execs body (envX qual scope L' f cdv (cls L')))
        (fun fl s' => R (.ok (.ret (match fl with | .ret v => v | _ => .none))) s') (fun _ _ => False)
        { s with heap := h₁, toks := tk })
    (hco : scope.isCoroutine = false) (hgen : scope.isGenerator = false) (hk : scope.kind = .function) : codeS (model prog w) A (.call (.ref f) args) R s := by
  refine codeS_call_function hroom (X _ _ ho) rfl hco hgen rfl (codeRec_of X hcd) (hbind _ _ _ _ ?_)
  refine wpAny_newFunctionEnv_cells hk (kindsX hkind _) fun env' he s' x => ?_
  subst he
  refine ⟨T.nolimit.keeps x.toInCall.keep, codeS_func ?_⟩
  obtain ⟨h₁, tk, rfl, _⟩ := x.done
  obtain ⟨cells, NC, Y⟩ := Cl.news (h₀ := s.heap) (Nat.le_refl _) fun n c hm => ⟨x.cell n c (lookup_of_mem_nodup (cellsFrom_names scope.names 0 (s.heap.objs.size + 1) [] [] rfl ▸ hnd) hm), x.above n c hm⟩
  rw [hcls] at Y
  have e : envOfC qual scope s.heap.objs.size f cdv = envX qual scope s.heap.objs.size f cdv (cls s.heap.objs.size) := by
    show envX qual scope s.heap.objs.size f cdv (cellsFrom (s.heap.objs.size + 1) scope.names []) = _
    rw [hcls]
  have := h _ h₁ tk cells rfl ⟨x.toInCall.ns, x.toInCall.keep, Nat.le_refl _⟩ NC Y
  rw [← e] at this
  exact this
end

/-! ## loops -/
section
variable {M : Model} {A : Around} {E : Value → Shared → Prop} {s : Shared} {env : Env}
theorem wpS_runOwn {c : Code} {Q : Flow → Shared → Prop} (hcc : calmCode c = true)
    (hc : codeS M A c (fun r s' => match r with | .ok f => Q f s' | .error _ => False) s) : wpS M A (runOwn c env) Q E s := by
  unfold runOwn
  refine wpS_onRaise (wpS_run hcc (codeS_mono hc fun r s' h' => ?_))
  cases r with
  | ok f => exact h'
  | error e => exact h'.elim
theorem wpS_While {test body orelse pos} {Q : Flow → Shared → Prop}
    (h : codeS M A (.whileLoop test body orelse env) (fun r s' => match r with | .ok f => Q f s' | .error _ => False) s) :
    wpS M A (exec (.While test body orelse pos) env) Q E s := by
  rw [exec_While]; exact wpS_bind (wpS_standAt (wpS_runOwn rfl h))
theorem wpS_For {target iter body orelse pos} {Q : Flow → Shared → Prop}
    (h : wpS M A (eval iter env) (fun x s₁ => wpAny M A (pyIter x) (fun it s₂ =>
      codeS M A (.forLoop target it body orelse env) (fun r s' => match r with | .ok f => Q f s' | .error _ => False) s₂) E s₁) E s)
    (hs : ∀ x, foldedSetIterable iter env x = pure x := by intro _; rfl) :
    wpS M A (exec (.For target iter body orelse pos) env) Q E s := by
  rw [exec_For]
  exact wpS_bind (wpS_standAt (wpS_bind (wpS_mono h (fun x s₁ h₁ => wpS_bind (wpS_eq (hs x) (wpS_pure (wpS_bind (wpS_standAt (wpS_bind (wpS_holding
    (wpS_mono (wpS_any h₁) (fun it s₂ h₂ => wpS_runOwn rfl h₂) fun _ _ h' => h')))))))) fun _ _ h' => h')))
end

/-! ### the turns -/
section
variable {prog : Program} {w : World} {A : Around} {s : Shared} {R : Result → Shared → Prop}
theorem codeS_block {env : Env} (h : R (.ok .next) s) : codeS (model prog w) A (.block [] env) R s := by
  refine codeS_of_tree ?_
  show wpS _ (A.under (.block [] env)) (do return PySem.Fin.done (← (execs [] env).onRaise (fun x => do noteFrame x env; theTreesLotGoes x))) _ _ s
  exact wpS_bind (wpS_onRaise (wpS_execs_nil (wpS_pure h)))
theorem codeS_whileLoop {test body env} (I : Nat → Shared → Prop)
    (turn : ∀ n s, I n s →
      wpS (model prog w) A (isTrue test env (eval test env)) (fun b s₂ =>
        if b then wpS (model prog w) A (execs body env) (fun f s₃ => match f with
            | .next | .cont => ∃ m, m < n ∧ I m s₃
            | .brk => R (.ok .next) s₃
            | .ret v => R (.ok (.ret v)) s₃) (fun _ _ => False) s₂
        else R (.ok .next) s₂) (fun _ _ => False) s)
    (n : Nat) (h : I n s) : codeS (model prog w) A (.whileLoop test body [] env) R s := by
  refine codeS_loop rfl rfl I (fun n s hI => ?_) n h
  rw [Around.under_of_weight rfl]
  show wpS _ A ((whileTurn test body [] env).onRaise (fun x => do noteFrame x env; theTreesLotGoes x)) _ _ s
  refine wpS_onRaise (wpS_mono (E := fun _ _ => False) ?_ (fun _ _ h' => h') fun _ _ h' => h'.elim)
  simp only [whileTurn]
  refine wpS_bind (wpS_mono (turn n s hI) (fun b s₂ h₂ => ?_) fun _ _ h' => h')
  cases b with
  | false =>
    simp only [Bool.false_eq_true, if_false] at h₂ ⊢
    exact wpS_bind (wpS_execs_nil (wpS_pure h₂))
  | true =>
    simp only [if_true] at h₂ ⊢
    refine wpS_bind (wpS_mono h₂ (fun f s₃ h₃ => ?_) fun _ _ h' => h')
    cases f with
    | next => exact wpS_pure ⟨rfl, h₃⟩
    | cont => exact wpS_pure ⟨rfl, h₃⟩
    | brk => exact wpS_pure h₃
    | ret v => exact wpS_pure h₃
theorem codeS_forLoop {target it body env} (I : Nat → Shared → Prop)
    (turn : ∀ n s, I n s → wpAny (model prog w) A (pyNext it) (fun r s₁ => match r with
      | none => R (.ok .next) s₁
      | some v => wpAny (model prog w) A (assign target env v) (fun _ s₂ => wpS (model prog w) A (execs body env) (fun f s₃ => match f with
          | .next | .cont => ∃ m, m < n ∧ I m s₃
          | .brk => R (.ok .next) s₃
          | .ret v => R (.ok (.ret v)) s₃) (fun _ _ => False) s₂) (fun _ _ => False) s₁) (fun _ _ => False) s)
    (n : Nat) (h : I n s) (ht : ∀ v, letOwnedTupleGo target it v = pure () := by intro _; rfl) : codeS (model prog w) A (.forLoop target it body [] env) R s := by
  induction n using Nat.strongRecOn generalizing s with
  | ind n ih =>
    refine codeS_of_tree ?_
    rw [Around.under_of_weight rfl]
    show wpS _ _ ((forTurn target it body [] env).onRaise (fun x => do noteFrame x env; theTreesLotGoes x)) _ _ s
    refine wpS_onRaise (wpS_mono (E := fun _ _ => False) ?_ (fun _ _ h' => h') fun _ _ h' => h'.elim)
    simp only [forTurn]
    refine wpS_bind (wpS_standAt (wpS_bind (wpS_onRaise (wpS_mono (wpS_any (turn n s h)) (fun r s₁ h₁ => ?_) fun _ _ h' => h'.elim))))
    cases r with
    | none => exact wpS_pure ⟨rfl, rfl, codeS_block h₁⟩
    | some v =>
      refine wpS_bind (wpS_eq (ht v) (wpS_pure ?_))
      refine wpS_bind (wpS_mono (wpS_any h₁) (fun _ s₂ h₂ => wpS_bind (wpS_mono h₂ (fun f s₃ h₃ => ?_) fun _ _ h' => h')) fun _ _ h' => h')
      cases f with
      | next => obtain ⟨m, hm, hI⟩ := h₃; exact wpS_pure ⟨rfl, rfl, ih m hm hI⟩
      | cont => obtain ⟨m, hm, hI⟩ := h₃; exact wpS_pure ⟨rfl, rfl, ih m hm hI⟩
      | brk => exact wpS_pure h₃
      | ret v => exact wpS_pure h₃
end

/-- what a turn of a loop must leave behind -/
def TurnEnd {σ : Type} (s : Shared) (h₀ : Heap) (L : Addr) (x : Str) (I : Addr) (it : Obj) (Inv : σ → Prop) (mp : σ → Str → Option Value) (led : σ → List (Addr × Obj)) (Q : Flow → Shared → Prop) (f : Flow) (s' : Shared) : Prop :=
  match f with
  | .ret v => Q (.ret v) s'
  | .brk => Q .next s'
  | _ => ∃ c m' h' tk, s' = { s with heap := h', toks := tk } ∧ Inv c ∧ Fr h₀ L h' m' ∧ News h₀ L h' ((I, it) :: led c) ∧ (∀ p ∈ led c, p.1 ≠ I) ∧ ∀ z, z ≠ x → m' z = mp c z
theorem TurnEnd.next {σ : Type} {s : Shared} {h₀ : Heap} {L : Addr} {x : Str} {I : Addr} {it : Obj} {Inv : σ → Prop} {mp : σ → Str → Option Value} {led : σ → List (Addr × Obj)} {Q : Flow → Shared → Prop} {h' : Heap} {tk : Nat} {m' : Str → Option Value}
    (c : σ) (F : Fr h₀ L h' m') (N : News h₀ L h' ((I, it) :: led c)) (hI : ∀ p ∈ led c, p.1 ≠ I) (hm : ∀ z, z ≠ x → m' z = mp c z) (hc : Inv c) : TurnEnd s h₀ L x I it Inv mp led Q .next { s with heap := h', toks := tk } :=
  ⟨c, m', h', tk, rfl, hc, F, N, hI, hm⟩

section
variable {prog : Program} {w : World} {A : Around} {E : Value → Shared → Prop} {s : Shared} {env : Env} {h₀ : Heap} {x : Str} {px : Pos} {body : List Stmt} {Q : Flow → Shared → Prop}
theorem forRangeS {σ : Type} {r : Addr} {a₀ b₀ c : Int} {t₀ u₀ v₀ : Tok} {n : Nat} {m₀ : Str → Option Value} (hh : A.handled = none) (hr : IsRange s.heap r a₀ b₀ c t₀ u₀ v₀) (hsmall : Builtin.Range.small a₀ b₀ c = true) (hn : Builtin.Range.rangeSize a₀ b₀ c = (n : Int))
    (hx : env.kindOf x = some .local) (hp : (env.scope.kind == .class || (env.scope.kind == .module && env.locals != env.globals)) = false)
    (Inv : Nat → σ → Prop) (mp : σ → Str → Option Value) (led : σ → List (Addr × Obj)) (c₀ : σ) (F : Fr h₀ env.locals s.heap m₀) (N : News h₀ env.locals s.heap (led c₀)) (hm : ∀ z, z ≠ x → m₀ z = mp c₀ z) (h0 : Inv 0 c₀)
    (turn : ∀ i k I it t h tk, i < n → Inv i k → (∀ p ∈ led k, p.1 ≠ I) → Fr h₀ env.locals h (fun y => if y = x then some (.int (a₀ + (i : Int) * c) t) else mp k y) → News h₀ env.locals h ((I, it) :: led k) →
      wpS (model prog w) A (execs body env) (TurnEnd { s with heap := h, toks := tk } h₀ env.locals x I it (Inv (i + 1)) mp led Q) (fun _ _ => False) { s with heap := h, toks := tk })
    (done : ∀ k m' h tk, Inv n k → Fr h₀ env.locals h m' → (∀ z, z ≠ x → m' z = mp k z) → News h₀ env.locals h (led k) → Q .next { s with heap := h, toks := tk }) :
    wpAny (model prog w) A (pyIter (.ref r)) (fun it s₂ => codeS (model prog w) A (.forLoop (.Name x px) it body [] env) (fun r s' => match r with | .ok f => Q f s' | .error _ => False) s₂) E s := by
  refine wpAny_pyIter_range hr hsmall ?_
  rw [hn]
  have W := Walks.range (prog := prog) (w := w) hh s.heap.objs.size a₀ c n
  have hnew : h₀.get? s.heap.objs.size = none := next_is_new F
  have hLI : env.locals ≠ s.heap.objs.size := Nat.ne_of_lt F.ns.lt
  refine codeS_forLoop (R := fun r s' => match r with | .ok f => Q f s' | .error _ => False)
    (fun k s' => ∃ h' tk m' d i, s' = { s with heap := h', toks := tk } ∧ IsRangeIter h' s.heap.objs.size (a₀ + (i : Nat) * c) ((n : Int) - (i : Nat)) c ∧ Fr h₀ env.locals h' m' ∧ News h₀ env.locals h' (led d) ∧ (∀ p ∈ led d, p.1 ≠ s.heap.objs.size) ∧ (∀ z, z ≠ x → m' z = mp d z) ∧ Inv i d ∧ i ≤ n ∧ k = n + 1 - i) ?_ (n + 1) ?_
  · rintro k s' ⟨h', tk, m', d, i, rfl, hst, F', N', hoff, hm', hI, hi, rfl⟩
    have next : ∀ h₁ : Heap, (∀ b o, b ∉ [s.heap.objs.size] → h'.get? b = some o → h₁.get? b = some o) → Fr h₀ env.locals h₁ m' ∧ News h₀ env.locals h₁ (led d) := fun h₁ hk₁ =>
      ⟨⟨F'.ns.at' fun o e => hk₁ _ o (fun q => hLI (List.mem_singleton.mp q)) e, fun b o e => hk₁ b o (fun q => by rw [List.mem_singleton.mp q, hnew] at e; cases e) (F'.keep b o e), F'.above⟩,
       fun p hp => ⟨hk₁ _ _ (fun q => hoff p hp (List.mem_singleton.mp q)) (N' p hp).1, (N' p hp).2⟩⟩
    by_cases hlt : i < n
    · refine W.item i _ _ _ hlt hst fun v h₁ tk₁ hP hst₁ hk₁ => ?_
      obtain ⟨F₁, N₁⟩ := next h₁ hk₁
      obtain ⟨t, rfl⟩ := hP
      refine wpAny_assign_Name (wpAny_storeName_local hx F₁.ns (fun h₂ hn₂ hs₂ => ?_) hp)
      have F₂ := F₁.set hn₂ hs₂
      have e : (fun y => if y = x then some (Value.int (a₀ + (i : Int) * c) t) else m' y) = fun y => if y = x then some (Value.int (a₀ + (i : Int) * c) t) else mp d y := by
        funext y; by_cases h : y = x
        · rw [if_pos h, if_pos h]
        · rw [if_neg h, if_neg h, hm' y h]
      rw [e] at F₂
      have hit : h₂.get? s.heap.objs.size = some { cls := .type "range_iterator", data := .fields #[rawInt (a₀ + ((i + 1 : Nat) : Int) * c), rawInt ((n : Int) - ((i + 1 : Nat) : Int)), rawInt c] } :=
        (hs₂.2 _ (Ne.symm hLI)).trans hst₁
      have N₂ : News h₀ env.locals h₂ ((s.heap.objs.size, { cls := .type "range_iterator", data := .fields #[rawInt (a₀ + ((i + 1 : Nat) : Int) * c), rawInt ((n : Int) - ((i + 1 : Nat) : Int)), rawInt c] }) :: led d) := fun p hp => by
        rcases List.mem_cons.mp hp with rfl | hp
        · exact ⟨hit, Ne.symm hLI, hnew⟩
        · exact (N₁.set hs₂) p hp
      refine wpS_mono (turn i d s.heap.objs.size _ t h₂ _ hlt hI hoff F₂ N₂) (fun f s₃ h₃ => ?_) fun _ _ e => e
      have fin : (∃ c' m'' h'' tk'', s₃ = { s with heap := h'', toks := tk'' } ∧ Inv (i + 1) c' ∧ Fr h₀ env.locals h'' m'' ∧ News h₀ env.locals h'' ((s.heap.objs.size, { cls := .type "range_iterator", data := .fields #[rawInt (a₀ + ((i + 1 : Nat) : Int) * c), rawInt ((n : Int) - ((i + 1 : Nat) : Int)), rawInt c] }) :: led c') ∧ (∀ p ∈ led c', p.1 ≠ s.heap.objs.size) ∧ ∀ z, z ≠ x → m'' z = mp c' z) →
          ∃ m, m < n + 1 - i ∧ ∃ h' tk m' d i, s₃ = { s with heap := h', toks := tk } ∧ IsRangeIter h' s.heap.objs.size (a₀ + (i : Nat) * c) ((n : Int) - (i : Nat)) c ∧ Fr h₀ env.locals h' m' ∧ News h₀ env.locals h' (led d) ∧ (∀ p ∈ led d, p.1 ≠ s.heap.objs.size) ∧ (∀ z, z ≠ x → m' z = mp d z) ∧ Inv i d ∧ i ≤ n ∧ m = n + 1 - i := by
        rintro ⟨c', m'', h'', tk'', e, hc', F₃, N₃, ho, hz⟩
        exact ⟨n + 1 - (i + 1), by omega, h'', tk'', m'', c', i + 1, e, (N₃ _ (List.mem_cons_self ..)).1, F₃, fun p hp => N₃ p (List.mem_cons_of_mem _ hp), ho, hz, hc', hlt, rfl⟩
      cases f with
      | ret v => exact h₃
      | brk => exact h₃
      | next => exact fin h₃
      | cont => exact fin h₃
    · have hin : i = n := by omega
      subst hin
      refine W.done _ _ _ hst fun h₁ tk₁ hk₁ => ?_
      obtain ⟨F₁, N₁⟩ := next h₁ hk₁
      exact done d m' h₁ tk₁ hI F₁ hm' N₁
  · refine ⟨_, s.toks, m₀, c₀, 0, rfl, ?_, F.push _, fun p hp => ⟨Heap.get?_push_of_some _ (N p hp).1, (N p hp).2⟩, fun p hp => Nat.ne_of_lt (Heap.lt_size (N p hp).1), hm, h0, Nat.zero_le _, rfl⟩
    show IsRangeIter _ _ _ _ _
    simpa using Heap.get?_push_size _ rfl
end

/-- what a turn of a while must leave behind -/
def WhileEnd {σ : Type} (s : Shared) (h₀ : Heap) (L : Addr) (Inv : σ → Prop) (meas : σ → Nat) (k : Nat) (mp : σ → Str → Option Value) (led : σ → List (Addr × Obj)) (Q : Flow → Shared → Prop) (f : Flow) (s' : Shared) : Prop :=
  match f with
  | .ret v => Q (.ret v) s'
  | .brk => Q .next s'
  | _ => ∃ c m' h' tk, s' = { s with heap := h', toks := tk } ∧ Inv c ∧ meas c < k ∧ Fr h₀ L h' m' ∧ News h₀ L h' (led c) ∧ ∀ z, m' z = mp c z
theorem WhileEnd.next {σ : Type} {s : Shared} {h₀ : Heap} {L : Addr} {Inv : σ → Prop} {meas : σ → Nat} {k : Nat} {mp : σ → Str → Option Value} {led : σ → List (Addr × Obj)} {Q : Flow → Shared → Prop} {h' : Heap} {tk : Nat} {m' : Str → Option Value}
    (c : σ) (F : Fr h₀ L h' m') (N : News h₀ L h' (led c)) (hm : ∀ z, m' z = mp c z) (hc : Inv c) (hk : meas c < k) : WhileEnd s h₀ L Inv meas k mp led Q .next { s with heap := h', toks := tk } :=
  ⟨c, m', h', tk, rfl, hc, hk, F, N, hm⟩
theorem whileS {σ : Type} {prog : Program} {w : World} {A : Around} {s : Shared} {env : Env} {h₀ : Heap} {test : Expr} {body : List Stmt} {Q : Flow → Shared → Prop} {m₀ : Str → Option Value}
    (Inv : σ → Prop) (meas : σ → Nat) (mp : σ → Str → Option Value) (led : σ → List (Addr × Obj)) (c₀ : σ) (F : Fr h₀ env.locals s.heap m₀) (N : News h₀ env.locals s.heap (led c₀)) (hm : ∀ z, m₀ z = mp c₀ z) (h0 : Inv c₀)
    (turn : ∀ c h tk, Inv c → Fr h₀ env.locals h (mp c) → News h₀ env.locals h (led c) →
      wpS (model prog w) A (isTrue test env (eval test env)) (fun b s₂ => if b then wpS (model prog w) A (execs body env) (WhileEnd s h₀ env.locals Inv meas (meas c) mp led Q) (fun _ _ => False) s₂ else Q .next s₂) (fun _ _ => False) { s with heap := h, toks := tk }) :
    codeS (model prog w) A (.whileLoop test body [] env) (fun r s' => match r with | .ok f => Q f s' | .error _ => False) s := by
  refine codeS_whileLoop (R := fun r s' => match r with | .ok f => Q f s' | .error _ => False)
    (fun k s' => ∃ c m' h' tk, s' = { s with heap := h', toks := tk } ∧ Inv c ∧ k = meas c ∧ Fr h₀ env.locals h' m' ∧ News h₀ env.locals h' (led c) ∧ ∀ z, m' z = mp c z) ?_ (meas c₀) ⟨c₀, m₀, s.heap, s.toks, rfl, h0, rfl, F, N, hm⟩
  rintro k s' ⟨c, m', h', tk, rfl, hc, rfl, F', N', hm'⟩
  have e : m' = mp c := funext hm'
  subst e
  refine wpS_mono (turn c h' tk hc F' N') (fun b s₂ h₂ => ?_) fun _ _ x => x
  cases b with
  | false => exact h₂
  | true =>
    refine wpS_mono h₂ (fun f s₃ h₃ => ?_) fun _ _ x => x
    have fin : (∃ c' m' h' tk, s₃ = { s with heap := h', toks := tk } ∧ Inv c' ∧ meas c' < meas c ∧ Fr h₀ env.locals h' m' ∧ News h₀ env.locals h' (led c') ∧ ∀ z, m' z = mp c' z) →
        ∃ k, k < meas c ∧ ∃ c m' h' tk, s₃ = { s with heap := h', toks := tk } ∧ Inv c ∧ k = meas c ∧ Fr h₀ env.locals h' m' ∧ News h₀ env.locals h' (led c) ∧ ∀ z, m' z = mp c z := by
      rintro ⟨c', m'', h'', tk'', e, a, b, d, f, g⟩
      exact ⟨meas c', b, c', m'', h'', tk'', e, a, rfl, d, f, g⟩
    cases f with
    | ret v => exact h₃
    | brk => exact h₃
    | next => exact fin h₃
    | cont => exact fin h₃

/-- several ways of one tree meet again -/
def CutEnd {α : Type} (s : Shared) (P : α → Heap → Prop) (v : α) (s' : Shared) : Prop := ∃ h' tk', s' = { s with heap := h', toks := tk' } ∧ P v h'
theorem CutEnd.mk {α : Type} {s : Shared} {P : α → Heap → Prop} {v : α} {h' : Heap} {tk : Nat} (p : P v h') : CutEnd s P v { s with heap := h', toks := tk } := ⟨h', tk, rfl, p⟩
theorem wpS_cut {α : Type} {M : Model} {A : Around} {t : Sem α} {Q : α → Shared → Prop} {E : Value → Shared → Prop} {s : Shared} (P : α → Heap → Prop)
    (h1 : wpAny M A t (CutEnd s P) (fun _ _ => False) s) (h2 : ∀ v h' tk', P v h' → Q v { s with heap := h', toks := tk' }) : wpS M A t Q E s :=
  wpS_mono (wpS_any h1) (fun v s' ⟨h', tk', e, p⟩ => e ▸ h2 v h' tk' p) fun _ _ x => x.elim

theorem wpS_tk {α : Type} {M : Model} {A : Around} {t : Sem α} {Q : α → Shared → Prop} {E : Value → Shared → Prop} {s : Shared} {h' : Heap} {tk₀ : Nat}
    (gen : ∀ tk, wpS M A t Q E { s with heap := h', toks := tk }) : wpS M A t Q E { s with heap := h', toks := tk₀ } := gen _

end Mine
set_option maxRecDepth 100000
set_option Elab.async false
open PySem PySem.W PySem.Calls PyProof.Rows
namespace Mine

/-! ## bytearray(n), b[k] = v, bytes(b) -/
namespace Fa
theorem mro : mroOf (.type "bytearray") = pure [.type "bytearray", .type "object"] := by rw [mroOf_type]; kernel_rfl
theorem lookup_new : typeLookup (.type "bytearray") "__new__" = pure (some (.builtin "bytearray.__new__")) := by rw [typeLookup_type, builtinLookup_eq_fast]; kernel_rfl
theorem slot_init : Slot "bytearray" "__init__" "bytearray.__init__" :=
  .of (owner := "bytearray") (n := "__init__") (by rw [typeLookup_type, builtinLookup_eq_fast]; kernel_rfl) (by decide +kernel) (by decide +kernel) (by decide +kernel)
    (by first | exact .inl (by decide +kernel) | exact .inr (by decide +kernel)) (by rw [isSubtype_type]; kernel_rfl)
theorem made : Bind.madeBy (.type "bytearray") = pure (some "bytearray.__new__") := madeBy_type mro lookup_new (by decide +kernel)
theorem sub : isSubtype (.type "bytearray") (.type "bytearray") = pure true := by rw [isSubtype_type]; kernel_rfl
theorem called : TypeCalled "bytearray" "bytearray.__new__" "bytearray.__init__" :=
  ⟨by decide +kernel, by decide +kernel, ⟨_, _, mro⟩, made, by decide +kernel, sub, slot_init⟩
theorem typeCall (a : Value) : checkTypeCall "bytearray" ⟨[a], []⟩ = pure () := by kernel_rfl
theorem newCall (a : Value) : checkBuiltinCall "bytearray.__new__" ⟨[.type "bytearray", a], []⟩ = pure () := by kernel_rfl
theorem entry_new : entryFor table "bytearray.__new__" = some Builtin.«list.__new__» :=
  entryFor_alias (id' := "list.__new__") (by kernel_rfl) (by first | rfl | decide +kernel) (by decide +kernel) (by kernel_rfl)
theorem entry_init : entryFor table "bytearray.__init__" = some Builtin.«bytearray.__init__» := by first | exact entryFor_of_fast (by kernel_rfl) | exact entryFor_of_tree (by kernel_rfl)
theorem plain_new : plainId "bytearray.__new__" = true := by decide +kernel
theorem plain_init : plainId "bytearray.__init__" = true := by decide +kernel
theorem lookup_release : typeLookup (.type "bytearray") "__release_buffer__" = pure (some (.builtin "bytearray.__release_buffer__")) := by rw [typeLookup_type, builtinLookup_eq_fast]; kernel_rfl
theorem lookup_buffer : typeLookup (.type "bytearray") "__buffer__" = pure (some (.builtin "bytearray.__buffer__")) := by rw [typeLookup_type, builtinLookup_eq_fast]; kernel_rfl
theorem bind1 (v : Value) : Builtin.Bytes.bindOptional "bytearray.__init__" "bytearray" ["source", "encoding", "errors"] [v] [] = pure [some v, none, none] := by kernel_rfl
theorem noBytes : typeLookup (.type "bytearray") "__bytes__" = pure none := by rw [typeLookup_type, builtinLookup_eq_fast]; kernel_rfl
theorem noIndex : typeLookup (.type "bytearray") "__index__" = pure none := by rw [typeLookup_type, builtinLookup_eq_fast]; kernel_rfl
theorem int_index : typeLookup (.type "int") "__index__" = pure (some (.builtin "int.__index__")) := by rw [typeLookup_type, builtinLookup_eq_fast]; kernel_rfl
theorem slot_setitem : Slot "bytearray" "__setitem__" "bytearray.__setitem__" :=
  .of (owner := "bytearray") (n := "__setitem__") (by rw [typeLookup_type, builtinLookup_eq_fast]; kernel_rfl) (by decide +kernel) (by decide +kernel) (by decide +kernel)
    (by first | exact .inl (by decide +kernel) | exact .inr (by decide +kernel)) (by rw [isSubtype_type]; kernel_rfl)
theorem entry_setitem : entryFor table "bytearray.__setitem__" = some Builtin.«bytearray.__setitem__» := by first | exact entryFor_of_fast (by kernel_rfl) | exact entryFor_of_tree (by kernel_rfl)
end Fa
set_option maxRecDepth 1000000 in
set_option maxHeartbeats 4000000 in
theorem owner_new : ("bytearray.__new__".splitOn ".__new__").headD "" = "bytearray" := by simp +decide [String.splitOn, String.splitOnAux]
theorem ends_release : "bytearray.__release_buffer__".endsWith ("." ++ "__release_buffer__") = true := by decide +kernel
theorem ends_buffer : "bytearray.__buffer__".endsWith ("." ++ "__buffer__") = true := by decide +kernel
theorem drop_release : "bytearray.__release_buffer__".dropRight ("__release_buffer__".length + 1) = "bytearray" := by decide +kernel
theorem drop_buffer : "bytearray.__buffer__".dropRight ("__buffer__".length + 1) = "bytearray" := by decide +kernel

def baObj (b : Array UInt8) : Obj := { cls := .type "bytearray", data := .bytearray b }

section
variable {prog : Program} {w : World} {A : Around} {E : Value → Shared → Prop} {s : Shared}
theorem typeIs_int (n : Int) (t : Tok) : s.TypeIs (.int n t) "int" := rfl
theorem typeIs_ba {a : Addr} {b : Array UInt8} (h : s.heap.get? a = some (baObj b)) : s.TypeIs (.ref a) "bytearray" := ⟨_, h, rfl⟩

theorem code_ba_new (a : Value) {Q₁ : Value → Shared → Prop}
    (h : Q₁ (.ref s.heap.objs.size) { s with heap := s.heap.push (baObj #[]) }) :
    codeAny (model prog w) A (.call (.builtin "bytearray.__new__") ⟨[.type "bytearray", a], []⟩) (wants Q₁ E) s := by
  refine codeAny_of_tree ?_
  show wpAny _ A.in1 (do checkBuiltinCall "bytearray.__new__" ⟨[.type "bytearray", a], []⟩; again (.builtin "bytearray.__new__" ⟨[.type "bytearray", a], []⟩)) _ _ s
  refine wpAny_bind (wpAny_of_eq (Fa.newCall a) (wpAny_pure ⟨plainId_quiet Fa.plain_new _, codeAny_builtin_stack Fa.entry_new rfl fun p st => ?_⟩))
  rw [Around.under_plainId Fa.plain_new _]
  have hsub := Fa.sub
  have hown := owner_new
  obtain ⟨hp, g, d, tk, os⟩ := s
  simp only [hown]
  wp_walk
  exact h

theorem slotOwn_release {a : Addr} {b : Array UInt8} {Q : Bool → Shared → Prop} (ho : s.heap.get? a = some (baObj b)) (h : Q false s) : wpAny (model prog w) A (Builtin.Bytes.ownRelease (.ref a)) Q E s := by
  unfold Builtin.Bytes.ownRelease Builtin.Bytes.slotIsOwn
  refine wpAny_bind (wpAny_bind (wpAny_specialOf (typeIs_ba ho) Fa.lookup_release ?_))
  dsimp only
  rw [ends_release, drop_release]
  simp only [Bool.not_true, Bool.false_eq_true, if_false]
  exact wpAny_isInstance (typeIs_ba ho) Fa.sub (wpAny_pure h)

theorem wpS_stackAny {M : Model} {f : Code × Pos → Bool} {Q : Bool → Shared → Prop} (hf : ∀ c q, calmCode c = true → f (c, q) = false) (h : Q false s) : wpS M A (do return (← stack).any f) Q E s := fun Γ p hΓ hc => by
  show Q (((Γ.code, p) :: Γ.below).any f) s
  have e : ((Γ.code, p) :: Γ.below).any f = false := by
    rw [List.any_eq_false]
    intro x hx
    rw [Bool.not_eq_true]
    rcases List.mem_cons.mp hx with rfl | hx
    · exact hf _ _ hc.1
    · obtain ⟨c, q⟩ := x
      exact hf c q (hc.2 _ hx)
  rw [e]; exact h
theorem calm_bad {id : String} {args : Args} (h : calmCode (.builtin id args) = true) : badIds.contains id = false := by
  simpa only [calmCode, Bool.not_eq_true'] using h
theorem exported_calm {a : Addr} {Q : Bool → Shared → Prop} (h : Q false s) : wpS (model prog w) A (Builtin.Bytes.exported (.ref a)) Q E s := by
  unfold Builtin.Bytes.exported
  refine wpS_stackAny (fun c q hq => ?_) h
  split
  · rename_i e; cases e; exact absurd (calm_bad hq) (by decide +kernel)
  · rename_i e; cases e; exact absurd (calm_bad hq) (by decide +kernel)
  · rename_i e; cases e; exact absurd (calm_bad hq) (by decide +kernel)
  · rename_i e; cases e; exact absurd (calm_bad hq) (by decide +kernel)
  · rename_i e; cases e; exact absurd (calm_bad hq) (by decide +kernel)
  · rename_i e; cases e
    have h1 := calm_bad hq
    simp only [badIds, List.contains_append, Bool.or_eq_false_iff] at h1
    rw [h1.1, Bool.and_false]
  · rfl

theorem sif_false {α : Type} {M : Model} {c : Bool} {a b : Sem α} {Q : α → Shared → Prop} (hc : c = false) (h : wpS M A b Q E s) : wpS M A (if c = true then a else b) Q E s := by
  subst hc
  exact h
theorem sif_true {α : Type} {M : Model} {c : Bool} {a b : Sem α} {Q : α → Shared → Prop} (hc : c = true) (h : wpS M A a Q E s) : wpS M A (if c = true then a else b) Q E s := by
  subst hc
  exact h
theorem ba_write {a : Addr} {b : Array UInt8} {f : Array UInt8 → Array UInt8} {Q : Unit → Shared → Prop} (ho : s.heap.get? a = some (baObj b)) (hz : (f b).size ≤ sizeLine)
    (h : Q () { s with heap := s.heap.update a (Obj.mapBytearray f) }) : wpAny (model prog w) A (Builtin.Bytes.write (.ref a) f) Q E s := by
  show wpAny _ _ (updateBytearray a f) _ _ _
  unfold updateBytearray
  refine wpAny_bind (wpAny_load ho ?_)
  show wpAny _ _ (update a (Obj.mapBytearray f) >>= fun _ => lookBehind a) _ _ _
  refine wpAny_bind (wpAny_update ho ?_)
  have h2 : (s.heap.update a (Obj.mapBytearray f)).get? a = some (baObj (f b)) := Heap.get?_update_self (Obj.mapBytearray f) ho rfl
  refine wpAny_lookBehind h2 ?_ h
  show (if (f b).size > sizeLine then some "bytearray:memory" else none) = none
  rw [if_neg (Nat.not_lt.mpr hz)]
set_option maxHeartbeats 2000000 in
theorem ba_init {a : Addr} {n : Int} {t : Tok} {Q : Fin → Shared → Prop} (ho : s.heap.get? a = some (baObj #[])) (h0 : 0 ≤ n) (hz : n.toNat ≤ sizeLine)
    (h : ∀ h', h'.get? a = some (baObj (Array.replicate n.toNat 0)) → (∀ b o, b ≠ a → s.heap.get? b = some o → h'.get? b = some o) → ∀ tk, Q (.done (.ret .none)) { s with heap := h', toks := tk }) :
    wpS (model prog w) A (Builtin.«bytearray.__init__» ⟨[.ref a, .int n t], []⟩) Q E s := by
  unfold Builtin.«bytearray.__init__»
  dsimp only
  refine wpS_bind (wpS_any (slotOwn_release ho ?_))
  refine sif_false rfl ?_
  refine wpS_bind (wpS_any (wpAny_of_eq (Fa.bind1 _) ?_))
  dsimp only
  refine wpS_bind (wpS_any (wpAny_of_eq (a := ()) rfl ?_))
  refine wpS_bind (wpS_any (wpAny_of_eq (a := ()) rfl ?_))
  refine wpS_bind ?_
  refine wpS_bind (exported_calm ?_)
  show wpS _ _ (do return decide ((← Builtin.Bytes.exportsOf (.ref a)) > 0)) _ _ _
  refine wpS_any ?_
  refine wpAny_bind ?_
  unfold Builtin.Bytes.exportsOf
  refine wpAny_bind (wpAny_load ho (wpAny_pure (wpAny_pure ?_)))
  refine sif_false rfl (wpS_any ?_)
  have hl₁ : (s.heap.update a (Obj.mapBytearray fun _ => #[])).get? a = some (baObj #[]) := Heap.get?_update_self (Obj.mapBytearray fun _ => #[]) ho rfl
  refine wpAny_bind (ba_write ho (Nat.zero_le _) ?_)
  refine wpAny_bind (wpAny_of_eq (a := none) rfl ?_)
  refine bm_if_false rfl ?_
  refine wpAny_bind (wpAny_of_eq (a := ()) rfl ?_)
  refine wpAny_bind (wpAny_specialOf (typeIs_int _ _) Fa.int_index ?_)
  refine bm_if_true rfl ?_
  refine wpAny_bind (wpAny_attempt (wpAny_of_eq (a := n) rfl ?_))
  dsimp only
  have hb : n.toNat ≤ 16777216 := hz
  refine bm_if_false (by unfold Builtin.Bytes.fitsIndex; simp only [Bool.not_eq_false', Bool.and_eq_true, decide_eq_true_eq]; omega) ?_
  rw [if_neg (by omega)]
  refine bm_if_false (by rw [beq_eq_false_iff_ne]; omega) ?_
  refine bm_if_false (by unfold Builtin.Bytes.tooLong; rw [decide_eq_false_iff_not]; exact Nat.not_lt.mpr hz) ?_
  refine wpAny_bind (wpAny_rule ?_)
  split
  · refine wpAny_bind (ba_write hl₁ (by rw [Array.size_replicate]; exact hz) ?_)
    have hl₂ : ((s.heap.update a (Obj.mapBytearray fun _ => #[])).update a (Obj.mapBytearray fun _ => Array.replicate n.toNat 0)).get? a = some (baObj (Array.replicate n.toNat 0)) := Heap.get?_update_self (Obj.mapBytearray fun _ => Array.replicate n.toNat 0) hl₁ rfl
    exact wpAny_pure (h _ hl₂ (fun b o hb e => ((Heap.get?_update_ne _ _ _ _ hb).trans (Heap.get?_update_ne _ _ _ _ hb)).trans e) _)
  · have hn : n = 0 := by omega
    subst hn
    exact wpAny_pure (h _ hl₁ (fun b o hb e => (Heap.get?_update_ne _ _ _ _ hb).trans e) _)

theorem codeS_builtin {id : String} {args : Args} {b : Builtin} {R : Result → Shared → Prop} (hb : entryFor table id = some b)
    (h : wpS (model prog w) (A.under (.builtin id args)) (b args)
      (fun fin s' => match fin with | .done f => R (.ok f) s' | .again c' => c'.quiet = true ∧ calmCode c' = true ∧ codeS (model prog w) A c' R s') (fun e s' => R (.error e) s') s) :
    codeS (model prog w) A (.builtin id args) R s := by
  refine codeS_of_tree ?_
  show wpS _ _ (match entryFor table id with | some b => b args | none => unsupported ((withoutEnding? id "#data").getD id)) _ _ s
  rw [hb]; exact h
theorem calm_of {id : String} {args : Args} (h : badIds.contains id = false) : calmCode (.builtin id args) = true := by
  simp only [calmCode, h, Bool.not_false]
set_option maxHeartbeats 2000000 in
theorem call_bytearray {n : Int} {t : Tok} {Q : Value → Shared → Prop} (h0 : 0 ≤ n) (hz : n.toNat ≤ sizeLine)
    (h : ∀ h', h'.get? s.heap.objs.size = some (baObj (Array.replicate n.toNat 0)) → (∀ b o, s.heap.get? b = some o → h'.get? b = some o) → ∀ tk, Q (.ref s.heap.objs.size) { s with heap := h', toks := tk }) :
    wpS (model prog w) A (call (.type "bytearray") [.int n t]) Q E s := by
  refine wpS_call (codeS_of_tree ?_)
  show wpS _ _ (callAny (.type "bytearray") _) _ _ _
  refine wpS_pure ⟨Code.quiet_builtin _ (by decide +kernel), calm_of (by decide +kernel), codeS_builtin F.entry_type_call ?_⟩
  rw [Around.under_plain (weight_type_call_type "bytearray" [.int n t] []) rfl]
  unfold Builtin.«type.__call__»
  dsimp only
  refine sif_false (by decide) ?_
  refine sif_false Fa.called.canCreate ?_
  refine wpS_bind (wpS_any (wpAny_of_eq (Fa.typeCall _) ?_))
  refine wpS_bind (wpS_any (wpAny_of_eq Fa.mro ?_))
  refine sif_false rfl ?_
  refine wpS_bind (wpS_any (wpAny_of_eq Fa.made ?_))
  dsimp only
  refine wpS_bind (wpS_pure ?_)
  refine wpS_bind (wpS_holding ?_)
  refine wpS_any (wpAny_call (codeAny_mono (code_ba_new (E := fun _ _ => False) (.int n t) (Q₁ := fun v s₁ => v = .ref s.heap.objs.size ∧ s₁ = { s with heap := s.heap.push (baObj #[]) }) ⟨rfl, rfl⟩) fun r s₁ hr => ?_))
  cases r with
  | error e => exact hr.elim
  | ok fl =>
    cases fl with
    | ret obj =>
      obtain ⟨rfl, rfl⟩ := hr
      have ho : (s.heap.push (baObj #[])).get? s.heap.objs.size = some (baObj #[]) := Heap.get?_push_size _ rfl
      have hT : ({ s with heap := s.heap.push (baObj #[]) } : Shared).TypeIs (.ref s.heap.objs.size) "bytearray" := ⟨_, ho, rfl⟩
      dsimp only
      refine wpS_bind (wpS_any (wpAny_isInstance hT Fa.sub ?_))
      refine sif_false rfl ?_
      refine wpS_bind (wpS_holding ?_)
      unfold callSpecial?
      refine wpS_bind (wpS_any (wpAny_specialOf hT Fa.slot_init.lookup ?_))
      dsimp only
      refine wpS_holding (wpS_bind (wpS_any (wpAny_of_eq (Fa.slot_init.bind _) ?_)))
      dsimp only
      refine wpS_bind (wpS_call (codeS_of_tree ?_))
      show wpS _ _ (do checkBuiltinCall "bytearray.__init__" ⟨[.ref s.heap.objs.size, .int n t], []⟩; again (.builtin "bytearray.__init__" ⟨[.ref s.heap.objs.size, .int n t], []⟩)) _ _ _
      refine wpS_bind (wpS_any (Fa.slot_init.check _ _ _ _ _ _ _ _ hT (by unfold argsOk; kernel_rfl) ?_))
      refine wpS_pure ⟨plainId_quiet Fa.plain_init _, calm_of (by decide +kernel), codeS_builtin Fa.entry_init ?_⟩
      refine ba_init ho h0 hz fun h' h1 h2 tk => ?_
      dsimp only
      refine wpS_pure ?_
      dsimp only
      refine sif_false (by decide) ?_
      exact wpS_pure (h h' h1 (fun b o e => h2 b o (Nat.ne_of_lt (Heap.lt_size e)) (Heap.get?_push_of_some _ e)) tk)
    | _ => exact hr.elim

theorem ba_setItem {a : Addr} {b : Array UInt8} {k v : Int} {t u : Tok} {Q : Unit → Shared → Prop} (ho : s.heap.get? a = some (baObj b)) (h0 : 0 ≤ k) (hk : k.toNat < b.size) (hz : b.size ≤ sizeLine) (hv : 0 ≤ v) (hv' : v < 256)
    (h : Q () { s with heap := s.heap.update a (Obj.mapBytearray (·.setIfInBounds k.toNat v.toNat.toUInt8)) }) :
    wpAny (model prog w) A (setItem (.ref a) (.int k t) (.int v u)) Q E s := by
  have hT := typeIs_ba ho
  have hb : b.size ≤ 16777216 := hz
  unfold setItem
  try with_reducible refine wpAny_holding ?_
  first | refine wpAny_bind (wpAny_pure ?_) | skip
  refine wpAny_bind (wpAny_sequenceKey hT (by decide) ?_)
  refine wpAny_bind (wpAny_callSpecial?_slot (name := Str.ofString "__setitem__") hT Fa.slot_setitem
    (wpAny_call_entry Fa.slot_setitem hT Fa.entry_setitem ?_ (by unfold argsOk; kernel_rfl)))
  unfold Builtin.«bytearray.__setitem__»
  dsimp only
  refine bm_if_false rfl ?_
  unfold Builtin.Bytes.subscript?
  refine wpAny_bind (wpAny_bind (wpAny_specialOf (typeIs_int _ _) Fa.int_index ?_))
  refine bm_if_false rfl ?_
  refine wpAny_bind (wpAny_of_eq (a := k) rfl ?_)
  refine bm_if_false (by unfold Builtin.Bytes.fitsIndex; simp only [Bool.not_eq_false', Bool.and_eq_true, decide_eq_true_eq]; omega) ?_
  refine wpAny_pure ?_
  dsimp only
  unfold Builtin.Bytes.byteValue
  refine wpAny_bind (wpAny_bind (wpAny_of_eq (a := v) rfl ?_))
  refine bm_if_false (by simp only [Bool.or_eq_false_iff, decide_eq_false_iff_not]; omega) ?_
  refine wpAny_pure ?_
  unfold Builtin.Bytes.payload Builtin.Bytes.payload?
  refine wpAny_bind (wpAny_bind (wpAny_bind (wpAny_load ho (wpAny_pure (wpAny_pure ?_)))))
  have e : seqIndex? k b.size = some k.toNat := by
    unfold seqIndex?
    have hk' : (k.toNat : Int) < b.size := Int.ofNat_lt.mpr hk
    have e1 : (if k < 0 then k + (b.size : Int) else k) = k := if_neg (by omega)
    simp only [e1]
    rw [if_pos]
    simp only [Bool.and_eq_true, decide_eq_true_eq]
    omega
  rw [e]
  dsimp only
  refine wpAny_bind (ba_write ho (by rw [Array.size_setIfInBounds]; exact hz) ?_)
  first
    | exact wpAny_pure ⟨.none, rfl, wpAny_pure h⟩
    | exact wpAny_bind (wpAny_pure (wpAny_pure ⟨.none, rfl, wpAny_pure h⟩))
theorem ba_bytes {a : Addr} {b : Array UInt8} {Q : Value → Shared → Prop} (ho : s.heap.get? a = some (baObj b)) (hz : b.size ≤ sizeLine)
    (h : ∀ t k, Q (.bytes b t) { s with toks := k }) : wpAny (model prog w) A (call (.type "bytes") [.ref a]) Q E s := by
  have hT := typeIs_ba ho
  refine callType_codes (Q₁ := fun obj s₁ => s₁.TypeIs obj "bytes" ∧ Q obj s₁) F.bm_called (F.bm_typeCall _) F.entry_object_init ?_ fun obj s₁ h₁ => ?_
  · refine codeAny_of_tree ?_
    show wpAny _ _ (do checkBuiltinCall "bytes.__new__" ⟨[.type "bytes", .ref a], []⟩; again (.builtin "bytes.__new__" ⟨[.type "bytes", .ref a], []⟩)) _ _ s
    refine wpAny_bind (wpAny_of_eq (F.bm_newCall _) (wpAny_pure ⟨plainId_quiet F.bm_plain _, codeAny_builtin F.bm_entry ?_⟩))
    rw [Around.under_plainId F.bm_plain _]
    unfold Builtin.«bytes.__new__»
    refine wpAny_bind (wpAny_of_eq (a := true) rfl ?_)
    refine bm_if_false rfl ?_
    refine wpAny_bind (wpAny_of_eq F.bm_sub ?_)
    refine bm_if_false rfl ?_
    refine wpAny_bind (wpAny_of_eq (F.bm_bind _) ?_)
    refine wpAny_bind (wpAny_of_eq (a := ()) rfl ?_)
    refine wpAny_bind (wpAny_of_eq (a := ()) rfl ?_)
    refine bm_if_false rfl ?_
    refine wpAny_bind (wpAny_specialOf hT Fa.noBytes ?_)
    refine wpAny_bind (wpAny_bind ?_)
    show wpAny _ _ (load a >>= _) _ _ _
    refine wpAny_bind (wpAny_load ho ?_)
    refine wpAny_pure (wpAny_pure ?_)
    refine bm_if_false rfl ?_
    refine wpAny_bind (wpAny_specialOf hT Fa.noIndex ?_)
    refine bm_if_true rfl ?_
    first
      | show wpAny _ _ (Builtin.Bytes.buffer? "bytes.__new__" (.ref a) true >>= _) _ _ _
      | (refine wpAny_bind ?_; show wpAny _ _ (Builtin.Bytes.buffer? "bytes.__new__" (.ref a) true >>= _) _ _ _)
    refine wpAny_bind ?_
    unfold Builtin.Bytes.buffer?
    refine wpAny_bind (wpAny_specialOf hT Fa.lookup_buffer ?_)
    dsimp only
    unfold Builtin.Bytes.slotIsOwn
    refine wpAny_bind (wpAny_bind (wpAny_specialOf hT Fa.lookup_buffer ?_))
    dsimp only
    rw [ends_buffer, drop_buffer]
    simp only [Bool.not_true, Bool.false_eq_true, if_false]
    refine wpAny_isInstance hT Fa.sub ?_
    simp only [Bool.not_true, Bool.false_eq_true, if_false]
    refine wpAny_bind (wpAny_specialOf hT Fa.lookup_buffer ?_)
    show wpAny _ _ (Builtin.Bytes.ownRelease (.ref a) >>= _) _ _ _
    refine wpAny_bind (slotOwn_release ho ?_)
    refine bm_if_false rfl ?_
    unfold Builtin.Bytes.payload Builtin.Bytes.payload?
    refine wpAny_bind (wpAny_bind (wpAny_bind (wpAny_load ho (wpAny_pure (wpAny_pure (wpAny_pure ?_))))))
    dsimp only
    refine wpAny_bind (wpAny_rule ?_)
    refine wpAny_bind (wpAny_mkBytes ?_ hz)
    show wpAny _ _ (if (Value.type "bytes" == Value.type "bytes") = true then _ else _) _ _ _
    refine bm_if_true (by decide) ?_
    first
      | exact wpAny_pure ⟨PySem.W.typeIs_bytes _ _ _, h _ _⟩
      | exact wpAny_bind (wpAny_pure (wpAny_pure ⟨PySem.W.typeIs_bytes _ _ _, h _ _⟩))
  · exact ⟨h₁.1, F.args_object_init_2 obj _, object_init_meets F.bm_called.init.lookup F.bm_called.made (by decide) prog w A.in1 _ s₁ ⟨h₁.1, rfl, h₁.2⟩⟩

variable {h₀ : Heap} {L : Addr} {m : Str → Option Value} {news news' : List (Addr × Obj)}
theorem call_bytearray_K {n : Int} {t : Tok} {Q : Value → Shared → Prop} (F : Fr h₀ L s.heap m) (N : News h₀ L s.heap news) (h0 : 0 ≤ n) (hz : n.toNat ≤ sizeLine)
    (h : ∀ a h' tk, Fr h₀ L h' m → News h₀ L h' ((a, baObj (Array.replicate n.toNat 0)) :: news) → (∀ p ∈ news, p.1 < a) → Q (.ref a) { s with heap := h', toks := tk }) :
    wpS (model prog w) A (call (.type "bytearray") [.int n t]) Q E s := by
  refine call_bytearray h0 hz fun h' h1 h2 tk => h _ h' tk (F.grownK h2) (fun p hp => ?_) fun p hp => Heap.lt_size (N p hp).1
  rcases List.mem_cons.mp hp with rfl | hp
  · exact ⟨h1, Nat.ne_of_gt F.ns.lt, next_is_new F⟩
  · exact N.grown h2 p hp
theorem ba_set_K {a : Addr} {b : List UInt8} {k v : Int} {t u : Tok} {Q : Unit → Shared → Prop} (F : Fr h₀ L s.heap m) (N : News h₀ L s.heap news) (U : Upd a (baObj b.toArray) (baObj (b.set k.toNat v.toNat.toUInt8).toArray) news news')
    (h0 : 0 ≤ k) (hk : k < b.length) (hz : b.length ≤ 1000000) (hv : 0 ≤ v) (hv' : v < 256)
    (h : ∀ h', Fr h₀ L h' m → News h₀ L h' news' → Q () { s with heap := h' }) :
    wpAny (model prog w) A (setItem (.ref a) (.int k t) (.int v u)) Q E s := by
  obtain ⟨pre, post, rfl, rfl, e1, e2⟩ := U.split
  have z := N (a, baObj b.toArray) (List.mem_append.mpr (.inr (.head _)))
  refine ba_setItem z.1 h0 (by rw [List.size_toArray]; omega) (by rw [List.size_toArray]; exact Nat.le_trans hz (by decide)) hv hv' ?_
  obtain ⟨F', N'⟩ := news_upd (f := Obj.mapBytearray (·.setIfInBounds k.toNat v.toNat.toUInt8)) (o' := baObj (b.set k.toNat v.toNat.toUInt8).toArray) F N e1 e2 (by simp [Obj.mapBytearray, baObj]) rfl
  exact h _ F' N'
theorem bytes_item {value slice : PySem.Expr} {l : List UInt8} {i : Int} {t u : Tok} {Q : Value → Shared → Prop} (hz : l.length ≤ 1000000) (h0 : 0 ≤ i) (h1 : i < l.length)
    (h : Q (.int (l.getD i.toNat 0).toNat s.toks) { s with toks := s.toks + 1 })
    (hs : subscripted slice false (.bytes l.toArray t) (.int i u) = operate [.bytes l.toArray t, .int i u] (getItem (.bytes l.toArray t) (.int i u)) := by with_unfolding_all rfl) :
    wpAny (model prog w) A (subscriptTail value slice (.bytes l.toArray t) (.int i u)) Q E s :=
  subscriptTail_builtin (typeIs_bytes _ _ _) FB.slot_bytes_getitem.lookup (getItem_bytes (Nat.le_trans hz (by decide)) h0 h1 h) hs (by intro r; unfold letTemporaryGo; split <;> first | rfl | contradiction)
theorem bytes_cut {value slice : PySem.Expr} {b : List UInt8} {t : Tok} {l u : Value} {lo hi : Option Int} {Q : Value → Shared → Prop} (hF : Fr h₀ L s.heap m) (hN : News h₀ L s.heap news) (hl : IsPart l lo) (hu : IsPart u hi) (hz : b.length ≤ 1000000)
    (h : ∀ h' t' k, Fr h₀ L h' m → News h₀ L h' news → Q (.bytes ((b.drop (lo.elim 0 (clipAt b.length))).take (hi.elim b.length (clipAt b.length) - lo.elim 0 (clipAt b.length))).toArray t') { s with heap := h', toks := k })
    (hs : subscripted slice false (.bytes b.toArray t) (.ref s.heap.objs.size) = operate [.ref s.heap.objs.size, .bytes b.toArray t] (getItem (.bytes b.toArray t) (.ref s.heap.objs.size)) := by with_unfolding_all rfl)
    (ht : ∀ r, letTemporaryGo value (.bytes b.toArray t) r = pure () := by intro _; with_unfolding_all rfl) :
    wpAny (model prog w) A (subscriptTail value slice (.bytes b.toArray t) (.ref s.heap.objs.size)) Q E { s with heap := s.heap.push { cls := .type "slice", data := .fields #[l, u, .none] } } := by
  refine KBc.slice_K (ks := KBw.bInts b.toArray) hF hN rfl hl hu (by rw [KBw.ints_length, List.size_toArray]; omega) (fun h' t' k F' N' _ => ?_) hs ht
  rw [KBc.picked_eq]
  simp only [List.size_toArray]
  exact h h' t' k F' N'
end

/-! ## what _byteswap gives -/
def swapAt (b : List UInt8) (n k : Nat) : UInt8 := b.getD (k / n * n + (n - 1 - k % n)) 0
def swapL (b : List UInt8) (n : Nat) : List UInt8 := (List.range b.length).map (swapAt b n)
/-- after i whole words and j octets of the next one -/
def swapTo (b : List UInt8) (n i j : Nat) : List UInt8 := (List.range b.length).map fun k => if k < i * n ∨ (i * n + n - j ≤ k ∧ k < i * n + n) then swapAt b n k else 0
theorem swapTo_length (b : List UInt8) (n i j : Nat) : (swapTo b n i j).length = b.length := by simp [swapTo]
theorem swapL_length (b : List UInt8) (n : Nat) : (swapL b n).length = b.length := by simp [swapL]
theorem swapTo_zero (b : List UInt8) (n : Nat) : swapTo b n 0 0 = List.replicate b.length 0 := by
  apply List.ext_getElem
  · simp [swapTo]
  · intro k h1 h2
    simp only [swapTo, List.getElem_map, List.getElem_range, List.getElem_replicate]
    rw [if_neg (by omega)]
theorem swapTo_next (b : List UInt8) (n i : Nat) : swapTo b n i n = swapTo b n (i + 1) 0 := by
  apply List.ext_getElem
  · simp [swapTo]
  · intro k h1 h2
    simp only [swapTo, List.getElem_map, List.getElem_range]
    have e : (i + 1) * n = i * n + n := Nat.succ_mul i n
    rw [e]
    by_cases h : k < i * n + n
    · rw [if_pos (by omega), if_pos (by omega)]
    · rw [if_neg (by omega), if_neg (by omega)]
theorem swapTo_all (b : List UInt8) (n q : Nat) (h : b.length = q * n) : swapTo b n q 0 = swapL b n := by
  apply List.ext_getElem
  · simp [swapTo, swapL]
  · intro k h1 h2
    simp only [swapTo, swapL, List.getElem_map, List.getElem_range]
    rw [swapTo_length] at h1
    rw [if_pos (by omega)]
theorem swapTo_set (b : List UInt8) (n i j : Nat) (hn : 0 < n) (hj : j < n) (hi : i * n + n ≤ b.length) :
    (swapTo b n i j).set (i * n + n - 1 - j) (b.getD (i * n + j) 0) = swapTo b n i (j + 1) := by
  apply List.ext_getElem
  · simp [swapTo]
  · intro k h1 h2
    rw [List.getElem_set]
    simp only [swapTo, List.getElem_map, List.getElem_range]
    by_cases h : i * n + n - 1 - j = k
    · rw [if_pos h, if_pos (by omega)]
      have e : k = i * n + (n - 1 - j) := by omega
      have e1 : k / n = i := by rw [e, Nat.mul_comm, Nat.mul_add_div hn, Nat.div_eq_of_lt (by omega), Nat.add_zero]
      have e2 : k % n = n - 1 - j := by rw [e, Nat.mul_comm, Nat.mul_add_mod, Nat.mod_eq_of_lt (by omega)]
      unfold swapAt
      rw [e1, e2]
      congr 1
      omega
    · rw [if_neg h]
      by_cases h' : k < i * n ∨ i * n + n - j ≤ k ∧ k < i * n + n
      · rw [if_pos h', if_pos (by omega)]
      · rw [if_neg h', if_neg (by omega)]
end Mine
set_option maxRecDepth 100000
set_option Elab.async false
open PySem PySem.W PySem.Calls PyProof.Rows
namespace Mine
/-! ## comprehensions over any source, by the ledger -/
section
variable {prog : Program} {w : World} {A : Around} {E : Value → Shared → Prop} {s : Shared} {env : Env} {h₀ : Heap} {L : Addr} {m : Str → Option Value} {news : List (Addr × Obj)}
/-- what the source of a comprehension must give -/
def CompAt (prog : Program) (w : World) (A : Around) (env : Env) (scope : Scope) (cl : List (Str × Addr)) (x : Str) (ifs : List Expr) (elt : Expr) (p : Value → Bool) (G : Value → Value → Prop) (Q : Value → Shared → Prop) (it : Value) (s₂ : Shared) : Prop :=
  ∃ I fp wr n P St, it = .ref I ∧ Walks prog w A I fp wr n P St ∧ n ≤ sizeLine ∧ St 0 s₂.heap ∧ (∀ b ∈ fp, b < s₂.heap.objs.size) ∧
      QuietOnC prog w A env scope cl x ifs elt wr P p G s₂ ∧
      (∀ D h' tk ys (vs : List Value), s₂.heap.get? D = none → h'.IsList D ys → h'.PlainList D ys → vs.length = n → (∀ j v, vs[j]? = some v → P j v) → Paired G (vs.filter p) ys.toList →
        (∀ b o, b ∉ wr → s₂.heap.get? b = some o → h'.get? b = some o) → Q (.ref D) { s₂ with heap := h', toks := tk })
theorem comp_any {elt iter : Expr} {x : Str} {px : Pos} {ifs : List Expr} {scope : Scope} {cl : List (Str × Addr)} {pos : Pos} {Q : Value → Shared → Prop} (p : Value → Bool) (G : Value → Value → Prop)
    (hclos : closureFor scope env = pure cl) (hcell : ∀ y ∈ scope.names, y.2 ≠ .cell) (hkind : scope.kind = .function)
    (hnames : ∀ y ∈ scope.names, y.2 = .local → scope.names.lookup y.1 = some .local) (hx : scope.names.lookup x = some .local)
    (h : wpAny (model prog w) A (eval iter env) (fun xv s₁ => wpAny (model prog w) A (pyIter xv) (CompAt prog w A env scope cl x ifs elt p G Q) E s₁) E s)
    (hs : ∀ x, foldedSetIterable iter env x = pure x := by intro _; rfl) :
    wpAny (model prog w) A (eval (.ListComp elt [⟨.Name x px, iter, ifs, 0⟩] scope pos) env) Q E s :=
  wpAny_ListComp_free p G hclos hcell hkind hnames hx h hs
theorem comp_at {I : Addr} {fp wr : List Addr} {n : Nat} {P : Nat → Value → Prop} {St : Nat → Heap → Prop} {scope : Scope} {cl : List (Str × Addr)} {x : Str} {ifs : List Expr} {elt : Expr} {p : Value → Bool} {G : Value → Value → Prop} {Q : Value → Shared → Prop}
    (W : Walks prog w A I fp wr n P St) (hn : n ≤ sizeLine) (hst : St 0 s.heap) (hfp : ∀ b ∈ fp, b < s.heap.objs.size)
    (hwr : ∀ b ∈ wr, h₀.get? b = none ∧ b ≠ L ∧ ∀ q ∈ news, q.1 ≠ b) (F : Fr h₀ L s.heap m) (N : News h₀ L s.heap news)
    (tests : ∀ C i v s₃ m₃ E', P i v → s₃.heap.Ns C m₃ → m₃ x = some v → Fr h₀ L s₃.heap m → News h₀ L s₃.heap news →
      wpAny (model prog w) A (forIn ifs true fun c r => if r = true then do let ok ← isTrue c (compEnvC scope cl C env) (eval c (compEnvC scope cl C env)); pure (ForInStep.yield ok) else pure (ForInStep.yield r))
        (fun ok s₄ => ok = p v ∧ Keeps s₃ s₄) E' s₃)
    (elts : ∀ C i v s₃ m₃ E', P i v → p v = true → s₃.heap.Ns C m₃ → m₃ x = some v → Fr h₀ L s₃.heap m → News h₀ L s₃.heap news →
      wpAny (model prog w) A (eval elt (compEnvC scope cl C env)) (fun y s₄ => G v y ∧ Keeps s₃ s₄) E' s₃)
    (h : ∀ (D : Addr) (k : Nat) (ys vs : List Value) (h' : Heap) (tk : Nat), Fr h₀ L h' m → News h₀ L h' ((D, listOf (List.toArray ys) k) :: news) → (∀ q ∈ news, q.1 ≠ D) → vs.length = n → (∀ j v, vs[j]? = some v → P j v) → Paired G (vs.filter p) ys → Q (.ref D) { s with heap := h', toks := tk }) :
    CompAt prog w A env scope cl x ifs elt p G Q (.ref I) s := by
  have grow : ∀ h' : Heap, (∀ b o, b ∉ wr → s.heap.get? b = some o → h'.get? b = some o) → Fr h₀ L h' m ∧ News h₀ L h' news := fun h' hk =>
    ⟨⟨F.ns.at' fun o e => hk _ o (fun q => (hwr _ q).2.1 rfl) e, fun b o e => hk b o (fun q => by rw [(hwr _ q).1] at e; cases e) (F.keep b o e), F.above⟩,
      fun q hq => ⟨hk _ _ (fun z => (hwr _ z).2.2 q hq rfl) (N q hq).1, (N q hq).2⟩⟩
  refine ⟨I, fp, wr, n, P, St, rfl, W, hn, hst, hfp, ⟨?_, ?_⟩, ?_⟩
  · intro C i v s₃ m₃ E' _ hP hns hm hk _
    obtain ⟨F₃, N₃⟩ := grow _ hk
    exact tests C i v s₃ m₃ E' hP hns hm F₃ N₃
  · intro C i v s₃ m₃ E' _ hP hp hns hm hk _
    obtain ⟨F₃, N₃⟩ := grow _ hk
    exact elts C i v s₃ m₃ E' hP hp hns hm F₃ N₃
  · intro D h' tk ys vs hD _ hpl hlen hP hG hk
    obtain ⟨F₃, N₃⟩ := grow _ hk
    obtain ⟨k, hk'⟩ := hpl
    have hne : ∀ q ∈ news, q.1 ≠ D := fun q hq z => by have := (N q hq).1; rw [z, hD] at this; cases this
    refine h D k ys.toList vs h' tk F₃ (fun q hq => ?_) hne hlen hP hG
    rcases List.mem_cons.mp hq with rfl | hq
    · refine ⟨?_, ?_, ?_⟩
      · show h'.get? D = some (listOf ys.toList.toArray k)
        rw [Array.toArray_toList]; exact hk'
      · intro z
        obtain ⟨o, es, ep, ho, _⟩ := F.ns
        rw [← z, hD] at ho; cases ho
      · cases z : h₀.get? D with
        | none => rfl
        | some o => have := F.keep D o z; rw [hD] at this; cases this
    · exact N₃ q hq

theorem comp_bytes {b : List UInt8} {t : Tok} {scope : Scope} {cl : List (Str × Addr)} {x : Str} {ifs : List Expr} {elt : Expr} {p : Value → Bool} {G : Value → Value → Prop} {Q : Value → Shared → Prop} (hh : A.handled = none)
    (hz : b.length ≤ 1000000) (F : Fr h₀ L s.heap m) (N : News h₀ L s.heap news)
    (tests : ∀ C v s₃ m₃ E', (∃ c u, c ∈ b ∧ v = .int (c.toNat : Int) u) → s₃.heap.Ns C m₃ → m₃ x = some v → Fr h₀ L s₃.heap m → News h₀ L s₃.heap news →
      wpAny (model prog w) A (forIn ifs true fun c r => if r = true then do let ok ← isTrue c (compEnvC scope cl C env) (eval c (compEnvC scope cl C env)); pure (ForInStep.yield ok) else pure (ForInStep.yield r))
        (fun ok s₄ => ok = p v ∧ Keeps s₃ s₄) E' s₃)
    (elts : ∀ C v s₃ m₃ E', (∃ c u, c ∈ b ∧ v = .int (c.toNat : Int) u) → p v = true → s₃.heap.Ns C m₃ → m₃ x = some v → Fr h₀ L s₃.heap m → News h₀ L s₃.heap news →
      wpAny (model prog w) A (eval elt (compEnvC scope cl C env)) (fun y s₄ => G v y ∧ Keeps s₃ s₄) E' s₃)
    (h : ∀ (D : Addr) (k : Nat) (ys vs : List Value) (h' : Heap) (tk : Nat), Fr h₀ L h' m → News h₀ L h' ((D, listOf (List.toArray ys) k) :: news) → (∀ q ∈ news, q.1 ≠ D) → IntsAre vs (b.map fun c => (c.toNat : Int)) → Paired G (vs.filter p) ys → Q (.ref D) { s with heap := h', toks := tk }) :
    wpAny (model prog w) A (pyIter (.bytes b.toArray t)) (CompAt prog w A env scope cl x ifs elt p G Q) E s := by
  refine KBw.pyIter_bytes ?_
  have hmem : ∀ {i : Nat} {c : UInt8}, b.toArray[i]? = some c → c ∈ b := fun {i c} e => List.mem_of_getElem? (by simpa using e)
  refine comp_at (KBw.walks hh s.heap.objs.size b.toArray t) (by rw [List.size_toArray]; exact Nat.le_trans hz (by decide)) ⟨_, Heap.get?_push_size _ rfl, rfl, rfl⟩ ?_ ?_ (F.push _) (fun q hq => ⟨Heap.get?_push_of_some _ (N q hq).1, (N q hq).2⟩) ?_ ?_ ?_
  · intro q hq
    rw [List.mem_singleton.mp hq, Heap.size_push]; exact Nat.lt_succ_self _
  · intro q hq
    rw [List.mem_singleton.mp hq]
    exact ⟨next_is_new F, Nat.ne_of_gt F.ns.lt, fun z hz => Nat.ne_of_lt (Heap.lt_size (N z hz).1)⟩
  · rintro C i v s₃ m₃ E' ⟨c, u, hc, rfl⟩
    exact tests C _ s₃ m₃ E' ⟨c, u, hmem hc, rfl⟩
  · rintro C i v s₃ m₃ E' ⟨c, u, hc, rfl⟩
    exact elts C _ s₃ m₃ E' ⟨c, u, hmem hc, rfl⟩
  · intro D k ys vs h' tk F' N' hne hlen hP hG
    refine h D k ys vs h' tk F' N' hne ?_ hG
    rw [List.size_toArray] at hlen
    clear hG N' F' hne h elts tests F N
    induction vs generalizing b with
    | nil => cases b with
      | nil => exact .nil
      | cons c b => simp at hlen
    | cons v vs ih =>
      cases b with
      | nil => simp at hlen
      | cons c b =>
        obtain ⟨c', u, hc, rfl⟩ := hP 0 v rfl
        simp only [List.getElem?_toArray, List.getElem?_cons_zero, Option.some.injEq] at hc
        subst hc
        refine .cons _ _ (ih (b := b) (by simp at hz; omega) (fun {i c} e => List.mem_of_getElem? (by simpa using e)) (by simpa using hlen) fun j v hj => ?_)
        obtain ⟨c', u', hc', e⟩ := hP (j + 1) v (by simpa using hj)
        exact ⟨c', u', by simpa using hc', e⟩
end
end Mine
set_option maxRecDepth 100000
set_option Elab.async false
open PySem PySem.W PySem.Calls PyProof.Rows
namespace Mine
/-! ## list(bytes) -/
section
variable {prog : Program} {w : World} {A : Around} {E : Value → Shared → Prop} {s : Shared}
theorem bytes_len_look : typeLookup (.type "bytes") "__len__" = pure (some (.builtin "bytes.__len__")) := by rw [typeLookup_type, builtinLookup_eq_fast]; kernel_rfl
def OctAt (b : Array UInt8) (i : Nat) (v : Value) : Prop := ∃ c u, b[i]? = some c ∧ v = .int (c.toNat : Int) u
theorem extend_bytes {R : Result → Shared → Prop} (hh : A.handled = none) (b : Array UInt8) (t : Tok) (S : Addr) (res : Value) (c₀ : Nat) (hS : s.heap.get? S = some { cls := .type "list", data := .seq #[] c₀ })
    (hR : ∀ h' tk acc' c', (∀ b o, b ≠ S → s.heap.get? b = some o → h'.get? b = some o) → h'.get? S = some { cls := .type "list", dict := none, data := .seq acc' c', slots := #[] } →
      ItemsOf (OctAt b) acc' b.size → R (.ok (.ret res)) { s with heap := h', toks := tk }) (hn : b.size ≤ sizeLine) :
    wpAny (model prog w) A.in1 (Builtin.List.listExtendWith (.ref S) (.bytes b t) res)
      (fun fin s' => match fin with | .done f => R (.ok f) s' | .again c' => c'.quiet = true ∧ codeAny (model prog w) A c' R s') (fun e s' => R (.error e) s') s := by
  have hSI : S ≠ s.heap.objs.size := Nat.ne_of_lt (Heap.lt_size hS)
  have hSf : S ∉ [s.heap.objs.size] := fun hm => hSI (List.mem_singleton.mp hm)
  unfold Builtin.List.listExtendWith
  refine wpAny_bind (wpAny_typeOf (T := "bytes") (v := .bytes b t) rfl ?_)
  have h1 : Builtin.List.listSameRef (.ref S) (.bytes b t) = false := rfl
  have h2 : (Value.type "bytes" == Value.type "list") = false := by decide
  have h3 : (Value.type "bytes" == Value.type "tuple") = false := by decide
  simp only [h1, h2, h3, Bool.or_false, Bool.false_eq_true, if_false]
  refine wpAny_bind (KBw.pyIter_bytes ?_)
  refine wpAny_bind (wpAny_holding ?_)
  unfold Builtin.List.listLengthHint
  refine wpAny_bind (wpAny_specialOf (T := "bytes") (v := .bytes b t) rfl bytes_len_look ?_)
  wp_delta
  refine wpAny_bind (wpAny_isInstance (T := "bytes") (v := .bytes b t) (b := true) rfl (by rw [isSubtype_type]; kernel_rfl) ?_)
  show wpAny _ _ (typeOf (Value.bytes b t) >>= _) _ _ _
  refine wpAny_bind (wpAny_typeOf (T := "bytes") (v := .bytes b t) rfl ?_)
  refine wpAny_pure ?_
  rw [if_neg (by decide)]
  refine wpAny_pure ⟨plainId_quiet F.plain_extend_loop _, codeAny_extend_loopS (KBw.walks (A := A.in1) hh s.heap.objs.size b t).toS hn _ hSf _ b.size 0 _ _ _ rfl (Nat.zero_le _) ⟨_, Heap.get?_push_size _ rfl, rfl, rfl⟩ (Heap.get?_push_of_some _ hS) (ItemsOf.nil _) fun s' acc' c' hm hS' hacc => ?_⟩
  rw [Moved.eq_with hm]
  refine hR s'.heap s'.toks acc' c' (fun b ob hb e => hm.heap b ob (fun hmem => ?_) (Heap.get?_push_of_some _ e)) hS' hacc
  rcases List.mem_cons.mp hmem with e' | hmem
  · exact hb e'
  · exact absurd (Heap.lt_size e) (by rw [List.mem_singleton.mp hmem]; exact Nat.lt_irrefl _)
theorem init_bytes {R : Result → Shared → Prop} (hh : A.handled = none) (x : Array UInt8) (t : Tok) (S : Addr) (hS : s.heap.get? S = some { cls := .type "list", data := .seq #[] })
    (hR : ∀ h' tk acc' c', (∀ b o, b ≠ S → s.heap.get? b = some o → h'.get? b = some o) → h'.get? S = some { cls := .type "list", dict := none, data := .seq acc' c', slots := #[] } →
      ItemsOf (OctAt x) acc' x.size → R (.ok (.ret .none)) { s with heap := h', toks := tk }) (hn : x.size ≤ sizeLine) :
    wpAny (model prog w) A.in1 (Builtin.«list.__init__» ⟨[.ref S, .bytes x t], []⟩)
      (fun fin s' => match fin with | .done f => R (.ok f) s' | .again c' => c'.quiet = true ∧ codeAny (model prog w) A c' R s') (fun e s' => R (.error e) s') s := by
  show wpAny _ _ (do let old ← Builtin.List.listItems (.ref S); Builtin.List.listUpdate (.ref S) (fun _ => #[]); letGo old.toList.reverse; Builtin.List.listExtendWith (.ref S) (.bytes x t) .none) _ _ s
  refine wpAny_bind ?_
  unfold Builtin.List.listItems
  refine wpAny_bind (wpAny_seqItems hS rfl (wpAny_pure ?_))
  show wpAny _ _ (updateSeq S (fun _ => #[]) >>= fun _ => letGo (#[] : Array Value).toList.reverse >>= fun _ => Builtin.List.listExtendWith (.ref S) (.bytes x t) .none) _ _ s
  refine wpAny_bind (wpAny_updateSeq hS rfl ?_)
  have hS₂ := Heap.get?_update_self (Obj.mapSeq (fun _ => (#[] : Array Value))) hS rfl
  have oth : ∀ b o, b ≠ S → s.heap.get? b = some o → (s.heap.update S (Obj.mapSeq (fun _ => (#[] : Array Value)))).get? b = some o :=
    fun b o hb e => (Heap.get?_update_other _ _ (Ne.symm hb)).trans e
  refine wpAny_bind (wpAny_letGo ?_)
  refine extend_bytes (hn := hn) hh x t S .none _ hS₂ fun h' tk acc' c' hk hS' hacc => ?_
  exact hR h' tk acc' c' (fun b o hb e => hk b o hb (oth b o hb e)) hS' hacc
theorem ints_of_items {l : List UInt8} {acc : Array Value} (h : ItemsOf (OctAt l.toArray) acc l.toArray.size) : IntsAre acc.toList (l.map fun c => (c.toNat : Int)) := by
  have hlen : acc.toList.length = l.length := by simpa using h.1
  have hP : ∀ (j : Nat) (v : Value), acc.toList[j]? = some v → ∃ (c : UInt8) (u : Tok), l[j]? = some c ∧ v = Value.int (c.toNat : Int) u := by
    intro j v hv
    obtain ⟨c, u, hc, e⟩ := h.2 j v (by simpa using hv)
    exact ⟨c, u, by simpa using hc, e⟩
  clear h
  generalize acc.toList = vs at *
  induction vs generalizing l with
  | nil => cases l with
    | nil => exact .nil
    | cons c b => simp at hlen
  | cons v vs ih =>
    cases l with
    | nil => simp at hlen
    | cons c b =>
      obtain ⟨c', u, hc, rfl⟩ := hP 0 v rfl
      simp only [List.getElem?_cons_zero, Option.some.injEq] at hc
      subst hc
      refine .cons _ _ (ih (by simpa using hlen) fun j v hj => ?_)
      obtain ⟨c', u', hc', e⟩ := hP (j + 1) v (by simpa using hj)
      exact ⟨c', u', by simpa using hc', e⟩
variable {h₀ : Heap} {L : Addr} {m : Str → Option Value} {news : List (Addr × Obj)}
theorem list_bytes {l : List UInt8} {t : Tok} {Q : Value → Shared → Prop} (hh : A.handled = none) (F₀ : Fr h₀ L s.heap m) (N : News h₀ L s.heap news) (hn : l.length ≤ 1000000)
    (h : ∀ D k vs h' tk, Fr h₀ L h' m → News h₀ L h' ((D, listOf (List.toArray vs) k) :: news) → (∀ q ∈ news, q.1 < D) → IntsAre vs (l.map fun c => (c.toNat : Int)) → Q (.ref D) { s with heap := h', toks := tk }) :
    wpAny (model prog w) A (call (.type "list") [.bytes l.toArray t]) Q E s := by
  refine callType_codes (Q₁ := fun obj s₁ => obj = .ref s.heap.objs.size ∧ s₁ = { s with heap := s.heap.push { cls := .type "list", data := .seq #[] } }) F.called_list (F.typeCall_list_1 _) F.entry_list_init
    (code_list_new _ ⟨rfl, rfl⟩) fun obj s₁ h₁ => ?_
  obtain ⟨rfl, rfl⟩ := h₁
  have hS : (s.heap.push { cls := .type "list", data := .seq #[] }).get? s.heap.objs.size = some { cls := .type "list", data := .seq #[] } := Heap.get?_push_size _ rfl
  refine ⟨⟨_, hS, rfl⟩, F.args_list_init_2 _ _, init_bytes (A := A.in1) (hn := by rw [List.size_toArray]; exact Nat.le_trans hn (by decide)) hh l.toArray t _ hS fun h' tk acc' c' hk hS' hacc => ?_⟩
  have hk' : ∀ b o, s.heap.get? b = some o → h'.get? b = some o := fun b o e => hk b o (Nat.ne_of_lt (Heap.lt_size e)) (Heap.get?_push_of_some _ e)
  refine ⟨rfl, h s.heap.objs.size c' acc'.toList h' tk (F₀.keeps hk') (fun q hq => ?_) (fun q hq => Heap.lt_size (N q hq).1) (ints_of_items hacc)⟩
  rcases List.mem_cons.mp hq with rfl | hq
  · refine ⟨?_, Nat.ne_of_gt F₀.ns.lt, next_is_new F₀⟩
    show h'.get? _ = some (listOf acc'.toList.toArray c')
    rw [Array.toArray_toList]; exact hS'
  · exact ⟨hk' _ _ (N q hq).1, (N q hq).2⟩
end
end Mine
set_option maxRecDepth 100000
set_option Elab.async false
open PySem PySem.W PySem.Calls PyProof.Rows
namespace Mine
/-! ## the turns of a comprehension, all alike -/
section
variable {prog : Program} {w : World} {A : Around} {s : Shared} {env : Env} {h₀ : Heap} {L : Addr} {m : Str → Option Value} {news : List (Addr × Obj)}
/-- the end of one turn's element: the ledger is as it was, and the element is fit -/
def EltEnd (h₀ : Heap) (L : Addr) (m : Str → Option Value) (all : List (Addr × Obj)) (s : Shared) (G : Value → Prop) (y : Value) (s' : Shared) : Prop :=
  ∃ h' tk', s' = { s with heap := h', toks := tk' } ∧ Fr h₀ L h' m ∧ News h₀ L h' all ∧ G y
theorem EltEnd.mk {all al' : List (Addr × Obj)} {G : Value → Prop} {y : Value} {h' : Heap} {tk' : Nat} (F : Fr h₀ L h' m) (N : News h₀ L h' al') (sub : ∀ p ∈ all, p ∈ al') (g : G y) : EltEnd h₀ L m all s G y { s with heap := h', toks := tk' } :=
  ⟨h', tk', rfl, F, fun p hp => N p (sub p hp), g⟩
theorem comp_turns {elt : Expr} {x : Str} {scope : Scope} {cl : List (Str × Addr)} {S : List (Addr × Obj) → Prop} {P : Nat → Value → Prop} {Fin : List Value → List (Addr × Obj) → Prop} {n : Nat} (G : Nat → Value → Prop) (hS : S news)
    (elts : ∀ i v I oI C oC D m₂ h tk (E' : Value → Shared → Prop) ys, i < n → P i v → LCg.NsObj oC m₂ → m₂ x = some v → Fr h₀ L h m → News h₀ L h ((I, oI) :: (C, oC) :: (D, LCg.lst ys) :: news) → LCg.Off3 I C D news → ((@Ne Nat I C) ∧ (@Ne Nat I D) ∧ (@Ne Nat C D)) →
      wpAny (model prog w) A (eval elt (compEnvC scope cl C env)) (EltEnd h₀ L m ((I, oI) :: (C, oC) :: (D, LCg.lst ys) :: news) { s with heap := h, toks := tk } (G i)) E' { s with heap := h, toks := tk })
    (fin : ∀ ys : List Value, ys.length = n → (∀ i y, ys[i]? = some y → G i y) → Fin ys news) :
    LCg.CompRest prog w A h₀ L m env elt x scope cl s S P Fin n 0 [] news := by
  have key : ∀ k i (ys : List Value), i + k = n → ys.length = i → (∀ j y, ys[j]? = some y → G j y) → LCg.CompRest prog w A h₀ L m env elt x scope cl s S P Fin k i ys news := by
    intro k
    induction k with
    | zero => intro i ys hk hl hg; exact fin ys (by omega) hg
    | succ k ih =>
      intro i ys hk hl hg v I oI C oC D m₂ h tk E' hP hC hx F N off ne
      refine wpAny_mono (elts i v I oI C oC D m₂ h tk E' ys (by omega) hP hC hx F N off ne) (fun y s' hy => ?_) fun _ _ e => e
      obtain ⟨h', tk', rfl, F', N', g⟩ := hy
      refine ⟨h', tk', news, rfl, F', N', off, hS, ih (i + 1) (ys ++ [y]) (by omega) (by rw [List.length_append]; simp; omega) fun j z hj => ?_⟩
      by_cases hlt : j < ys.length
      · rw [List.getElem?_append_left hlt] at hj; exact hg j z hj
      · rw [List.getElem?_append_right (by omega)] at hj
        have : j = i := by
          cases e : j - ys.length with
          | zero => omega
          | succ q => rw [e] at hj; simp at hj
        subst this
        rw [hl, Nat.sub_self] at hj
        simp at hj
        exact hj ▸ g
  exact key n 0 [] (by omega) rfl (fun j y hj => by simp at hj)
end
end Mine
set_option maxRecDepth 100000
set_option Elab.async false
open PySem PySem.W PySem.Calls PyProof.Rows
namespace Mine
/-! ## b''.join(a list of bytes) -/
section
variable {prog : Program} {w : World} {A : Around} {E : Value → Shared → Prop} {s : Shared}
theorem bytes_buffer_look : typeLookup (.type "bytes") "__buffer__" = pure (some (.builtin "bytes.__buffer__")) := by rw [typeLookup_type, builtinLookup_eq_fast]; kernel_rfl
theorem bytes_release_look : typeLookup (.type "bytes") "__release_buffer__" = pure none := by rw [typeLookup_type, builtinLookup_eq_fast]; kernel_rfl
theorem bytes_sub : isSubtype (.type "bytes") (.type "bytes") = pure true := by rw [isSubtype_type]; kernel_rfl
theorem ends_bbuffer : "bytes.__buffer__".endsWith ("." ++ "__buffer__") = true := by decide +kernel
theorem drop_bbuffer : "bytes.__buffer__".dropRight ("__buffer__".length + 1) = "bytes" := by decide +kernel
theorem own_buffer {b : Array UInt8} {t : Tok} {Q : Bool → Shared → Prop} (h : Q true s) : wpAny (model prog w) A (Builtin.Bytes.slotIsOwn (.bytes b t) "__buffer__") Q E s := by
  unfold Builtin.Bytes.slotIsOwn
  refine wpAny_bind (wpAny_specialOf (T := "bytes") (v := .bytes b t) rfl bytes_buffer_look ?_)
  dsimp only
  rw [ends_bbuffer, drop_bbuffer]
  simp only [Bool.not_true, Bool.false_eq_true, if_false]
  exact wpAny_isInstance (T := "bytes") (v := .bytes b t) rfl bytes_sub h
theorem own_release {b : Array UInt8} {t : Tok} {Q : Bool → Shared → Prop} (h : Q false s) : wpAny (model prog w) A (Builtin.Bytes.ownRelease (.bytes b t)) Q E s := by
  unfold Builtin.Bytes.ownRelease Builtin.Bytes.slotIsOwn
  refine wpAny_bind (wpAny_bind (wpAny_specialOf (T := "bytes") (v := .bytes b t) rfl bytes_release_look ?_))
  exact wpAny_pure (wpAny_pure h)
theorem take_bytes {id : String} {b : Array UInt8} {t : Tok} {Q : Option (Array UInt8 × Option Value) → Shared → Prop} (h : Q (some (b, none)) s) : wpAny (model prog w) A (Builtin.Bytes.takeBufferQuiet? id (.bytes b t) 0) Q E s := by
  unfold Builtin.Bytes.takeBufferQuiet?
  refine wpAny_bind (wpAny_attempt ?_)
  unfold Builtin.Bytes.takeBuffer?
  refine wpAny_bind (wpAny_specialOf (T := "bytes") (v := .bytes b t) rfl bytes_buffer_look ?_)
  dsimp only
  refine wpAny_bind (own_buffer ?_)
  simp only [Bool.not_true, Bool.false_eq_true, if_false]
  refine wpAny_bind (wpAny_specialOf (T := "bytes") (v := .bytes b t) rfl bytes_buffer_look ?_)
  try dsimp only
  refine wpAny_bind ?_
  unfold Builtin.Bytes.buffer?
  refine wpAny_bind (wpAny_specialOf (T := "bytes") (v := .bytes b t) rfl bytes_buffer_look ?_)
  dsimp only
  refine wpAny_bind (own_buffer ?_)
  simp only [Bool.not_true, Bool.false_eq_true, if_false]
  refine wpAny_bind (wpAny_specialOf (T := "bytes") (v := .bytes b t) rfl bytes_buffer_look ?_)
  try dsimp only
  refine wpAny_bind (own_release ?_)
  simp only [Bool.false_eq_true, if_false]
  exact wpAny_pure (wpAny_pure (wpAny_pure h))
/-- a list of bytes -/
def BysAre : List Value → List (List UInt8) → Prop
  | [], [] => True
  | v :: vs, b :: bs => (∃ t, v = .bytes b.toArray t) ∧ BysAre vs bs
  | _, _ => False
theorem BysAre.at : ∀ {vs : List Value} {bs : List (List UInt8)}, BysAre vs bs → ∀ {i : Nat}, i < bs.length → ∃ t, vs.getD i .none = .bytes (bs.getD i []).toArray t
  | [], [], _, _, h => absurd h (Nat.not_lt_zero _)
  | _ :: _, _ :: _, h, 0, _ => h.1
  | _ :: _, _ :: _, h, i + 1, hi => by
    have := BysAre.at h.2 (i := i) (by simpa using hi)
    simpa using this
  | [], _ :: _, h, _, _ => h.elim
  | _ :: _, [], h, _, _ => h.elim
theorem BysAre.length : ∀ {vs : List Value} {bs : List (List UInt8)}, BysAre vs bs → vs.length = bs.length
  | [], [], _ => rfl
  | _ :: _, _ :: _, h => by rw [List.length_cons, List.length_cons, BysAre.length h.2]
  | [], _ :: _, h => h.elim
  | _ :: _, [], h => h.elim
theorem slot_join : Slot "bytes" "join" "bytes.join" :=
  .of (owner := "bytes") (n := "join") (by rw [typeLookup_type, builtinLookup_eq_fast]; kernel_rfl) (by decide +kernel) (by decide +kernel) (by decide +kernel)
    (by first | exact .inl (by decide +kernel) | exact .inr (by decide +kernel)) (by rw [isSubtype_type]; kernel_rfl)
theorem type_join : typeOf (.builtin "bytes.join") = pure (.type "method_descriptor") := by show builtinType _ = _; rw [builtinType_eq_fast]; kernel_rfl
theorem entry_join : entryFor table "bytes.join" = some Builtin.«bytes.join» := entryFor_of_tree (by kernel_rfl)
theorem args_join (a b : Value) : argsOk "bytes.join" ⟨[a, b], []⟩ := by unfold argsOk; kernel_rfl
theorem seq_at {D : Addr} {xs : Array Value} {n : Nat} {Q : Option (Array Value) → Shared → Prop} (ho : s.heap.get? D = some (listOf xs n)) (h : Q (some xs) s) : wpAny (model prog w) A (seqItems? (.ref D)) Q E s := by
  unfold seqItems?
  exact wpAny_bind (wpAny_load ho (wpAny_pure h))
theorem let_go {keep : List Value} {Q : Unit → Shared → Prop} (h : Q () s) : ∀ taken : List (Value × Option Value), (∀ p ∈ taken, p.2 = none) → wpAny (model prog w) A (Builtin.Bytes.joinLetGo taken keep) Q E s
  | [], _ => wpAny_pure h
  | (x, w') :: rest, hn => by
    obtain rfl : w' = none := hn _ (.head _)
    unfold Builtin.Bytes.joinLetGo
    dsimp only
    refine wpAny_bind ?_
    exact wpAny_letGo (let_go h rest fun p hp => hn p (.tail _ hp))
theorem joined_flat : ∀ (l : List (List UInt8)) (k : Nat) (acc : Array UInt8), ((l.map List.toArray).zipIdx k).foldl (fun out (p, i) => (if i > 0 then out ++ (#[] : Array UInt8) else out) ++ p) acc = acc ++ l.flatten.toArray
  | [], _, acc => by simp
  | b :: l, k, acc => by
    rw [List.map_cons, List.zipIdx_cons, List.foldl_cons, joined_flat l]
    simp
theorem sizes_flat : ∀ (l : List (List UInt8)) (acc : Nat), (l.map List.toArray).foldl (fun x1 x2 => x1 + x2.size) acc = acc + l.flatten.length
  | [], acc => by simp
  | b :: l, acc => by
    rw [List.map_cons, List.foldl_cons, sizes_flat l]
    simp; omega
set_option maxHeartbeats 1000000 in
theorem join_bytes {D : Addr} {vs : List Value} {bs : List (List UInt8)} {t : Tok} {n : Nat} {Q : Value → Shared → Prop} (ho : s.heap.get? D = some (listOf vs.toArray n)) (hb : BysAre vs bs) (h2 : 2 ≤ bs.length) (hz : bs.flatten.length ≤ 1000000)
    (h : ∀ t' k, Q (.bytes bs.flatten.toArray t') { s with toks := k }) :
    wpAny (model prog w) A (Builtin.«bytes.join» ⟨[.bytes #[] t, .ref D], []⟩) (fun fin s' => ∃ v, fin = .done (.ret v) ∧ Q v s') E s := by
  unfold Builtin.«bytes.join» Builtin.Bytes.joinM
  refine wpAny_bind (wpAny_of_eq (a := (.bytes #[] t, .ref D)) rfl ?_)
  dsimp only
  refine wpAny_bind ?_
  unfold Builtin.Bytes.joinItems
  refine wpAny_bind (wpAny_typeOf (T := "list") ⟨_, ho, rfl⟩ ?_)
  rw [if_pos (by decide)]
  refine wpAny_pure ?_
  refine wpAny_bind (seq_at ho ?_)
  dsimp only
  rw [if_pos (by decide)]
  obtain ⟨v0, v1, vr, rfl⟩ : ∃ v0 v1 vr, vs = v0 :: v1 :: vr := by
    have := hb.length
    match vs, this with
    | [], e => simp at e; omega
    | [_], e => simp at e; omega
    | a :: b :: r, _ => exact ⟨a, b, r, rfl⟩
  refine wpAny_bind ?_
  rw [Std.Legacy.Range.forIn_eq_forIn_range']
  simp only [Std.Legacy.Range.size, Nat.sub_zero, Nat.add_sub_cancel, Nat.div_one]
  refine wpAny_forIn_list _ (fun rest b s' => ∃ i, s' = s ∧ rest = List.range' i (bs.length - i) ∧ i ≤ bs.length ∧ b.1 = ((bs.take i).map List.toArray).toArray ∧ (b.2.any fun x => x.1.onHeap) = false ∧ ∀ p ∈ b.2, p.2 = none) _ ?_ ?_ _ _ ⟨0, rfl, ?_, Nat.zero_le _, by simp, rfl, fun p hp => nomatch hp⟩
  · rintro x rest ⟨pt, tk⟩ s' ⟨i, rfl, hr, hi, hp, hany, hnone⟩
    dsimp only at hp hany hnone
    have hlt : i < bs.length := by
      rcases Nat.lt_or_ge i bs.length with h | h
      · exact h
      · rw [Nat.sub_eq_zero_of_le h] at hr; simp at hr
    obtain ⟨rfl, hrest⟩ : x = i ∧ rest = List.range' (i + 1) (bs.length - (i + 1)) := by
      have e : bs.length - i = (bs.length - (i + 1)) + 1 := by omega
      rw [e, List.range'_succ] at hr
      injection hr with h1 h2
      exact ⟨h1, h2⟩
    obtain ⟨ti, hv⟩ := hb.at hlt
    have hv' : (v0 :: v1 :: vr).toArray.getD x Value.none = .bytes (bs.getD x []).toArray ti := by
      rw [← hv]; simp
    refine wpAny_bind (seq_at ho ?_)
    dsimp only
    rw [if_neg (by rw [hany]; decide), hv']
    refine wpAny_bind (wpAny_holding (take_bytes ?_))
    dsimp only
    refine wpAny_bind (seq_at ho ?_)
    dsimp only
    rw [if_neg (by simp)]
    refine wpAny_pure ⟨x + 1, rfl, hrest, hlt, ?_, ?_, ?_⟩
    · subst hp
      dsimp only
      rw [List.push_toArray, List.take_succ, List.map_append, List.getElem?_eq_getElem hlt, List.getD_eq_getElem?_getD, List.getElem?_eq_getElem hlt]
      rfl
    · dsimp only; rw [List.any_append, hany]; rfl
    · intro p hp'
      rcases List.mem_append.mp hp' with h | h
      · exact hnone p h
      · rw [List.mem_singleton.mp h]
  · rintro ⟨pt, tk⟩ s' ⟨i, rfl, hr, hi, hp, hany, hnone⟩
    dsimp only at hp hany hnone ⊢
    obtain rfl : i = bs.length := by
      have := congrArg List.length hr
      simp at this
      omega
    rw [List.take_length] at hp
    subst hp
    refine wpAny_bind (wpAny_of_eq (a := (#[] : Array UInt8)) rfl ?_)
    have hsz : Array.foldl (fun x1 x2 => x1 + x2.size) ((#[] : Array UInt8).size * ((List.map List.toArray bs).toArray.size - 1)) (List.map List.toArray bs).toArray = bs.flatten.length := by
      rw [List.foldl_toArray, sizes_flat]; simp
    rw [hsz, if_neg (by unfold Builtin.Bytes.tooLong; rw [decide_eq_true_eq, sizeLine_eq]; omega)]
    have hj : Builtin.Bytes.joined #[] (List.map List.toArray bs).toArray.toList = bs.flatten.toArray := by
      unfold Builtin.Bytes.joined
      rw [List.toList_toArray]
      have := joined_flat bs 0 #[]
      rw [this]; simp
    rw [hj]
    refine wpAny_bind (show wpAny _ _ (mkBytes bs.flatten.toArray) _ _ _ from wpAny_mkBytes ?_ (by rw [List.size_toArray, sizeLine_eq]; omega))
    refine wpAny_bind (wpAny_holding (wpAny_point ?_))
    refine wpAny_bind (let_go ?_ tk hnone)
    exact wpAny_pure ⟨_, rfl, h _ _⟩
  · have := hb.length
    rw [List.size_toArray, this]; rfl
theorem get_join {b : Array UInt8} {t : Tok} {pl : Sem Bool} {Q : Value × List Value → Shared → Prop} (h : Q (.builtin "bytes.join", [.bytes b t]) s) : wpAny (model prog w) A (getMethod (.bytes b t) "join" pl) Q E s :=
  getMethod_builtin (PySem.W.typeIs_bytes _ _ _) FB.plainAttrs_bytes slot_join type_join (fun _ e => nomatch e) h
theorem bys_of {n : Nat} : ∀ {ys : List Value}, (∀ (i : Nat) (y : Value), ys[i]? = some y → ∃ (b : List UInt8) (t : Tok), y = .bytes b.toArray t ∧ b.length = n) → ∃ bs, BysAre ys bs ∧ bs.length = ys.length ∧ ∀ b ∈ bs, b.length = n
  | [], _ => ⟨[], trivial, rfl, fun _ h => nomatch h⟩
  | y :: ys, h => by
    obtain ⟨b, t, rfl, hb⟩ := h 0 y rfl
    obtain ⟨bs, h1, h2, h3⟩ := bys_of (ys := ys) fun i y hy => h (i + 1) y (by simpa using hy)
    refine ⟨b :: bs, ⟨⟨t, rfl⟩, h1⟩, by rw [List.length_cons, List.length_cons, h2], fun c hc => ?_⟩
    rcases List.mem_cons.mp hc with rfl | hc
    · exact hb
    · exact h3 c hc
theorem flat_len {n : Nat} : ∀ {bs : List (List UInt8)}, (∀ b ∈ bs, b.length = n) → bs.flatten.length = bs.length * n
  | [], _ => by simp
  | b :: bs, h => by
    rw [List.flatten_cons, List.length_append, flat_len fun c hc => h c (.tail _ hc), h b (.head _), List.length_cons, Nat.succ_mul, Nat.add_comm]
theorem call_join {D : Addr} {vs : List Value} {bs : List (List UInt8)} {t : Tok} {n : Nat} {Q : Value → Shared → Prop} (ho : s.heap.get? D = some (listOf vs.toArray n)) (hb : BysAre vs bs) (h2 : 2 ≤ bs.length) (hz : bs.flatten.length ≤ 1000000)
    (h : ∀ t' k, Q (.bytes bs.flatten.toArray t') { s with toks := k }) : wpAny (model prog w) A (call (.builtin "bytes.join") [.bytes #[] t, .ref D]) Q E s := by
  exact wpAny_call_entry slot_join (PySem.W.typeIs_bytes _ _ _) entry_join (join_bytes ho hb h2 hz h) (args_join _ _)
end
end Mine
set_option maxRecDepth 100000
set_option Elab.async false
open PySem PySem.W PySem.Calls PyProof.Rows
namespace Mine
/-! ## a loop over a range whose name lies in a cell -/
def TurnEndC {σ : Type} (s : Shared) (h₀ : Heap) (L cc I : Addr) (it : Obj) (Inv : σ → Prop) (mp : σ → Str → Option Value) (led : σ → List (Addr × Obj)) (Q : Flow → Shared → Prop) (f : Flow) (s' : Shared) : Prop :=
  match f with
  | .ret v => Q (.ret v) s'
  | .brk => Q .next s'
  | _ => ∃ c m' oc v h' tk, s' = { s with heap := h', toks := tk } ∧ Inv c ∧ Fr h₀ L h' m' ∧ oc.data = .cell v ∧ News h₀ L h' ((I, it) :: (cc, oc) :: led c) ∧ (∀ p ∈ led c, p.1 ≠ I ∧ p.1 ≠ cc) ∧ ∀ z, m' z = mp c z
theorem TurnEndC.next {σ : Type} {s : Shared} {h₀ : Heap} {L cc I : Addr} {it : Obj} {Inv : σ → Prop} {mp : σ → Str → Option Value} {led : σ → List (Addr × Obj)} {Q : Flow → Shared → Prop} {h' : Heap} {tk : Nat} {m' : Str → Option Value} {oc : Obj} {v : Option Value}
    (c : σ) (F : Fr h₀ L h' m') (hoc : oc.data = .cell v) (N : News h₀ L h' ((I, it) :: (cc, oc) :: led c)) (hI : ∀ p ∈ led c, p.1 ≠ I ∧ p.1 ≠ cc) (hm : ∀ z, m' z = mp c z) (hc : Inv c) : TurnEndC s h₀ L cc I it Inv mp led Q .next { s with heap := h', toks := tk } :=
  ⟨c, m', oc, v, h', tk, rfl, hc, F, hoc, N, hI, hm⟩
section
variable {prog : Program} {w : World} {A : Around} {E : Value → Shared → Prop} {s : Shared} {env : Env} {h₀ : Heap} {x : Str} {px : Pos} {body : List Stmt} {Q : Flow → Shared → Prop}
theorem forRangeC {σ : Type} {r cc : Addr} {a₀ b₀ c : Int} {t₀ u₀ v₀ : Tok} {n : Nat} {m₀ : Str → Option Value} {o₀ : Obj} {w₀ : Option Value} (hh : A.handled = none) (hr : IsRange s.heap r a₀ b₀ c t₀ u₀ v₀) (hsmall : Builtin.Range.small a₀ b₀ c = true) (hn : Builtin.Range.rangeSize a₀ b₀ c = (n : Int))
    (hkf : env.scope.kind = .function) (hx : env.kindOf x = some .cell) (hcc : env.cells.lookup x = some cc)
    (Inv : Nat → σ → Prop) (mp : σ → Str → Option Value) (led : σ → List (Addr × Obj)) (c₀ : σ) (F : Fr h₀ env.locals s.heap m₀) (ho₀ : o₀.data = .cell w₀) (N : News h₀ env.locals s.heap ((cc, o₀) :: led c₀)) (hoc₀ : ∀ p ∈ led c₀, p.1 ≠ cc) (hm : ∀ z, m₀ z = mp c₀ z) (h0 : Inv 0 c₀)
    (turn : ∀ i k I it oc t h tk, i < n → Inv i k → (∀ p ∈ led k, p.1 ≠ I ∧ p.1 ≠ cc) → cc ≠ I → Fr h₀ env.locals h (mp k) → oc.data = .cell (some (.int (a₀ + (i : Int) * c) t)) → News h₀ env.locals h ((I, it) :: (cc, oc) :: led k) →
      wpS (model prog w) A (execs body env) (TurnEndC { s with heap := h, toks := tk } h₀ env.locals cc I it (Inv (i + 1)) mp led Q) (fun _ _ => False) { s with heap := h, toks := tk })
    (done : ∀ k oc v h tk, Inv n k → Fr h₀ env.locals h (mp k) → oc.data = .cell v → News h₀ env.locals h ((cc, oc) :: led k) → (∀ p ∈ led k, p.1 ≠ cc) → Q .next { s with heap := h, toks := tk }) :
    wpAny (model prog w) A (pyIter (.ref r)) (fun it s₂ => codeS (model prog w) A (.forLoop (.Name x px) it body [] env) (fun r s' => match r with | .ok f => Q f s' | .error _ => False) s₂) E s := by
  refine wpAny_pyIter_range hr hsmall ?_
  rw [hn]
  have W := Walks.range (prog := prog) (w := w) hh s.heap.objs.size a₀ c n
  have hnew : h₀.get? s.heap.objs.size = none := next_is_new F
  have hLI : env.locals ≠ s.heap.objs.size := Nat.ne_of_lt F.ns.lt
  have hCI : cc ≠ s.heap.objs.size := Nat.ne_of_lt (Heap.lt_size (N _ (.head _)).1)
  have hCL : cc ≠ env.locals := (N _ (.head _)).2.1
  have hC0 : h₀.get? cc = none := (N _ (.head _)).2.2
  refine codeS_forLoop (R := fun r s' => match r with | .ok f => Q f s' | .error _ => False)
    (fun k s' => ∃ h' tk oc v d i, s' = { s with heap := h', toks := tk } ∧ IsRangeIter h' s.heap.objs.size (a₀ + (i : Nat) * c) ((n : Int) - (i : Nat)) c ∧ Fr h₀ env.locals h' (mp d) ∧ oc.data = .cell v ∧ News h₀ env.locals h' ((cc, oc) :: led d) ∧ (∀ p ∈ led d, p.1 ≠ s.heap.objs.size ∧ p.1 ≠ cc) ∧ Inv i d ∧ i ≤ n ∧ k = n + 1 - i) ?_ (n + 1) ?_
  · rintro k s' ⟨h', tk, oc, v, d, i, rfl, hst, F', hoc, N', hoff, hI, hi, rfl⟩
    have next : ∀ h₁ : Heap, (∀ b o, b ∉ [s.heap.objs.size] → h'.get? b = some o → h₁.get? b = some o) → Fr h₀ env.locals h₁ (mp d) ∧ News h₀ env.locals h₁ ((cc, oc) :: led d) := fun h₁ hk₁ =>
      ⟨⟨F'.ns.at' fun o e => hk₁ _ o (fun q => hLI (List.mem_singleton.mp q)) e, fun b o e => hk₁ b o (fun q => by rw [List.mem_singleton.mp q, hnew] at e; cases e) (F'.keep b o e), F'.above⟩,
       fun p hp => ⟨hk₁ _ _ (fun q => by
         rcases List.mem_cons.mp hp with rfl | hp
         · exact hCI (List.mem_singleton.mp q)
         · exact (hoff p hp).1 (List.mem_singleton.mp q)) (N' p hp).1, (N' p hp).2⟩⟩
    by_cases hlt : i < n
    · refine W.item i _ _ _ hlt hst fun v₁ h₁ tk₁ hP hst₁ hk₁ => ?_
      obtain ⟨F₁, N₁⟩ := next h₁ hk₁
      obtain ⟨t, rfl⟩ := hP
      refine wpAny_assign_Name (wpAny_storeName_cell hkf hx hcc ⟨oc, (N₁ _ (.head _)).1, hoc⟩ fun h₂ hn₂ hs₂ => ?_)
      obtain ⟨oc₂, hg₂, hd₂⟩ := hn₂
      have F₂ : Fr h₀ env.locals h₂ (mp d) := F₁.change hs₂ hCL hC0
      have hit : h₂.get? s.heap.objs.size = some { cls := .type "range_iterator", data := .fields #[rawInt (a₀ + ((i + 1 : Nat) : Int) * c), rawInt ((n : Int) - ((i + 1 : Nat) : Int)), rawInt c] } :=
        (hs₂.2 _ (Ne.symm hCI)).trans hst₁
      have N₂ : News h₀ env.locals h₂ ((s.heap.objs.size, { cls := .type "range_iterator", data := .fields #[rawInt (a₀ + ((i + 1 : Nat) : Int) * c), rawInt ((n : Int) - ((i + 1 : Nat) : Int)), rawInt c] }) :: (cc, oc₂) :: led d) := fun p hp => by
        rcases List.mem_cons.mp hp with rfl | hp
        · exact ⟨hit, Ne.symm hLI, hnew⟩
        · rcases List.mem_cons.mp hp with rfl | hp
          · exact ⟨hg₂, hCL, hC0⟩
          · exact ⟨hs₂.extBut _ _ (hoff p hp).2 (N₁ p (.tail _ hp)).1, (N₁ p (.tail _ hp)).2⟩
      refine wpS_mono (turn i d s.heap.objs.size _ oc₂ t h₂ _ hlt hI hoff hCI F₂ hd₂ N₂) (fun f s₃ h₃ => ?_) fun _ _ e => e
      have fin : (∃ c' m'' oc' v' h'' tk'', s₃ = { s with heap := h'', toks := tk'' } ∧ Inv (i + 1) c' ∧ Fr h₀ env.locals h'' m'' ∧ oc'.data = .cell v' ∧ News h₀ env.locals h'' ((s.heap.objs.size, { cls := .type "range_iterator", data := .fields #[rawInt (a₀ + ((i + 1 : Nat) : Int) * c), rawInt ((n : Int) - ((i + 1 : Nat) : Int)), rawInt c] }) :: (cc, oc') :: led c') ∧ (∀ p ∈ led c', p.1 ≠ s.heap.objs.size ∧ p.1 ≠ cc) ∧ ∀ z, m'' z = mp c' z) →
          ∃ m, m < n + 1 - i ∧ ∃ h' tk oc v d i, s₃ = { s with heap := h', toks := tk } ∧ IsRangeIter h' s.heap.objs.size (a₀ + (i : Nat) * c) ((n : Int) - (i : Nat)) c ∧ Fr h₀ env.locals h' (mp d) ∧ oc.data = .cell v ∧ News h₀ env.locals h' ((cc, oc) :: led d) ∧ (∀ p ∈ led d, p.1 ≠ s.heap.objs.size ∧ p.1 ≠ cc) ∧ Inv i d ∧ i ≤ n ∧ m = n + 1 - i := by
        rintro ⟨c', m'', oc', v', h'', tk'', e, hc', F₃, hoc', N₃, ho, hz⟩
        obtain rfl : m'' = mp c' := funext hz
        exact ⟨n + 1 - (i + 1), by omega, h'', tk'', oc', v', c', i + 1, e, (N₃ _ (List.mem_cons_self ..)).1, F₃, hoc', fun p hp => N₃ p (List.mem_cons_of_mem _ hp), ho, hc', hlt, rfl⟩
      cases f with
      | ret v => exact h₃
      | brk => exact h₃
      | next => exact fin h₃
      | cont => exact fin h₃
    · have hin : i = n := by omega
      subst hin
      refine W.done _ _ _ hst fun h₁ tk₁ hk₁ => ?_
      obtain ⟨F₁, N₁⟩ := next h₁ hk₁
      exact done d oc v h₁ tk₁ hI F₁ hoc N₁ fun p hp => (hoff p hp).2
  · obtain rfl : m₀ = mp c₀ := funext hm
    refine ⟨_, s.toks, o₀, w₀, c₀, 0, rfl, ?_, F.push _, ho₀, fun p hp => ⟨Heap.get?_push_of_some _ (N p hp).1, (N p hp).2⟩, fun p hp => ⟨Nat.ne_of_lt (Heap.lt_size (N p (.tail _ hp)).1), hoc₀ p hp⟩, h0, Nat.zero_le _, rfl⟩
    show IsRangeIter _ _ _ _ _
    simpa using Heap.get?_push_size _ rfl
end
end Mine
set_option maxRecDepth 100000
set_option Elab.async false
open PySem PySem.W PySem.Calls PyProof.Rows
namespace Mine
/-! ## two lists of the same bytes are the same -/
section
variable {prog : Program} {w : World} {A : Around} {E : Value → Shared → Prop} {s : Shared}
theorem eqAt_bytes (b : List UInt8) (t u : Tok) : SeqAt.EqAt A s (.bytes b.toArray t) (.bytes b.toArray u) true := by
  intro prog w E Q h
  unfold eqBool
  refine wpAny_holding ?_
  refine wpAny_ite_split (fun hab => ?_) (fun hab => ?_)
  · exact wpAny_bind (wpAny_rule (wpAny_pure h))
  · refine wpAny_bind (richCompare_gives (PySem.W.typeIs_bytes s b.toArray t) (PySem.W.typeIs_bytes s b.toArray u) FB.slot_bytes_eq FB.entry_bytes_eq (FB.args_bytes_eq_2 _ _) (gives_bytes_eq b.toArray b.toArray t u) (by simp [Made.takes]) (wpAny_truthy_bool ?_))
    simpa using h
theorem ne_bys {l b : Addr} {xs ys : List Value} {bs : List (List UInt8)} {Q : Value → Shared → Prop} (hl : s.heap.IsList l xs.toArray) (hb : s.heap.IsList b ys.toArray) (hx : BysAre xs bs) (hy : BysAre ys bs) (hu : A.units < cLine) (h : Q (.bool false) s) :
    wpAny (model prog w) A (compareOp .NotEq (.ref l) (.ref b)) Q E s := by
  have hsz : xs.toArray.size = ys.toArray.size := by rw [List.size_toArray, List.size_toArray, hx.length, hy.length]
  refine SeqAt.RcNeAt.lists (e := fun _ => true) hl hb hsz hu (fun j h1 h2 => ?_) prog w E Q ?_
  · rw [List.size_toArray] at h1 h2
    have hj : j < bs.length := by rw [← hx.length]; exact h1
    obtain ⟨t, e1⟩ := hx.at hj
    obtain ⟨u, e2⟩ := hy.at hj
    rw [List.getD_eq_getElem?_getD, List.getElem?_eq_getElem h1] at e1
    rw [List.getD_eq_getElem?_getD, List.getElem?_eq_getElem h2] at e2
    simp only [Option.getD_some] at e1 e2
    simp only [List.getElem_toArray]
    rw [e1, e2]
    exact eqAt_bytes _ _ _
  · have : ((List.range xs.toArray.size).all fun _ => true) = true := by simp
    rw [this]; exact h
end
/-! ## a test that is one comparison -/
theorem wpS_isTrue_Compare1 {M : Model} {A : Around} {E : Value → Shared → Prop} {s : Shared} {env : Env} {l op r pos whole} {Q : Bool → Shared → Prop}
    (h : wpS M A (eval l env) (fun a s₁ => wpS M A (eval r env) (fun b s₂ => wpS M A (compareOp op a b)
      (fun c s₃ => wpS M A (truthy c) Q E s₃) E s₂) E s₁) E s)
    (hm : behindInMarks op r = false := by with_unfolding_all rfl) : wpS M A (isTrue (.Compare l [op] [r] pos) env whole) Q E s := fun Γ p hΓ hc => by
  simp only [isTrue_Compare1, markedBehindIn_of_false hm, Sem.wp_bind', Sem.wp_holding, Sem.wp_cmd_standAt, Sem.wp_operate]
  exact Sem.wp_mono M Γ _ (fun a p₁ s₁ h₁ => Sem.wp_mono M Γ _ (fun b _ s₂ h₂ => Sem.wp_mono M Γ _ (fun c p₃ s₃ h₃ => h₃ Γ p₃ hΓ hc)
    (fun _ _ _ h' => h') _ _ (h₂ Γ _ hΓ hc)) (fun _ _ _ h' => h') _ _ (h₁ Γ p₁ hΓ hc)) (fun _ _ _ h' => h') _ _ (h Γ p hΓ hc)
theorem wpS_cutS {α : Type} {M : Model} {A : Around} {t : Sem α} {Q : α → Shared → Prop} {E : Value → Shared → Prop} {s : Shared} (P : α → Heap → Prop)
    (h1 : wpS M A t (CutEnd s P) (fun _ _ => False) s) (h2 : ∀ v h' tk', P v h' → Q v { s with heap := h', toks := tk' }) : wpS M A t Q E s :=
  wpS_mono h1 (fun v _ ⟨h', tk', e, p⟩ => e ▸ h2 v h' tk' p) fun _ _ x => x.elim
theorem bys_fun : ∀ {ys : List Value} {bs : List (List UInt8)}, ys.length = bs.length → (∀ (j : Nat) (y : Value), ys[j]? = some y → ∃ t, y = .bytes (bs.getD j []).toArray t) → BysAre ys bs
  | [], [], _, _ => trivial
  | y :: ys, b :: bs, hl, h => ⟨h 0 y rfl, bys_fun (by simpa using hl) fun j z hz => h (j + 1) z (by simpa using hz)⟩
  | [], _ :: _, hl, _ => by simp at hl
  | _ :: _, [], hl, _ => by simp at hl
/-- what the claim's caller makes of the call -/
theorem enter_callS {M : Model} {A : Around} {s : Shared} {f : Value} {pos : List Value} {kw : List (Str × Value)} {c : ClaimW} {cl : Str → Option Addr} {mean : ExcName → Option Value} {args : List WData} {s₁ : Shared}
    (h : codeS M A (.call f ⟨pos, kw⟩) (GoodW c cl mean args s₁) s) : wpS M A (PySem.call f pos kw) (fun v s' => GoodWG c cl mean args s₁ (.ok (.ret v)) s') (fun e s' => GoodWG c cl mean args s₁ (.error e) s') s :=
  wpS_call (codeS_mono h fun res s' g => by rcases g.1 with ⟨v, _, _, rfl, _⟩ | ⟨e, _, _, rfl, _⟩ <;> exact g.toG)
end Mine
set_option maxRecDepth 100000
set_option Elab.async false
open PySem PySem.W PySem.Calls PyProof.Rows
namespace Mine

/-! ## the head, for a call that is shown in calm contexts alone -/
def look {α : Type} (good bad : Sem α) : Sem α := .stack fun st => if st.all (fun x => calmCode x.1) = true then good else bad

theorem look_any {α : Type} {M : Model} {A : Around} {Q : α → Shared → Prop} {E : Value → Shared → Prop} {s : Shared} {good bad : Sem α}
    (h : wpS M A good Q E s) (hb : wpAny M A bad Q E s) : wpAny M A (look good bad) Q E s := fun Γ p hΓ => by
  show Sem.wp M Γ (if ((Γ.code, p) :: Γ.below).all (fun x => calmCode x.1) = true then good else bad) _ _ p s
  split
  · rename_i hc
    rw [List.all_cons, Bool.and_eq_true] at hc
    exact h Γ p hΓ ⟨hc.1, fun x hx => List.all_eq_true.mp hc.2 x hx⟩
  · exact hb Γ p hΓ
theorem look_any' {α β : Type} {M : Model} {A : Around} {Q : α → Shared → Prop} {Q' : β → Shared → Prop} {E : Value → Shared → Prop} {s : Shared} {good bad : Sem α} {good' bad' : Sem β}
    (h : wpAny M A (look good bad) Q E s) (hg : ∀ Γ p, Sem.wp M Γ good (fun a _ s' => Q a s') (fun e _ s' => E e s') p s → Sem.wp M Γ good' (fun a _ s' => Q' a s') (fun e _ s' => E e s') p s)
    (hb : ∀ Γ p, Sem.wp M Γ bad (fun a _ s' => Q a s') (fun e _ s' => E e s') p s → Sem.wp M Γ bad' (fun a _ s' => Q' a s') (fun e _ s' => E e s') p s) : wpAny M A (look good' bad') Q' E s := fun Γ p hΓ => by
  have h1 : Sem.wp M Γ (if ((Γ.code, p) :: Γ.below).all (fun x => calmCode x.1) = true then good else bad) (fun a _ s' => Q a s') (fun e _ s' => E e s') p s := h Γ p hΓ
  show Sem.wp M Γ (if ((Γ.code, p) :: Γ.below).all (fun x => calmCode x.1) = true then good' else bad') _ _ p s
  split at h1
  · rename_i hc; rw [if_pos hc]; exact hg Γ p h1
  · rename_i hc; rw [if_neg hc]; exact hb Γ p h1

theorem sched_unlook {prog : Program} {w : World} {t bad : Sem Fin} {s s' : Shared} {n : Nat} {o : Outcome} (hz : s.asleep)
    (h : schedN (denote table) prog w n (.single s ⟨look t bad, .builtin "claim.caller" {}, default, []⟩) = .halted o s') :
    ∃ k, schedN (denote table) prog w k (.single s ⟨t, .builtin "claim.caller" {}, default, []⟩) = .halted o s' := by
  cases n with
  | zero => cases h
  | succ n =>
    refine ⟨n, ?_⟩
    have st : step (denote table) prog w s ⟨look t bad, .builtin "claim.caller" {}, default, []⟩ = .go s ⟨t, .builtin "claim.caller" {}, default, []⟩ := by
      show Step.go s ⟨if ([(Code.builtin "claim.caller" {}, (default : Pos))].all (fun x => calmCode x.1)) = true then t else bad, _, _, _⟩ = _
      rw [if_pos (by decide +kernel)]
    have hc : (⟨look t bad, .builtin "claim.caller" {}, default, []⟩ : Thread).calm = true := by
      have e : (⟨look t bad, .builtin "claim.caller" {}, default, []⟩ : Thread).calm = (⟨.stack fun _ => .pure default, .builtin "claim.caller" {}, default, []⟩ : Thread).calm := rfl
      rw [e]; decide +kernel
    rcases sstep_single (denote table) prog w s ⟨look t bad, .builtin "claim.caller" {}, default, []⟩ hc hz with e | e
    · rw [st] at e
      simp only [schedN, e, Step.lift] at h
      exact h
    · rw [st] at e; cases e

theorem holds_unlook {c : ClaimW} {tree : List Value → Sem Fin} {bad : Sem Fin} {defs keeps : List Str} {writes : Bool}
    (h : c.HoldsOpenBy (fun vs => ⟨look (tree vs) bad, .builtin "claim.caller" {}, default, []⟩) defs keeps writes) :
    c.HoldsOpenBy (fun vs => ⟨tree vs, .builtin "claim.caller" {}, default, []⟩) defs keeps writes := by
  obtain ⟨h1, h2, h3⟩ := h
  refine ⟨h1, h2, fun w => ⟨(h3 w).1, fun s hs => ?_⟩⟩
  obtain ⟨s₀, hf, hg, s₁, hT, a, b, d, hc⟩ := (h3 w).2 s hs
  refine ⟨s₀, hf, hg, s₁, hT, a, b, d, fun args hpre hlay ord hord => ?_⟩
  obtain ⟨vs, s₂, hlaid, n, o, s', hrun, rest⟩ := hc args hpre hlay ord hord
  have hs' : AfterImport (opening c.prog) w s := hs
  have z₂ : s₂.asleep := Shared.asleep_of_life ((layAllW_rest _ _ _ hlaid).2.2.2.trans (hT.2.1.trans (fence_lifeW hf))) hs'.life
  obtain ⟨k, hk⟩ := sched_unlook z₂ hrun
  exact ⟨vs, s₂, hlaid, k, o, s', hk, rest⟩

abbrev WalkS (q : Program) (loose : List Str) (XP : (Str → Option Value) → Heap → Prop) (YP : World → Heap → Prop) (r : RowW) (d : DefRec) (kwd : List (Str × Expr)) : Prop :=
  ∀ (w : World) (s₀ s₁ : Shared) (mg mb : Str → Option Value), Ground q loose r.records XP w s₀ mg mb s₁.heap → YP w s₁.heap → ∀ (a : Addr) (o : Obj) (pm cd doc dV kV : Value), s₁.heap.get? a = some o →
    o.data = .func { docDef d.name d.params d.body d.scope pm cd doc with defaults := dV, kwdefaults := kV } → s₁.heap.CodeRec cd d.name → Dflts mg s₁.heap d.params kwd dV kV → mg d.name = some (.ref a) → s₁.gens = #[] →
    ∀ (args : List WData) (vals : List Value) (as : List Addr), r.claim.pre args = true → WData.layableAll args = true → ReadsAllW r.records (classAt s₀.heap) s₁.heap vals args as → WellAll w.params s₁.heap vals args → (∀ a ∈ as, (a == sysModules) = false) →
      GoodWG r.claim (classAt s₀.heap) (ExcName.means s₀.heap) args s₁ (.ok (.ret (.bool true))) s₁ ∧
      wpS (model r.prog w) callerA (PySem.call (.ref a) vals) (fun v s' => GoodWG r.claim (classAt s₀.heap) (ExcName.means s₀.heap) args s₁ (.ok (.ret v)) s')
        (fun e s' => GoodWG r.claim (classAt s₀.heap) (ExcName.means s₀.heap) args s₁ (.error e) s') s₁

end Mine
open Mine
/-- the head's last step: named as the library's, in a namespace of its own, for the head's line to find it there -/
theorem MineH.PySem.W.holds_open {r : OpenRow} {q : Program} {loose : List Str} {Xt : Shared → Bool} {XP : (Str → Option Value) → Heap → Prop} {α : Type} {Yf : Shared → α} {Ya : World → α} {YP : World → Heap → Prop} {d : DefRec} {kwd : List (Str × Expr)} {N : Nat}
    (left : LeftO r.prog q loose Xt Yf Ya N) (hY : ∀ w s, Yf s = Ya w → YP w s.heap) (hYk : ∀ w h h', YP w h → (∀ b o, h.get? b = some o → h'.get? b = some o) → YP w h')
    (hX : ∀ s, Xt s = true → XP (s.heap.nsMap mainGlobals) s.heap) (hXk : ∀ mg h h', XP mg h → (∀ b o, h.get? b = some o → h'.get? b = some o) → XP mg h')
    (hdef : defOf q r.name = some (d, kwd)) (hp : r.prog.theDef r.name = some (d.params, d.body, d.scope)) (hk : kwWritten? d.params.kwonlyargs d.params.kw_defaults = some kwd) (hRf : ∀ s, Xt s = true → RecFacts r.records s.heap) (hwr : (!r.writes || r.records.isEmpty) = true)
    (k1 : r.wellSaid = true) (ok : (chainsOk q && opensWell r.prog && (frees r.toRowW && r.within.isEmpty)) = true) (hb : r.prog.bare) (hw : r.toRowW.promised)
    (call : WalkS q loose XP YP r.toRowW d kwd) : r.Holds := by
  refine ⟨k1, hw, holds_unlook (bad := ret (.bool true)) (open_anyG (r := r.toRowW) (run := fun f vs => look (PySem.call f vs) (pure (.bool true)))
    (tree := fun vs => look (do match ← nsGet mainNs r.name with
      | some f => do ret (← PySem.call f vs)
      | none => unsupported "claim.caller:no-such-global") (ret (.bool true))) left hY hYk hX hXk hRf hwr ok hb hw
    (fun vs w s mg f Q E hg hf h => look_any' h (fun Γ p h' => ?_) fun Γ p h' => h')
    (fun w s hg G n hn => ?_) fun w s₀ s₁ mg mb G Y args vs as hpre hlay L low => ?_)⟩
  · rw [Sem.wp_bind']
    show Sem.wp _ Γ (nsGet mainGlobals r.name) _ _ p s
    rw [Sem.wp_nsGet _ Γ _ p s hg, hf]
    show Sem.wp _ Γ (PySem.call f vs >>= fun v => ret v) _ _ p s
    rw [Sem.wp_bind']
    exact Sem.wp_mono _ Γ _ (fun _ _ _ x => x) (fun _ _ _ x => x) p s h'
  · obtain rfl : n = r.name := by split at hn <;> simp_all
    exact pinned_of_view hg G hdef hp hk
  · obtain ⟨a, o, pm, cd, doc, dV, kV, h1, h2, h3, h4, h5⟩ := G.fn hdef
    obtain ⟨t, c⟩ := call w s₀ s₁ mg mb G Y a o pm cd doc dV kV h2 h3 h4 h5 (defOf_name hdef ▸ h1) L.gens args vs as hpre hlay L.reads L.well (L.low low)
    exact ⟨.ref a, h1, look_any c (wpAny_pure t)⟩
open PySem PySem.W PyProof.Rows
set_option Elab.async false
set_option maxRecDepth 100000
namespace MineH
set_option maxHeartbeats 8000000 in
open_top hd for PySem.Challenge.rw_ny0470_03
end MineH
set_option maxRecDepth 100000
set_option Elab.async false
open PySem PySem.W PySem.Calls PyProof.Rows
namespace Mine

local macro_rules | `(tactic| walk_at "S") => `(tactic| repeat' (first | (k_unfold; (try dsimp only)) | walk1 | (dsimp only; walk1)))
local macro_rules | `(tactic| walk_at "subscriptTail") => `(tactic| (k_here; (with_reducible show wpAny _ _ (subscriptTail _ _ (Value.bytes (List.toArray _) _) (Value.int _ _)) _ _ _); refine bytes_item (by omega) (by omega) (by omega) ?_))

theorem rangeSize_step {n : Nat} {k q : Nat} (hn : 1 ≤ n) (h : k = q * n) : Builtin.Range.rangeSize 0 (k : Int) (n : Int) = (q : Int) := by
  unfold Builtin.Range.rangeSize
  rw [if_pos (by omega)]
  subst h
  cases q with
  | zero => simp
  | succ q =>
    have hpos : 0 < (q + 1) * n := Nat.mul_pos (Nat.succ_pos q) hn
    rw [if_pos (by omega)]
    have e : (((q + 1) * n : Nat) : Int) - 0 - 1 = (n : Int) * q + (n - 1 : Nat) := by
      rw [Nat.succ_mul]; push_cast [hn]; rw [Int.mul_comm]; omega
    rw [e, Int.mul_add_ediv_left _ _ (by omega), Int.ediv_eq_zero_of_lt (by omega) (by omega)]
    omega
theorem rangeSize_one {n : Nat} : Builtin.Range.rangeSize 0 (n : Int) 1 = (n : Int) := by
  unfold Builtin.Range.rangeSize
  rw [if_pos (by omega)]
  cases n with
  | zero => simp
  | succ n => rw [if_pos (by omega)]; omega

theorem small_of {a b c : Int} {n : Nat} (h : Builtin.Range.rangeSize a b c = (n : Int)) (ha : -1000000000 ≤ a) (ha' : a ≤ 1000000000) (hb : -1000000000 ≤ b) (hb' : b ≤ 1000000000) (hc : -1000000000 ≤ c) (hc' : c ≤ 1000000000) (hn : n ≤ 1000000000) :
    Builtin.Range.small a b c = true := by
  unfold Builtin.Range.small Builtin.Range.rangeFitsLong
  rw [h]
  simp only [Bool.and_eq_true, Bool.or_eq_true, decide_eq_true_eq]
  refine ⟨⟨⟨⟨?_, ?_⟩, ?_⟩, ?_⟩, .inr ?_⟩
  · omega
  · omega
  · omega
  · omega
  · split <;> simp only [Bool.and_eq_true, decide_eq_true_eq] <;> omega

set_option maxHeartbeats 4000000 in
theorem byteswap_S {prog : Program} {w : World} {p : Program} {loose : List Str} {mean : ExcName → Option Value} {mg mb : Str → Option Value}
    {dp un : Nat} {gd : Option (List Code)} {cn : Str} {cs : Scope} {a : Addr} {ccd : Value} {cl : List (Str × Addr)} {outer : List Env} {A₀ : Around} {base h₀ : Heap} {L : Addr} {m : Str → Option Value} {news : List (Addr × Obj)} {s : Shared}
    {b : List UInt8} {n : Nat} {t₁ t₂ : Tok} {Q E : Value → Shared → Prop}
    (B : Below A₀ base outer h₀) (F : Fr h₀ L s.heap m) (X : (MineH.hd.heap_39 w.params).In h₀) (N : News h₀ L s.heap news) (T : Top p loose mean mg mb h₀) (hk : cs.kind = .function) (hd : dp < recursionLimit)
    (hn : 1 ≤ n) (hdiv : n ∣ b.length) (hz : b.length ≤ 1000) (hn' : n ≤ 1000)
    (hret : ∀ t h' tk', Fr h₀ L h' m → News h₀ L h' news → Q (.bytes (swapL b n).toArray t) { s with heap := h', toks := tk' }) :
    wpS (model prog w) (ktrTop dp un gd cn cs L a ccd cl outer) (call (.ref 21) [.bytes b.toArray t₁, .int n t₂]) Q E s := by
  w_top off
  have hfill : PySem.Challenge.rw_ny0470_03 = PySem.Challenge.rw_ny0470_03 ∧ MineH.hd.heap_39 = MineH.hd.heap_39 := by k_fill; exact ⟨rfl, rfl⟩
  clear hfill
  refine wpS_call ?_
  k_dflt (refine' code_defS (binds := [(Str.ofString "data", .bytes b.toArray t₁), (Str.ofString "width", .int n t₂)]) ?k1 ?k2 ?k3 ?k4 ?k5 ?kA ?kF ?kK ?k6 ?k7 ?k8 ?k9 ?kB ?_ ?c2 ?c3 ?c4 ?c5; (case kA => exact rfl); (case kF => exact rfl); (case kK => assumption); (case k1 => k_asm); (case k2 => k_asm); (case k3 => k_asm); (case k4 => k_asm); (case k5 => k_asm); (case k6 => k_is); (case k7 => k_is); (case k8 => exact hd); (case k9 => exact BindsTo.of_eq rfl); (case c5 => decide); (case kB => exact locs rfl); (case c2 => exact rfl); (case c3 => exact rfl); (case c4 => exact rfl))
  intro g L' h₁ FG F' N' B' X' T' hlt
  clear B F X N T
  obtain ⟨q, hq⟩ := hdiv
  rw [Nat.mul_comm] at hq
  have hfit : b.length ≤ 1099511627776 := by omega
  refine wpS_execs_cons (wpS_Assign_Name (wpS_Call_type (T := "bytearray") ?_))
  k_fold
  walk_at "S"
  refine wpS_any ?_
  k_fold
  walk_at "S"
  refine call_bytearray_K (by k_asm) (by k_asm) (by omega) (by simp only [List.size_toArray, Int.toNat_natCast, sizeLine]; omega) ?_
  intro ab h₂ tk₂ F₂ N₂ hl₂
  k_sweep
  k_fold
  walk_at "S"
  refine wpS_execs_cons (wpS_For (wpS_any ?_))
  k_fold
  walk_at "S"
  rename Fr _ _ _ _ => F₃
  rename News _ _ _ _ => N₃
  rename IsRange _ _ _ _ _ _ _ _ => hr₃
  trace_state
  refine forRangeS (σ := List UInt8 × Option Value) (n := q) rfl hr₃ ?small ?size rfl rfl (fun i c => c.1 = swapTo b n i 0)
    (fun c y => if y = Str.ofString "j" then c.2 else if y = Str.ofString "swapped_data" then some (.ref ab) else List.lookup y [(Str.ofString "data", Value.bytes b.toArray t₁), (Str.ofString "width", Value.int n t₂)].reverse)
    (fun c => (ab, baObj c.1.toArray) :: news) (List.replicate b.length 0, none) F₃ ?led ?mp ?i0 ?turn ?done
  case small => rw [List.size_toArray]; exact small_of (rangeSize_step hn hq) (by omega) (by omega) (by omega) (by omega) (by omega) (by omega) (by have := Nat.le_mul_of_pos_right q hn; omega)
  case size => rw [List.size_toArray]; exact rangeSize_step hn hq
  case led =>
    have e : (List.replicate b.length (0 : UInt8)).toArray = Array.replicate ((b.toArray.size : Nat) : Int).toNat 0 := by simp
    show News g L' _ ((ab, baObj (List.replicate b.length (0 : UInt8)).toArray) :: news)
    rw [e]; exact N₃
  case mp =>
    intro z hz
    by_cases h : z = Str.ofString "j"
    · subst h; rfl
    · rw [if_neg h]
  case i0 => exact (swapTo_zero b n).symm
  case turn =>
    rintro i ⟨cb, jv⟩ I it t h tk hi hc hoff F₄ N₄
    dsimp only at hc
    subst hc
    change Fr g L' _ _ at F₄
    change News g L' _ _ at N₄
    have hin : i * n + n ≤ b.length := by
      rw [hq, ← Nat.succ_mul]; exact Nat.mul_le_mul_right n hi
    have hoff1 : ab ≠ I := hoff _ (List.mem_cons_self ..)
    have hoff2 : ∀ p ∈ news, p.1 ≠ I := fun p hp => hoff p (List.mem_cons_of_mem _ hp)
    have hoff3 : ∀ p ∈ news, p.1 ≠ ab := fun p hp => Nat.ne_of_lt (hl₂ p hp)
    refine wpS_execs_cons (wpS_For (wpS_any ?_))
    k_fold
    walk_at "S"
    rename Fr _ _ _ _ => F₅
    rename News _ _ _ _ => N₅
    rename IsRange _ _ _ _ _ _ _ _ => hr₅
    refine forRangeS (σ := List UInt8) (n := n) rfl hr₅ (small_of rangeSize_one (by omega) (by omega) (by omega) (by omega) (by omega) (by omega) (by omega)) rangeSize_one rfl rfl (fun j c => c = swapTo b n i j)
      (fun c y => if y = Str.ofString "i" then some (.int (0 + (i : Int) * n) t) else if y = Str.ofString "swapped_data" then some (.ref ab) else List.lookup y [(Str.ofString "data", Value.bytes b.toArray t₁), (Str.ofString "width", Value.int n t₂)].reverse)
      (fun c => (I, it) :: (ab, baObj c.toArray) :: news) (swapTo b n i 0) F₅ N₅ ?mp2 ?i02 ?turn2 ?done2
    case mp2 =>
      intro z hz
      by_cases h : z = Str.ofString "i"
      · subst h; rfl
      · rw [if_neg h, if_neg h, if_neg hz]
    case i02 => rfl
    case turn2 =>
      rintro j cb I₂ it₂ tj h₆ tk₆ hj rfl hoff' F₆ N₆
      change Fr g L' _ _ at F₆
      change News g L' _ _ at N₆
      have hoffA : I ≠ I₂ := hoff' _ (List.mem_cons_self ..)
      have hoffB : ab ≠ I₂ := hoff' _ (List.mem_cons_of_mem _ (List.mem_cons_self ..))
      have hjn : ((i * n + j : Nat) : Int) = (i : Int) * n + j := by push_cast; rfl
      have hin' : i * n + j < b.length := by omega
      refine wpS_execs_cons (wpS_any ?_)
      k_fold
      walk_at "S"
      refine ba_set_K (by k_asm) (by k_asm) (.tail (Ne.symm hoffB) (.tail (Ne.symm hoff1) (.head hoff3))) ?_ ?_ ?_ ?_ ?_ ?_
      · omega
      · rw [swapTo_length]; omega
      · rw [swapTo_length]; omega
      · omega
      · have := UInt8.toNat_lt (b.getD (0 + (i : Int) * n + (0 + (j : Int) * 1)).toNat 0); omega
      intro h₈ F₈ N₈
      have e1 : (0 + (i : Int) * n + n - 1 - (0 + (j : Int) * 1)).toNat = i * n + n - 1 - j := by omega
      have e2 : (0 + (i : Int) * n + (0 + (j : Int) * 1)).toNat = i * n + j := by omega
      rw [e1, e2] at N₈
      have e3 : ∀ x : UInt8, ((x.toNat : Nat) : Int).toNat.toUInt8 = x := fun x => by rw [Int.toNat_natCast]; exact UInt8.ofNat_toNat
      rw [e3, swapTo_set b n i j hn hj hin] at N₈
      dsimp only
      refine wpS_execs_nil ?_
      refine TurnEnd.next (swapTo b n i (j + 1)) F₈ N₈ ?_ ?_ rfl
      · intro p hp
        rcases List.mem_cons.mp hp with rfl | hp
        · exact hoffA
        · rcases List.mem_cons.mp hp with rfl | hp
          · exact hoffB
          · exact hoff' p (List.mem_cons_of_mem _ (List.mem_cons_of_mem _ hp))
      intro z hz
      rw [if_neg hz]
    case done2 =>
      rintro cb m₇ h₇ tk₇ rfl F₇ hm₇ N₇
      dsimp only
      refine wpS_execs_nil ?_
      refine TurnEnd.next (swapTo b n (i + 1) 0, m₇ (Str.ofString "j")) F₇ ?_ ?_ ?_ rfl
      · rw [← swapTo_next]; exact N₇
      · intro p hp
        rcases List.mem_cons.mp hp with rfl | hp
        · exact hoff1
        · exact hoff2 p hp
      · intro z hz
        dsimp only
        by_cases h : z = Str.ofString "j"
        · rw [if_pos h, h]
        · rw [if_neg h, hm₇ z h, if_neg hz]
  case done =>
    rintro ⟨cb, jv⟩ m₇ h₇ tk₇ hc F₇ hm₇ N₇
    dsimp only at hc
    subst hc
    rw [swapTo_all b n q hq] at N₇
    change Fr g L' _ _ at F₇
    change News g L' _ _ at N₇
    have e0 : (fun y => if y = Str.ofString "i" then m₇ (Str.ofString "i") else if y = Str.ofString "j" then jv else if y = Str.ofString "swapped_data" then some (Value.ref ab) else List.lookup y [(Str.ofString "data", Value.bytes b.toArray t₁), (Str.ofString "width", Value.int n t₂)].reverse) = m₇ := by
      funext y
      by_cases h : y = Str.ofString "i"
      · rw [if_pos h, h]
      · rw [if_neg h, hm₇ y h]
    rw [← e0] at F₇
    dsimp only
    refine wpS_execs_cons (wpS_Return (wpS_any ?_))
    k_fold
    walk_at "S"
    refine ba_bytes (b := (swapL b n).toArray) (N₇ _ (List.mem_cons_self ..)).1 (by rw [List.size_toArray, swapL_length]; simp only [sizeLine]; omega) fun t k => ?_
    walk_at "S"
    refine leaveK_ (m' := _) (news' := news) F₇ (fun p hp => N₇ p (List.mem_cons_of_mem _ hp)) fun Fb Nb => ?_
    exact hret _ _ _ Fb Nb
end Mine
set_option maxRecDepth 100000
set_option Elab.async false
open PySem PySem.W PySem.Calls PyProof.Rows
namespace Mine
local macro_rules | `(tactic| walk_at "S") => `(tactic| repeat' (first | (k_unfold; (try dsimp only)) | walk1 | (dsimp only; walk1)))
local macro_rules | `(tactic| walk_at "mp") => `(tactic| (intro z; (try intro hz); (try dsimp only); (repeat' split) <;> first | rfl | contradiction | (exfalso; subst_vars; (rename (_ : Str) = _ => hq9); exact absurd hq9 (by decide)) | (subst_vars; rfl) | (simp_all; done)))
local macro_rules | `(tactic| walk_at "subscriptTail") => `(tactic| (k_here; (with_reducible show wpAny _ _ (subscriptTail _ _ (Value.bytes (List.toArray _) _) (Value.int _ _)) _ _ _); refine bytes_item (by omega) (by omega) (by omega) ?_))
local macro_rules | `(tactic| walk_at "subscriptTail") => `(tactic| (k_here; (with_reducible show wpAny _ _ (subscriptTail _ (Expr.Slice _ _ none _) (Value.bytes (List.toArray _) _) (Value.ref _)) _ _ _); (with_reducible rename Fr _ _ _ _ => F'); (with_reducible rename News _ _ _ _ => N'); (refine bytes_cut (s := ⟨_, _, _, _, _⟩) F' N' (by constructor) (by constructor) (by omega) ?_); intro _ _ _ _ _; (try k_sweep)))
local macro_rules | `(tactic| walk_at "binaryOp Add bytes bytes") => `(tactic| (k_here; (with_reducible show wpAny _ _ (binaryOp Operator.Add (Value.bytes (List.toArray _) _) (Value.bytes (List.toArray _) _)) _ _ _); refine bytes_add_K (by (simp only [List.size_toArray, List.length_reverse, List.length_take, List.length_append, List.length_cons, List.length_nil]; omega)) rfl ?_; intro _ _))
local macro_rules | `(tactic| walk_at "subscriptTail List cons Slice ref ref") => `(tactic| (k_here; k_dflt (refine kba_turn (value' := PySem.Expr.Name (PySem.Str.ofString "_") ⟨0, 0, 0, 0⟩) (fun _ => rfl) ?_); k_dflt (refine' kmk_slice_ints ?F ?N ?l ?p ?q ?i ?m ?c ?_ ?s ?t ?z; (case F => k_asm); (case N => k_asm); (case l => kmk_list); (case p => kmk_part); (case q => kmk_part); (case i => l_ints); (case m => exact kmk_from (by l_ints) (by kmk_sign)); (case c => exact List.length_drop ..); (case s => with_unfolding_all rfl); (case t => kmk_pure); (case z => kmk_size)); intro D' ws' h' F' N' l1 hI' hC' hL'; (try k_lt l1); (try k_sweep)))
local macro_rules | `(tactic| walk_at "binaryOp Add ref ref") => `(tactic| (k_here; (with_reducible show wpAny _ _ (binaryOp _ (Value.ref _) (Value.ref _)) _ _ _); k_dflt (refine' kmk_add_ints ?F ?N ?a ?b ?i ?j ?_ ?z; (case F => k_asm); (case N => k_asm); (case a => kmk_list); (case b => kmk_list); (case i => l_ints); (case j => l_ints); (case z => kmk_sum)); intro D' ws' h' F' N' l1 hI'; (try k_lt l1); (try k_sweep)))

section
variable {prog : Program} {w : World} {p : Program} {loose : List Str} {mean : ExcName → Option Value} {mg mb : Str → Option Value}
  {dp un : Nat} {gd : Option (List Code)} {cn : Str} {cs : Scope} {a : Addr} {ccd : Value} {cl : List (Str × Addr)} {outer : List Env} {A₀ : Around} {base h₀ : Heap} {L : Addr} {m : Str → Option Value} {news : List (Addr × Obj)} {s : Shared} {Q E : Value → Shared → Prop}
  (B : Below A₀ base outer h₀) (F : Fr h₀ L s.heap m) (X : (MineH.hd.heap_39 w.params).In h₀) (N : News h₀ L s.heap news) (T : Top p loose mean mg mb h₀) (hk : cs.kind = .function)
include B F X N T hk
set_option maxHeartbeats 4000000 in
theorem turned_S {b : List UInt8} {n k : Nat} {t₁ t₂ t₃ : Tok} (hd : dp + 1 < recursionLimit) (hn : 1 ≤ n) (hk1 : 1 ≤ k) (hdiv : n * k ∣ b.length) (hz : b.length ≤ 1000) (hnk : n * k ≤ 1000) (hn' : n ≤ 1000)
    (hret : ∀ t h' tk', Fr h₀ L h' m → News h₀ L h' news → Q (.bytes (swapL (swapL b n) (n * k)).toArray t) { s with heap := h', toks := tk' }) :
    wpS (model prog w) (ktrTop dp un gd cn cs L a ccd cl outer) (call (.ref 35) [.bytes b.toArray t₁, .int n t₂, .int k t₃]) Q E s := by
  w_top off
  have hfill : PySem.Challenge.rw_ny0470_03 = PySem.Challenge.rw_ny0470_03 ∧ MineH.hd.heap_39 = MineH.hd.heap_39 := by k_fill; exact ⟨rfl, rfl⟩
  clear hfill
  refine wpS_call ?_
  k_dflt (refine' code_defS (binds := [(Str.ofString "row", .bytes b.toArray t₁), (Str.ofString "width", .int n t₂), (Str.ofString "block", .int k t₃)]) ?k1 ?k2 ?k3 ?k4 ?k5 ?kA ?kF ?kK ?k6 ?k7 ?k8 ?k9 ?kB ?_ ?c2 ?c3 ?c4 ?c5; (case kA => exact rfl); (case kF => exact rfl); (case kK => assumption); (case k1 => k_asm); (case k2 => k_asm); (case k3 => k_asm); (case k4 => k_asm); (case k5 => k_asm); (case k6 => k_is); (case k7 => k_is); (case k8 => (exact Nat.lt_of_succ_lt hd)); (case k9 => exact BindsTo.of_eq rfl); (case c5 => decide); (case kB => exact locs rfl); (case c2 => exact rfl); (case c3 => exact rfl); (case c4 => exact rfl))
  intro g L' h₁ FG F' N' B' X' T' hlt
  clear B F X N T
  refine wpS_execs_cons (wpS_Return (wpS_Call_K (K := MineH.hd.heap_39 w.params) (f := .ref 21) (by k_is) ?_))
  k_fold
  walk_at "S"
  all_goals (try clear qk ek)
  refine wpS_spliced_cons ?_
  refine wpS_Call_K (K := MineH.hd.heap_39 w.params) (f := .ref 21) (by k_is) ?_
  k_fold
  walk_at "S"
  all_goals (try clear qk ek)
  refine wpS_any ?_
  k_fold
  walk_at "S"
  all_goals (try clear qk ek)
  have hnn : n ∣ b.length := Nat.dvd_trans (Nat.dvd_mul_right n k) hdiv
  refine byteswap_S (by k_asm) (by k_asm) (by k_asm) (by k_asm) (by k_asm) rfl hd hn hnn hz hn' fun t h' tk' F₂ N₂ => ?_
  k_sweep
  refine wpS_any ?_
  k_fold
  walk_at "S"
  all_goals (try clear qk ek)
  rw [show ((n : Int) * (k : Int)) = ((n * k : Nat) : Int) from by simp]
  have hnk1 : 1 ≤ n * k := Nat.mul_pos hn hk1
  refine byteswap_S (by k_asm) F₂ (by k_asm) N₂ (by k_asm) rfl hd hnk1 (by rw [swapL_length]; exact hdiv) (by rw [swapL_length]; exact hz) hnk fun t h' tk' F₃ N₃ => ?_
  refine leaveK_ F₃ N₃ fun Fb Nb => ?_
  exact hret _ _ _ Fb Nb
end

section
variable {prog : Program} {w : World} {p : Program} {loose : List Str} {mean : ExcName → Option Value} {mg mb : Str → Option Value}
  {dp un : Nat} {gd : Option (List Code)} {cn : Str} {cs : Scope} {a : Addr} {ccd : Value} {cl : List (Str × Addr)} {outer : List Env} {A₀ : Around} {base h₀ : Heap} {L : Addr} {m : Str → Option Value} {news : List (Addr × Obj)} {s : Shared} {Q E : Value → Shared → Prop}
  (B : Below A₀ base outer h₀) (F : Fr h₀ L s.heap m) (X : (MineH.hd.heap_39 w.params).In h₀) (N : News h₀ L s.heap news) (T : Top p loose mean mg mb h₀) (hk : cs.kind = .function)
include B F X N T hk
set_option maxHeartbeats 4000000 in
theorem block_S {n : Nat} {t₁ : Tok} (hd : dp < recursionLimit) (hn : 1 ≤ n) (hn7 : n ≤ 7)
    (hret : ∀ k t h' tk', k = (if n % 4 = 0 then 8 else if n % 2 = 0 then 4 else 2) → Fr h₀ L h' m → News h₀ L h' news → Q (.int (k : Nat) t) { s with heap := h', toks := tk' }) :
    wpS (model prog w) (ktrTop dp un gd cn cs L a ccd cl outer) (call (.ref 42) [.int n t₁]) Q E s := by
  w_top off
  have hfill : PySem.Challenge.rw_ny0470_03 = PySem.Challenge.rw_ny0470_03 ∧ MineH.hd.heap_39 = MineH.hd.heap_39 := by k_fill; exact ⟨rfl, rfl⟩
  clear hfill
  refine wpS_call ?_
  k_dflt (refine' code_defS (binds := [(Str.ofString "turn", .int n t₁)]) ?k1 ?k2 ?k3 ?k4 ?k5 ?kA ?kF ?kK ?k6 ?k7 ?k8 ?k9 ?kB ?_ ?c2 ?c3 ?c4 ?c5; (case kA => exact rfl); (case kF => exact rfl); (case kK => assumption); (case k1 => k_asm); (case k2 => k_asm); (case k3 => k_asm); (case k4 => k_asm); (case k5 => k_asm); (case k6 => k_is); (case k7 => k_is); (case k8 => (exact hd)); (case k9 => exact BindsTo.of_eq rfl); (case c5 => decide); (case kB => exact locs rfl); (case c2 => exact rfl); (case c3 => exact rfl); (case c4 => exact rfl))
  intro g L' h₁ FG F' N' B' X' T' hlt
  clear B F X N T
  refine wpS_execs_cons (wpS_any ?_)
  k_fold
  walk_at "S"
  all_goals (try clear qk ek)
  rename Fr _ _ _ _ => F₂
  rename News _ _ _ _ => N₂
  obtain ⟨t2, F₂'⟩ : ∃ t2, Fr g L' _ (fun y => if y = Str.ofString "block" then some (.int 2 t2) else List.lookup y [(Str.ofString "turn", Value.int (n : Int) t₁)].reverse) := ⟨_, F₂⟩
  clear F₂
  rename Fr _ _ _ _ => F₂
  refine wpS_execs_cons (wpS_While ?_)
  refine whileS (σ := Nat × Tok) (fun c => c.1 = 2 ∨ (c.1 = 4 ∧ n % 2 = 0) ∨ (c.1 = 8 ∧ n % 4 = 0)) (fun c => 16 - c.1)
    (fun c y => if y = Str.ofString "block" then some (.int (c.1 : Nat) c.2) else if y = Str.ofString "turn" then some (.int n t₁) else none)
    (fun _ => news) (2, t2) F₂ N₂ ?_ ?_ ?_
  · intro z
    by_cases h1 : z = Str.ofString "block"
    · subst h1; rfl
    · rw [if_neg h1, if_neg h1]
      by_cases h2 : z = Str.ofString "turn"
      · subst h2; rfl
      · rw [if_neg h2]
        have h2' : (z == Str.ofString "turn") = false := by simpa using h2
        show List.lookup z [(Str.ofString "turn", Value.int n t₁)] = none
        simp only [List.lookup, h2']
  · exact .inl rfl
  rintro ⟨c, tc⟩ h₃ tk₃ hc F₃ N₃
  change Fr g L' _ _ at F₃
  change News g L' _ _ at N₃
  dsimp only at hc F₃ N₃
  have hc0 : 2 ≤ c := by omega
  clear F₂ N₂
  have hcz : ((c : Nat) : Int) ≠ 0 := by omega
  refine wpS_any ?_
  k_fold
  walk_at "S"
  all_goals (try clear qk ek)
  · rename (_ : Int) = 0 => hp
    rw [Int.fmod_eq_emod_of_nonneg _ (by omega)] at hp
    refine wpS_any ?_
    k_fold
    walk_at "S"
    all_goals (try clear qk ek)
    rename Fr _ _ _ _ => F₅
    rename News _ _ _ _ => N₅
    refine' WhileEnd.next (2 * c, ?t5) F₅ N₅ ?m5 ?i5 ?k5
    case m5 => rw [show ((2 * c : Nat) : Int) = 2 * (c : Int) from by omega]; walk_at "mp"
    case i5 =>
      rcases hc with rfl | ⟨rfl, h⟩ | ⟨rfl, h⟩ <;> dsimp only <;> omega
    case k5 => dsimp only; rcases hc with rfl | ⟨rfl, h⟩ | ⟨rfl, h⟩ <;> omega
  · rename (_ : Int) ≠ 0 => hp
    rw [Int.fmod_eq_emod_of_nonneg _ (by omega)] at hp
    refine wpS_execs_cons (wpS_Return (wpS_any ?_))
    k_fold
    walk_at "S"
    refine leaveK_ F₃ N₃ fun Fb Nb => ?_
    refine hret c _ _ _ ?_ Fb Nb
    rcases hc with rfl | ⟨rfl, h⟩ | ⟨rfl, h⟩ <;> (split <;> (try split) <;> omega)
end
end Mine
set_option maxRecDepth 100000
set_option Elab.async false
open PySem PySem.W PySem.Calls PyProof.Rows
namespace Mine
local macro_rules | `(tactic| walk_at "S") => `(tactic| repeat' (first | (k_unfold; (try dsimp only)) | walk1 | (dsimp only; walk1)))
local macro_rules | `(tactic| walk_at "mp") => `(tactic| (intro z; (try intro hz); (try dsimp only); (repeat' split) <;> first | rfl | contradiction | (exfalso; subst_vars; (rename (_ : Str) = _ => hq9); exact absurd hq9 (by decide)) | (subst_vars; rfl) | (simp_all; done)))
local macro_rules | `(tactic| walk_at "subscriptTail") => `(tactic| (k_here; (with_reducible show wpAny _ _ (subscriptTail _ _ (Value.bytes (List.toArray _) _) (Value.int _ _)) _ _ _); refine bytes_item (by omega) (by omega) (by omega) ?_))
local macro_rules | `(tactic| walk_at "subscriptTail") => `(tactic| (k_here; (with_reducible show wpAny _ _ (subscriptTail _ (Expr.Slice _ _ none _) (Value.bytes (List.toArray _) _) (Value.ref _)) _ _ _); (with_reducible rename Fr _ _ _ _ => F'); (with_reducible rename News _ _ _ _ => N'); (refine bytes_cut (s := ⟨_, _, _, _, _⟩) F' N' (by constructor) (by constructor) (by omega) ?_); intro _ _ _ _ _; (try k_sweep)))
local macro_rules | `(tactic| walk_at "binaryOp Add bytes bytes") => `(tactic| (k_here; (with_reducible show wpAny _ _ (binaryOp Operator.Add (Value.bytes (List.toArray _) _) (Value.bytes (List.toArray _) _)) _ _ _); refine bytes_add_K (by (simp only [List.size_toArray, List.length_reverse, List.length_take, List.length_append, List.length_cons, List.length_nil]; omega)) rfl ?_; intro _ _))
local macro_rules | `(tactic| walk_at "subscriptTail List cons Slice ref ref") => `(tactic| (k_here; k_dflt (refine kba_turn (value' := PySem.Expr.Name (PySem.Str.ofString "_") ⟨0, 0, 0, 0⟩) (fun _ => rfl) ?_); k_dflt (refine' kmk_slice_ints ?F ?N ?l ?p ?q ?i ?m ?c ?_ ?s ?t ?z; (case F => k_asm); (case N => k_asm); (case l => kmk_list); (case p => kmk_part); (case q => kmk_part); (case i => l_ints); (case m => exact kmk_from (by l_ints) (by kmk_sign)); (case c => exact List.length_drop ..); (case s => with_unfolding_all rfl); (case t => kmk_pure); (case z => kmk_size)); intro D' ws' h' F' N' l1 hI' hC' hL'; (try k_lt l1); (try k_sweep)))
local macro_rules | `(tactic| walk_at "binaryOp Add ref ref") => `(tactic| (k_here; (with_reducible show wpAny _ _ (binaryOp _ (Value.ref _) (Value.ref _)) _ _ _); k_dflt (refine' kmk_add_ints ?F ?N ?a ?b ?i ?j ?_ ?z; (case F => k_asm); (case N => k_asm); (case a => kmk_list); (case b => kmk_list); (case i => l_ints); (case j => l_ints); (case z => kmk_sum)); intro D' ws' h' F' N' l1 hI'; (try k_lt l1); (try k_sweep)))
local macro_rules | `(tactic| k_all) => `(tactic| assumption)
local macro_rules | `(tactic| k_ne) => `(tactic| first | assumption | exact Ne.symm (by assumption))
def Halt (P : Prop) : Prop := P
theorem halt {P : Prop} (h : Halt P) : P := h
local macro_rules | `(tactic| walk_at "eval ListComp") => `(tactic| (k_here; (with_reducible show wpAny _ _ (eval (Expr.ListComp _ _ _ _) _) _ _ _); refine halt ?_))
def nimRow (r : Nat) : List Int := (List.range 8).map fun p => ((r ^^^ p : Nat) : Int)
theorem allLt_mem {d : Addr} : ∀ {l : List (Addr × Obj)}, AllLt d l → ∀ p ∈ l, p.1 < d
  | [], _, _, h => nomatch h
  | _ :: _, x, p, h => by
    rcases List.mem_cons.mp h with rfl | h
    · exact x.1
    · exact allLt_mem x.2 p h
/-- the rows of the table as they lie in the ledger -/
def RowsAre : Nat → List (Addr × Obj) → Prop
  | _, [] => True
  | r, p :: l => (∃ vs k, p.2 = listOf (List.toArray vs) k ∧ IntsAre vs (nimRow r)) ∧ RowsAre (r + 1) l
theorem rows_snoc {x : Addr × Obj} : ∀ {l : List (Addr × Obj)} {r : Nat}, RowsAre r l → (∃ vs k, x.2 = listOf (List.toArray vs) k ∧ IntsAre vs (nimRow (r + l.length))) → RowsAre r (l ++ [x])
  | [], _, _, h => ⟨h, trivial⟩
  | _ :: l, r, h, hx => ⟨h.1, rows_snoc h.2 (by rw [List.length_cons] at hx; rw [show r + 1 + l.length = r + (l.length + 1) by omega]; exact hx)⟩
theorem rows_at : ∀ {l : List (Addr × Obj)} {r j : Nat} {x : Addr × Obj}, RowsAre r l → l[j]? = some x → ∃ vs k, x.2 = listOf (List.toArray vs) k ∧ IntsAre vs (nimRow (r + j))
  | [], _, _, _, _, h => by simp at h
  | _ :: _, _, 0, _, h, e => by simp at e; subst e; exact h.1
  | _ :: l, r, j + 1, _, h, e => by
    have := rows_at h.2 (by simpa using e)
    rwa [show r + 1 + j = r + (j + 1) by omega] at this
theorem ints_fun (f : Nat → Int) : ∀ {ys : List Value} {r : Nat}, (∀ (j : Nat) (y : Value), ys[j]? = some y → ∃ t, y = .int (f (r + j)) t) → IntsAre ys ((List.range' r ys.length).map f)
  | [], _, _ => .nil
  | y :: ys, r, h => by
    obtain ⟨t, rfl⟩ := h 0 y rfl
    rw [List.length_cons, List.range'_succ, List.map_cons]
    exact .cons _ _ (ints_fun f fun j z hz => by
      obtain ⟨t, e⟩ := h (j + 1) z (by simpa using hz)
      exact ⟨t, by rw [show r + 1 + j = r + (j + 1) by omega]; exact e⟩)
def knownOf (i q : Nat) : List Int := (nimRow i).take q ++ (List.range' 0 i).map fun j => ((j ^^^ q : Nat) : Int)
def mexB (i q : Nat) : Bool := !((knownOf i q).contains ((i ^^^ q : Nat) : Int)) && (List.range (i ^^^ q)).all fun v => (knownOf i q).contains (v : Int)
theorem mex_all : ((List.range 8).all fun i => (List.range 8).all fun q => mexB i q) = true := by decide +kernel
theorem mex_at {i q : Nat} (hi : i < 8) (hq : q < 8) : ((i ^^^ q : Nat) : Int) ∉ knownOf i q ∧ ∀ v < i ^^^ q, (v : Int) ∈ knownOf i q := by
  have h := List.all_eq_true.mp (List.all_eq_true.mp mex_all i (List.mem_range.mpr hi)) q (List.mem_range.mpr hq)
  unfold mexB at h
  rw [Bool.and_eq_true, Bool.not_eq_true', List.all_eq_true] at h
  refine ⟨fun hm => ?_, fun v hv => ?_⟩
  · rw [List.contains_iff_mem.mpr hm] at h; exact absurd h.1 (by decide)
  · exact List.contains_iff_mem.mp (h.2 v (List.mem_range.mpr hv))
theorem nimRow_get (r : Nat) {q : Nat} (hq : q < 8) : (nimRow r).getD q 0 = ((r ^^^ q : Nat) : Int) := by
  unfold nimRow
  rw [List.getD_eq_getElem?_getD, List.getElem?_map, List.getElem?_range hq]
  rfl
theorem nimRow_len (r : Nat) : (nimRow r).length = 8 := by simp [nimRow]
section
variable {prog : Program} {w : World} {p : Program} {loose : List Str} {mean : ExcName → Option Value} {mg mb : Str → Option Value}
  {dp un : Nat} {gd : Option (List Code)} {cn : Str} {cs : Scope} {a : Addr} {ccd : Value} {cl : List (Str × Addr)} {outer : List Env} {A₀ : Around} {base h₀ : Heap} {L : Addr} {m : Str → Option Value} {news : List (Addr × Obj)} {s : Shared} {Q E : Value → Shared → Prop}
  (B : Below A₀ base outer h₀) (F : Fr h₀ L s.heap m) (X : (MineH.hd.heap_39 w.params).In h₀) (N : News h₀ L s.heap news) (T : Top p loose mean mg mb h₀) (hk : cs.kind = .function)
include B F X N T hk
set_option maxHeartbeats 8000000 in
theorem least_S {t₁ : Tok} (hd : dp < recursionLimit)
    (hret : ∀ ad k rows h' tk', rows.length = 8 → RowsAre 0 rows → (∀ q ∈ news, q.1 < ad ∧ ∀ p ∈ rows, q.1 < p.1) → Fr h₀ L h' m → News h₀ L h' ((ad, listOf (List.toArray (rows.map fun p => Value.ref p.1)) k) :: (rows ++ news)) → Q (.ref ad) { s with heap := h', toks := tk' }) :
    wpS (model prog w) (ktrTop dp un gd cn cs L a ccd cl outer) (call (.ref 47) [.int 8 t₁]) Q E s := by
  w_top off
  have hfill : PySem.Challenge.rw_ny0470_03 = PySem.Challenge.rw_ny0470_03 ∧ MineH.hd.heap_39 = MineH.hd.heap_39 := by k_fill; exact ⟨rfl, rfl⟩
  clear hfill
  refine wpS_call ?_
  k_dflt (refine' code_defCS (binds := [(Str.ofString "size", .int 8 t₁)]) (fun n => [(Str.ofString "place", n + 1)]) ?k1 ?k2 ?k3 ?k4 ?k5 ?kA ?kF ?kK ?k6 ?k7 ?k8 ?k9 ?kB ?kD ?kC ?_ ?c2 ?c3 ?c4; (case kA => exact rfl); (case kF => exact rfl); (case kK => assumption); (case k1 => k_asm); (case k2 => k_asm); (case k3 => k_asm); (case k4 => k_asm); (case k5 => k_asm); (case k6 => k_is); (case k7 => k_is); (case k8 => exact hd); (case k9 => exact BindsTo.of_eq rfl); (case kB => exact rfl); (case kD => decide +kernel); (case kC => exact fun _ => rfl); (case c2 => exact rfl); (case c3 => exact rfl); (case c4 => exact rfl))
  intro g L' h₁ tk₁ cells FG F' N' Y' B' X' T' hlt
  clear B F X N T
  obtain ⟨oc, hE', dc⟩ := CellsAre.one Y'
  subst hE'
  clear Y'
  change Fr g L' h₁ (fun y => if y = Str.ofString "size" then some (.int 8 t₁) else none) at F'
  change News g L' h₁ ((L' + 1, oc) :: news) at N'
  change oc.data = .cell none at dc
  refine wpS_execs_cons (wpS_any ?_)
  k_fold
  walk_at "S"
  all_goals (try clear qk ek)
  rename Fr _ _ _ _ => F₂
  rename News _ _ _ _ => N₂
  rename_i tb hh1 ltb hh2
  obtain ⟨ltb1, ltb2⟩ := ltb
  have htbn : ∀ p ∈ news, p.1 ≠ tb := fun p hp => Nat.ne_of_lt (allLt_mem ltb2 p hp)
  have hcn : ∀ p ∈ news, p.1 ≠ L' + 1 := fun p hp => Nat.ne_of_lt (Nat.lt_trans (hlt p hp) (Nat.lt_succ_self _))
  have htc : L' + 1 ≠ tb := Nat.ne_of_lt ltb1
  refine wpS_execs_cons (wpS_For ?_)
  refine wpS_any ?_
  k_fold
  walk_at "S"
  all_goals (try clear qk ek)
  rename Fr _ _ _ _ => F₃
  rename News _ _ _ _ => N₃
  rename IsRange _ _ _ _ _ _ _ _ => hr₃
  refine forRangeS (σ := List (Addr × Obj) × Nat × Obj × Option Value × Option Value × Option Value) (n := 8) rfl hr₃ (by decide) (by decide) rfl rfl
    (fun i c => c.1.length = i ∧ RowsAre 0 c.1 ∧ (∃ v, c.2.2.1.data = .cell v) ∧ ∀ p ∈ c.1, p.1 ≠ tb ∧ L' + 1 < p.1)
    (fun c y => if y = Str.ofString "value" then c.2.2.2.2.2 else if y = Str.ofString "known" then c.2.2.2.2.1 else if y = Str.ofString "line" then c.2.2.2.1 else if y = Str.ofString "table" then some (.ref tb) else if y = Str.ofString "size" then some (.int 8 t₁) else none)
    (fun c => (tb, listOf (List.toArray (c.1.map fun p => Value.ref p.1)) c.2.1) :: (c.1 ++ (L' + 1, c.2.2.1) :: news)) ([], 0, oc, none, none, none) F₃ N₃ ?mp ?i0 ?turn ?done
  case mp =>
    intro z hz
    by_cases h1 : z = Str.ofString "value"
    · subst h1; rfl
    · by_cases h2 : z = Str.ofString "known"
      · subst h2; rfl
      · by_cases h3 : z = Str.ofString "line"
        · subst h3; rfl
        · simp only [if_neg h1, if_neg h2, if_neg h3]
  case i0 => exact ⟨rfl, trivial, ⟨_, dc⟩, fun p hp => nomatch hp⟩
  case turn =>
    rintro i ⟨rows, kt, o, lv, kv, vv⟩ I it t h tk₂ hi ⟨hrl, hrows, ⟨cv, hcv⟩, hroff⟩ hoff F₅ N₅
    change Fr g L' _ _ at F₅
    change News g L' _ _ at N₅
    dsimp only at hrl hrows hcv hroff hoff F₅ N₅
    clear F₃ N₃ hr₃
    refine wpS_execs_cons (wpS_any ?_)
    k_fold
    walk_at "S"
    all_goals (try clear qk ek)
    rename Fr _ _ _ _ => F₆
    rename News _ _ _ _ => N₆
    rename_i ln hh3 lln hh4
    obtain ⟨lln1, lln2, lln3⟩ := lln
    have hlt₆ := allLt_mem lln3
    have hIt : tb ≠ I := hoff _ (.head _)
    refine wpS_tk (s := s) (h' := hh4) fun tk₆ => ?_
    refine wpS_execs_cons (wpS_For ?_)
    refine wpS_any ?_
    k_fold
    walk_at "S"
    all_goals (try clear qk ek)
    rename Fr _ _ _ _ => F₇
    rename News _ _ _ _ => N₇
    rename IsRange _ _ _ _ _ _ _ _ => hr₇
    refine forRangeC (cc := L' + 1) (o₀ := o) (σ := List Value × Nat × Option Value × Option Value) (n := 8) rfl hr₇ (by decide) (by decide) rfl rfl rfl
      (fun q c => IntsAre c.1 ((nimRow i).take q))
      (fun c y => if y = Str.ofString "value" then c.2.2.2 else if y = Str.ofString "known" then c.2.2.1 else if y = Str.ofString "line" then some (.ref ln) else if y = Str.ofString "row" then some (.int (0 + (i : Int) * 1) t) else if y = Str.ofString "table" then some (.ref tb) else if y = Str.ofString "size" then some (.int 8 t₁) else none)
      (fun c => (ln, listOf (List.toArray c.1) c.2.1) :: (I, it) :: (tb, listOf (List.toArray (rows.map fun p => Value.ref p.1)) kt) :: (rows ++ news)) ([], 0, kv, vv) F₇ hcv ?N7 ?off7 ?mp7 ?i7 ?turn7 ?done7
    case N7 =>
      intro p hp
      refine N₇ p ?_
      rcases List.mem_cons.mp hp with rfl | hp
      · exact .tail _ (.tail _ (.tail _ (List.mem_append.mpr (.inr (.head _)))))
      · rcases List.mem_cons.mp hp with rfl | hp
        · exact .head _
        · rcases List.mem_cons.mp hp with rfl | hp
          · exact .tail _ (.head _)
          · rcases List.mem_cons.mp hp with rfl | hp
            · exact .tail _ (.tail _ (.head _))
            · rcases List.mem_append.mp hp with hp | hp
              · exact .tail _ (.tail _ (.tail _ (List.mem_append.mpr (.inl hp))))
              · exact .tail _ (.tail _ (.tail _ (List.mem_append.mpr (.inr (.tail _ hp)))))
    case off7 =>
      intro p hp
      have hcln : L' + 1 < ln := hlt₆ _ (List.mem_append.mpr (.inr (.head _)))
      rcases List.mem_cons.mp hp with rfl | hp
      · exact Nat.ne_of_gt hcln
      · rcases List.mem_cons.mp hp with rfl | hp
        · exact Ne.symm (hoff (L' + 1, o) (.tail _ (List.mem_append.mpr (.inr (.head _)))))
        · rcases List.mem_cons.mp hp with rfl | hp
          · exact Ne.symm htc
          · rcases List.mem_append.mp hp with hp | hp
            · exact Nat.ne_of_gt (hroff p hp).2
            · exact hcn p hp
    case mp7 =>
      intro z
      by_cases h1 : z = Str.ofString "line"
      · subst h1; rfl
      · by_cases h2 : z = Str.ofString "row"
        · subst h2; rfl
        · simp only [if_neg h1, if_neg h2]
    case i7 => exact .nil
    case turn7 =>
      rintro q ⟨vs, kl, kv', vv'⟩ I' it' oc' t' h' tk₇ hq hvs hoff' hcI F₈ hoc' N₈
      change Fr g L' _ _ at F₈
      change News g L' _ _ at N₈
      dsimp only at hvs F₈ N₈ hoff'
      clear F₇ N₇ hr₇
      refine wpS_execs_cons (wpS_any ?_)
      k_fold
      walk_at "S"
      all_goals (try clear qk ek)
      show wpAny _ _ _ _ _ _
      refine LCg.ListComp_U F₈ rfl (by decide) rfl (by decide) rfl ?_
      refine wpAny_Name (wpAny_loadName_local rfl rfl F₈.ns rfl ?_)
      refine LCg.CompSrc.ledger rfl F₈ N₈ (.tail _ (.tail _ (.tail _ (.tail _ (.head _))))) (by rw [List.size_toArray, List.length_map, hrl, sizeLine_eq]; omega) fun gg => ?_
      refine comp_turns (fun j y => ∃ t, y = .int ((j ^^^ q : Nat) : Int) t) (.inr ⟨_, .tail _ (.tail _ (.tail _ (.tail _ (.head _)))), rfl, _, rfl⟩) ?_ ?_
      · intro j v I₃ oI C oC D₃ m₂ h₃ tk₃ E' ys₃ hj hP hC hx F₉ N₉ off ne
        rw [List.size_toArray, List.length_map] at hj
        obtain ⟨vj, kj, hoj, hvj⟩ := rows_at hrows (List.getElem?_eq_getElem hj)
        obtain rfl : v = .ref rows[j].1 := by
          have : (List.map (fun p : Addr × Obj => Value.ref p.1) rows)[j]? = some v := by simpa using hP
          rw [List.getElem?_map, List.getElem?_eq_getElem hj] at this
          simpa using this.symm
        have N₁₀ : News g L' h₃ ((rows[j].1, listOf (List.toArray vj) kj) :: (I₃, oI) :: (C, oC) :: (D₃, LCg.lst ys₃) :: (I', it') :: (L' + 1, oc') :: (ln, listOf (List.toArray vs) kl) :: (I, it) :: (tb, listOf (List.toArray (rows.map fun p => Value.ref p.1)) kt) :: (rows ++ news)) := fun p hp => by
          rcases List.mem_cons.mp hp with rfl | hp
          · rw [← hoj]
            exact N₉ _ (.tail _ (.tail _ (.tail _ (.tail _ (.tail _ (.tail _ (.tail _ (.tail _ (List.mem_append.mpr (.inl (List.getElem_mem hj)))))))))))
          · exact N₉ p hp
        have hvl : vj.length = 8 := by rw [hvj.length, nimRow_len]
        have hnl : (nimRow (0 + j)).length = 8 := nimRow_len _
        clear N₉ hP N₈ F₈ qk ek
        generalize rows[j].1 = aj at *
        show wpAny _ _ _ _ _ _
        k_fold
        walk_at "S"
        all_goals (try clear qk ek)
        rename Fr _ _ _ _ => F₁₀
        rename News _ _ _ _ => N₁₁
        refine EltEnd.mk F₁₀ N₁₁ (fun p hp => List.mem_cons_of_mem _ hp) (by rw [show (0 + (q : Int) * 1).toNat = q by omega, Nat.zero_add, nimRow_get j hq]; exact ⟨_, rfl⟩)
      · intro ys₃ hy hG D₃ h₃ tk₃ F₉ N₉ off
        rw [List.size_toArray, List.length_map, hrl] at hy
        have hcol := ints_fun (fun j => ((j ^^^ q : Nat) : Int)) (r := 0) (ys := ys₃) fun j y hjy => by rw [Nat.zero_add]; exact hG j y hjy
        rw [hy] at hcol
        clear hG N₈ F₈
        have hvl : vs.length ≤ 8 := by rw [hvs.length, List.length_take]; omega
        have hyl : ys₃.length ≤ 8 := by omega
        change News g L' h₃ ((D₃, listOf (List.toArray ys₃) ys₃.length) :: _) at N₉
        refine kmk_add_ints (s := ⟨h₃, _, _, _, _⟩) F₉ N₉ (News.isList N₉ (.tail _ (.tail _ (.tail _ (.head _))))) (News.isList N₉ (.head _)) hvs hcol ?_ (by rw [List.length_take, List.length_map, List.length_range', sizeLine_eq]; omega)
        intro kn us h₅ F₁₁ N₁₁ lkn hus
        clear F₉ N₉
        dsimp only
        walk_at "S"
        all_goals (try clear qk ek)
        rename Fr _ _ _ _ => F₁₂
        rename News _ _ _ _ => N₁₂
        rename_i hh6
        refine wpS_tk (s := s) (h' := hh6) fun tk₉ => ?_
        refine wpS_execs_cons (wpS_any ?_)
        k_fold
        walk_at "S"
        all_goals (try clear qk ek)
        rename Fr _ _ _ _ => F₁₃
        rename News _ _ _ _ => N₁₃
        rename_i hh7
        change IntsAre us (knownOf i q) at hus
        obtain ⟨hmx1, hmx2⟩ := mex_at hi hq
        have hul : us.length ≤ 16 := by
          rw [hus.length, knownOf, List.length_append, List.length_take, List.length_map, List.length_range']; omega
        obtain ⟨tv, F₁₄⟩ : ∃ tv, Fr g L' hh7 (fun y => if y = Str.ofString "value" then some (.int 0 tv) else if y = Str.ofString "known" then some (.ref kn) else if y = Str.ofString "value" then vv' else if y = Str.ofString "known" then kv' else if y = Str.ofString "line" then some (.ref ln) else if y = Str.ofString "row" then some (.int (0 + (i : Int) * 1) t) else if y = Str.ofString "table" then some (.ref tb) else if y = Str.ofString "size" then some (.int 8 t₁) else none) := ⟨_, F₁₃⟩
        clear F₁₃
        refine wpS_execs_cons (wpS_While ?_)
        refine whileS (σ := Nat × Tok) (fun c => c.1 ≤ i ^^^ q) (fun c => (i ^^^ q) - c.1)
          (fun c y => if y = Str.ofString "value" then some (.int (c.1 : Nat) c.2) else if y = Str.ofString "known" then some (.ref kn) else if y = Str.ofString "line" then some (.ref ln) else if y = Str.ofString "row" then some (.int (0 + (i : Int) * 1) t) else if y = Str.ofString "table" then some (.ref tb) else if y = Str.ofString "size" then some (.int 8 t₁) else none)
          (fun _ => (kn, listOf (List.toArray us) 0) :: (D₃, listOf (List.toArray ys₃) ys₃.length) :: (I', it') :: (L' + 1, oc') :: (ln, listOf (List.toArray vs) kl) :: (I, it) :: (tb, listOf (List.toArray (rows.map fun p => Value.ref p.1)) kt) :: (rows ++ news)) (0, tv) F₁₄ N₁₃ ?_ ?_ ?_
        · intro z
          by_cases h1 : z = Str.ofString "value"
          · subst h1; rfl
          · by_cases h2 : z = Str.ofString "known"
            · subst h2; rfl
            · simp only [if_neg h1, if_neg h2]
        · exact Nat.zero_le _
        rintro ⟨c, tc⟩ h₈ tk₈ hc F₁₅ N₁₅
        change Fr g L' _ _ at F₁₅
        change News g L' _ _ at N₁₅
        dsimp only at hc F₁₅ N₁₅
        clear F₁₄ N₁₃
        refine wpS_any ?_
        k_fold
        walk_at "S"
        all_goals (try clear qk ek)
        · rename _ = true => hin
          have hne : c ≠ i ^^^ q := fun e => hmx1 (by
            obtain ⟨z, hz, e'⟩ := List.any_eq_true.mp hin
            rw [beq_iff_eq] at e'
            rw [← e, ← e']; exact hz)
          refine wpS_any ?_
          k_fold
          walk_at "S"
          refine wpAny_loadName_local rfl rfl F₁₅.ns rfl ?_
          walk_at "S"
          all_goals (try clear qk ek)
          rename Fr _ _ _ _ => F₁₆
          rename News _ _ _ _ => N₁₆
          refine' WhileEnd.next (c + 1, ?t5) F₁₆ N₁₆ ?m5 ?i5 ?k5
          case m5 => rw [show ((c + 1 : Nat) : Int) = (c : Int) + 1 from by omega]; walk_at "mp"
          case i5 => dsimp only; omega
          case k5 => dsimp only; omega
        · rename _ = false => hin
          obtain rfl : c = i ^^^ q := by
            rcases Nat.lt_or_ge c (i ^^^ q) with h | h
            · exfalso
              have : ((knownOf i q).any fun x => x == (c : Int)) = true := List.any_eq_true.mpr ⟨_, hmx2 c h, beq_self_eq_true _⟩
              rw [hin] at this; cases this
            · omega
          have hkn : kn ≠ ln := Nat.ne_of_gt (lkn (ln, listOf (List.toArray vs) kl) (.tail _ (.tail _ (.tail _ (.head _)))))
          have hD : D₃ ≠ ln := Ne.symm off.2.2.1
          have hI' : I' ≠ ln := Ne.symm (hoff' (ln, listOf (List.toArray vs) kl) (.head _)).1
          have hcl : L' + 1 ≠ ln := Ne.symm (hoff' (ln, listOf (List.toArray vs) kl) (.head _)).2
          have hall : ∀ p ∈ (I, it) :: (tb, listOf (List.toArray (rows.map fun p => Value.ref p.1)) kt) :: (rows ++ news), p.1 ≠ ln := fun p hp => by
            rcases List.mem_cons.mp hp with rfl | hp
            · exact Nat.ne_of_lt lln1
            · rcases List.mem_cons.mp hp with rfl | hp
              · exact Nat.ne_of_lt lln2
              · refine Nat.ne_of_lt (hlt₆ p ?_)
                rcases List.mem_append.mp hp with hp | hp
                · exact List.mem_append.mpr (.inl hp)
                · exact List.mem_append.mpr (.inr (.tail _ hp))
          refine wpS_execs_cons (wpS_any ?_)
          k_fold
          walk_at "S"
          all_goals (try clear qk ek)
          rename Fr _ _ _ _ => F₁₆
          rename News _ _ _ _ => N₁₆
          rw [List.push_toArray] at N₁₆
          refine wpS_execs_nil ?_
          refine TurnEndC.next (vs ++ [.int ((i ^^^ q : Nat) : Int) tc], kl + 1, some (.ref kn), some (.int ((i ^^^ q : Nat) : Int) tc)) F₁₆ hoc' ?_ ?_ ?_ ?_
          · intro p hp
            refine N₁₆ p ?_
            rcases List.mem_cons.mp hp with rfl | hp
            · exact .tail _ (.tail _ (.head _))
            · rcases List.mem_cons.mp hp with rfl | hp
              · exact .tail _ (.tail _ (.tail _ (.head _)))
              · rcases List.mem_cons.mp hp with rfl | hp
                · exact .tail _ (.tail _ (.tail _ (.tail _ (.head _))))
                · exact .tail _ (.tail _ (.tail _ (.tail _ (.tail _ hp))))
          · intro p hp
            rcases List.mem_cons.mp hp with rfl | hp
            · exact hoff' (ln, listOf (List.toArray vs) kl) (.head _)
            · exact hoff' p (.tail _ hp)
          · intro z
            by_cases h1 : z = Str.ofString "value"
            · subst h1; rfl
            · by_cases h2 : z = Str.ofString "known"
              · subst h2; rfl
              · simp only [if_neg h1, if_neg h2]
          · show IntsAre (vs ++ [_]) ((nimRow i).take (q + 1))
            have e : (nimRow i).take (q + 1) = (nimRow i).take q ++ [((i ^^^ q : Nat) : Int)] := by
              have hl := nimRow_len i
              rw [List.take_succ, List.getElem?_eq_getElem (by omega)]
              have := nimRow_get i hq
              rw [List.getD_eq_getElem?_getD, List.getElem?_eq_getElem (by omega)] at this
              simp at this
              rw [this]; rfl
            rw [e]
            exact hvs.append (.cons _ _ .nil)
    case done7 =>
      rintro ⟨vs, kl, kv', vv'⟩ oc' v' h' tk₇ hvs F₈ hoc' N₈ hoff'
      change Fr g L' _ _ at F₈
      change News g L' _ _ at N₈
      dsimp only at hvs F₈ N₈ hoff'
      clear F₇ N₇ hr₇
      show wpS _ _ _ _ _ _
      have hrt : ∀ p ∈ rows ++ news, p.1 ≠ tb := fun p hp => by
        rcases List.mem_append.mp hp with hp | hp
        · exact (hroff p hp).1
        · exact htbn p hp
      have hlt' : ln ≠ tb := Nat.ne_of_gt lln2
      have hIc : L' + 1 ≠ I := hoff (L' + 1, o) (.tail _ (List.mem_append.mpr (.inr (.head _))))
      rw [List.take_of_length_le (by rw [nimRow_len]; exact Nat.le_refl _)] at hvs
      refine wpS_tk (s := s) fun tk₈ => ?_
      refine wpS_execs_cons (wpS_any ?_)
      k_fold
      walk_at "S"
      all_goals (try clear qk ek)
      rename Fr _ _ _ _ => F₉
      rename News _ _ _ _ => N₉
      rw [List.push_toArray, show List.map (fun p : Addr × Obj => Value.ref p.1) rows ++ [Value.ref ln] = List.map (fun p : Addr × Obj => Value.ref p.1) (rows ++ [(ln, listOf (List.toArray vs) kl)]) from by rw [List.map_append]; rfl] at N₉
      refine wpS_execs_nil ?_
      refine TurnEnd.next (rows ++ [(ln, listOf (List.toArray vs) kl)], kt + 1, oc', some (.ref ln), kv', vv') F₉ ?_ ?_ ?_ ?_
      · intro p hp
        refine N₉ p ?_
        rcases List.mem_cons.mp hp with rfl | hp
        · exact .tail _ (.tail _ (.head _))
        · rcases List.mem_cons.mp hp with rfl | hp
          · exact .tail _ (.tail _ (.tail _ (.head _)))
          · rcases List.mem_append.mp hp with hp | hp
            · rcases List.mem_append.mp hp with hp | hp
              · exact .tail _ (.tail _ (.tail _ (.tail _ (List.mem_append.mpr (.inl hp)))))
              · rw [List.mem_singleton.mp hp]; exact .tail _ (.head _)
            · rcases List.mem_cons.mp hp with rfl | hp
              · exact .head _
              · exact .tail _ (.tail _ (.tail _ (.tail _ (List.mem_append.mpr (.inr hp)))))
      · intro p hp
        rcases List.mem_cons.mp hp with rfl | hp
        · exact hIt
        · rcases List.mem_append.mp hp with hp | hp
          · rcases List.mem_append.mp hp with hp | hp
            · exact hoff p (.tail _ (List.mem_append.mpr (.inl hp)))
            · rw [List.mem_singleton.mp hp]; exact Nat.ne_of_gt lln1
          · rcases List.mem_cons.mp hp with rfl | hp
            · exact hIc
            · exact hoff p (.tail _ (List.mem_append.mpr (.inr (.tail _ hp))))
      · intro z hz
        by_cases h1 : z = Str.ofString "value"
        · subst h1; rfl
        · by_cases h2 : z = Str.ofString "known"
          · subst h2; rfl
          · by_cases h3 : z = Str.ofString "line"
            · subst h3; rfl
            · simp only [if_neg h1, if_neg h2, if_neg h3, if_neg hz]
      · refine ⟨by dsimp only; rw [List.length_append, hrl]; rfl, rows_snoc hrows ⟨vs, kl, rfl, by rw [hrl, Nat.zero_add]; exact hvs⟩, ⟨_, hoc'⟩, fun p hp => ?_⟩
        rcases List.mem_append.mp hp with hp | hp
        · exact hroff p hp
        · rw [List.mem_singleton.mp hp]
          exact ⟨hlt', hlt₆ _ (List.mem_append.mpr (.inr (.head _)))⟩
  case done =>
    rintro ⟨rows, kt, o, lv, kv, vv⟩ m' h tk₂ ⟨hrl, hrows, ⟨cv, hcv⟩, hroff⟩ F₅ hm N₅
    show wpS _ _ _ _ _ _
    change Fr g L' _ _ at F₅
    change News g L' _ _ at N₅
    dsimp only at hrl hrows hcv hroff N₅ hm
    refine wpS_execs_cons (wpS_Return (wpS_any (wpAny_Name (wpAny_loadName_local rfl rfl F₅.ns (by rw [hm _ (by decide)]; rfl) ?_))))
    refine leaveK_ F₅ N₅ fun Fb Nb => ?_
    refine hret tb kt rows _ _ hrl hrows (fun q hq => ⟨Nat.lt_trans (Nat.lt_succ_of_lt (hlt q hq)) ltb1, fun p hp => Nat.lt_trans (Nat.lt_succ_of_lt (hlt q hq)) (hroff p hp).2⟩) Fb fun p hp => Nb p ?_
    rcases List.mem_cons.mp hp with rfl | hp
    · exact .head _
    · rcases List.mem_append.mp hp with hp | hp
      · exact .tail _ (List.mem_append.mpr (.inl hp))
      · exact .tail _ (List.mem_append.mpr (.inr (.tail _ hp)))
end
end Mine
set_option maxRecDepth 100000
open PySem PySem.W PySem.Calls PyProof.Rows
namespace Mine
/-! ## the plain law of 03 -/
theorem flat_get {n : Nat} : ∀ {ws : List (List UInt8)}, (∀ b ∈ ws, b.length = n) → ∀ {p r : Nat}, r < n → p < ws.length → ws.flatten.getD (p * n + r) 0 = (ws.getD p []).getD r 0
  | [], _, _, _, _, hp => absurd hp (Nat.not_lt_zero _)
  | b :: ws, h, 0, r, hr, _ => by
    have hb := h b (.head _)
    simp only [List.flatten_cons, Nat.zero_mul, Nat.zero_add, List.getD_cons_zero]
    rw [List.getD_eq_getElem?_getD, List.getElem?_append_left (by omega), ← List.getD_eq_getElem?_getD]
  | b :: ws, h, p + 1, r, hr, hp => by
    have hb := h b (.head _)
    have ih := flat_get (fun c hc => h c (.tail _ hc)) (p := p) hr (by simpa using hp)
    rw [List.flatten_cons, List.getD_cons_succ, ← ih, List.getD_eq_getElem?_getD, List.getElem?_append_right (by rw [Nat.succ_mul]; omega), ← List.getD_eq_getElem?_getD]
    congr 1
    rw [Nat.succ_mul]; omega
/-- the words, each block of k of them read backwards -/
def blockRev (k : Nat) (ws : List (List UInt8)) : List (List UInt8) := (List.range ws.length).map fun p => ws.getD (p / k * k + (k - 1 - p % k)) []
theorem swapL_getD {b : List UInt8} {n x : Nat} (h : x < b.length) : (swapL b n).getD x 0 = b.getD (x / n * n + (n - 1 - x % n)) 0 := by
  rw [List.getD_eq_getElem?_getD, List.getElem?_eq_getElem (by rw [swapL_length]; exact h)]
  simp only [swapL, List.getElem_map, List.getElem_range, Option.getD_some]
  rfl
theorem ext_getD {a b : List UInt8} (hl : a.length = b.length) (h : ∀ x < a.length, a.getD x 0 = b.getD x 0) : a = b := by
  apply List.ext_getElem hl
  intro x h1 h2
  have := h x h1
  rw [List.getD_eq_getElem?_getD, List.getD_eq_getElem?_getD, List.getElem?_eq_getElem h1, List.getElem?_eq_getElem h2] at this
  exact this
theorem idx_lt {k p : Nat} (hk : k = 2 ∨ k = 4 ∨ k = 8) (hp : p < 8) : p / k * k + (k - 1 - p % k) < 8 := by
  rcases hk with rfl | rfl | rfl <;> omega
theorem blockRev_len {k : Nat} {ws : List (List UInt8)} : (blockRev k ws).length = ws.length := by simp [blockRev]
theorem blockRev_get {k p : Nat} {ws : List (List UInt8)} (hp : p < ws.length) : (blockRev k ws).getD p [] = ws.getD (p / k * k + (k - 1 - p % k)) [] := by
  unfold blockRev
  rw [List.getD_eq_getElem?_getD, List.getElem?_map, List.getElem?_range hp]; rfl
theorem blockRev_all {n k : Nat} {ws : List (List UInt8)} (h : ∀ b ∈ ws, b.length = n) (hl : ws.length = 8) (hk : k = 2 ∨ k = 4 ∨ k = 8) : ∀ b ∈ blockRev k ws, b.length = n := by
  intro b hb
  unfold blockRev at hb
  obtain ⟨p, hp, rfl⟩ := List.mem_map.mp hb
  rw [List.mem_range, hl] at hp
  have hi := idx_lt hk hp
  rw [List.getD_eq_getElem?_getD, List.getElem?_eq_getElem (by omega)]
  exact h _ (List.getElem_mem _)
theorem turn_flat {n k : Nat} {ws : List (List UInt8)} (h : ∀ b ∈ ws, b.length = n) (hl : ws.length = 8) (hn : 1 ≤ n) (hn3 : n ≤ 3) (hk : k = 2 ∨ k = 4 ∨ k = 8) :
    swapL (swapL ws.flatten n) (n * k) = (blockRev k ws).flatten := by
  have hf : ws.flatten.length = 8 * n := by rw [flat_len h, hl]
  have hg : (blockRev k ws).flatten.length = 8 * n := by rw [flat_len (blockRev_all h hl hk), blockRev_len, hl]
  apply ext_getD (by rw [swapL_length, swapL_length, hf, hg])
  intro x hx
  rw [swapL_length, swapL_length, hf] at hx
  have hy : x / (n * k) * (n * k) + (n * k - 1 - x % (n * k)) < 8 * n ∧ (x / (n * k) * (n * k) + (n * k - 1 - x % (n * k))) / n * n + (n - 1 - (x / (n * k) * (n * k) + (n * k - 1 - x % (n * k))) % n) = (x / n / k * k + (k - 1 - x / n % k)) * n + x % n ∧ x / n < 8 ∧ x % n < n ∧ x = x / n * n + x % n := by
    rcases (by omega : n = 1 ∨ n = 2 ∨ n = 3) with rfl | rfl | rfl <;> rcases hk with rfl | rfl | rfl <;> omega
  obtain ⟨hy1, hy2, hp, hr, hxe⟩ := hy
  rw [swapL_getD (by rw [swapL_length, hf]; exact hx), swapL_getD (by rw [hf]; exact hy1), hy2]
  rw [flat_get h hr (by rw [hl]; exact idx_lt hk hp)]
  conv => rhs; rw [hxe]
  rw [flat_get (blockRev_all h hl hk) hr (by rw [blockRev_len, hl]; exact hp), blockRev_get (by rw [hl]; exact hp)]
/-- the words as they stand after turn t -/
def permW (bs : List (List UInt8)) (t : Nat) : List (List UInt8) := (List.range 8).map fun p => bs.getD (p ^^^ t) []
theorem permW_len (bs : List (List UInt8)) (t : Nat) : (permW bs t).length = 8 := by simp [permW]
theorem permW_get {bs : List (List UInt8)} {t p : Nat} (hp : p < 8) : (permW bs t).getD p [] = bs.getD (p ^^^ t) [] := by
  unfold permW
  rw [List.getD_eq_getElem?_getD, List.getElem?_map, List.getElem?_range hp]; rfl
theorem ext_words {a b : List (List UInt8)} (ha : a.length = 8) (hb : b.length = 8) (h : ∀ p < 8, a.getD p [] = b.getD p []) : a = b := by
  apply List.ext_getElem (by omega)
  intro x h1 h2
  have := h x (by omega)
  rw [List.getD_eq_getElem?_getD, List.getD_eq_getElem?_getD, List.getElem?_eq_getElem h1, List.getElem?_eq_getElem h2] at this
  exact this
theorem permW_zero {bs : List (List UInt8)} (hl : bs.length = 8) : permW bs 0 = bs :=
  ext_words (permW_len _ _) hl fun p hp => by rw [permW_get hp, Nat.xor_zero]
def blk (t : Nat) : Nat := if t % 4 = 0 then 8 else if t % 2 = 0 then 4 else 2
theorem blk_is (t : Nat) : blk t = 2 ∨ blk t = 4 ∨ blk t = 8 := by unfold blk; split <;> (try split) <;> simp
def idxB : Bool := (List.range 8).all fun p => (List.range 7).all fun t => decide ((p / blk (t + 1) * blk (t + 1) + (blk (t + 1) - 1 - p % blk (t + 1))) ^^^ t = p ^^^ (t + 1))
theorem idx_all : idxB = true := by decide +kernel
theorem permW_next {bs : List (List UInt8)} {t : Nat} (ht : t < 7) : blockRev (blk (t + 1)) (permW bs t) = permW bs (t + 1) := by
  refine ext_words (by rw [blockRev_len, permW_len]) (permW_len _ _) fun p hp => ?_
  have hi := idx_lt (blk_is (t + 1)) hp
  have e := of_decide_eq_true (List.all_eq_true.mp (List.all_eq_true.mp idx_all p (List.mem_range.mpr hp)) t (List.mem_range.mpr ht))
  rw [blockRev_get (by rw [permW_len]; exact hp), permW_get hi, permW_get hp, e]
def idx8 : Bool := (List.range 8).all fun p => decide ((p / 8 * 8 + (8 - 1 - p % 8)) ^^^ 7 = p)
theorem idx8_all : idx8 = true := by decide +kernel
theorem permW_last {bs : List (List UInt8)} (hl : bs.length = 8) : blockRev 8 (permW bs 7) = bs := by
  refine ext_words (by rw [blockRev_len, permW_len]) hl fun p hp => ?_
  have hi := idx_lt (k := 8) (.inr (.inr rfl)) hp
  have e := of_decide_eq_true (List.all_eq_true.mp idx8_all p (List.mem_range.mpr hp))
  rw [blockRev_get (by rw [permW_len]; exact hp), permW_get hi, e]
theorem xor_lt8 {p t : Nat} (hp : p < 8) (ht : t < 8) : p ^^^ t < 8 := Nat.xor_lt_two_pow (n := 3) hp ht
theorem permW_all {n t : Nat} {bs : List (List UInt8)} (h : ∀ b ∈ bs, b.length = n) (hl : bs.length = 8) (ht : t < 8) : ∀ b ∈ permW bs t, b.length = n := by
  intro b hb
  obtain ⟨p, hp, rfl⟩ := List.mem_map.mp hb
  rw [List.mem_range] at hp
  have := xor_lt8 hp ht
  rw [List.getD_eq_getElem?_getD, List.getElem?_eq_getElem (by omega)]
  exact h _ (List.getElem_mem _)
theorem clip_in {N : Nat} {i : Int} {k : Nat} (hi : i = (k : Int)) (hk : k ≤ N) : clipAt N i = k := by
  subst hi; unfold clipAt; rw [if_neg (by omega)]; omega
theorem flat_cut {n : Nat} : ∀ {ws : List (List UInt8)}, (∀ b ∈ ws, b.length = n) → ∀ {j : Nat}, j < ws.length → (ws.flatten.drop (n * j)).take n = ws.getD j []
  | [], _, _, hj => absurd hj (Nat.not_lt_zero _)
  | b :: ws, h, 0, _ => by
    have hb := h b (.head _)
    rw [Nat.mul_zero, List.drop_zero, List.flatten_cons, List.take_append_of_le_length (by omega), List.take_of_length_le (by omega), List.getD_cons_zero]
  | b :: ws, h, j + 1, hj => by
    have hb := h b (.head _)
    rw [List.flatten_cons, List.getD_cons_succ, ← flat_cut (fun c hc => h c (.tail _ hc)) (j := j) (by simpa using hj), Nat.mul_succ, List.drop_append, List.drop_eq_nil_of_le (by omega), List.nil_append, hb, Nat.add_sub_cancel]
theorem cut_word {n : Nat} {ws : List (List UInt8)} (h : ∀ b ∈ ws, b.length = n) {j : Nat} (hj : j < ws.length) {lo hi : Int} (hlo : lo = ((n * j : Nat) : Int)) (hhi : hi = ((n * j + n : Nat) : Int)) :
    (ws.flatten.drop ((some lo).elim 0 (clipAt ws.flatten.length))).take ((some hi).elim ws.flatten.length (clipAt ws.flatten.length) - (some lo).elim 0 (clipAt ws.flatten.length)) = ws.getD j [] := by
  have hf := flat_len h
  have hle : n * j + n ≤ ws.flatten.length := by
    rw [hf, ← Nat.mul_succ, Nat.mul_comm]; exact Nat.mul_le_mul_right _ hj
  simp only [Option.elim_some]
  rw [clip_in hlo (by omega), clip_in hhi hle, Nat.add_sub_cancel_left, flat_cut h hj]
end Mine
set_option maxRecDepth 100000
set_option Elab.async false
open PySem PySem.W PySem.Calls PyProof.Rows
namespace Mine
local macro_rules | `(tactic| walk_at "S") => `(tactic| repeat' (first | (k_unfold; (try dsimp only)) | walk1 | (dsimp only; walk1)))
local macro_rules | `(tactic| walk_at "mp") => `(tactic| (intro z; (try intro hz); (try dsimp only); (repeat' split) <;> first | rfl | contradiction | (exfalso; subst_vars; (rename (_ : Str) = _ => hq9); exact absurd hq9 (by decide)) | (subst_vars; rfl) | (simp_all; done)))
local macro_rules | `(tactic| walk_at "subscriptTail") => `(tactic| (k_here; (with_reducible show wpAny _ _ (subscriptTail _ _ (Value.bytes (List.toArray _) _) (Value.int _ _)) _ _ _); refine bytes_item (by omega) (by omega) (by omega) ?_))
local macro_rules | `(tactic| walk_at "subscriptTail") => `(tactic| (k_here; (with_reducible show wpAny _ _ (subscriptTail _ (Expr.Slice _ _ none _) (Value.bytes (List.toArray _) _) (Value.ref _)) _ _ _); (with_reducible rename Fr _ _ _ _ => F'); (with_reducible rename News _ _ _ _ => N'); (refine bytes_cut (s := ⟨_, _, _, _, _⟩) F' N' (by constructor) (by constructor) (by omega) ?_); intro _ _ _ _ _; (try k_sweep)))
local macro_rules | `(tactic| walk_at "binaryOp Add bytes bytes") => `(tactic| (k_here; (with_reducible show wpAny _ _ (binaryOp Operator.Add (Value.bytes (List.toArray _) _) (Value.bytes (List.toArray _) _)) _ _ _); refine bytes_add_K (by (simp only [List.size_toArray, List.length_reverse, List.length_take, List.length_append, List.length_cons, List.length_nil]; omega)) rfl ?_; intro _ _))
local macro_rules | `(tactic| walk_at "subscriptTail List cons Slice ref ref") => `(tactic| (k_here; k_dflt (refine kba_turn (value' := PySem.Expr.Name (PySem.Str.ofString "_") ⟨0, 0, 0, 0⟩) (fun _ => rfl) ?_); k_dflt (refine' kmk_slice_ints ?F ?N ?l ?p ?q ?i ?m ?c ?_ ?s ?t ?z; (case F => k_asm); (case N => k_asm); (case l => kmk_list); (case p => kmk_part); (case q => kmk_part); (case i => l_ints); (case m => exact kmk_from (by l_ints) (by kmk_sign)); (case c => exact List.length_drop ..); (case s => with_unfolding_all rfl); (case t => kmk_pure); (case z => kmk_size)); intro D' ws' h' F' N' l1 hI' hC' hL'; (try k_lt l1); (try k_sweep)))
local macro_rules | `(tactic| walk_at "binaryOp Add ref ref") => `(tactic| (k_here; (with_reducible show wpAny _ _ (binaryOp _ (Value.ref _) (Value.ref _)) _ _ _); k_dflt (refine' kmk_add_ints ?F ?N ?a ?b ?i ?j ?_ ?z; (case F => k_asm); (case N => k_asm); (case a => kmk_list); (case b => kmk_list); (case i => l_ints); (case j => l_ints); (case z => kmk_sum)); intro D' ws' h' F' N' l1 hI'; (try k_lt l1); (try k_sweep)))
local macro_rules | `(tactic| k_all) => `(tactic| assumption)
local macro_rules | `(tactic| k_ne) => `(tactic| first | assumption | exact Ne.symm (by assumption))

local macro_rules | `(tactic| walk_at "eval ListComp") => `(tactic| (k_here; (with_reducible show wpAny _ _ (eval (Expr.ListComp (Expr.Call _ _ _ _) _ _ _) _) _ _ _); refine halt ?_))
local macro_rules | `(tactic| walk_at "eval ListComp") => `(tactic| (k_here; (with_reducible show wpAny _ _ (eval (Expr.ListComp (Expr.Subscript _ _ _) _ _ _) _) _ _ _); refine halt ?_))
local macro_rules | `(tactic| walk_at "CompSrc") => `(tactic| (k_here; (with_reducible show LCg.CompSrc _ _ _ _ _ _ _ (Expr.Subscript _ _ _) _ _ _ _ _ _); refine halt ?_))
local macro_rules | `(tactic| walk_at "getMethod bytes") => `(tactic| (k_here; (with_reducible show wpAny _ _ (getMethod (Value.bytes _ _) _ _) _ _ _); refine get_join ?_))
local macro_rules | `(tactic| walk_at "call builtin:bytes.join") => `(tactic| (k_here; refine halt ?_))
section
variable {prog : Program} {w : World} {p : Program} {loose : List Str} {mean : ExcName → Option Value} {mg mb : Str → Option Value} {s : Shared} {R : Result → Shared → Prop}
set_option maxHeartbeats 8000000 in
theorem law_S {l : Addr} {vs : List Value} {ns : List Int} (X : (MineH.hd.heap_39 w.params).In s.heap) (T : Top p loose mean mg mb s.heap) (hl : s.heap.IsList l vs.toArray) (hi : IntsAre vs ns) (hz : ns.length ≤ 63)
    (hret : ∀ h' tk' L m, Fr s.heap L h' m → R (.ok (.ret (.bool true))) { s with heap := h', toks := tk' }) :
    codeS (model prog w) callerA (.call (.ref 52) ⟨[.ref l], []⟩) R s := by
  w_top off
  have hfill : PySem.Challenge.rw_ny0470_03 = PySem.Challenge.rw_ny0470_03 ∧ MineH.hd.heap_39 = MineH.hd.heap_39 := by k_fill; exact ⟨rfl, rfl⟩
  clear hfill
  have B := below_caller s.heap
  k_dflt (refine' code_topCS (binds := [(Str.ofString "script", .ref l)]) (fun n => [(Str.ofString "laid", n + 1 + 1 + 1), (Str.ofString "words", n + 1 + 1), (Str.ofString "width", n + 1)]) X T ?k6 ?k7 ?k8 ?k9 ?kB ?kD ?kC ?_ ?c2 ?c3 ?c4; (case k6 => k_is); (case k7 => k_is); (case k8 => decide); (case k9 => exact BindsTo.of_eq rfl); (case kB => exact rfl); (case kD => decide +kernel); (case kC => exact fun _ => rfl); (case c2 => exact rfl); (case c3 => exact rfl); (case c4 => exact rfl))
  intro L' h₁ tk₁ cells hL' F' N' Y'
  obtain ⟨oc3, oc2, oc1, hE', dc3, dc2, dc1⟩ := CellsAre.three Y'
  subst hE'
  clear Y'
  change Fr s.heap L' h₁ (fun y => if y = Str.ofString "script" then some (.ref l) else none) at F'
  change oc1.data = .cell none at dc1
  change oc2.data = .cell none at dc2
  change oc3.data = .cell none at dc3
  refine wpS_execs_cons (wpS_any ?_)
  k_fold
  walk_at "S"
  all_goals (try clear qk ek)
  refine wpS_execs_cons (wpS_any ?_)
  k_fold
  walk_at "S"
  all_goals (try clear qk ek)
  refine wpS_execs_cons (wpS_any ?_)
  k_fold
  walk_at "S"
  all_goals (try clear qk ek)
  rename Fr _ _ _ _ => F₂a
  rename News _ _ _ _ => N₂
  rename IntsAre _ (_ ++ _) => hI
  rename_i hh7 hI3 hC3 hL3 l3 hkl1 hkl0 gg ys hI8 hL8 D2 hh6 tk6 o16 la hh5 l12 D1 ws1 hh4 hI1 hC1 hL1 l11 D ws hh3 l10 hh2 hh1 tk' t' hh0 oo dda
  have hlenD : (List.map (fun k' => Int.fmod k' (10 ^ Int.toNat 6)) (List.take 8 ns) ++ List.drop (((List.map (fun k' => Int.fmod k' (10 ^ Int.toNat 6)) (List.take 8 ns)).length : Nat) : Int).toNat [0, 3, 6, 9, 12, 15, 18, 21]).length = 8 := by
    rw [List.length_append, List.length_drop, List.length_map, List.length_take]
    simp only [List.length_cons, List.length_nil]
    omega
  have N₃ : News s.heap L' hh0 [(D, listOf ws.toArray 0), (L' + 1 + 1 + 1, oc3), (L' + 1 + 1, oc2), (L' + 1, oo)] := fun p hp => N₂ p (by
    simp only [List.mem_cons, List.not_mem_nil, or_false] at hp ⊢
    rcases hp with rfl | rfl | rfl | rfl <;> simp)
  have hLD : L' + 1 < D ∧ L' + 1 + 1 < D ∧ L' + 1 + 1 + 1 < D := by omega
  clear N₂ hI3 hC3 hL3 l3 hkl1 hkl0 hI8 hL8 o16 l12 hI1 hC1 hL1 l11 l10 dc1
  generalize hcs : List.map (fun k' => Int.fmod k' (10 ^ Int.toNat 6)) (List.take 8 ns) ++ List.drop (((List.map (fun k' => Int.fmod k' (10 ^ Int.toNat 6)) (List.take 8 ns)).length : Nat) : Int).toNat [0, 3, 6, 9, 12, 15, 18, 21] = cs at *
  clear hcs
  obtain ⟨to, dd⟩ : ∃ to, oo.data = .cell (some (.int (1 + (cs.sum + 1).fmod 3) to)) := ⟨_, dda⟩
  have F₂ : Fr s.heap L' hh0 (fun y => if y = Str.ofString "cells" then some (.ref D) else if y = Str.ofString "drawn" then some (.ref D2) else if y = Str.ofString "script" then some (.ref l) else none) := F₂a
  clear F₂a dda
  have hw0 : 0 ≤ (cs.sum + 1).fmod 3 := Int.fmod_nonneg_of_pos _ (by decide)
  have hw1 : (cs.sum + 1).fmod 3 < 3 := Int.fmod_lt_of_pos _ (by decide)
  obtain ⟨n, hn1, hn3, hn⟩ : ∃ n : Nat, 1 ≤ n ∧ n ≤ 3 ∧ 1 + (cs.sum + 1).fmod 3 = (n : Int) := ⟨(1 + (cs.sum + 1).fmod 3).toNat, by omega, by omega, by omega⟩
  rw [hn] at dd
  clear hn hw0 hw1
  refine wpS_tk (s := s) (h' := hh0) fun tk => ?_
  refine wpS_execs_cons ?_
  have hws : ws.length = 8 := by rw [hI.length]; exact hlenD
  refine wpS_any ?_
  k_fold
  walk_at "S"
  all_goals (try clear qk ek)
  show wpAny _ _ _ _ _ _
  refine LCg.ListComp_U F₂ rfl (by decide) rfl (by decide) rfl ?_
  refine wpAny_Name (wpAny_loadName_local rfl rfl F₂.ns rfl ?_)
  refine LCg.CompSrc.ledger rfl F₂ N₃ (.head _) (by rw [List.size_toArray, hws]; decide) fun gg => ?_
  refine comp_turns (fun _ y => ∃ (b : List UInt8) (t : Tok), y = .bytes b.toArray t ∧ b.length = n) (.inr ⟨_, .head _, rfl, _, rfl⟩) ?_ ?_
  · intro i v I oI C oC D₃ m₂ h tk₃ E' ys₃ hi hP hC hx F₄ N₄ off ne
    clear F₂ N₃ qk ek
    obtain ⟨u, rfl⟩ := hI.int_at i v (by simpa using hP)
    generalize cs.getD i 0 = z at *
    rcases (by omega : n = 1 ∨ n = 2 ∨ n = 3) with rfl | rfl | rfl
    · change oo.data = .cell (some (.int 1 to)) at dd
      k_fold
      walk_at "S"
      all_goals (try clear qk ek)
      rename Fr _ _ _ _ => F₅
      rename News _ _ _ _ => N₅
      refine KBa.make_K (vs := [_]) (ns := [_]) F₅ N₅ rfl (News.isList N₅ (.head _)) (.cons _ _ .nil) (by intro k hk; simp only [List.mem_cons, List.not_mem_nil, or_false] at hk; rcases hk with rfl <;> exact ⟨Int.fmod_nonneg_of_pos _ (by decide), Int.fmod_lt_of_pos _ (by decide)⟩) (by show _ ≤ _; simp) ?_
      intro h₆ t₆ k₆ F₆ N₆ hin₆
      clear F₅ N₅
      walk_at "S"
      rename Fr _ _ _ _ => F₇
      rename News _ _ _ _ => N₇
      exact EltEnd.mk F₇ N₇ (fun p hp => by first | exact hp | exact List.mem_cons_of_mem _ hp) ⟨_, t₆, rfl, rfl⟩
    · change oo.data = .cell (some (.int 2 to)) at dd
      k_fold
      walk_at "S"
      all_goals (try clear qk ek)
      rename Fr _ _ _ _ => F₅
      rename News _ _ _ _ => N₅
      refine KBa.make_K (vs := [_, _]) (ns := [_, _]) F₅ N₅ rfl (News.isList N₅ (.head _)) (.cons _ _ (.cons _ _ .nil)) (by intro k hk; simp only [List.mem_cons, List.not_mem_nil, or_false] at hk; rcases hk with rfl | rfl <;> exact ⟨Int.fmod_nonneg_of_pos _ (by decide), Int.fmod_lt_of_pos _ (by decide)⟩) (by show _ ≤ _; simp) ?_
      intro h₆ t₆ k₆ F₆ N₆ hin₆
      clear F₅ N₅
      walk_at "S"
      rename Fr _ _ _ _ => F₇
      rename News _ _ _ _ => N₇
      exact EltEnd.mk F₇ N₇ (fun p hp => by first | exact hp | exact List.mem_cons_of_mem _ hp) ⟨_, t₆, rfl, rfl⟩
    · change oo.data = .cell (some (.int 3 to)) at dd
      k_fold
      walk_at "S"
      all_goals (try clear qk ek)
      rename Fr _ _ _ _ => F₅
      rename News _ _ _ _ => N₅
      refine KBa.make_K (vs := [_, _, _]) (ns := [_, _, _]) F₅ N₅ rfl (News.isList N₅ (.head _)) (.cons _ _ (.cons _ _ (.cons _ _ .nil))) (by intro k hk; simp only [List.mem_cons, List.not_mem_nil, or_false] at hk; rcases hk with rfl | rfl | rfl <;> exact ⟨Int.fmod_nonneg_of_pos _ (by decide), Int.fmod_lt_of_pos _ (by decide)⟩) (by show _ ≤ _; simp) ?_
      intro h₆ t₆ k₆ F₆ N₆ hin₆
      clear F₅ N₅
      walk_at "S"
      rename Fr _ _ _ _ => F₇
      rename News _ _ _ _ => N₇
      exact EltEnd.mk F₇ N₇ (fun p hp => by first | exact hp | exact List.mem_cons_of_mem _ hp) ⟨_, t₆, rfl, rfl⟩
  · intro ys₃ hy hG D₃ h tk₃ F₄ N₄ off
    clear F₂ N₃
    obtain ⟨of1, of2, of3, of4, _⟩ := off
    dsimp only at of1 of2 of3 of4
    walk_at "S"
    all_goals (try clear qk ek)
    obtain ⟨bs, hbs, hbl, hbn⟩ := bys_of hG
    rw [hy] at hbl
    have hbl8 : bs.length = 8 := by rw [hbl, List.size_toArray, hws]
    have hflat := flat_len hbn
    rename Fr _ _ _ _ => F₅
    rename News _ _ _ _ => N₅
    rename_i hh5 oow dw
    refine wpS_execs_cons (wpS_any ?_)
    k_fold
    walk_at "S"
    all_goals (try clear qk ek)
    show wpAny _ _ _ _ _ _
    refine call_join (s := ⟨_, _, _, _, _⟩) (n := ys₃.length) (N₅ _ (.head _)).1 hbs (by omega) (by rw [hflat, hbl8]; omega) fun t₆ k₆ => ?_
    walk_at "S"
    all_goals (try clear qk ek)
    rename Fr _ _ _ _ => F₆
    rename News _ _ _ _ => N₆
    rename_i hh6 ol dl
    refine wpS_tk (s := s) (h' := hh6) fun tk₆ => ?_
    have N₇ : News s.heap L' hh6 [(D₃, listOf (List.toArray ys₃) ys₃.length), (L' + 1 + 1 + 1, ol), (L' + 1 + 1, oow), (L' + 1, oo)] := fun p hp => N₆ p (by
      simp only [List.mem_cons, List.not_mem_nil, or_false] at hp ⊢
      rcases hp with rfl | rfl | rfl | rfl <;> simp [PySem.W.listOf])
    clear N₆
    refine wpS_execs_cons (wpS_Assign_Name (wpS_Call_K (K := MineH.hd.heap_39 w.params) (f := .ref 47) (by k_is) ?_))
    k_fold
    walk_at "S"
    all_goals (try clear qk ek)
    refine wpS_any ?_
    k_fold
    walk_at "S"
    all_goals (try clear qk ek)
    refine least_S B F₆ X N₇ T rfl (by decide) fun tb kt rows h₇ tk₇ hrl hrows hrlt F₈ N₈ => ?_
    clear F₆ N₇
    k_sweep
    show wpAny _ _ _ _ _ _
    k_fold
    walk_at "S"
    all_goals (try clear qk ek)
    rename Fr _ _ _ _ => F₉
    rename News _ _ _ _ => N₉a
    rename_i hh8
    have N₉ : News s.heap L' hh8 ((L' + 1 + 1 + 1, ol) :: (L' + 1 + 1, oow) :: (L' + 1, oo) :: (D₃, listOf (List.toArray ys₃) ys₃.length) :: (tb, listOf (List.toArray (rows.map fun p => Value.ref p.1)) kt) :: rows) := fun p hp => N₉a p (by
      rcases List.mem_cons.mp hp with rfl | hp
      · exact .tail _ (List.mem_append.mpr (.inr (.tail _ (.head _))))
      · rcases List.mem_cons.mp hp with rfl | hp
        · exact .tail _ (List.mem_append.mpr (.inr (.tail _ (.tail _ (.head _)))))
        · rcases List.mem_cons.mp hp with rfl | hp
          · exact .tail _ (List.mem_append.mpr (.inr (.tail _ (.tail _ (.tail _ (.head _))))))
          · rcases List.mem_cons.mp hp with rfl | hp
            · exact .tail _ (List.mem_append.mpr (.inr (.head _)))
            · rcases List.mem_cons.mp hp with rfl | hp
              · exact .head _
              · exact .tail _ (List.mem_append.mpr (.inl hp)))
    have hoffR : ∀ p ∈ (L' + 1 + 1, oow) :: (L' + 1, oo) :: (D₃, listOf (List.toArray ys₃) ys₃.length) :: (tb, listOf (List.toArray (rows.map fun p => Value.ref p.1)) kt) :: rows, p.1 ≠ L' + 1 + 1 + 1 := fun p hp => by
      have hq := hrlt (L' + 1 + 1 + 1, ol) (.tail _ (.head _))
      rcases List.mem_cons.mp hp with rfl | hp
      · exact Nat.ne_of_lt (Nat.lt_succ_self _)
      · rcases List.mem_cons.mp hp with rfl | hp
        · exact Nat.ne_of_lt (Nat.lt_succ_of_lt (Nat.lt_succ_self _))
        · rcases List.mem_cons.mp hp with rfl | hp
          · exact Ne.symm of2
          · rcases List.mem_cons.mp hp with rfl | hp
            · exact Nat.ne_of_gt hq.1
            · exact Nat.ne_of_gt (hq.2 p hp)
    clear N₉a hrlt
    have dww : oow.data = Data.cell (some (Value.ref D₃)) := dw
    refine wpS_tk (s := s) (h' := hh8) fun tk₉ => ?_
    refine wpS_execs_cons (wpS_For ?_)
    refine wpS_any ?_
    k_fold
    walk_at "S"
    all_goals (try clear qk ek)
    rename Fr _ _ _ _ => F₁₀
    rename News _ _ _ _ => N₁₀
    rename IsRange _ _ _ _ _ _ _ _ => hr₁₀
    refine forRangeS (σ := List UInt8 × Obj × Option Value) (n := 8) rfl hr₁₀ (by decide) (by decide) rfl rfl
      (fun i c => c.1 = (permW bs (i - 1)).flatten ∧ ∃ t, c.2.1.data = .cell (some (.bytes c.1.toArray t)))
      (fun c y => if y = Str.ofString "standing" then c.2.2 else if y = Str.ofString "told" then some (.ref tb) else if y = Str.ofString "cells" then some (.ref D) else if y = Str.ofString "drawn" then some (.ref D2) else if y = Str.ofString "script" then some (.ref l) else none)
      (fun c => (L' + 1 + 1 + 1, c.2.1) :: (L' + 1 + 1, oow) :: (L' + 1, oo) :: (D₃, listOf (List.toArray ys₃) ys₃.length) :: (tb, listOf (List.toArray (rows.map fun p => Value.ref p.1)) kt) :: rows) (bs.flatten, ol, none) F₁₀ N₁₀ ?mp ?i0 ?turn ?done
    case mp =>
      intro z hz
      by_cases h1 : z = Str.ofString "standing"
      · subst h1; rfl
      · simp only [if_neg h1]
    case i0 => exact ⟨by rw [permW_zero hbl8], _, dl⟩
    case turn =>
      rintro i ⟨lb, o, sv⟩ I it t h tk₂ hi ⟨hlb, tl, hol⟩ hoff F₅ N₅
      change Fr s.heap L' _ _ at F₅
      change News s.heap L' _ _ at N₅
      dsimp only at hlb hol hoff F₅ N₅
      clear F₁₀ N₁₀ hr₁₀ dl
      refine wpS_execs_cons (wpS_cutS (fun f h' => f = Flow.next ∧ ∃ o' t', o'.data = .cell (some (.bytes (permW bs i).flatten.toArray t')) ∧
        Fr s.heap L' h' (fun y => if y = Str.ofString "turn" then some (.int (0 + (i : Int) * 1) t) else if y = Str.ofString "standing" then sv else if y = Str.ofString "told" then some (.ref tb) else if y = Str.ofString "cells" then some (.ref D) else if y = Str.ofString "drawn" then some (.ref D2) else if y = Str.ofString "script" then some (.ref l) else none) ∧
        News s.heap L' h' ((I, it) :: (L' + 1 + 1 + 1, o') :: (L' + 1 + 1, oow) :: (L' + 1, oo) :: (D₃, listOf (List.toArray ys₃) ys₃.length) :: (tb, listOf (List.toArray (rows.map fun p => Value.ref p.1)) kt) :: rows)) ?_ ?_)
      · refine wpS_If ?_
        refine wpS_any ?_
        k_fold
        walk_at "S"
        all_goals (try clear qk ek)
        · have hi0 : 1 ≤ i := by omega
          have hlbl : lb.length = 8 * n := by rw [hlb, flat_len (permW_all hbn hbl8 (by omega)), permW_len]
          have hbk : n * blk i ∣ lb.length := by
            rw [hlbl]
            rcases blk_is i with e | e | e <;> rw [e]
            · exact ⟨4, by omega⟩
            · exact ⟨2, by omega⟩
            · exact ⟨1, by omega⟩
          have hbk1 : 1 ≤ blk i := by rcases blk_is i with e | e | e <;> omega
          have hbk8 : n * blk i ≤ 1000 := by rcases blk_is i with e | e | e <;> rw [e] <;> omega
          refine wpS_execs_cons (wpS_Assign_Name (wpS_Call_K (K := MineH.hd.heap_39 w.params) (f := .ref 35) (by k_is) ?_))
          k_fold
          walk_at "S"
          all_goals (try clear qk ek)
          refine wpS_spliced_cons ?_
          rw [if_neg Bool.false_ne_true]
          refine wpS_any ?_
          k_fold
          walk_at "S"
          all_goals (try clear qk ek)
          refine wpS_spliced_cons ?_
          rw [if_neg Bool.false_ne_true]
          refine wpS_any ?_
          k_fold
          walk_at "S"
          all_goals (try clear qk ek)
          refine wpS_spliced_cons ?_
          refine wpS_Call_K (K := MineH.hd.heap_39 w.params) (f := .ref 42) (by k_is) ?_
          k_fold
          walk_at "S"
          all_goals (try clear qk ek)
          refine wpS_any ?_
          k_fold
          walk_at "S"
          all_goals (try clear qk ek)
          refine wpS_eq (t' := call (.ref 42) [.int ((i : Nat) : Int) t]) (by rw [show (0 + (i : Int) * 1) = ((i : Nat) : Int) from by omega]) ?_
          refine block_S B F₅ X N₅ T rfl (by decide) hi0 (by omega) fun k tk4 h₄ tk₄ hk F₆ N₆ => ?_
          rw [show k = blk i from hk]
          clear F₅ N₅
          k_sweep
          refine wpS_any ?_
          k_fold
          walk_at "S"
          all_goals (try clear qk ek)
          refine turned_S B F₆ X N₆ T rfl (by decide) hn1 hbk1 hbk (by omega) hbk8 (by omega) fun t5 h₅ tk₅ F₇ N₇ => ?_
          clear F₆ N₆
          refine wpAny_storeName_cell rfl rfl rfl ⟨o, (N₇ _ (.tail _ (.head _))).1, hol⟩ fun h₆ ⟨o₆, hg₆, hd₆⟩ hs₆ => ?_
          show wpS _ _ _ _ _ _
          have hnc := N₇ _ (.tail _ (.head _))
          refine wpS_execs_nil (CutEnd.mk ⟨rfl, o₆, t5, ?_, F₇.change hs₆ hnc.2.1 hnc.2.2, fun p hp => ?_⟩)
          · obtain ⟨j, rfl⟩ : ∃ j, i = j + 1 := ⟨i - 1, by omega⟩
            rw [hd₆, hlb, Nat.add_sub_cancel, turn_flat (permW_all hbn hbl8 (by omega)) (permW_len _ _) hn1 hn3 (blk_is _), permW_next (by omega)]
          · rcases List.mem_cons.mp hp with rfl | hp
            · exact ⟨hs₆.extBut _ _ (Ne.symm (hoff _ (.head _))) (N₇ _ (.head _)).1, (N₇ _ (.head _)).2⟩
            · rcases List.mem_cons.mp hp with rfl | hp
              · exact ⟨hg₆, hnc.2⟩
              · exact ⟨hs₆.extBut _ _ (hoffR p hp) (N₇ p (.tail _ (.tail _ hp))).1, (N₇ p (.tail _ (.tail _ hp))).2⟩
        · refine wpS_execs_nil (CutEnd.mk ⟨rfl, o, tl, ?_, F₅, N₅⟩)
          obtain rfl : i = 0 := by omega
          rw [← hlb]; exact hol
      · rintro f h₃ tk₃ ⟨rfl, o', t', ho', F₆, N₆⟩
        show wpS _ _ _ _ _ _
        clear F₅ N₅ hlb hol
        refine wpS_tk (s := s) (h' := h₃) fun tk₄ => ?_
        have hpl : (permW bs i).flatten.length = 8 * n := by rw [flat_len (permW_all hbn hbl8 hi), permW_len]
        refine wpS_execs_cons (wpS_any (LCg.Assign_ListComp_U F₆ rfl (by with_unfolding_all rfl) rfl (by decide) rfl (by decide) rfl rfl rfl ?_))
        k_fold
        walk_at "S"
        all_goals (try clear qk ek)
        show LCg.CompSrc _ _ _ _ _ _ _ _ _ _ _ _ _ _
        rename Fr _ _ _ _ => F₇
        rename News _ _ _ _ => N₇
        rename IsRange _ _ _ _ _ _ _ _ => hr₇
        refine LCg.CompSrc.range (n := 8) rfl F₇ N₇ hr₇ (by decide) (by decide) (by decide) fun g₇ => ?_
        refine comp_turns (fun j y => ∃ t, y = .bytes ((permW bs i).getD j []).toArray t) trivial ?_ ?_
        · rintro j v I₃ oI C oC D₄ m₂ h₄ tk₅ E' ys₄ hj ⟨tj, rfl⟩ hC hx F₈ N₈ off ne
          clear F₇ N₇ hr₇
          k_fold
          walk_at "S"
          all_goals (try clear qk ek)
          rename Fr _ _ _ _ => F₉
          rename News _ _ _ _ => N₉
          refine EltEnd.mk F₉ N₉ (fun p hp => hp) ?_
          rw [cut_word (permW_all hbn hbl8 hi) (j := j) (by rw [permW_len]; exact hj) (by rw [Int.zero_add]; simp) (by rw [Int.zero_add]; simp)]
          exact ⟨_, rfl⟩
        · intro ys₄ hy₄ hG₄ D₄ h₄ tk₅ F₈ N₈ off₄
          clear F₇ N₇ hr₇
          have hb₄ : BysAre ys₄ (permW bs i) := bys_fun (by rw [hy₄, permW_len]) hG₄
          show wpS _ _ _ _ _ _
          refine wpS_tk (s := s) (h' := h₄) fun tk₆ => ?_
          refine wpS_execs_cons (wpS_If (wpS_isTrue_Compare1 ?_))
          refine wpS_any ?_
          k_fold
          walk_at "S"
          all_goals (try clear qk ek)
          refine wpS_any (LCg.ListComp_U F₈ rfl (by decide) rfl (by decide) rfl ?_)
          k_fold
          walk_at "S"
          all_goals (try clear qk ek)
          have hir : i < rows.length := by omega
          obtain ⟨vi, ki, hoi, hvi⟩ := rows_at hrows (List.getElem?_eq_getElem hir)
          have hvl : vi.length = 8 := by rw [hvi.length, nimRow_len]
          refine item_listL (x := .ref rows[i].1) (News.isList N₈ (.tail _ (.tail _ (.tail _ (.tail _ (.tail _ (.tail _ (.head _)))))))) (by omega) (by omega) (by rw [show (0 + (i : Int) * 1).toNat = i by omega, List.getElem?_map, List.getElem?_eq_getElem hir]; rfl) ?_
          show LCg.CompSrc _ _ _ _ _ _ _ _ _ _ _ _ _ _
          clear qk ek
          have N₁₀ : News s.heap L' h₄ ((rows[i].1, listOf (List.toArray vi) ki) :: (D₄, LCg.lst ys₄) :: (I, it) :: (L' + 1 + 1 + 1, o') :: (L' + 1 + 1, oow) :: (L' + 1, oo) :: (D₃, listOf (List.toArray ys₃) ys₃.length) :: (tb, listOf (List.toArray (rows.map fun p => Value.ref p.1)) kt) :: rows) := fun p hp => by
            rcases List.mem_cons.mp hp with rfl | hp
            · rw [← hoi]
              exact N₈ _ (.tail _ (.tail _ (.tail _ (.tail _ (.tail _ (.tail _ (.tail _ (List.getElem_mem hir))))))))
            · exact N₈ p hp
          refine LCg.CompSrc.ledger rfl F₈ N₁₀ (.head _) (by rw [List.size_toArray, hvl]; decide) fun g₈ => ?_
          refine comp_turns (fun j y => ∃ t, y = .bytes ((permW bs i).getD j []).toArray t) (.inr ⟨_, .head _, rfl, _, rfl⟩) ?_ ?_
          · intro j v I₃ oI C oC D₅ m₂ h₅ tk₇ E' ys₅ hj hP hC hx F₉ N₉ off ne
            rw [List.size_toArray, hvl] at hj
            obtain ⟨u, rfl⟩ := hvi.int_at j v (by simpa using hP)
            rw [Nat.zero_add, nimRow_get i hj] at hx
            have hxl := xor_lt8 hi hj
            clear F₈ N₈ N₁₀
            show wpAny _ _ _ _ _ _
            k_fold
            walk_at "S"
            all_goals (try clear qk ek)
            obtain ⟨tx, hex⟩ := hbs.at (i := i ^^^ j) (by omega)
            refine item_listL (x := .bytes (bs.getD (i ^^^ j) []).toArray tx) (News.isList N₉ (.tail _ (.tail _ (.tail _ (.tail _ (.tail _ (.tail _ (.tail _ (.tail _ (.tail _ (.head _))))))))))) (by omega) (by omega) (by rw [Int.toNat_natCast, ← hex, List.getD_eq_getElem?_getD, List.getElem?_eq_getElem (by rw [hbs.length]; omega)]; rfl) ?_
            refine EltEnd.mk F₉ N₉ (fun p hp => hp) ?_
            rw [permW_get hj, Nat.xor_comm]
            exact ⟨_, rfl⟩
          · intro ys₅ hy₅ hG₅ D₅ h₅ tk₇ F₉ N₉ off₅
            rw [List.size_toArray, hvl] at hy₅
            have hb₅ : BysAre ys₅ (permW bs i) := bys_fun (by rw [hy₅, permW_len]) hG₅
            clear F₈ N₈ N₁₀
            refine wpS_any (ne_bys (s := ⟨h₅, _, _, _, _⟩) (News.isList N₉ (.tail _ (.tail _ (.head _)))) (News.isList N₉ (.head _)) hb₄ hb₅ (by unfold cLine; first | decide +kernel | (show (_ : Nat) + _ < _; decide) | (simp only [Around.deeper]; decide)) ?_)
            refine wpS_any (wpAny_truthy_bool ?_)
            rw [if_neg Bool.false_ne_true]
            refine wpS_execs_nil ?_
            show wpS _ _ _ _ _ _
            refine wpS_execs_nil ?_
            refine TurnEnd.next ((permW bs i).flatten, o', some (.ref D₄)) F₉ (fun p hp => N₉ p (.tail _ (.tail _ (.tail _ hp)))) (fun p hp => ?_) ?_ ⟨by rw [Nat.add_sub_cancel], _, ho'⟩
            · rcases List.mem_cons.mp hp with rfl | hp
              · exact hoff (L' + 1 + 1 + 1, o) (.head _)
              · exact hoff p (.tail _ hp)
            · intro z hz
              by_cases h1 : z = Str.ofString "standing"
              · subst h1; rfl
              · simp only [if_neg h1, if_neg hz]
    case done =>
      rintro ⟨lb, o, sv⟩ m' h tk₂ ⟨hlb, tl, hol⟩ F₅ hm N₅
      show wpS _ _ _ _ _ _
      change Fr s.heap L' _ _ at F₅
      change News s.heap L' _ _ at N₅
      dsimp only at hlb hol hm N₅
      clear F₁₀ N₁₀ hr₁₀ dl
      have hlbl : lb.length = 8 * n := by rw [hlb, flat_len (permW_all hbn hbl8 (by decide)), permW_len]
      refine wpS_execs_cons (wpS_Return (wpS_Compare1 ?_))
      refine wpS_Call_K (K := MineH.hd.heap_39 w.params) (f := .ref 35) (by k_is) ?_
      k_fold
      walk_at "S"
      all_goals (try clear qk ek)
      refine wpS_any ?_
      k_fold
      walk_at "S"
      all_goals (try clear qk ek)
      refine turned_S (k := 8) B F₅ X N₅ T rfl (by decide) hn1 (by decide) (by rw [hlbl, Nat.mul_comm]; exact Nat.dvd_refl _) (by omega) (by omega) (by omega) fun t5 h₅ tk₅ F₇ N₇ => ?_
      rw [hlb, turn_flat (permW_all hbn hbl8 (by decide)) (permW_len _ _) hn1 hn3 (.inr (.inr rfl)), permW_last hbl8]
      clear F₅ N₅
      refine wpS_any ?_
      k_fold
      walk_at "S"
      all_goals (try clear qk ek)
      show wpAny _ _ _ _ _ _
      refine call_join (s := ⟨_, _, _, _, _⟩) (n := ys₃.length) (N₇ _ (.tail _ (.tail _ (.tail _ (.head _))))).1 hbs (by omega) (by rw [hflat, hbl8]; omega) fun t₈ k₈ => ?_
      refine wpS_any ?_
      k_fold
      walk_at "S"
      all_goals (try clear qk ek)
      rw [beq_self_eq_true]
      exact hret _ _ _ _ F₇
end
end Mine
set_option maxRecDepth 100000
set_option Elab.async false
open PySem PySem.W PySem.Calls PyProof.Rows Mine
set_option maxHeartbeats 8000000 in
theorem PySem.Challenge.cw_ny0470_03_holds : PySem.Challenge.rw_ny0470_03.Holds := by
  w_on
  refine MineH.hd ?_
  k_fill
  intro w s₀ s₁ mg mb G Y fa o pm cd doc dV kV ho hd hcd hD hmg hg args vals as hpre hlay hrd hwl hlo
  have KX := kIn_of Y
  refine Ground.open G ?_
  intro T B D TE TW
  wrow_args hpre hlay hrd hwl hlo
  rename_i ns _ _ _ _ _ _ _ l vs _ hl _ _ _ hi _ hcond _
  have hfa : mg (Str.ofString "law") = some (.ref 52) := mg_of KX T.g (by k_is)
  obtain rfl : fa = 52 := by
    have e : some (Value.ref 52) = some (Value.ref fa) := hfa.symm.trans hmg
    injection e with e
    injection e with e
    exact e.symm
  have hz : ns.length ≤ 63 := by omega
  have hn : ∀ cls, PySem.Challenge.rw_ny0470_03.row.claim.raises [ofPy (PyData.list (List.map PyData.int ns))] cls = false := raisesW_false (by wrow_none_raised)
  have hp : PySem.Challenge.rw_ny0470_03.row.claim.post [ofPy (PyData.list (List.map PyData.int ns))] (.bool true) [ofPy (PyData.list (List.map PyData.int ns))] = true := by wrow_post
  refine ⟨⟨.inl ⟨_, .bool true, [], rfl, hn, .bool true, hp, unshared_nil⟩, .of_keep fun _ _ e => e, rfl, .of_eq hg⟩, ?_⟩
  refine enter_callS ?_
  refine law_S KX T hl hi hz fun h' tk' L m F => ?_
  exact goodW_bool F hg hn hp
