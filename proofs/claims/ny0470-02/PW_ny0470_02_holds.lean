import PyProof.Rows.All
import Wide.All
import OpenK.AllK
import Wide.FinOn
import PySem.Challenge.RW_ny0470_02
set_option maxRecDepth 100000
set_option Elab.async false
open PySem PySem.W PySem.Calls PyProof.Rows
namespace Mine

/-! ## contexts without a built-in that may hold a bytearray's memory -/

def badIds : List String := Builtin.Bytes.decodersThatHold ++ ["bytearray.__contains__", "bytearray.__mod__", "bytearray.__rmod__", "_struct.pack_into.held", "bytearray.find.held"]
def calmCode : Code → Bool
  | .builtin id _ => !badIds.contains id
  | _ => true
def CalmC (Γ : Ctx) : Prop := calmCode Γ.code = true ∧ ∀ x ∈ Γ.below, calmCode x.1 = true

def wpS {α : Type} (M : Model) (A : Around) (t : Sem α) (Q : α → Shared → Prop) (E : Value → Shared → Prop) (s : Shared) : Prop :=
  ∀ Γ p, Γ.In A → CalmC Γ → Sem.wp M Γ t (fun a _ s' => Q a s') (fun e _ s' => E e s') p s
def codeS (M : Model) (A : Around) (c : Code) (R : Result → Shared → Prop) (s : Shared) : Prop :=
  ∀ Γ p, Γ.code = c → Γ.Below A → CalmC Γ → wpCode M Γ R p s

theorem CalmC.enter {Γ : Ctx} (h : CalmC Γ) {c : Code} (hc : calmCode c = true) (hd : Option Value) (p : Pos) : CalmC (Γ.enter c hd p) :=
  ⟨hc, fun x hx => by rcases List.mem_cons.mp hx with rfl | hx; exact h.1; exact h.2 x hx⟩
theorem CalmC.goto {Γ : Ctx} (h : CalmC Γ) {c : Code} (hc : calmCode c = true) : CalmC (Γ.goto c) := ⟨hc, h.2⟩

section
variable {α β : Type} {M : Model} {A : Around} {E : Value → Shared → Prop} {s : Shared}

theorem wpS_any {t : Sem α} {Q : α → Shared → Prop} (h : wpAny M A t Q E s) : wpS M A t Q E s := fun Γ p hΓ _ => h Γ p hΓ
theorem codeS_any {c : Code} {R : Result → Shared → Prop} (h : codeAny M A c R s) : codeS M A c R s := fun Γ p hc hΓ _ => h Γ p hc hΓ
theorem wpS_pure {a : α} {Q : α → Shared → Prop} (h : Q a s) : wpS M A (pure a) Q E s := fun _ _ _ _ => h
theorem wpS_mono {t : Sem α} {Q Q' : α → Shared → Prop} {E' : Value → Shared → Prop} (h : wpS M A t Q E s)
    (hQ : ∀ a s, Q a s → Q' a s) (hE : ∀ e s, E e s → E' e s) : wpS M A t Q' E' s :=
  fun Γ p hΓ hc => Sem.wp_mono M Γ t (fun a _ s => hQ a s) (fun e _ s => hE e s) p s (h Γ p hΓ hc)
theorem wpS_bind {m : Sem α} {f : α → Sem β} {Q : β → Shared → Prop} (h : wpS M A m (fun a s' => wpS M A (f a) Q E s') E s) :
    wpS M A (m >>= f) Q E s := fun Γ p hΓ hc => by
  rw [Sem.wp_bind']
  exact Sem.wp_mono M Γ m (fun a p' s' h' => h' Γ p' hΓ hc) (fun _ _ _ h' => h') p s (h Γ p hΓ hc)
theorem wpS_holding {vs : List Value} {m : Sem α} {Q : α → Shared → Prop} (h : wpS M A m Q E s) : wpS M A (holding vs m) Q E s :=
  fun Γ p hΓ hc => by rw [Sem.wp_holding]; exact h Γ p hΓ hc
theorem wpS_keep {vs : List Value} {m : Sem α} {Q : α → Shared → Prop} (h : wpS M A m Q E s) : wpS M A (m.keep vs) Q E s :=
  fun Γ p hΓ hc => by rw [Sem.wp_keep]; exact h Γ p hΓ hc
theorem wpS_onRaise {m : Sem α} {k : Value → Sem Unit} {Q : α → Shared → Prop}
    (h : wpS M A m Q (fun e s' => wpS M A (k e) (fun _ s'' => E e s'') E s') s) : wpS M A (m.onRaise k) Q E s := fun Γ p hΓ hc => by
  rw [Sem.wp_onRaise]
  exact Sem.wp_mono M Γ m (fun _ _ _ h' => h') (fun e p' s' h' => h' Γ p' hΓ hc) p s (h Γ p hΓ hc)
theorem wpS_attempt {m : Sem α} {Q : Except Value α → Shared → Prop} (h : wpS M A m (fun a => Q (.ok a)) (fun e => Q (.error e)) s) :
    wpS M A m.attempt Q E s := fun Γ p hΓ hc => by rw [Sem.wp_attempt]; exact h Γ p hΓ hc
theorem wpS_standAt {pos : Pos} {Q : Unit → Shared → Prop} (h : Q () s) : wpS M A (standAt pos) Q E s := fun _ _ _ _ => h
theorem wpS_eq {t t' : Sem α} {Q : α → Shared → Prop} (e : t = t') (h : wpS M A t' Q E s) : wpS M A t Q E s := e ▸ h

theorem wpS_run {c : Code} {h : Option Value} {Q : Flow → Shared → Prop} (hcc : calmCode c = true)
    (hc : codeS M (A.mark h) c (fun r s' => match r with | .ok f => Q f s' | .error e => E e s') s) (hnb : h ≠ some byPass := by intro x; cases x) :
    wpS M A (run c h) Q E s :=
  fun Γ p hΓ hq => by rw [Sem.wp_run]; exact hc _ p rfl (hΓ.enter c h p hnb) (hq.enter hcc h p)
theorem wpS_runValue {c : Code} {Q : Value → Shared → Prop} (hcc : calmCode c = true)
    (hc : codeS M A c (fun r s' => match r with | .ok (.ret v) => Q v s' | .ok _ => False | .error e => E e s') s) :
    wpS M A (runValue c) Q E s := fun Γ p hΓ hq => by
  rw [Sem.wp_runValue]; exact hc _ p rfl (hΓ.enter c none p (by intro x; cases x)) (hq.enter hcc none p)
theorem wpS_call {f : Value} {pos : List Value} {kw : List (Str × Value)} {Q : Value → Shared → Prop}
    (hc : codeS M A (.call f ⟨pos, kw⟩) (fun r s' => match r with | .ok (.ret v) => Q v s' | .ok _ => False | .error e => E e s') s) :
    wpS M A (call f pos kw) Q E s := wpS_runValue rfl hc
theorem codeS_mono {c : Code} {R R' : Result → Shared → Prop} (h : codeS M A c R s) (hR : ∀ r s, R r s → R' r s) : codeS M A c R' s :=
  fun Γ p hc hΓ hq => wpCode_mono hR (h Γ p hc hΓ hq)
theorem codeS_of_tree {c : Code} {R : Result → Shared → Prop}
    (h : wpS M (A.under c) (M.den c) (fun fin s' => match fin with | .done f => R (.ok f) s' | .again c' => c'.quiet = true ∧ calmCode c' = true ∧ codeS M A c' R s')
      (fun e s' => R (.error e) s') s) : codeS M A c R s := fun Γ p hc hΓ hq => by
  rw [wpCode_iff_wp, hc]
  refine Sem.wp_mono M Γ _ (fun fin p' s' h' => ?_) (fun _ _ _ h' => h') p s (h Γ p (hc ▸ hΓ.in) hq)
  cases fin with
  | done f => exact h'
  | again c' => exact ⟨h'.1, h'.2.2 (Γ.goto c') p' rfl (hΓ.goto c') (hq.goto h'.2.1)⟩
theorem codeS_loop {c : Code} {R : Result → Shared → Prop} (hq : c.quiet = true) (hcc : calmCode c = true) (I : Nat → Shared → Prop)
    (turn : ∀ n s, I n s → wpS M (A.under c) (M.den c)
      (fun fin s' => match fin with | .done f => R (.ok f) s' | .again c' => c' = c ∧ ∃ m, m < n ∧ I m s') (fun e s' => R (.error e) s') s)
    (n : Nat) (h : I n s) : codeS M A c R s := by
  induction n using Nat.strongRecOn generalizing s with
  | ind n ih =>
    refine codeS_of_tree (wpS_mono (turn n s h) (fun fin s' hf => ?_) fun _ _ h' => h')
    cases fin with
    | done f => exact hf
    | again c' => obtain ⟨rfl, m, hm, hI⟩ := hf; exact ⟨hq, hcc, ih m hm hI⟩
end

/-! ## statements and expressions -/
section
variable {M : Model} {A : Around} {E : Value → Shared → Prop} {s : Shared} {env : Env}

theorem wpS_execs_nil {Q : Flow → Shared → Prop} (h : Q .next s) : wpS M A (execs [] env) Q E s := fun _ _ _ _ => h
theorem wpS_execs_cons {st rest} {Q : Flow → Shared → Prop}
    (h : wpS M A (exec st env) (fun f s' => match f with | .next => wpS M A (execs rest env) Q E s' | f => Q f s') E s) :
    wpS M A (execs (st :: rest) env) Q E s := by
  rw [execs_cons]
  refine wpS_bind (wpS_mono h (fun f s' h' => ?_) fun _ _ x => x)
  cases f <;> first | exact h' | exact wpS_pure h'
theorem wpS_Assign_Name {x pos' value pos} {Q : Flow → Shared → Prop}
    (h : wpS M A (eval value env) (fun v s₁ => wpAny M A (storeName env x v) (fun _ => Q .next) E s₁) E s)
    (hs : swapsWith value (some (.Name x pos')) pos.line env = pure false := by rfl) :
    wpS M A (exec (.Assign [.Name x pos'] value pos) env) Q E s := fun Γ p hΓ hc => by
  simp only [exec_Assign_Name env x pos' value pos hs, Sem.wp_bind', Sem.wp_cmd_standAt, Sem.wp_bindName, Sem.wp_pure']
  exact Sem.wp_mono M Γ _ (fun v _ s₁ h₁ => h₁ Γ _ hΓ) (fun _ _ _ h' => h') _ _ (h Γ _ hΓ hc)
theorem wpS_If {test body orelse pos} {Q : Flow → Shared → Prop}
    (h : wpS M A (isTrue test env (eval test env))
      (fun b s₂ => if b then wpS M A (execs body env) Q E s₂ else wpS M A (execs orelse env) Q E s₂) E s) :
    wpS M A (exec (.If test body orelse pos) env) Q E s := fun Γ p hΓ hc => by
  simp only [exec_If, Sem.wp_bind', Sem.wp_cmd_standAt]
  refine Sem.wp_mono M Γ _ (fun b p₂ s₂ h₂ => ?_) (fun _ _ _ h' => h') _ _ (h Γ _ hΓ hc)
  cases b <;> exact h₂ Γ p₂ hΓ hc
theorem wpS_Return {e pos} {Q : Flow → Shared → Prop} (h : wpS M A (eval e env) (fun v => Q (.ret v)) E s) :
    wpS M A (exec (.Return (some e) pos) env) Q E s := fun Γ p hΓ hc => by
  simp only [exec_Return_some, Sem.wp_bind', Sem.wp_cmd_standAt, Sem.wp_pure']; exact h Γ _ hΓ hc
theorem wpS_BinOp {l op r pos} {Q : Value → Shared → Prop}
    (h : wpS M A (eval l env) (fun a s₁ => wpS M A (eval r env) (fun b s₂ => wpS M A (binaryOp op a b) Q E s₂) E s₁) E s) :
    wpS M A (eval (.BinOp l op r pos) env) Q E s := fun Γ p hΓ hc => by
  simp only [eval_BinOp, Sem.wp_bind', Sem.wp_holding, Sem.wp_cmd_standAt, Sem.wp_operate]
  exact Sem.wp_mono M Γ _ (fun a p₁ s₁ h₁ => Sem.wp_mono M Γ _ (fun b _ s₂ h₂ => h₂ Γ _ hΓ hc) (fun _ _ _ h' => h') _ _ (h₁ Γ p₁ hΓ hc))
    (fun _ _ _ h' => h') _ _ (h Γ p hΓ hc)
theorem wpS_Compare1 {l op r pos} {Q : Value → Shared → Prop}
    (h : wpS M A (eval l env) (fun a s₁ => wpS M A (eval r env) (fun b s₂ => wpS M A (compareOp op a b) Q E s₂) E s₁) E s)
    (hm : behindInMarks op r = false := by with_unfolding_all rfl) :
    wpS M A (eval (.Compare l [op] [r] pos) env) Q E s := fun Γ p hΓ hc => by
  simp only [eval_Compare1, markedBehindIn_of_false hm, Sem.wp_bind', Sem.wp_holding, Sem.wp_cmd_standAt, Sem.wp_operate]
  exact Sem.wp_mono M Γ _ (fun a p₁ s₁ h₁ => Sem.wp_mono M Γ _ (fun b _ s₂ h₂ => h₂ Γ _ hΓ hc) (fun _ _ _ h' => h') _ _ (h₁ Γ p₁ hΓ hc))
    (fun _ _ _ h' => h') _ _ (h Γ p hΓ hc)
theorem wpS_isTrue_plain {e : Expr} {whole : Sem Value} {Q : Bool → Shared → Prop} (h : wpS M A whole (fun v s₁ => wpAny M A (truthy v) Q E s₁) E s)
    (he : isTrue e env whole = (do let v ← whole; standAt e.pos; holding [v] (truthy v)) := by rfl) : wpS M A (isTrue e env whole) Q E s := by
  rw [he]
  exact wpS_bind (wpS_mono h (fun v s₁ h₁ => wpS_bind (wpS_standAt (wpS_holding (wpS_any h₁)))) fun _ _ x => x)
theorem wpS_isTrue_not {x pos whole} {Q : Bool → Shared → Prop} (h : wpS M A (isTrue x env (eval x env)) (fun c s' => Q (!c) s') E s) :
    wpS M A (isTrue (.UnaryOp .Not x pos) env whole) Q E s := by
  show wpS M A (do return !(← isTrue x env (eval x env))) Q E s
  exact wpS_bind (wpS_mono h (fun c s' h' => wpS_pure h') fun _ _ x => x)
theorem wpS_And2 {x y pos} {Q : Value → Shared → Prop}
    (h : wpS M A (eval x env) (fun v s₁ => wpAny M A (truthy v) (fun b s₂ => if b then wpS M A (eval y env) Q E s₂ else Q v s₂) E s₁) E s) :
    wpS M A (eval (.BoolOp .And [x, y] pos) env) Q E s := by
  show wpS M A (do
    let v ← eval x env
    standAt pos
    let t ← holding [v] (truthy v)
    match BoolOp.And, t with
    | .And, false | .Or, true => pure v
    | _, _ => eval y env) Q E s
  refine wpS_bind (wpS_mono h (fun v s₁ h₁ => wpS_bind (wpS_standAt (wpS_bind (wpS_holding (wpS_mono (wpS_any h₁) (fun b s₂ h₂ => ?_) fun _ _ x => x))))) fun _ _ x => x)
  cases b
  · exact wpS_pure h₂
  · exact h₂

theorem wpS_callWith {P : Heap → Prop} {pos : Pos} {f : Value} {first : List Value} {Q : Value → Shared → Prop} {args : List (Bool × Sem Value)} {keywords : List (Option Str × Sem Value)} (hplain : (args.any (·.1) || keywords.any (·.1.isNone)) = false)
    (hk : ∀ h, P h → ∃ k, (k = Keeper.frame ∨ k = Keeper.machine ∨ k = Keeper.boundFrame) ∧ Looks M h (keeperOf f) k)
    (h : wpS M A (evalArgs f true args keywords) (fun a s₁ => P s₁.heap ∧ wpS M A (call f (first ++ a.pos) a.kw) Q E s₁) E s) : wpS M A (callWith pos f first args keywords) Q E s := by
  unfold callWith
  refine wpS_bind (wpS_holding (wpS_mono h (fun a s₁ h₁ => wpS_bind (wpS_standAt ?_)) fun _ _ x => x))
  obtain ⟨k, hk', L⟩ := hk _ h₁.1
  simp only [hplain]
  refine wpS_bind (wpS_any (L.here ?_))
  have tail : ∀ {t : Sem Value}, wpS M A t Q E s₁ → wpS M A (t >>= fun r => holding [r] point >>= fun _ => pure r) Q E s₁ :=
    fun ht => wpS_bind (wpS_mono ht (fun r s₂ hr => wpS_bind (wpS_holding (wpS_any (wpAny_point (wpS_pure hr))))) fun _ _ x => x)
  have marked (mk : Value) : wpS M A (callMarked mk f (first ++ a.pos) a.kw) Q E s₁ := by unfold callMarked; exact wpS_keep h₁.2
  rcases hk' with rfl | rfl | rfl <;> dsimp only <;> first | exact tail h₁.2 | (split <;> first | exact tail h₁.2 | exact tail (marked _))
theorem wpS_evalArgs {f : Value} {x : Sem Value} {rest : List (Bool × Sem Value)} {Q : Args → Shared → Prop}
    (h : wpS M A (spliced ((false, x) :: rest)) (fun vs s' => Q ⟨vs, []⟩ s') E s) : wpS M A (evalArgs f true ((false, x) :: rest) []) Q E s := by
  unfold evalArgs
  show wpS M A (spliced ((false, x) :: rest) >>= _) Q E s
  refine wpS_bind (wpS_mono h (fun vs s' h' => ?_) fun _ _ x => x)
  refine wpS_holding ?_
  exact wpS_bind (wpS_pure (wpS_bind (wpS_pure (wpS_pure h'))))
theorem wpS_spliced_nil {Q : List Value → Shared → Prop} (h : Q [] s) : wpS M A (spliced []) Q E s := fun _ _ _ _ => h
theorem wpS_spliced_cons {x : Sem Value} {rest : List (Bool × Sem Value)} {Q : List Value → Shared → Prop}
    (h : wpS M A x (fun v s₁ => wpS M A (spliced rest) (fun vs s₂ => Q (v :: vs) s₂) E s₁) E s) : wpS M A (spliced ((false, x) :: rest)) Q E s := by
  show wpS M A (x >>= fun v => pure [v] >>= fun here => holding here (spliced rest) >>= fun r => pure (here ++ r)) Q E s
  exact wpS_bind (wpS_mono h (fun v s₁ h₁ => wpS_bind (wpS_pure (wpS_bind (wpS_holding (wpS_mono h₁ (fun vs s₂ h₂ => wpS_pure h₂) fun _ _ x => x))))) fun _ _ x => x)
theorem wpS_Call_type {fn : Expr} {e : Expr} {rest : List Expr} {pos : Pos} {T : String} {Q : Value → Shared → Prop}
    (hf : wpAny M A (eval fn env) (fun v s₁ => v = .type T ∧ wpS M A (spliced (backTo pos (starEach (e :: rest) env))) (fun vs s₂ => wpS M A (call (.type T) vs) Q E s₂) E s₁) E s)
    (hc : eval (.Call fn (e :: rest) [] pos) env = (do callWith pos (← eval fn env) [] (backTo pos (starEach (e :: rest) env)) (backToKw pos (keywordEach [] env))) := by rfl)
    (he : starEach (e :: rest) env = (false, eval e env) :: starEach rest env := by rfl) (hplain : (backTo pos (starEach rest env)).any (·.1) = false := by rfl) :
    wpS M A (eval (.Call fn (e :: rest) [] pos) env) Q E s := by
  rw [hc]
  refine wpS_bind (wpS_mono (wpS_any hf) (fun v s₁ h₁ => ?_) fun _ _ x => x)
  obtain ⟨rfl, h₁⟩ := h₁
  rw [he] at h₁ ⊢
  refine wpS_callWith (P := fun _ => True) (by show ((false || (backTo pos (starEach rest env)).any (·.1)) || false) = false; rw [hplain]; rfl) (fun h _ => ⟨.machine, .inr (.inl rfl), Looks.of_pure rfl⟩) ?_
  exact wpS_evalArgs (wpS_mono h₁ (fun _ _ x => ⟨trivial, x⟩) fun _ _ x => x)
/-- a call whose callee is a def of the written part: the arguments, then the call -/
theorem wpS_Call_K {K : Frag} {fn : Expr} {e : Expr} {rest : List Expr} {pos : Pos} {f : Value} {Q : Value → Shared → Prop} (hk : keepIn K f = true)
    (hf : wpAny M A (eval fn env) (fun v s₁ => v = f ∧ wpS M A (spliced (backTo pos (starEach (e :: rest) env))) (fun vs s₂ => K.In s₂.heap ∧ wpS M A (call f vs) Q E s₂) E s₁) E s)
    (hc : eval (.Call fn (e :: rest) [] pos) env = (do callWith pos (← eval fn env) [] (backTo pos (starEach (e :: rest) env)) (backToKw pos (keywordEach [] env))) := by rfl)
    (he : starEach (e :: rest) env = (false, eval e env) :: starEach rest env := by rfl) (hplain : (backTo pos (starEach rest env)).any (·.1) = false := by rfl) :
    wpS M A (eval (.Call fn (e :: rest) [] pos) env) Q E s := by
  rw [hc]
  refine wpS_bind (wpS_mono (wpS_any hf) (fun v s₁ h₁ => ?_) fun _ _ x => x)
  obtain ⟨rfl, h₁⟩ := h₁
  rw [he] at h₁ ⊢
  refine wpS_callWith (P := fun h => K.In h) (by show ((false || (backTo pos (starEach rest env)).any (·.1)) || false) = false; rw [hplain]; rfl) (keeps_K hk) ?_
  exact wpS_evalArgs h₁
end

/-! ## calls of defs -/
section
variable {prog : Program} {w : World} {A : Around} {s : Shared} {R : Result → Shared → Prop}
theorem codeS_func {body env}
    (h : wpS (model prog w) (A.deeper env) (execs body env) (fun f s' => R (.ok (.ret (match f with | .ret v => v | _ => .none))) s') (fun _ _ => False) s) :
    codeS (model prog w) A (.func body env) R s := by
  refine codeS_of_tree ?_
  show wpS _ (A.deeper env) (do point; match ← (execs body env).onRaise (leaving env) with | .ret v => ret v | _ => ret .none) _ _ s
  refine wpS_bind (wpS_any (wpAny_point (wpS_bind (wpS_onRaise (wpS_mono h (fun f s' h' => ?_) fun _ _ h' => h'.elim)))))
  cases f <;> exact wpS_pure h'
theorem codeS_call_function {a : Addr} {args : Args} {o : Obj} {fd : FuncData} {body : List Stmt} (hroom : A.depth < recursionLimit)
    (ho : s.heap.get? a = some o)
    (hd' : o.data = .func fd) (hco : fd.scope.isCoroutine = false) (hgen : fd.scope.isGenerator = false) (hbody : fd.body = .stmts body) (hcd : s.heap.CodeRec fd.code fd.qualname)
    (h : wpAny (model prog w) A.in1 (bindArgs fd args) (fun binds s₁ =>
      wpAny (model prog w) A.in1 (newFunctionEnv fd.scope fd.globals fd.closure binds (fd.qualname ++ ".<locals>.") (some a) fd.code none fd.builtins)
        (fun env s₂ => s₂.heap.NoLimit ∧ codeS (model prog w) A (.func body env) R s₂) (fun e s' => R (.error e) s') s₁) (fun e s' => R (.error e) s') s) :
    codeS (model prog w) A (.call (.ref a) args) R s := by
  refine codeS_of_tree ?_
  show wpS _ A.in1 (callAny (.ref a) args) _ _ s
  simp only [callAny]
  refine wpS_any (wpAny_bind (wpAny_load ho ?_))
  obtain ⟨c, oc, vs, tq, hc, hoc, hdc, hq⟩ := hcd
  simp only [hd', callFunction, hco, hgen, hbody, hc]
  rw [hc] at h
  refine wpAny_bind (m := field (.ref c) 1) (wpAny_field hoc hdc hq (wpAny_bind (wpAny_pure ?_)))
  exact wpAny_bind (wpAny_mono h (fun binds s₁ h₁ => wpAny_bind (wpAny_mono h₁ (fun env s₂ h₂ => wpAny_bind (wpAny_enterFrame h₂.1 hroom
    (wpAny_pure ⟨rfl, rfl, h₂.2⟩))) fun _ _ h' => h')) fun _ _ h' => h')
theorem codeS_call_def {a : Addr} {o : Obj} {fd : FuncData} {body : List Stmt} {args : Args} {binds : List (Str × Value)}
    (hroom : A.depth < recursionLimit) (ho : s.heap.get? a = some o) (hdata : o.data = .func fd) (hlim : s.heap.NoLimit) (hcd : s.heap.CodeRec fd.code fd.qualname)
    (hbody : fd.body = .stmts body) (hbind : BindsTo s fd args binds)
    (hcell : ∀ x ∈ fd.scope.names, x.2 ≠ .cell) (hloc : ∀ x ∈ binds, fd.scope.names.lookup x.1 = some .local)
    (h : ∀ h₀, h₀.Ns s.heap.objs.size (fun x => binds.reverse.lookup x) → (∀ b o, s.heap.get? b = some o → h₀.get? b = some o) →
      wpS (model prog w) (A.deeper (callEnv fd s.heap.objs.size a)) (execs body (callEnv fd s.heap.objs.size a)) (fun f s' => R (.ok (.ret (match f with | .ret v => v | _ => .none))) s')
        (fun _ _ => False) { s with heap := h₀, toks := s.toks + binds.length })
    (hco : fd.scope.isCoroutine = false := by rfl) (hgen : fd.scope.isGenerator = false := by rfl) (hk : fd.scope.kind = .function := by rfl) :
    codeS (model prog w) A (.call (.ref a) args) R s := by
  refine codeS_call_function hroom ho hdata hco hgen hbody hcd (hbind _ _ _ _ ?_)
  refine wpAny_newFunctionEnv hcell hloc (fun h₀ hns₀ hsb₀ => ⟨hlim.fresh _ hsb₀, codeS_func (h h₀ hns₀ fun b o e => ?_)⟩) hk
  exact hsb₀.extBut b o (Nat.ne_of_lt (Heap.lt_size e)) (Heap.get?_push_of_some _ e)
theorem call_fullS {name : Str} {params : Arguments} {body : List Stmt} {scope : Scope}
    {dV kV pm cd doc : Value} {a : Addr} {o : Obj} {args : Args} {binds : List (Str × Value)}
    (hroom : A.depth < recursionLimit) (ho : s.heap.get? a = some o) (hdata : o.data = .func { docDef name params body scope pm cd doc with defaults := dV, kwdefaults := kV }) (hlim : s.heap.NoLimit) (hcd : s.heap.CodeRec cd name)
    (hbind : BindsTo s { docDef name params body scope pm cd doc with defaults := dV, kwdefaults := kV } args binds)
    (hloc : ∀ x ∈ binds, scope.names.lookup x.1 = some .local)
    (h : ∀ h₁, Fr s.heap s.heap.objs.size h₁ (fun x => binds.reverse.lookup x) →
      wpS (model prog w) (A.deeper (envOf name scope s.heap.objs.size a cd)) (execs body (envOf name scope s.heap.objs.size a cd))
        (fun f s' => R (.ok (.ret (match f with | .ret v => v | _ => .none))) s') (fun _ _ => False)
        { s with heap := h₁, toks := s.toks + binds.length })
    (hco : scope.isCoroutine = false := by rfl) (hgen : scope.isGenerator = false := by rfl) (hk : scope.kind = .function := by rfl)
    (hcell : ∀ x ∈ scope.names, x.2 ≠ .cell := by decide) :
    codeS (model prog w) A (.call (.ref a) args) R s :=
  codeS_call_def hroom ho hdata hlim hcd rfl hbind hcell hloc (fun h₁ hns hkeep => h h₁ ⟨hns, hkeep, Nat.le_refl _⟩) hco hgen hk
end

section
variable {prog : Program} {w : World} {A A₀ : Around} {s : Shared} {K : Frag} {L : Addr} {h₀ base : Heap} {m mg mb : Str → Option Value} {news : List (Addr × Obj)} {p : Program} {loose : List Str} {mean : ExcName → Option Value}
/-- a call of a def of the written part, in calm contexts: its body is run in a frame of its own -/
theorem code_defS {env : Env} {outer : List Env} {R : Result → Shared → Prop} {name qual : Str} {params : Arguments} {body : List Stmt} {scope : Scope} {dV kV doc pm cdv ct oc : Value} {an od : Option Addr} {osl : Array (Option Value)} {f : Addr} {args : Args} {binds : List (Str × Value)}
    (B : Below A₀ base outer h₀) (F : Fr h₀ L s.heap m) (X₀ : K.In h₀) (N : News h₀ L s.heap news) (T : Top p loose mean mg mb h₀) (hA : A.frames = some (env :: outer)) (hf : env.frame = some L) (hke : env.scope.kind = .function)
    (ho : K.lookup f = some ⟨oc, od, .func (fnOf name qual params body scope dV kV doc pm an cdv ct), osl⟩) (hcd : codeIn K cdv qual = true) (hroom : A.depth < recursionLimit)
    (hbind : BindsTo s (fnOf name qual params body scope dV kV doc pm an cdv ct) args binds) (hloc : ∀ y ∈ binds, scope.names.lookup y.1 = some .local)
    (h : ∀ g L' h₁, Fr h₀ L g m → Fr g L' h₁ (fun y => binds.reverse.lookup y) → News g L' h₁ news → Below A base (env :: outer) g → K.In g → Top p loose mean mg mb g → (∀ p ∈ news, p.1 < L') →
      wpS (model prog w) (A.deeper (envOf qual scope L' f cdv)) (execs body (envOf qual scope L' f cdv))
        (fun fl s' => LeaveK h₀ L m g R (match fl with | .ret v => v | _ => .none) s') (fun _ _ => False)
        { s with heap := h₁, toks := s.toks + binds.length })
    (hco : scope.isCoroutine = false) (hgen : scope.isGenerator = false) (hk : scope.kind = .function)
    (hcell : ∀ x ∈ scope.names, x.2 ≠ .cell) : codeS (model prog w) A (.call (.ref f) args) R s := by
  obtain ⟨FG, BG, st, lv⟩ := groundX (R := R) B F N hA hf hke
  have X := X₀.keeps F.keep
  refine codeS_call_def (fd := fnOf name qual params body scope dV kV doc pm an cdv ct) (body := body) (binds := binds) hroom (X _ _ ho) rfl (T.nolimit.keeps F.keep) (codeRec_of X hcd) rfl hbind hcell hloc (fun h₁ hns hk₁ => ?_) hco hgen hk
  exact wpS_mono (h _ s.heap.objs.size h₁ FG ⟨hns, fun b o e => hk₁ b o (of_hideAll _ e), Nat.le_of_eq (hideAll_size _ _)⟩
    (fun p hp => ⟨hk₁ _ _ (N p hp).1, Nat.ne_of_lt (Heap.lt_size (N p hp).1), hideAll_none _ (List.mem_map_of_mem hp)⟩) BG (X₀.keeps st) (T.keeps st) (fun p hp => Heap.lt_size (N p hp).1)) (fun fl s' hl => lv _ _ hl) fun _ _ y => y
end

section
variable {prog : Program} {w : World} {A A₀ : Around} {s : Shared} {K : Frag} {L : Addr} {h₀ base : Heap} {m mg mb : Str → Option Value} {news : List (Addr × Obj)} {p : Program} {loose : List Str} {mean : ExcName → Option Value}
/-- the same for a def some of whose names live in cells -/
theorem code_defCS {env : Env} {outer : List Env} {R : Result → Shared → Prop} {name qual : Str} {params : Arguments} {body : List Stmt} {scope : Scope} {dV kV doc pm cdv ct oc : Value} {an od : Option Addr} {osl : Array (Option Value)} {f : Addr} {args : Args} {binds : List (Str × Value)} (cls : Addr → List (Str × Addr))
    (B : Below A₀ base outer h₀) (F : Fr h₀ L s.heap m) (X₀ : K.In h₀) (N : News h₀ L s.heap news) (T : Top p loose mean mg mb h₀) (hA : A.frames = some (env :: outer)) (hf : env.frame = some L) (hke : env.scope.kind = .function)
    (ho : K.lookup f = some ⟨oc, od, .func (fnOf name qual params body scope dV kV doc pm an cdv ct), osl⟩) (hcd : codeIn K cdv qual = true) (hroom : A.depth < recursionLimit)
    (hbind : BindsTo s (fnOf name qual params body scope dV kV doc pm an cdv ct) args binds) (hkind : (binds.all fun y => scope.names.lookup y.1 == some .local || scope.names.lookup y.1 == some .cell) = true)
    (hnd : ((cellsFrom 0 scope.names []).map (·.1)).Nodup)
    (hcls : ∀ n, cellsFrom (n + 1) scope.names [] = cls n)
    (h : ∀ g L' h₁ tk cells, Fr h₀ L g m → Fr g L' h₁ (bindL (envOfC qual scope L' f cdv).kindOf binds fun _ => none) → News g L' h₁ (cells ++ news) →
      CellsAre (bindC (envOfC qual scope L' f cdv).kindOf binds fun _ => none) (cls L') cells → Below A base (env :: outer) g → K.In g → Top p loose mean mg mb g → (∀ p ∈ news, p.1 < L') →
      wpS (model prog w) (A.deeper (envX qual scope L' f cdv (cls L'))) (execs body (envX qual scope L' f cdv (cls L')))
        (fun fl s' => LeaveK h₀ L m g R (match fl with | .ret v => v | _ => .none) s') (fun _ _ => False)
        { s with heap := h₁, toks := tk })
    (hco : scope.isCoroutine = false) (hgen : scope.isGenerator = false) (hk : scope.kind = .function) : codeS (model prog w) A (.call (.ref f) args) R s := by
  obtain ⟨FG, BG, st, lv⟩ := groundX (R := R) B F N hA hf hke
  have X := X₀.keeps F.keep
  refine codeS_call_function hroom (X _ _ ho) rfl hco hgen rfl (codeRec_of X hcd) (hbind _ _ _ _ ?_)
  refine wpAny_newFunctionEnv_cells hk (kindsX hkind _) fun env' he s' x => ?_
  subst he
  refine ⟨(T.nolimit.keeps F.keep).keeps x.toInCall.keep, codeS_func ?_⟩
  obtain ⟨h₁, tk, rfl, _⟩ := x.done
  have hk₁ := x.toInCall.keep
  obtain ⟨cells, NC, Y⟩ := Cl.news (h₀ := s.heap) (Nat.le_refl _) fun n c hm => ⟨x.cell n c (lookup_of_mem_nodup (cellsFrom_names scope.names 0 (s.heap.objs.size + 1) [] [] rfl ▸ hnd) hm), x.above n c hm⟩
  rw [hcls] at Y
  have e : envOfC qual scope s.heap.objs.size f cdv = envX qual scope s.heap.objs.size f cdv (cls s.heap.objs.size) := by
    show envX qual scope s.heap.objs.size f cdv (cellsFrom (s.heap.objs.size + 1) scope.names []) = _
    rw [hcls]
  have hb := h _ s.heap.objs.size h₁ tk cells FG ⟨x.toInCall.ns, fun b o e => hk₁ b o (of_hideAll _ e), Nat.le_of_eq (hideAll_size _ _)⟩ (fun p hp => ?_) Y BG (X₀.keeps st) (T.keeps st) (fun p hp => Heap.lt_size (N p hp).1)
  · rw [← e] at hb
    exact wpS_mono hb (fun fl s' hl => lv _ _ hl) fun _ _ y => y
  rcases List.mem_append.mp hp with hp | hp
  · refine ⟨(NC p hp).1, (NC p hp).2.1, ?_⟩
    cases q : (hideAll s.heap (news.map (·.1))).get? p.1 with
    | none => rfl
    | some o => have := of_hideAll _ q; rw [(NC p hp).2.2] at this; cases this
  · exact ⟨hk₁ _ _ (N p hp).1, Nat.ne_of_lt (Heap.lt_size (N p hp).1), hideAll_none _ (List.mem_map_of_mem hp)⟩
/-- the first call, from the claim's caller -/
theorem code_topS {R : Result → Shared → Prop} {name qual : Str} {params : Arguments} {body : List Stmt} {scope : Scope} {dV kV doc pm cdv ct oc : Value} {an od : Option Addr} {osl : Array (Option Value)} {f : Addr} {args : Args} {binds : List (Str × Value)}
    (X : K.In s.heap) (T : Top p loose mean mg mb s.heap)
    (ho : K.lookup f = some ⟨oc, od, .func (fnOf name qual params body scope dV kV doc pm an cdv ct), osl⟩) (hcd : codeIn K cdv qual = true) (hroom : A.depth < recursionLimit)
    (hbind : BindsTo s (fnOf name qual params body scope dV kV doc pm an cdv ct) args binds) (hloc : ∀ y ∈ binds, scope.names.lookup y.1 = some .local)
    (h : ∀ L' h₁, s.heap.objs.size = L' → Fr s.heap L' h₁ (fun y => binds.reverse.lookup y) →
      wpS (model prog w) (A.deeper (envOf qual scope L' f cdv)) (execs body (envOf qual scope L' f cdv))
        (fun fl s' => R (.ok (.ret (match fl with | .ret v => v | _ => .none))) s') (fun _ _ => False)
        { s with heap := h₁, toks := s.toks + binds.length })
    (hco : scope.isCoroutine = false) (hgen : scope.isGenerator = false) (hk : scope.kind = .function)
    (hcell : ∀ x ∈ scope.names, x.2 ≠ .cell) : codeS (model prog w) A (.call (.ref f) args) R s :=
  codeS_call_def (fd := fnOf name qual params body scope dV kV doc pm an cdv ct) (body := body) (binds := binds) hroom (X _ _ ho) rfl T.nolimit (codeRec_of X hcd) rfl hbind hcell hloc
    (fun h₁ hns hk₁ => h _ h₁ rfl ⟨hns, hk₁, Nat.le_refl _⟩) hco hgen hk
theorem code_topCS {R : Result → Shared → Prop} {name qual : Str} {params : Arguments} {body : List Stmt} {scope : Scope} {dV kV doc pm cdv ct oc : Value} {an od : Option Addr} {osl : Array (Option Value)} {f : Addr} {args : Args} {binds : List (Str × Value)} (cls : Addr → List (Str × Addr))
    (X : K.In s.heap) (T : Top p loose mean mg mb s.heap)
    (ho : K.lookup f = some ⟨oc, od, .func (fnOf name qual params body scope dV kV doc pm an cdv ct), osl⟩) (hcd : codeIn K cdv qual = true) (hroom : A.depth < recursionLimit)
    (hbind : BindsTo s (fnOf name qual params body scope dV kV doc pm an cdv ct) args binds) (hkind : (binds.all fun y => scope.names.lookup y.1 == some .local || scope.names.lookup y.1 == some .cell) = true)
    (hnd : ((cellsFrom 0 scope.names []).map (·.1)).Nodup)
    (hcls : ∀ n, cellsFrom (n + 1) scope.names [] = cls n)
    (h : ∀ L' h₁ tk cells, s.heap.objs.size = L' → Fr s.heap L' h₁ (bindL (envOfC qual scope L' f cdv).kindOf binds fun _ => none) → News s.heap L' h₁ cells →
      CellsAre (bindC (envOfC qual scope L' f cdv).kindOf binds fun _ => none) (cls L') cells →
      wpS (model prog w) (A.deeper (envX qual scope L' f cdv (cls L'))) (execs body (envX qual scope L' f cdv (cls L')))
        (fun fl s' => R (.ok (.ret (match fl with | .ret v => v | _ => .none))) s') (fun _ _ => False)
        { s with heap := h₁, toks := tk })
    (hco : scope.isCoroutine = false) (hgen : scope.isGenerator = false) (hk : scope.kind = .function) : codeS (model prog w) A (.call (.ref f) args) R s := by
  refine codeS_call_function hroom (X _ _ ho) rfl hco hgen rfl (codeRec_of X hcd) (hbind _ _ _ _ ?_)
  refine wpAny_newFunctionEnv_cells hk (kindsX hkind _) fun env' he s' x => ?_
  subst he
  refine ⟨T.nolimit.keeps x.toInCall.keep, codeS_func ?_⟩
  obtain ⟨h₁, tk, rfl, _⟩ := x.done
  obtain ⟨cells, NC, Y⟩ := Cl.news (h₀ := s.heap) (Nat.le_refl _) fun n c hm => ⟨x.cell n c (lookup_of_mem_nodup (cellsFrom_names scope.names 0 (s.heap.objs.size + 1) [] [] rfl ▸ hnd) hm), x.above n c hm⟩
  rw [hcls] at Y
  have e : envOfC qual scope s.heap.objs.size f cdv = envX qual scope s.heap.objs.size f cdv (cls s.heap.objs.size) := by
    show envX qual scope s.heap.objs.size f cdv (cellsFrom (s.heap.objs.size + 1) scope.names []) = _
    rw [hcls]
  have := h _ h₁ tk cells rfl ⟨x.toInCall.ns, x.toInCall.keep, Nat.le_refl _⟩ NC Y
  rw [← e] at this
  exact this
end

/-! ## loops -/
section
variable {M : Model} {A : Around} {E : Value → Shared → Prop} {s : Shared} {env : Env}
theorem wpS_runOwn {c : Code} {Q : Flow → Shared → Prop} (hcc : calmCode c = true)
    (hc : codeS M A c (fun r s' => match r with | .ok f => Q f s' | .error _ => False) s) : wpS M A (runOwn c env) Q E s := by
  unfold runOwn
  refine wpS_onRaise (wpS_run hcc (codeS_mono hc fun r s' h' => ?_))
  cases r with
  | ok f => exact h'
  | error e => exact h'.elim
theorem wpS_While {test body orelse pos} {Q : Flow → Shared → Prop}
    (h : codeS M A (.whileLoop test body orelse env) (fun r s' => match r with | .ok f => Q f s' | .error _ => False) s) :
    wpS M A (exec (.While test body orelse pos) env) Q E s := by
  rw [exec_While]; exact wpS_bind (wpS_standAt (wpS_runOwn rfl h))
theorem wpS_For {target iter body orelse pos} {Q : Flow → Shared → Prop}
    (h : wpS M A (eval iter env) (fun x s₁ => wpAny M A (pyIter x) (fun it s₂ =>
      codeS M A (.forLoop target it body orelse env) (fun r s' => match r with | .ok f => Q f s' | .error _ => False) s₂) E s₁) E s)
    (hs : ∀ x, foldedSetIterable iter env x = pure x := by intro _; rfl) :
    wpS M A (exec (.For target iter body orelse pos) env) Q E s := by
  rw [exec_For]
  exact wpS_bind (wpS_standAt (wpS_bind (wpS_mono h (fun x s₁ h₁ => wpS_bind (wpS_eq (hs x) (wpS_pure (wpS_bind (wpS_standAt (wpS_bind (wpS_holding
    (wpS_mono (wpS_any h₁) (fun it s₂ h₂ => wpS_runOwn rfl h₂) fun _ _ h' => h')))))))) fun _ _ h' => h')))
end

/-! ### the turns -/
section
variable {prog : Program} {w : World} {A : Around} {s : Shared} {R : Result → Shared → Prop}
theorem codeS_block {env : Env} (h : R (.ok .next) s) : codeS (model prog w) A (.block [] env) R s := by
  refine codeS_of_tree ?_
  show wpS _ (A.under (.block [] env)) (do return PySem.Fin.done (← (execs [] env).onRaise (fun x => do noteFrame x env; theTreesLotGoes x))) _ _ s
  exact wpS_bind (wpS_onRaise (wpS_execs_nil (wpS_pure h)))
theorem codeS_whileLoop {test body env} (I : Nat → Shared → Prop)
    (turn : ∀ n s, I n s →
      wpS (model prog w) A (isTrue test env (eval test env)) (fun b s₂ =>
        if b then wpS (model prog w) A (execs body env) (fun f s₃ => match f with
            | .next | .cont => ∃ m, m < n ∧ I m s₃
            | .brk => R (.ok .next) s₃
            | .ret v => R (.ok (.ret v)) s₃) (fun _ _ => False) s₂
        else R (.ok .next) s₂) (fun _ _ => False) s)
    (n : Nat) (h : I n s) : codeS (model prog w) A (.whileLoop test body [] env) R s := by
  refine codeS_loop rfl rfl I (fun n s hI => ?_) n h
  rw [Around.under_of_weight rfl]
  show wpS _ A ((whileTurn test body [] env).onRaise (fun x => do noteFrame x env; theTreesLotGoes x)) _ _ s
  refine wpS_onRaise (wpS_mono (E := fun _ _ => False) ?_ (fun _ _ h' => h') fun _ _ h' => h'.elim)
  simp only [whileTurn]
  refine wpS_bind (wpS_mono (turn n s hI) (fun b s₂ h₂ => ?_) fun _ _ h' => h')
  cases b with
  | false =>
    simp only [Bool.false_eq_true, if_false] at h₂ ⊢
    exact wpS_bind (wpS_execs_nil (wpS_pure h₂))
  | true =>
    simp only [if_true] at h₂ ⊢
    refine wpS_bind (wpS_mono h₂ (fun f s₃ h₃ => ?_) fun _ _ h' => h')
    cases f with
    | next => exact wpS_pure ⟨rfl, h₃⟩
    | cont => exact wpS_pure ⟨rfl, h₃⟩
    | brk => exact wpS_pure h₃
    | ret v => exact wpS_pure h₃
theorem codeS_forLoop {target it body env} (I : Nat → Shared → Prop)
    (turn : ∀ n s, I n s → wpAny (model prog w) A (pyNext it) (fun r s₁ => match r with
      | none => R (.ok .next) s₁
      | some v => wpAny (model prog w) A (assign target env v) (fun _ s₂ => wpS (model prog w) A (execs body env) (fun f s₃ => match f with
          | .next | .cont => ∃ m, m < n ∧ I m s₃
          | .brk => R (.ok .next) s₃
          | .ret v => R (.ok (.ret v)) s₃) (fun _ _ => False) s₂) (fun _ _ => False) s₁) (fun _ _ => False) s)
    (n : Nat) (h : I n s) (ht : ∀ v, letOwnedTupleGo target it v = pure () := by intro _; rfl) : codeS (model prog w) A (.forLoop target it body [] env) R s := by
  induction n using Nat.strongRecOn generalizing s with
  | ind n ih =>
    refine codeS_of_tree ?_
    rw [Around.under_of_weight rfl]
    show wpS _ _ ((forTurn target it body [] env).onRaise (fun x => do noteFrame x env; theTreesLotGoes x)) _ _ s
    refine wpS_onRaise (wpS_mono (E := fun _ _ => False) ?_ (fun _ _ h' => h') fun _ _ h' => h'.elim)
    simp only [forTurn]
    refine wpS_bind (wpS_standAt (wpS_bind (wpS_onRaise (wpS_mono (wpS_any (turn n s h)) (fun r s₁ h₁ => ?_) fun _ _ h' => h'.elim))))
    cases r with
    | none => exact wpS_pure ⟨rfl, rfl, codeS_block h₁⟩
    | some v =>
      refine wpS_bind (wpS_eq (ht v) (wpS_pure ?_))
      refine wpS_bind (wpS_mono (wpS_any h₁) (fun _ s₂ h₂ => wpS_bind (wpS_mono h₂ (fun f s₃ h₃ => ?_) fun _ _ h' => h')) fun _ _ h' => h')
      cases f with
      | next => obtain ⟨m, hm, hI⟩ := h₃; exact wpS_pure ⟨rfl, rfl, ih m hm hI⟩
      | cont => obtain ⟨m, hm, hI⟩ := h₃; exact wpS_pure ⟨rfl, rfl, ih m hm hI⟩
      | brk => exact wpS_pure h₃
      | ret v => exact wpS_pure h₃
end

/-- what a turn of a loop must leave behind -/
def TurnEnd {σ : Type} (s : Shared) (h₀ : Heap) (L : Addr) (x : Str) (I : Addr) (it : Obj) (Inv : σ → Prop) (mp : σ → Str → Option Value) (led : σ → List (Addr × Obj)) (Q : Flow → Shared → Prop) (f : Flow) (s' : Shared) : Prop :=
  match f with
  | .ret v => Q (.ret v) s'
  | .brk => Q .next s'
  | _ => ∃ c m' h' tk, s' = { s with heap := h', toks := tk } ∧ Inv c ∧ Fr h₀ L h' m' ∧ News h₀ L h' ((I, it) :: led c) ∧ (∀ p ∈ led c, p.1 ≠ I) ∧ ∀ z, z ≠ x → m' z = mp c z
theorem TurnEnd.next {σ : Type} {s : Shared} {h₀ : Heap} {L : Addr} {x : Str} {I : Addr} {it : Obj} {Inv : σ → Prop} {mp : σ → Str → Option Value} {led : σ → List (Addr × Obj)} {Q : Flow → Shared → Prop} {h' : Heap} {tk : Nat} {m' : Str → Option Value}
    (c : σ) (F : Fr h₀ L h' m') (N : News h₀ L h' ((I, it) :: led c)) (hI : ∀ p ∈ led c, p.1 ≠ I) (hm : ∀ z, z ≠ x → m' z = mp c z) (hc : Inv c) : TurnEnd s h₀ L x I it Inv mp led Q .next { s with heap := h', toks := tk } :=
  ⟨c, m', h', tk, rfl, hc, F, N, hI, hm⟩

section
variable {prog : Program} {w : World} {A : Around} {E : Value → Shared → Prop} {s : Shared} {env : Env} {h₀ : Heap} {x : Str} {px : Pos} {body : List Stmt} {Q : Flow → Shared → Prop}
theorem forRangeS {σ : Type} {r : Addr} {a₀ b₀ c : Int} {t₀ u₀ v₀ : Tok} {n : Nat} {m₀ : Str → Option Value} (hh : A.handled = none) (hr : IsRange s.heap r a₀ b₀ c t₀ u₀ v₀) (hsmall : Builtin.Range.small a₀ b₀ c = true) (hn : Builtin.Range.rangeSize a₀ b₀ c = (n : Int))
    (hx : env.kindOf x = some .local) (hp : (env.scope.kind == .class || (env.scope.kind == .module && env.locals != env.globals)) = false)
    (Inv : Nat → σ → Prop) (mp : σ → Str → Option Value) (led : σ → List (Addr × Obj)) (c₀ : σ) (F : Fr h₀ env.locals s.heap m₀) (N : News h₀ env.locals s.heap (led c₀)) (hm : ∀ z, z ≠ x → m₀ z = mp c₀ z) (h0 : Inv 0 c₀)
    (turn : ∀ i k I it t h tk, i < n → Inv i k → (∀ p ∈ led k, p.1 ≠ I) → Fr h₀ env.locals h (fun y => if y = x then some (.int (a₀ + (i : Int) * c) t) else mp k y) → News h₀ env.locals h ((I, it) :: led k) →
      wpS (model prog w) A (execs body env) (TurnEnd { s with heap := h, toks := tk } h₀ env.locals x I it (Inv (i + 1)) mp led Q) (fun _ _ => False) { s with heap := h, toks := tk })
    (done : ∀ k m' h tk, Inv n k → Fr h₀ env.locals h m' → (∀ z, z ≠ x → m' z = mp k z) → News h₀ env.locals h (led k) → Q .next { s with heap := h, toks := tk }) :
    wpAny (model prog w) A (pyIter (.ref r)) (fun it s₂ => codeS (model prog w) A (.forLoop (.Name x px) it body [] env) (fun r s' => match r with | .ok f => Q f s' | .error _ => False) s₂) E s := by
  refine wpAny_pyIter_range hr hsmall ?_
  rw [hn]
  have W := Walks.range (prog := prog) (w := w) hh s.heap.objs.size a₀ c n
  have hnew : h₀.get? s.heap.objs.size = none := next_is_new F
  have hLI : env.locals ≠ s.heap.objs.size := Nat.ne_of_lt F.ns.lt
  refine codeS_forLoop (R := fun r s' => match r with | .ok f => Q f s' | .error _ => False)
    (fun k s' => ∃ h' tk m' d i, s' = { s with heap := h', toks := tk } ∧ IsRangeIter h' s.heap.objs.size (a₀ + (i : Nat) * c) ((n : Int) - (i : Nat)) c ∧ Fr h₀ env.locals h' m' ∧ News h₀ env.locals h' (led d) ∧ (∀ p ∈ led d, p.1 ≠ s.heap.objs.size) ∧ (∀ z, z ≠ x → m' z = mp d z) ∧ Inv i d ∧ i ≤ n ∧ k = n + 1 - i) ?_ (n + 1) ?_
  · rintro k s' ⟨h', tk, m', d, i, rfl, hst, F', N', hoff, hm', hI, hi, rfl⟩
    have next : ∀ h₁ : Heap, (∀ b o, b ∉ [s.heap.objs.size] → h'.get? b = some o → h₁.get? b = some o) → Fr h₀ env.locals h₁ m' ∧ News h₀ env.locals h₁ (led d) := fun h₁ hk₁ =>
      ⟨⟨F'.ns.at' fun o e => hk₁ _ o (fun q => hLI (List.mem_singleton.mp q)) e, fun b o e => hk₁ b o (fun q => by rw [List.mem_singleton.mp q, hnew] at e; cases e) (F'.keep b o e), F'.above⟩,
       fun p hp => ⟨hk₁ _ _ (fun q => hoff p hp (List.mem_singleton.mp q)) (N' p hp).1, (N' p hp).2⟩⟩
    by_cases hlt : i < n
    · refine W.item i _ _ _ hlt hst fun v h₁ tk₁ hP hst₁ hk₁ => ?_
      obtain ⟨F₁, N₁⟩ := next h₁ hk₁
      obtain ⟨t, rfl⟩ := hP
      refine wpAny_assign_Name (wpAny_storeName_local hx F₁.ns (fun h₂ hn₂ hs₂ => ?_) hp)
      have F₂ := F₁.set hn₂ hs₂
      have e : (fun y => if y = x then some (Value.int (a₀ + (i : Int) * c) t) else m' y) = fun y => if y = x then some (Value.int (a₀ + (i : Int) * c) t) else mp d y := by
        funext y; by_cases h : y = x
        · rw [if_pos h, if_pos h]
        · rw [if_neg h, if_neg h, hm' y h]
      rw [e] at F₂
      have hit : h₂.get? s.heap.objs.size = some { cls := .type "range_iterator", data := .fields #[rawInt (a₀ + ((i + 1 : Nat) : Int) * c), rawInt ((n : Int) - ((i + 1 : Nat) : Int)), rawInt c] } :=
        (hs₂.2 _ (Ne.symm hLI)).trans hst₁
      have N₂ : News h₀ env.locals h₂ ((s.heap.objs.size, { cls := .type "range_iterator", data := .fields #[rawInt (a₀ + ((i + 1 : Nat) : Int) * c), rawInt ((n : Int) - ((i + 1 : Nat) : Int)), rawInt c] }) :: led d) := fun p hp => by
        rcases List.mem_cons.mp hp with rfl | hp
        · exact ⟨hit, Ne.symm hLI, hnew⟩
        · exact (N₁.set hs₂) p hp
      refine wpS_mono (turn i d s.heap.objs.size _ t h₂ _ hlt hI hoff F₂ N₂) (fun f s₃ h₃ => ?_) fun _ _ e => e
      have fin : (∃ c' m'' h'' tk'', s₃ = { s with heap := h'', toks := tk'' } ∧ Inv (i + 1) c' ∧ Fr h₀ env.locals h'' m'' ∧ News h₀ env.locals h'' ((s.heap.objs.size, { cls := .type "range_iterator", data := .fields #[rawInt (a₀ + ((i + 1 : Nat) : Int) * c), rawInt ((n : Int) - ((i + 1 : Nat) : Int)), rawInt c] }) :: led c') ∧ (∀ p ∈ led c', p.1 ≠ s.heap.objs.size) ∧ ∀ z, z ≠ x → m'' z = mp c' z) →
          ∃ m, m < n + 1 - i ∧ ∃ h' tk m' d i, s₃ = { s with heap := h', toks := tk } ∧ IsRangeIter h' s.heap.objs.size (a₀ + (i : Nat) * c) ((n : Int) - (i : Nat)) c ∧ Fr h₀ env.locals h' m' ∧ News h₀ env.locals h' (led d) ∧ (∀ p ∈ led d, p.1 ≠ s.heap.objs.size) ∧ (∀ z, z ≠ x → m' z = mp d z) ∧ Inv i d ∧ i ≤ n ∧ m = n + 1 - i := by
        rintro ⟨c', m'', h'', tk'', e, hc', F₃, N₃, ho, hz⟩
        exact ⟨n + 1 - (i + 1), by omega, h'', tk'', m'', c', i + 1, e, (N₃ _ (List.mem_cons_self ..)).1, F₃, fun p hp => N₃ p (List.mem_cons_of_mem _ hp), ho, hz, hc', hlt, rfl⟩
      cases f with
      | ret v => exact h₃
      | brk => exact h₃
      | next => exact fin h₃
      | cont => exact fin h₃
    · have hin : i = n := by omega
      subst hin
      refine W.done _ _ _ hst fun h₁ tk₁ hk₁ => ?_
      obtain ⟨F₁, N₁⟩ := next h₁ hk₁
      exact done d m' h₁ tk₁ hI F₁ hm' N₁
  · refine ⟨_, s.toks, m₀, c₀, 0, rfl, ?_, F.push _, fun p hp => ⟨Heap.get?_push_of_some _ (N p hp).1, (N p hp).2⟩, fun p hp => Nat.ne_of_lt (Heap.lt_size (N p hp).1), hm, h0, Nat.zero_le _, rfl⟩
    show IsRangeIter _ _ _ _ _
    simpa using Heap.get?_push_size _ rfl
end

/-- what a turn of a while must leave behind -/
def WhileEnd {σ : Type} (s : Shared) (h₀ : Heap) (L : Addr) (Inv : σ → Prop) (meas : σ → Nat) (k : Nat) (mp : σ → Str → Option Value) (led : σ → List (Addr × Obj)) (Q : Flow → Shared → Prop) (f : Flow) (s' : Shared) : Prop :=
  match f with
  | .ret v => Q (.ret v) s'
  | .brk => Q .next s'
  | _ => ∃ c m' h' tk, s' = { s with heap := h', toks := tk } ∧ Inv c ∧ meas c < k ∧ Fr h₀ L h' m' ∧ News h₀ L h' (led c) ∧ ∀ z, m' z = mp c z
theorem WhileEnd.next {σ : Type} {s : Shared} {h₀ : Heap} {L : Addr} {Inv : σ → Prop} {meas : σ → Nat} {k : Nat} {mp : σ → Str → Option Value} {led : σ → List (Addr × Obj)} {Q : Flow → Shared → Prop} {h' : Heap} {tk : Nat} {m' : Str → Option Value}
    (c : σ) (F : Fr h₀ L h' m') (N : News h₀ L h' (led c)) (hm : ∀ z, m' z = mp c z) (hc : Inv c) (hk : meas c < k) : WhileEnd s h₀ L Inv meas k mp led Q .next { s with heap := h', toks := tk } :=
  ⟨c, m', h', tk, rfl, hc, hk, F, N, hm⟩
theorem whileS {σ : Type} {prog : Program} {w : World} {A : Around} {s : Shared} {env : Env} {h₀ : Heap} {test : Expr} {body : List Stmt} {Q : Flow → Shared → Prop} {m₀ : Str → Option Value}
    (Inv : σ → Prop) (meas : σ → Nat) (mp : σ → Str → Option Value) (led : σ → List (Addr × Obj)) (c₀ : σ) (F : Fr h₀ env.locals s.heap m₀) (N : News h₀ env.locals s.heap (led c₀)) (hm : ∀ z, m₀ z = mp c₀ z) (h0 : Inv c₀)
    (turn : ∀ c h tk, Inv c → Fr h₀ env.locals h (mp c) → News h₀ env.locals h (led c) →
      wpS (model prog w) A (isTrue test env (eval test env)) (fun b s₂ => if b then wpS (model prog w) A (execs body env) (WhileEnd s h₀ env.locals Inv meas (meas c) mp led Q) (fun _ _ => False) s₂ else Q .next s₂) (fun _ _ => False) { s with heap := h, toks := tk }) :
    codeS (model prog w) A (.whileLoop test body [] env) (fun r s' => match r with | .ok f => Q f s' | .error _ => False) s := by
  refine codeS_whileLoop (R := fun r s' => match r with | .ok f => Q f s' | .error _ => False)
    (fun k s' => ∃ c m' h' tk, s' = { s with heap := h', toks := tk } ∧ Inv c ∧ k = meas c ∧ Fr h₀ env.locals h' m' ∧ News h₀ env.locals h' (led c) ∧ ∀ z, m' z = mp c z) ?_ (meas c₀) ⟨c₀, m₀, s.heap, s.toks, rfl, h0, rfl, F, N, hm⟩
  rintro k s' ⟨c, m', h', tk, rfl, hc, rfl, F', N', hm'⟩
  have e : m' = mp c := funext hm'
  subst e
  refine wpS_mono (turn c h' tk hc F' N') (fun b s₂ h₂ => ?_) fun _ _ x => x
  cases b with
  | false => exact h₂
  | true =>
    refine wpS_mono h₂ (fun f s₃ h₃ => ?_) fun _ _ x => x
    have fin : (∃ c' m' h' tk, s₃ = { s with heap := h', toks := tk } ∧ Inv c' ∧ meas c' < meas c ∧ Fr h₀ env.locals h' m' ∧ News h₀ env.locals h' (led c') ∧ ∀ z, m' z = mp c' z) →
        ∃ k, k < meas c ∧ ∃ c m' h' tk, s₃ = { s with heap := h', toks := tk } ∧ Inv c ∧ k = meas c ∧ Fr h₀ env.locals h' m' ∧ News h₀ env.locals h' (led c) ∧ ∀ z, m' z = mp c z := by
      rintro ⟨c', m'', h'', tk'', e, a, b, d, f, g⟩
      exact ⟨meas c', b, c', m'', h'', tk'', e, a, rfl, d, f, g⟩
    cases f with
    | ret v => exact h₃
    | brk => exact h₃
    | next => exact fin h₃
    | cont => exact fin h₃

/-- several ways of one tree meet again -/
def CutEnd {α : Type} (s : Shared) (P : α → Heap → Prop) (v : α) (s' : Shared) : Prop := ∃ h' tk', s' = { s with heap := h', toks := tk' } ∧ P v h'
theorem CutEnd.mk {α : Type} {s : Shared} {P : α → Heap → Prop} {v : α} {h' : Heap} {tk : Nat} (p : P v h') : CutEnd s P v { s with heap := h', toks := tk } := ⟨h', tk, rfl, p⟩
theorem wpS_cut {α : Type} {M : Model} {A : Around} {t : Sem α} {Q : α → Shared → Prop} {E : Value → Shared → Prop} {s : Shared} (P : α → Heap → Prop)
    (h1 : wpAny M A t (CutEnd s P) (fun _ _ => False) s) (h2 : ∀ v h' tk', P v h' → Q v { s with heap := h', toks := tk' }) : wpS M A t Q E s :=
  wpS_mono (wpS_any h1) (fun v s' ⟨h', tk', e, p⟩ => e ▸ h2 v h' tk' p) fun _ _ x => x.elim

theorem wpS_tk {α : Type} {M : Model} {A : Around} {t : Sem α} {Q : α → Shared → Prop} {E : Value → Shared → Prop} {s : Shared} {h' : Heap} {tk₀ : Nat}
    (gen : ∀ tk, wpS M A t Q E { s with heap := h', toks := tk }) : wpS M A t Q E { s with heap := h', toks := tk₀ } := gen _

end Mine
set_option maxRecDepth 100000
set_option Elab.async false
open PySem PySem.W PySem.Calls PyProof.Rows
namespace Mine

/-! ## bytearray(n), b[k] = v, bytes(b) -/
namespace Fa
theorem mro : mroOf (.type "bytearray") = pure [.type "bytearray", .type "object"] := by rw [mroOf_type]; kernel_rfl
theorem lookup_new : typeLookup (.type "bytearray") "__new__" = pure (some (.builtin "bytearray.__new__")) := by rw [typeLookup_type, builtinLookup_eq_fast]; kernel_rfl
theorem slot_init : Slot "bytearray" "__init__" "bytearray.__init__" :=
  .of (owner := "bytearray") (n := "__init__") (by rw [typeLookup_type, builtinLookup_eq_fast]; kernel_rfl) (by decide +kernel) (by decide +kernel) (by decide +kernel)
    (by first | exact .inl (by decide +kernel) | exact .inr (by decide +kernel)) (by rw [isSubtype_type]; kernel_rfl)
theorem made : Bind.madeBy (.type "bytearray") = pure (some "bytearray.__new__") := madeBy_type mro lookup_new (by decide +kernel)
theorem sub : isSubtype (.type "bytearray") (.type "bytearray") = pure true := by rw [isSubtype_type]; kernel_rfl
theorem called : TypeCalled "bytearray" "bytearray.__new__" "bytearray.__init__" :=
  ⟨by decide +kernel, by decide +kernel, ⟨_, _, mro⟩, made, by decide +kernel, sub, slot_init⟩
theorem typeCall (a : Value) : checkTypeCall "bytearray" ⟨[a], []⟩ = pure () := by kernel_rfl
theorem newCall (a : Value) : checkBuiltinCall "bytearray.__new__" ⟨[.type "bytearray", a], []⟩ = pure () := by kernel_rfl
theorem entry_new : entryFor table "bytearray.__new__" = some Builtin.«list.__new__» :=
  entryFor_alias (id' := "list.__new__") (by kernel_rfl) (by first | rfl | decide +kernel) (by decide +kernel) (by kernel_rfl)
theorem entry_init : entryFor table "bytearray.__init__" = some Builtin.«bytearray.__init__» := by first | exact entryFor_of_fast (by kernel_rfl) | exact entryFor_of_tree (by kernel_rfl)
theorem plain_new : plainId "bytearray.__new__" = true := by decide +kernel
theorem plain_init : plainId "bytearray.__init__" = true := by decide +kernel
theorem lookup_release : typeLookup (.type "bytearray") "__release_buffer__" = pure (some (.builtin "bytearray.__release_buffer__")) := by rw [typeLookup_type, builtinLookup_eq_fast]; kernel_rfl
theorem lookup_buffer : typeLookup (.type "bytearray") "__buffer__" = pure (some (.builtin "bytearray.__buffer__")) := by rw [typeLookup_type, builtinLookup_eq_fast]; kernel_rfl
theorem bind1 (v : Value) : Builtin.Bytes.bindOptional "bytearray.__init__" "bytearray" ["source", "encoding", "errors"] [v] [] = pure [some v, none, none] := by kernel_rfl
theorem noBytes : typeLookup (.type "bytearray") "__bytes__" = pure none := by rw [typeLookup_type, builtinLookup_eq_fast]; kernel_rfl
theorem noIndex : typeLookup (.type "bytearray") "__index__" = pure none := by rw [typeLookup_type, builtinLookup_eq_fast]; kernel_rfl
theorem int_index : typeLookup (.type "int") "__index__" = pure (some (.builtin "int.__index__")) := by rw [typeLookup_type, builtinLookup_eq_fast]; kernel_rfl
theorem slot_setitem : Slot "bytearray" "__setitem__" "bytearray.__setitem__" :=
  .of (owner := "bytearray") (n := "__setitem__") (by rw [typeLookup_type, builtinLookup_eq_fast]; kernel_rfl) (by decide +kernel) (by decide +kernel) (by decide +kernel)
    (by first | exact .inl (by decide +kernel) | exact .inr (by decide +kernel)) (by rw [isSubtype_type]; kernel_rfl)
theorem entry_setitem : entryFor table "bytearray.__setitem__" = some Builtin.«bytearray.__setitem__» := by first | exact entryFor_of_fast (by kernel_rfl) | exact entryFor_of_tree (by kernel_rfl)
end Fa
set_option maxRecDepth 1000000 in
set_option maxHeartbeats 4000000 in
theorem owner_new : ("bytearray.__new__".splitOn ".__new__").headD "" = "bytearray" := by simp +decide [String.splitOn, String.splitOnAux]
theorem ends_release : "bytearray.__release_buffer__".endsWith ("." ++ "__release_buffer__") = true := by decide +kernel
theorem ends_buffer : "bytearray.__buffer__".endsWith ("." ++ "__buffer__") = true := by decide +kernel
theorem drop_release : "bytearray.__release_buffer__".dropRight ("__release_buffer__".length + 1) = "bytearray" := by decide +kernel
theorem drop_buffer : "bytearray.__buffer__".dropRight ("__buffer__".length + 1) = "bytearray" := by decide +kernel

def baObj (b : Array UInt8) : Obj := { cls := .type "bytearray", data := .bytearray b }

section
variable {prog : Program} {w : World} {A : Around} {E : Value → Shared → Prop} {s : Shared}
theorem typeIs_int (n : Int) (t : Tok) : s.TypeIs (.int n t) "int" := rfl
theorem typeIs_ba {a : Addr} {b : Array UInt8} (h : s.heap.get? a = some (baObj b)) : s.TypeIs (.ref a) "bytearray" := ⟨_, h, rfl⟩

theorem code_ba_new (a : Value) {Q₁ : Value → Shared → Prop}
    (h : Q₁ (.ref s.heap.objs.size) { s with heap := s.heap.push (baObj #[]) }) :
    codeAny (model prog w) A (.call (.builtin "bytearray.__new__") ⟨[.type "bytearray", a], []⟩) (wants Q₁ E) s := by
  refine codeAny_of_tree ?_
  show wpAny _ A.in1 (do checkBuiltinCall "bytearray.__new__" ⟨[.type "bytearray", a], []⟩; again (.builtin "bytearray.__new__" ⟨[.type "bytearray", a], []⟩)) _ _ s
  refine wpAny_bind (wpAny_of_eq (Fa.newCall a) (wpAny_pure ⟨plainId_quiet Fa.plain_new _, codeAny_builtin_stack Fa.entry_new rfl fun p st => ?_⟩))
  rw [Around.under_plainId Fa.plain_new _]
  have hsub := Fa.sub
  have hown := owner_new
  obtain ⟨hp, g, d, tk, os⟩ := s
  simp only [hown]
  wp_walk
  exact h

theorem slotOwn_release {a : Addr} {b : Array UInt8} {Q : Bool → Shared → Prop} (ho : s.heap.get? a = some (baObj b)) (h : Q false s) : wpAny (model prog w) A (Builtin.Bytes.ownRelease (.ref a)) Q E s := by
  unfold Builtin.Bytes.ownRelease Builtin.Bytes.slotIsOwn
  refine wpAny_bind (wpAny_bind (wpAny_specialOf (typeIs_ba ho) Fa.lookup_release ?_))
  dsimp only
  rw [ends_release, drop_release]
  simp only [Bool.not_true, Bool.false_eq_true, if_false]
  exact wpAny_isInstance (typeIs_ba ho) Fa.sub (wpAny_pure h)

theorem wpS_stackAny {M : Model} {f : Code × Pos → Bool} {Q : Bool → Shared → Prop} (hf : ∀ c q, calmCode c = true → f (c, q) = false) (h : Q false s) : wpS M A (do return (← stack).any f) Q E s := fun Γ p hΓ hc => by
  show Q (((Γ.code, p) :: Γ.below).any f) s
  have e : ((Γ.code, p) :: Γ.below).any f = false := by
    rw [List.any_eq_false]
    intro x hx
    rw [Bool.not_eq_true]
    rcases List.mem_cons.mp hx with rfl | hx
    · exact hf _ _ hc.1
    · obtain ⟨c, q⟩ := x
      exact hf c q (hc.2 _ hx)
  rw [e]; exact h
theorem calm_bad {id : String} {args : Args} (h : calmCode (.builtin id args) = true) : badIds.contains id = false := by
  simpa only [calmCode, Bool.not_eq_true'] using h
theorem exported_calm {a : Addr} {Q : Bool → Shared → Prop} (h : Q false s) : wpS (model prog w) A (Builtin.Bytes.exported (.ref a)) Q E s := by
  unfold Builtin.Bytes.exported
  refine wpS_stackAny (fun c q hq => ?_) h
  split
  · rename_i e; cases e; exact absurd (calm_bad hq) (by decide +kernel)
  · rename_i e; cases e; exact absurd (calm_bad hq) (by decide +kernel)
  · rename_i e; cases e; exact absurd (calm_bad hq) (by decide +kernel)
  · rename_i e; cases e; exact absurd (calm_bad hq) (by decide +kernel)
  · rename_i e; cases e; exact absurd (calm_bad hq) (by decide +kernel)
  · rename_i e; cases e
    have h1 := calm_bad hq
    simp only [badIds, List.contains_append, Bool.or_eq_false_iff] at h1
    rw [h1.1, Bool.and_false]
  · rfl

theorem sif_false {α : Type} {M : Model} {c : Bool} {a b : Sem α} {Q : α → Shared → Prop} (hc : c = false) (h : wpS M A b Q E s) : wpS M A (if c = true then a else b) Q E s := by
  subst hc
  exact h
theorem sif_true {α : Type} {M : Model} {c : Bool} {a b : Sem α} {Q : α → Shared → Prop} (hc : c = true) (h : wpS M A a Q E s) : wpS M A (if c = true then a else b) Q E s := by
  subst hc
  exact h
theorem ba_write {a : Addr} {b : Array UInt8} {f : Array UInt8 → Array UInt8} {Q : Unit → Shared → Prop} (ho : s.heap.get? a = some (baObj b)) (hz : (f b).size ≤ sizeLine)
    (h : Q () { s with heap := s.heap.update a (Obj.mapBytearray f) }) : wpAny (model prog w) A (Builtin.Bytes.write (.ref a) f) Q E s := by
  show wpAny _ _ (updateBytearray a f) _ _ _
  unfold updateBytearray
  refine wpAny_bind (wpAny_load ho ?_)
  show wpAny _ _ (update a (Obj.mapBytearray f) >>= fun _ => lookBehind a) _ _ _
  refine wpAny_bind (wpAny_update ho ?_)
  have h2 : (s.heap.update a (Obj.mapBytearray f)).get? a = some (baObj (f b)) := Heap.get?_update_self (Obj.mapBytearray f) ho rfl
  refine wpAny_lookBehind h2 ?_ h
  show (if (f b).size > sizeLine then some "bytearray:memory" else none) = none
  rw [if_neg (Nat.not_lt.mpr hz)]
set_option maxHeartbeats 2000000 in
theorem ba_init {a : Addr} {n : Int} {t : Tok} {Q : Fin → Shared → Prop} (ho : s.heap.get? a = some (baObj #[])) (h0 : 0 ≤ n) (hz : n.toNat ≤ sizeLine)
    (h : ∀ h', h'.get? a = some (baObj (Array.replicate n.toNat 0)) → (∀ b o, b ≠ a → s.heap.get? b = some o → h'.get? b = some o) → ∀ tk, Q (.done (.ret .none)) { s with heap := h', toks := tk }) :
    wpS (model prog w) A (Builtin.«bytearray.__init__» ⟨[.ref a, .int n t], []⟩) Q E s := by
  unfold Builtin.«bytearray.__init__»
  dsimp only
  refine wpS_bind (wpS_any (slotOwn_release ho ?_))
  refine sif_false rfl ?_
  refine wpS_bind (wpS_any (wpAny_of_eq (Fa.bind1 _) ?_))
  dsimp only
  refine wpS_bind (wpS_any (wpAny_of_eq (a := ()) rfl ?_))
  refine wpS_bind (wpS_any (wpAny_of_eq (a := ()) rfl ?_))
  refine wpS_bind ?_
  refine wpS_bind (exported_calm ?_)
  show wpS _ _ (do return decide ((← Builtin.Bytes.exportsOf (.ref a)) > 0)) _ _ _
  refine wpS_any ?_
  refine wpAny_bind ?_
  unfold Builtin.Bytes.exportsOf
  refine wpAny_bind (wpAny_load ho (wpAny_pure (wpAny_pure ?_)))
  refine sif_false rfl (wpS_any ?_)
  have hl₁ : (s.heap.update a (Obj.mapBytearray fun _ => #[])).get? a = some (baObj #[]) := Heap.get?_update_self (Obj.mapBytearray fun _ => #[]) ho rfl
  refine wpAny_bind (ba_write ho (Nat.zero_le _) ?_)
  refine wpAny_bind (wpAny_of_eq (a := none) rfl ?_)
  refine bm_if_false rfl ?_
  refine wpAny_bind (wpAny_of_eq (a := ()) rfl ?_)
  refine wpAny_bind (wpAny_specialOf (typeIs_int _ _) Fa.int_index ?_)
  refine bm_if_true rfl ?_
  refine wpAny_bind (wpAny_attempt (wpAny_of_eq (a := n) rfl ?_))
  dsimp only
  have hb : n.toNat ≤ 16777216 := hz
  refine bm_if_false (by unfold Builtin.Bytes.fitsIndex; simp only [Bool.not_eq_false', Bool.and_eq_true, decide_eq_true_eq]; omega) ?_
  rw [if_neg (by omega)]
  refine bm_if_false (by rw [beq_eq_false_iff_ne]; omega) ?_
  refine bm_if_false (by unfold Builtin.Bytes.tooLong; rw [decide_eq_false_iff_not]; exact Nat.not_lt.mpr hz) ?_
  refine wpAny_bind (wpAny_rule ?_)
  split
  · refine wpAny_bind (ba_write hl₁ (by rw [Array.size_replicate]; exact hz) ?_)
    have hl₂ : ((s.heap.update a (Obj.mapBytearray fun _ => #[])).update a (Obj.mapBytearray fun _ => Array.replicate n.toNat 0)).get? a = some (baObj (Array.replicate n.toNat 0)) := Heap.get?_update_self (Obj.mapBytearray fun _ => Array.replicate n.toNat 0) hl₁ rfl
    exact wpAny_pure (h _ hl₂ (fun b o hb e => ((Heap.get?_update_ne _ _ _ _ hb).trans (Heap.get?_update_ne _ _ _ _ hb)).trans e) _)
  · have hn : n = 0 := by omega
    subst hn
    exact wpAny_pure (h _ hl₁ (fun b o hb e => (Heap.get?_update_ne _ _ _ _ hb).trans e) _)

theorem codeS_builtin {id : String} {args : Args} {b : Builtin} {R : Result → Shared → Prop} (hb : entryFor table id = some b)
    (h : wpS (model prog w) (A.under (.builtin id args)) (b args)
      (fun fin s' => match fin with | .done f => R (.ok f) s' | .again c' => c'.quiet = true ∧ calmCode c' = true ∧ codeS (model prog w) A c' R s') (fun e s' => R (.error e) s') s) :
    codeS (model prog w) A (.builtin id args) R s := by
  refine codeS_of_tree ?_
  show wpS _ _ (match entryFor table id with | some b => b args | none => unsupported ((withoutEnding? id "#data").getD id)) _ _ s
  rw [hb]; exact h
theorem calm_of {id : String} {args : Args} (h : badIds.contains id = false) : calmCode (.builtin id args) = true := by
  simp only [calmCode, h, Bool.not_false]
set_option maxHeartbeats 2000000 in
theorem call_bytearray {n : Int} {t : Tok} {Q : Value → Shared → Prop} (h0 : 0 ≤ n) (hz : n.toNat ≤ sizeLine)
    (h : ∀ h', h'.get? s.heap.objs.size = some (baObj (Array.replicate n.toNat 0)) → (∀ b o, s.heap.get? b = some o → h'.get? b = some o) → ∀ tk, Q (.ref s.heap.objs.size) { s with heap := h', toks := tk }) :
    wpS (model prog w) A (call (.type "bytearray") [.int n t]) Q E s := by
  refine wpS_call (codeS_of_tree ?_)
  show wpS _ _ (callAny (.type "bytearray") _) _ _ _
  refine wpS_pure ⟨Code.quiet_builtin _ (by decide +kernel), calm_of (by decide +kernel), codeS_builtin F.entry_type_call ?_⟩
  rw [Around.under_plain (weight_type_call_type "bytearray" [.int n t] []) rfl]
  unfold Builtin.«type.__call__»
  dsimp only
  refine sif_false (by decide) ?_
  refine sif_false Fa.called.canCreate ?_
  refine wpS_bind (wpS_any (wpAny_of_eq (Fa.typeCall _) ?_))
  refine wpS_bind (wpS_any (wpAny_of_eq Fa.mro ?_))
  refine sif_false rfl ?_
  refine wpS_bind (wpS_any (wpAny_of_eq Fa.made ?_))
  dsimp only
  refine wpS_bind (wpS_pure ?_)
  refine wpS_bind (wpS_holding ?_)
  refine wpS_any (wpAny_call (codeAny_mono (code_ba_new (E := fun _ _ => False) (.int n t) (Q₁ := fun v s₁ => v = .ref s.heap.objs.size ∧ s₁ = { s with heap := s.heap.push (baObj #[]) }) ⟨rfl, rfl⟩) fun r s₁ hr => ?_))
  cases r with
  | error e => exact hr.elim
  | ok fl =>
    cases fl with
    | ret obj =>
      obtain ⟨rfl, rfl⟩ := hr
      have ho : (s.heap.push (baObj #[])).get? s.heap.objs.size = some (baObj #[]) := Heap.get?_push_size _ rfl
      have hT : ({ s with heap := s.heap.push (baObj #[]) } : Shared).TypeIs (.ref s.heap.objs.size) "bytearray" := ⟨_, ho, rfl⟩
      dsimp only
      refine wpS_bind (wpS_any (wpAny_isInstance hT Fa.sub ?_))
      refine sif_false rfl ?_
      refine wpS_bind (wpS_holding ?_)
      unfold callSpecial?
      refine wpS_bind (wpS_any (wpAny_specialOf hT Fa.slot_init.lookup ?_))
      dsimp only
      refine wpS_holding (wpS_bind (wpS_any (wpAny_of_eq (Fa.slot_init.bind _) ?_)))
      dsimp only
      refine wpS_bind (wpS_call (codeS_of_tree ?_))
      show wpS _ _ (do checkBuiltinCall "bytearray.__init__" ⟨[.ref s.heap.objs.size, .int n t], []⟩; again (.builtin "bytearray.__init__" ⟨[.ref s.heap.objs.size, .int n t], []⟩)) _ _ _
      refine wpS_bind (wpS_any (Fa.slot_init.check _ _ _ _ _ _ _ _ hT (by unfold argsOk; kernel_rfl) ?_))
      refine wpS_pure ⟨plainId_quiet Fa.plain_init _, calm_of (by decide +kernel), codeS_builtin Fa.entry_init ?_⟩
      refine ba_init ho h0 hz fun h' h1 h2 tk => ?_
      dsimp only
      refine wpS_pure ?_
      dsimp only
      refine sif_false (by decide) ?_
      exact wpS_pure (h h' h1 (fun b o e => h2 b o (Nat.ne_of_lt (Heap.lt_size e)) (Heap.get?_push_of_some _ e)) tk)
    | _ => exact hr.elim

theorem ba_setItem {a : Addr} {b : Array UInt8} {k v : Int} {t u : Tok} {Q : Unit → Shared → Prop} (ho : s.heap.get? a = some (baObj b)) (h0 : 0 ≤ k) (hk : k.toNat < b.size) (hz : b.size ≤ sizeLine) (hv : 0 ≤ v) (hv' : v < 256)
    (h : Q () { s with heap := s.heap.update a (Obj.mapBytearray (·.setIfInBounds k.toNat v.toNat.toUInt8)) }) :
    wpAny (model prog w) A (setItem (.ref a) (.int k t) (.int v u)) Q E s := by
  have hT := typeIs_ba ho
  have hb : b.size ≤ 16777216 := hz
  unfold setItem
  try with_reducible refine wpAny_holding ?_
  first | refine wpAny_bind (wpAny_pure ?_) | skip
  refine wpAny_bind (wpAny_sequenceKey hT (by decide) ?_)
  refine wpAny_bind (wpAny_callSpecial?_slot (name := Str.ofString "__setitem__") hT Fa.slot_setitem
    (wpAny_call_entry Fa.slot_setitem hT Fa.entry_setitem ?_ (by unfold argsOk; kernel_rfl)))
  unfold Builtin.«bytearray.__setitem__»
  dsimp only
  refine bm_if_false rfl ?_
  unfold Builtin.Bytes.subscript?
  refine wpAny_bind (wpAny_bind (wpAny_specialOf (typeIs_int _ _) Fa.int_index ?_))
  refine bm_if_false rfl ?_
  refine wpAny_bind (wpAny_of_eq (a := k) rfl ?_)
  refine bm_if_false (by unfold Builtin.Bytes.fitsIndex; simp only [Bool.not_eq_false', Bool.and_eq_true, decide_eq_true_eq]; omega) ?_
  refine wpAny_pure ?_
  dsimp only
  unfold Builtin.Bytes.byteValue
  refine wpAny_bind (wpAny_bind (wpAny_of_eq (a := v) rfl ?_))
  refine bm_if_false (by simp only [Bool.or_eq_false_iff, decide_eq_false_iff_not]; omega) ?_
  refine wpAny_pure ?_
  unfold Builtin.Bytes.payload Builtin.Bytes.payload?
  refine wpAny_bind (wpAny_bind (wpAny_bind (wpAny_load ho (wpAny_pure (wpAny_pure ?_)))))
  have e : seqIndex? k b.size = some k.toNat := by
    unfold seqIndex?
    have hk' : (k.toNat : Int) < b.size := Int.ofNat_lt.mpr hk
    have e1 : (if k < 0 then k + (b.size : Int) else k) = k := if_neg (by omega)
    simp only [e1]
    rw [if_pos]
    simp only [Bool.and_eq_true, decide_eq_true_eq]
    omega
  rw [e]
  dsimp only
  refine wpAny_bind (ba_write ho (by rw [Array.size_setIfInBounds]; exact hz) ?_)
  first
    | exact wpAny_pure ⟨.none, rfl, wpAny_pure h⟩
    | exact wpAny_bind (wpAny_pure (wpAny_pure ⟨.none, rfl, wpAny_pure h⟩))
theorem ba_bytes {a : Addr} {b : Array UInt8} {Q : Value → Shared → Prop} (ho : s.heap.get? a = some (baObj b)) (hz : b.size ≤ sizeLine)
    (h : ∀ t k, Q (.bytes b t) { s with toks := k }) : wpAny (model prog w) A (call (.type "bytes") [.ref a]) Q E s := by
  have hT := typeIs_ba ho
  refine callType_codes (Q₁ := fun obj s₁ => s₁.TypeIs obj "bytes" ∧ Q obj s₁) F.bm_called (F.bm_typeCall _) F.entry_object_init ?_ fun obj s₁ h₁ => ?_
  · refine codeAny_of_tree ?_
    show wpAny _ _ (do checkBuiltinCall "bytes.__new__" ⟨[.type "bytes", .ref a], []⟩; again (.builtin "bytes.__new__" ⟨[.type "bytes", .ref a], []⟩)) _ _ s
    refine wpAny_bind (wpAny_of_eq (F.bm_newCall _) (wpAny_pure ⟨plainId_quiet F.bm_plain _, codeAny_builtin F.bm_entry ?_⟩))
    rw [Around.under_plainId F.bm_plain _]
    unfold Builtin.«bytes.__new__»
    refine wpAny_bind (wpAny_of_eq (a := true) rfl ?_)
    refine bm_if_false rfl ?_
    refine wpAny_bind (wpAny_of_eq F.bm_sub ?_)
    refine bm_if_false rfl ?_
    refine wpAny_bind (wpAny_of_eq (F.bm_bind _) ?_)
    refine wpAny_bind (wpAny_of_eq (a := ()) rfl ?_)
    refine wpAny_bind (wpAny_of_eq (a := ()) rfl ?_)
    refine bm_if_false rfl ?_
    refine wpAny_bind (wpAny_specialOf hT Fa.noBytes ?_)
    refine wpAny_bind (wpAny_bind ?_)
    show wpAny _ _ (load a >>= _) _ _ _
    refine wpAny_bind (wpAny_load ho ?_)
    refine wpAny_pure (wpAny_pure ?_)
    refine bm_if_false rfl ?_
    refine wpAny_bind (wpAny_specialOf hT Fa.noIndex ?_)
    refine bm_if_true rfl ?_
    first
      | show wpAny _ _ (Builtin.Bytes.buffer? "bytes.__new__" (.ref a) true >>= _) _ _ _
      | (refine wpAny_bind ?_; show wpAny _ _ (Builtin.Bytes.buffer? "bytes.__new__" (.ref a) true >>= _) _ _ _)
    refine wpAny_bind ?_
    unfold Builtin.Bytes.buffer?
    refine wpAny_bind (wpAny_specialOf hT Fa.lookup_buffer ?_)
    dsimp only
    unfold Builtin.Bytes.slotIsOwn
    refine wpAny_bind (wpAny_bind (wpAny_specialOf hT Fa.lookup_buffer ?_))
    dsimp only
    rw [ends_buffer, drop_buffer]
    simp only [Bool.not_true, Bool.false_eq_true, if_false]
    refine wpAny_isInstance hT Fa.sub ?_
    simp only [Bool.not_true, Bool.false_eq_true, if_false]
    refine wpAny_bind (wpAny_specialOf hT Fa.lookup_buffer ?_)
    show wpAny _ _ (Builtin.Bytes.ownRelease (.ref a) >>= _) _ _ _
    refine wpAny_bind (slotOwn_release ho ?_)
    refine bm_if_false rfl ?_
    unfold Builtin.Bytes.payload Builtin.Bytes.payload?
    refine wpAny_bind (wpAny_bind (wpAny_bind (wpAny_load ho (wpAny_pure (wpAny_pure (wpAny_pure ?_))))))
    dsimp only
    refine wpAny_bind (wpAny_rule ?_)
    refine wpAny_bind (wpAny_mkBytes ?_ hz)
    show wpAny _ _ (if (Value.type "bytes" == Value.type "bytes") = true then _ else _) _ _ _
    refine bm_if_true (by decide) ?_
    first
      | exact wpAny_pure ⟨PySem.W.typeIs_bytes _ _ _, h _ _⟩
      | exact wpAny_bind (wpAny_pure (wpAny_pure ⟨PySem.W.typeIs_bytes _ _ _, h _ _⟩))
  · exact ⟨h₁.1, F.args_object_init_2 obj _, object_init_meets F.bm_called.init.lookup F.bm_called.made (by decide) prog w A.in1 _ s₁ ⟨h₁.1, rfl, h₁.2⟩⟩

variable {h₀ : Heap} {L : Addr} {m : Str → Option Value} {news news' : List (Addr × Obj)}
theorem call_bytearray_K {n : Int} {t : Tok} {Q : Value → Shared → Prop} (F : Fr h₀ L s.heap m) (N : News h₀ L s.heap news) (h0 : 0 ≤ n) (hz : n.toNat ≤ sizeLine)
    (h : ∀ a h' tk, Fr h₀ L h' m → News h₀ L h' ((a, baObj (Array.replicate n.toNat 0)) :: news) → (∀ p ∈ news, p.1 < a) → Q (.ref a) { s with heap := h', toks := tk }) :
    wpS (model prog w) A (call (.type "bytearray") [.int n t]) Q E s := by
  refine call_bytearray h0 hz fun h' h1 h2 tk => h _ h' tk (F.grownK h2) (fun p hp => ?_) fun p hp => Heap.lt_size (N p hp).1
  rcases List.mem_cons.mp hp with rfl | hp
  · exact ⟨h1, Nat.ne_of_gt F.ns.lt, next_is_new F⟩
  · exact N.grown h2 p hp
theorem ba_set_K {a : Addr} {b : List UInt8} {k v : Int} {t u : Tok} {Q : Unit → Shared → Prop} (F : Fr h₀ L s.heap m) (N : News h₀ L s.heap news) (U : Upd a (baObj b.toArray) (baObj (b.set k.toNat v.toNat.toUInt8).toArray) news news')
    (h0 : 0 ≤ k) (hk : k < b.length) (hz : b.length ≤ 1000000) (hv : 0 ≤ v) (hv' : v < 256)
    (h : ∀ h', Fr h₀ L h' m → News h₀ L h' news' → Q () { s with heap := h' }) :
    wpAny (model prog w) A (setItem (.ref a) (.int k t) (.int v u)) Q E s := by
  obtain ⟨pre, post, rfl, rfl, e1, e2⟩ := U.split
  have z := N (a, baObj b.toArray) (List.mem_append.mpr (.inr (.head _)))
  refine ba_setItem z.1 h0 (by rw [List.size_toArray]; omega) (by rw [List.size_toArray]; exact Nat.le_trans hz (by decide)) hv hv' ?_
  obtain ⟨F', N'⟩ := news_upd (f := Obj.mapBytearray (·.setIfInBounds k.toNat v.toNat.toUInt8)) (o' := baObj (b.set k.toNat v.toNat.toUInt8).toArray) F N e1 e2 (by simp [Obj.mapBytearray, baObj]) rfl
  exact h _ F' N'
theorem bytes_item {value slice : PySem.Expr} {l : List UInt8} {i : Int} {t u : Tok} {Q : Value → Shared → Prop} (hz : l.length ≤ 1000000) (h0 : 0 ≤ i) (h1 : i < l.length)
    (h : Q (.int (l.getD i.toNat 0).toNat s.toks) { s with toks := s.toks + 1 })
    (hs : subscripted slice false (.bytes l.toArray t) (.int i u) = operate [.bytes l.toArray t, .int i u] (getItem (.bytes l.toArray t) (.int i u)) := by with_unfolding_all rfl) :
    wpAny (model prog w) A (subscriptTail value slice (.bytes l.toArray t) (.int i u)) Q E s :=
  subscriptTail_builtin (typeIs_bytes _ _ _) FB.slot_bytes_getitem.lookup (getItem_bytes (Nat.le_trans hz (by decide)) h0 h1 h) hs (by intro r; unfold letTemporaryGo; split <;> first | rfl | contradiction)
theorem bytes_cut {value slice : PySem.Expr} {b : List UInt8} {t : Tok} {l u : Value} {lo hi : Option Int} {Q : Value → Shared → Prop} (hF : Fr h₀ L s.heap m) (hN : News h₀ L s.heap news) (hl : IsPart l lo) (hu : IsPart u hi) (hz : b.length ≤ 1000000)
    (h : ∀ h' t' k, Fr h₀ L h' m → News h₀ L h' news → Q (.bytes ((b.drop (lo.elim 0 (clipAt b.length))).take (hi.elim b.length (clipAt b.length) - lo.elim 0 (clipAt b.length))).toArray t') { s with heap := h', toks := k })
    (hs : subscripted slice false (.bytes b.toArray t) (.ref s.heap.objs.size) = operate [.ref s.heap.objs.size, .bytes b.toArray t] (getItem (.bytes b.toArray t) (.ref s.heap.objs.size)) := by with_unfolding_all rfl)
    (ht : ∀ r, letTemporaryGo value (.bytes b.toArray t) r = pure () := by intro _; with_unfolding_all rfl) :
    wpAny (model prog w) A (subscriptTail value slice (.bytes b.toArray t) (.ref s.heap.objs.size)) Q E { s with heap := s.heap.push { cls := .type "slice", data := .fields #[l, u, .none] } } := by
  refine KBc.slice_K (ks := KBw.bInts b.toArray) hF hN rfl hl hu (by rw [KBw.ints_length, List.size_toArray]; omega) (fun h' t' k F' N' _ => ?_) hs ht
  rw [KBc.picked_eq]
  simp only [List.size_toArray]
  exact h h' t' k F' N'
end

/-! ## what _byteswap gives -/
def swapAt (b : List UInt8) (n k : Nat) : UInt8 := b.getD (k / n * n + (n - 1 - k % n)) 0
def swapL (b : List UInt8) (n : Nat) : List UInt8 := (List.range b.length).map (swapAt b n)
/-- after i whole words and j octets of the next one -/
def swapTo (b : List UInt8) (n i j : Nat) : List UInt8 := (List.range b.length).map fun k => if k < i * n ∨ (i * n + n - j ≤ k ∧ k < i * n + n) then swapAt b n k else 0
theorem swapTo_length (b : List UInt8) (n i j : Nat) : (swapTo b n i j).length = b.length := by simp [swapTo]
theorem swapL_length (b : List UInt8) (n : Nat) : (swapL b n).length = b.length := by simp [swapL]
theorem swapTo_zero (b : List UInt8) (n : Nat) : swapTo b n 0 0 = List.replicate b.length 0 := by
  apply List.ext_getElem
  · simp [swapTo]
  · intro k h1 h2
    simp only [swapTo, List.getElem_map, List.getElem_range, List.getElem_replicate]
    rw [if_neg (by omega)]
theorem swapTo_next (b : List UInt8) (n i : Nat) : swapTo b n i n = swapTo b n (i + 1) 0 := by
  apply List.ext_getElem
  · simp [swapTo]
  · intro k h1 h2
    simp only [swapTo, List.getElem_map, List.getElem_range]
    have e : (i + 1) * n = i * n + n := Nat.succ_mul i n
    rw [e]
    by_cases h : k < i * n + n
    · rw [if_pos (by omega), if_pos (by omega)]
    · rw [if_neg (by omega), if_neg (by omega)]
theorem swapTo_all (b : List UInt8) (n q : Nat) (h : b.length = q * n) : swapTo b n q 0 = swapL b n := by
  apply List.ext_getElem
  · simp [swapTo, swapL]
  · intro k h1 h2
    simp only [swapTo, swapL, List.getElem_map, List.getElem_range]
    rw [swapTo_length] at h1
    rw [if_pos (by omega)]
theorem swapTo_set (b : List UInt8) (n i j : Nat) (hn : 0 < n) (hj : j < n) (hi : i * n + n ≤ b.length) :
    (swapTo b n i j).set (i * n + n - 1 - j) (b.getD (i * n + j) 0) = swapTo b n i (j + 1) := by
  apply List.ext_getElem
  · simp [swapTo]
  · intro k h1 h2
    rw [List.getElem_set]
    simp only [swapTo, List.getElem_map, List.getElem_range]
    by_cases h : i * n + n - 1 - j = k
    · rw [if_pos h, if_pos (by omega)]
      have e : k = i * n + (n - 1 - j) := by omega
      have e1 : k / n = i := by rw [e, Nat.mul_comm, Nat.mul_add_div hn, Nat.div_eq_of_lt (by omega), Nat.add_zero]
      have e2 : k % n = n - 1 - j := by rw [e, Nat.mul_comm, Nat.mul_add_mod, Nat.mod_eq_of_lt (by omega)]
      unfold swapAt
      rw [e1, e2]
      congr 1
      omega
    · rw [if_neg h]
      by_cases h' : k < i * n ∨ i * n + n - j ≤ k ∧ k < i * n + n
      · rw [if_pos h', if_pos (by omega)]
      · rw [if_neg h', if_neg (by omega)]
end Mine
set_option maxRecDepth 100000
set_option Elab.async false
open PySem PySem.W PySem.Calls PyProof.Rows
namespace Mine
/-! ## comprehensions over any source, by the ledger -/
section
variable {prog : Program} {w : World} {A : Around} {E : Value → Shared → Prop} {s : Shared} {env : Env} {h₀ : Heap} {L : Addr} {m : Str → Option Value} {news : List (Addr × Obj)}
/-- what the source of a comprehension must give -/
def CompAt (prog : Program) (w : World) (A : Around) (env : Env) (scope : Scope) (cl : List (Str × Addr)) (x : Str) (ifs : List Expr) (elt : Expr) (p : Value → Bool) (G : Value → Value → Prop) (Q : Value → Shared → Prop) (it : Value) (s₂ : Shared) : Prop :=
  ∃ I fp wr n P St, it = .ref I ∧ Walks prog w A I fp wr n P St ∧ n ≤ sizeLine ∧ St 0 s₂.heap ∧ (∀ b ∈ fp, b < s₂.heap.objs.size) ∧
      QuietOnC prog w A env scope cl x ifs elt wr P p G s₂ ∧
      (∀ D h' tk ys (vs : List Value), s₂.heap.get? D = none → h'.IsList D ys → h'.PlainList D ys → vs.length = n → (∀ j v, vs[j]? = some v → P j v) → Paired G (vs.filter p) ys.toList →
        (∀ b o, b ∉ wr → s₂.heap.get? b = some o → h'.get? b = some o) → Q (.ref D) { s₂ with heap := h', toks := tk })
theorem comp_any {elt iter : Expr} {x : Str} {px : Pos} {ifs : List Expr} {scope : Scope} {cl : List (Str × Addr)} {pos : Pos} {Q : Value → Shared → Prop} (p : Value → Bool) (G : Value → Value → Prop)
    (hclos : closureFor scope env = pure cl) (hcell : ∀ y ∈ scope.names, y.2 ≠ .cell) (hkind : scope.kind = .function)
    (hnames : ∀ y ∈ scope.names, y.2 = .local → scope.names.lookup y.1 = some .local) (hx : scope.names.lookup x = some .local)
    (h : wpAny (model prog w) A (eval iter env) (fun xv s₁ => wpAny (model prog w) A (pyIter xv) (CompAt prog w A env scope cl x ifs elt p G Q) E s₁) E s)
    (hs : ∀ x, foldedSetIterable iter env x = pure x := by intro _; rfl) :
    wpAny (model prog w) A (eval (.ListComp elt [⟨.Name x px, iter, ifs, 0⟩] scope pos) env) Q E s :=
  wpAny_ListComp_free p G hclos hcell hkind hnames hx h hs
theorem comp_at {I : Addr} {fp wr : List Addr} {n : Nat} {P : Nat → Value → Prop} {St : Nat → Heap → Prop} {scope : Scope} {cl : List (Str × Addr)} {x : Str} {ifs : List Expr} {elt : Expr} {p : Value → Bool} {G : Value → Value → Prop} {Q : Value → Shared → Prop}
    (W : Walks prog w A I fp wr n P St) (hn : n ≤ sizeLine) (hst : St 0 s.heap) (hfp : ∀ b ∈ fp, b < s.heap.objs.size)
    (hwr : ∀ b ∈ wr, h₀.get? b = none ∧ b ≠ L ∧ ∀ q ∈ news, q.1 ≠ b) (F : Fr h₀ L s.heap m) (N : News h₀ L s.heap news)
    (tests : ∀ C i v s₃ m₃ E', P i v → s₃.heap.Ns C m₃ → m₃ x = some v → Fr h₀ L s₃.heap m → News h₀ L s₃.heap news →
      wpAny (model prog w) A (forIn ifs true fun c r => if r = true then do let ok ← isTrue c (compEnvC scope cl C env) (eval c (compEnvC scope cl C env)); pure (ForInStep.yield ok) else pure (ForInStep.yield r))
        (fun ok s₄ => ok = p v ∧ Keeps s₃ s₄) E' s₃)
    (elts : ∀ C i v s₃ m₃ E', P i v → p v = true → s₃.heap.Ns C m₃ → m₃ x = some v → Fr h₀ L s₃.heap m → News h₀ L s₃.heap news →
      wpAny (model prog w) A (eval elt (compEnvC scope cl C env)) (fun y s₄ => G v y ∧ Keeps s₃ s₄) E' s₃)
    (h : ∀ (D : Addr) (k : Nat) (ys vs : List Value) (h' : Heap) (tk : Nat), Fr h₀ L h' m → News h₀ L h' ((D, listOf (List.toArray ys) k) :: news) → (∀ q ∈ news, q.1 ≠ D) → vs.length = n → (∀ j v, vs[j]? = some v → P j v) → Paired G (vs.filter p) ys → Q (.ref D) { s with heap := h', toks := tk }) :
    CompAt prog w A env scope cl x ifs elt p G Q (.ref I) s := by
  have grow : ∀ h' : Heap, (∀ b o, b ∉ wr → s.heap.get? b = some o → h'.get? b = some o) → Fr h₀ L h' m ∧ News h₀ L h' news := fun h' hk =>
    ⟨⟨F.ns.at' fun o e => hk _ o (fun q => (hwr _ q).2.1 rfl) e, fun b o e => hk b o (fun q => by rw [(hwr _ q).1] at e; cases e) (F.keep b o e), F.above⟩,
      fun q hq => ⟨hk _ _ (fun z => (hwr _ z).2.2 q hq rfl) (N q hq).1, (N q hq).2⟩⟩
  refine ⟨I, fp, wr, n, P, St, rfl, W, hn, hst, hfp, ⟨?_, ?_⟩, ?_⟩
  · intro C i v s₃ m₃ E' _ hP hns hm hk _
    obtain ⟨F₃, N₃⟩ := grow _ hk
    exact tests C i v s₃ m₃ E' hP hns hm F₃ N₃
  · intro C i v s₃ m₃ E' _ hP hp hns hm hk _
    obtain ⟨F₃, N₃⟩ := grow _ hk
    exact elts C i v s₃ m₃ E' hP hp hns hm F₃ N₃
  · intro D h' tk ys vs hD _ hpl hlen hP hG hk
    obtain ⟨F₃, N₃⟩ := grow _ hk
    obtain ⟨k, hk'⟩ := hpl
    have hne : ∀ q ∈ news, q.1 ≠ D := fun q hq z => by have := (N q hq).1; rw [z, hD] at this; cases this
    refine h D k ys.toList vs h' tk F₃ (fun q hq => ?_) hne hlen hP hG
    rcases List.mem_cons.mp hq with rfl | hq
    · refine ⟨?_, ?_, ?_⟩
      · show h'.get? D = some (listOf ys.toList.toArray k)
        rw [Array.toArray_toList]; exact hk'
      · intro z
        obtain ⟨o, es, ep, ho, _⟩ := F.ns
        rw [← z, hD] at ho; cases ho
      · cases z : h₀.get? D with
        | none => rfl
        | some o => have := F.keep D o z; rw [hD] at this; cases this
    · exact N₃ q hq

theorem comp_bytes {b : List UInt8} {t : Tok} {scope : Scope} {cl : List (Str × Addr)} {x : Str} {ifs : List Expr} {elt : Expr} {p : Value → Bool} {G : Value → Value → Prop} {Q : Value → Shared → Prop} (hh : A.handled = none)
    (hz : b.length ≤ 1000000) (F : Fr h₀ L s.heap m) (N : News h₀ L s.heap news)
    (tests : ∀ C v s₃ m₃ E', (∃ c u, c ∈ b ∧ v = .int (c.toNat : Int) u) → s₃.heap.Ns C m₃ → m₃ x = some v → Fr h₀ L s₃.heap m → News h₀ L s₃.heap news →
      wpAny (model prog w) A (forIn ifs true fun c r => if r = true then do let ok ← isTrue c (compEnvC scope cl C env) (eval c (compEnvC scope cl C env)); pure (ForInStep.yield ok) else pure (ForInStep.yield r))
        (fun ok s₄ => ok = p v ∧ Keeps s₃ s₄) E' s₃)
    (elts : ∀ C v s₃ m₃ E', (∃ c u, c ∈ b ∧ v = .int (c.toNat : Int) u) → p v = true → s₃.heap.Ns C m₃ → m₃ x = some v → Fr h₀ L s₃.heap m → News h₀ L s₃.heap news →
      wpAny (model prog w) A (eval elt (compEnvC scope cl C env)) (fun y s₄ => G v y ∧ Keeps s₃ s₄) E' s₃)
    (h : ∀ (D : Addr) (k : Nat) (ys vs : List Value) (h' : Heap) (tk : Nat), Fr h₀ L h' m → News h₀ L h' ((D, listOf (List.toArray ys) k) :: news) → (∀ q ∈ news, q.1 ≠ D) → IntsAre vs (b.map fun c => (c.toNat : Int)) → Paired G (vs.filter p) ys → Q (.ref D) { s with heap := h', toks := tk }) :
    wpAny (model prog w) A (pyIter (.bytes b.toArray t)) (CompAt prog w A env scope cl x ifs elt p G Q) E s := by
  refine KBw.pyIter_bytes ?_
  have hmem : ∀ {i : Nat} {c : UInt8}, b.toArray[i]? = some c → c ∈ b := fun {i c} e => List.mem_of_getElem? (by simpa using e)
  refine comp_at (KBw.walks hh s.heap.objs.size b.toArray t) (by rw [List.size_toArray]; exact Nat.le_trans hz (by decide)) ⟨_, Heap.get?_push_size _ rfl, rfl, rfl⟩ ?_ ?_ (F.push _) (fun q hq => ⟨Heap.get?_push_of_some _ (N q hq).1, (N q hq).2⟩) ?_ ?_ ?_
  · intro q hq
    rw [List.mem_singleton.mp hq, Heap.size_push]; exact Nat.lt_succ_self _
  · intro q hq
    rw [List.mem_singleton.mp hq]
    exact ⟨next_is_new F, Nat.ne_of_gt F.ns.lt, fun z hz => Nat.ne_of_lt (Heap.lt_size (N z hz).1)⟩
  · rintro C i v s₃ m₃ E' ⟨c, u, hc, rfl⟩
    exact tests C _ s₃ m₃ E' ⟨c, u, hmem hc, rfl⟩
  · rintro C i v s₃ m₃ E' ⟨c, u, hc, rfl⟩
    exact elts C _ s₃ m₃ E' ⟨c, u, hmem hc, rfl⟩
  · intro D k ys vs h' tk F' N' hne hlen hP hG
    refine h D k ys vs h' tk F' N' hne ?_ hG
    rw [List.size_toArray] at hlen
    clear hG N' F' hne h elts tests F N
    induction vs generalizing b with
    | nil => cases b with
      | nil => exact .nil
      | cons c b => simp at hlen
    | cons v vs ih =>
      cases b with
      | nil => simp at hlen
      | cons c b =>
        obtain ⟨c', u, hc, rfl⟩ := hP 0 v rfl
        simp only [List.getElem?_toArray, List.getElem?_cons_zero, Option.some.injEq] at hc
        subst hc
        refine .cons _ _ (ih (b := b) (by simp at hz; omega) (fun {i c} e => List.mem_of_getElem? (by simpa using e)) (by simpa using hlen) fun j v hj => ?_)
        obtain ⟨c', u', hc', e⟩ := hP (j + 1) v (by simpa using hj)
        exact ⟨c', u', by simpa using hc', e⟩
end
end Mine
set_option maxRecDepth 100000
set_option Elab.async false
open PySem PySem.W PySem.Calls PyProof.Rows
namespace Mine
/-! ## list(bytes) -/
section
variable {prog : Program} {w : World} {A : Around} {E : Value → Shared → Prop} {s : Shared}
theorem bytes_len_look : typeLookup (.type "bytes") "__len__" = pure (some (.builtin "bytes.__len__")) := by rw [typeLookup_type, builtinLookup_eq_fast]; kernel_rfl
def OctAt (b : Array UInt8) (i : Nat) (v : Value) : Prop := ∃ c u, b[i]? = some c ∧ v = .int (c.toNat : Int) u
theorem extend_bytes {R : Result → Shared → Prop} (hh : A.handled = none) (b : Array UInt8) (t : Tok) (S : Addr) (res : Value) (c₀ : Nat) (hS : s.heap.get? S = some { cls := .type "list", data := .seq #[] c₀ })
    (hR : ∀ h' tk acc' c', (∀ b o, b ≠ S → s.heap.get? b = some o → h'.get? b = some o) → h'.get? S = some { cls := .type "list", dict := none, data := .seq acc' c', slots := #[] } →
      ItemsOf (OctAt b) acc' b.size → R (.ok (.ret res)) { s with heap := h', toks := tk }) (hn : b.size ≤ sizeLine) :
    wpAny (model prog w) A.in1 (Builtin.List.listExtendWith (.ref S) (.bytes b t) res)
      (fun fin s' => match fin with | .done f => R (.ok f) s' | .again c' => c'.quiet = true ∧ codeAny (model prog w) A c' R s') (fun e s' => R (.error e) s') s := by
  have hSI : S ≠ s.heap.objs.size := Nat.ne_of_lt (Heap.lt_size hS)
  have hSf : S ∉ [s.heap.objs.size] := fun hm => hSI (List.mem_singleton.mp hm)
  unfold Builtin.List.listExtendWith
  refine wpAny_bind (wpAny_typeOf (T := "bytes") (v := .bytes b t) rfl ?_)
  have h1 : Builtin.List.listSameRef (.ref S) (.bytes b t) = false := rfl
  have h2 : (Value.type "bytes" == Value.type "list") = false := by decide
  have h3 : (Value.type "bytes" == Value.type "tuple") = false := by decide
  simp only [h1, h2, h3, Bool.or_false, Bool.false_eq_true, if_false]
  refine wpAny_bind (KBw.pyIter_bytes ?_)
  refine wpAny_bind (wpAny_holding ?_)
  unfold Builtin.List.listLengthHint
  refine wpAny_bind (wpAny_specialOf (T := "bytes") (v := .bytes b t) rfl bytes_len_look ?_)
  wp_delta
  refine wpAny_bind (wpAny_isInstance (T := "bytes") (v := .bytes b t) (b := true) rfl (by rw [isSubtype_type]; kernel_rfl) ?_)
  show wpAny _ _ (typeOf (Value.bytes b t) >>= _) _ _ _
  refine wpAny_bind (wpAny_typeOf (T := "bytes") (v := .bytes b t) rfl ?_)
  refine wpAny_pure ?_
  rw [if_neg (by decide)]
  refine wpAny_pure ⟨plainId_quiet F.plain_extend_loop _, codeAny_extend_loopS (KBw.walks (A := A.in1) hh s.heap.objs.size b t).toS hn _ hSf _ b.size 0 _ _ _ rfl (Nat.zero_le _) ⟨_, Heap.get?_push_size _ rfl, rfl, rfl⟩ (Heap.get?_push_of_some _ hS) (ItemsOf.nil _) fun s' acc' c' hm hS' hacc => ?_⟩
  rw [Moved.eq_with hm]
  refine hR s'.heap s'.toks acc' c' (fun b ob hb e => hm.heap b ob (fun hmem => ?_) (Heap.get?_push_of_some _ e)) hS' hacc
  rcases List.mem_cons.mp hmem with e' | hmem
  · exact hb e'
  · exact absurd (Heap.lt_size e) (by rw [List.mem_singleton.mp hmem]; exact Nat.lt_irrefl _)
theorem init_bytes {R : Result → Shared → Prop} (hh : A.handled = none) (x : Array UInt8) (t : Tok) (S : Addr) (hS : s.heap.get? S = some { cls := .type "list", data := .seq #[] })
    (hR : ∀ h' tk acc' c', (∀ b o, b ≠ S → s.heap.get? b = some o → h'.get? b = some o) → h'.get? S = some { cls := .type "list", dict := none, data := .seq acc' c', slots := #[] } →
      ItemsOf (OctAt x) acc' x.size → R (.ok (.ret .none)) { s with heap := h', toks := tk }) (hn : x.size ≤ sizeLine) :
    wpAny (model prog w) A.in1 (Builtin.«list.__init__» ⟨[.ref S, .bytes x t], []⟩)
      (fun fin s' => match fin with | .done f => R (.ok f) s' | .again c' => c'.quiet = true ∧ codeAny (model prog w) A c' R s') (fun e s' => R (.error e) s') s := by
  show wpAny _ _ (do let old ← Builtin.List.listItems (.ref S); Builtin.List.listUpdate (.ref S) (fun _ => #[]); letGo old.toList.reverse; Builtin.List.listExtendWith (.ref S) (.bytes x t) .none) _ _ s
  refine wpAny_bind ?_
  unfold Builtin.List.listItems
  refine wpAny_bind (wpAny_seqItems hS rfl (wpAny_pure ?_))
  show wpAny _ _ (updateSeq S (fun _ => #[]) >>= fun _ => letGo (#[] : Array Value).toList.reverse >>= fun _ => Builtin.List.listExtendWith (.ref S) (.bytes x t) .none) _ _ s
  refine wpAny_bind (wpAny_updateSeq hS rfl ?_)
  have hS₂ := Heap.get?_update_self (Obj.mapSeq (fun _ => (#[] : Array Value))) hS rfl
  have oth : ∀ b o, b ≠ S → s.heap.get? b = some o → (s.heap.update S (Obj.mapSeq (fun _ => (#[] : Array Value)))).get? b = some o :=
    fun b o hb e => (Heap.get?_update_other _ _ (Ne.symm hb)).trans e
  refine wpAny_bind (wpAny_letGo ?_)
  refine extend_bytes (hn := hn) hh x t S .none _ hS₂ fun h' tk acc' c' hk hS' hacc => ?_
  exact hR h' tk acc' c' (fun b o hb e => hk b o hb (oth b o hb e)) hS' hacc
theorem ints_of_items {l : List UInt8} {acc : Array Value} (h : ItemsOf (OctAt l.toArray) acc l.toArray.size) : IntsAre acc.toList (l.map fun c => (c.toNat : Int)) := by
  have hlen : acc.toList.length = l.length := by simpa using h.1
  have hP : ∀ (j : Nat) (v : Value), acc.toList[j]? = some v → ∃ (c : UInt8) (u : Tok), l[j]? = some c ∧ v = Value.int (c.toNat : Int) u := by
    intro j v hv
    obtain ⟨c, u, hc, e⟩ := h.2 j v (by simpa using hv)
    exact ⟨c, u, by simpa using hc, e⟩
  clear h
  generalize acc.toList = vs at *
  induction vs generalizing l with
  | nil => cases l with
    | nil => exact .nil
    | cons c b => simp at hlen
  | cons v vs ih =>
    cases l with
    | nil => simp at hlen
    | cons c b =>
      obtain ⟨c', u, hc, rfl⟩ := hP 0 v rfl
      simp only [List.getElem?_cons_zero, Option.some.injEq] at hc
      subst hc
      refine .cons _ _ (ih (by simpa using hlen) fun j v hj => ?_)
      obtain ⟨c', u', hc', e⟩ := hP (j + 1) v (by simpa using hj)
      exact ⟨c', u', by simpa using hc', e⟩
variable {h₀ : Heap} {L : Addr} {m : Str → Option Value} {news : List (Addr × Obj)}
theorem list_bytes {l : List UInt8} {t : Tok} {Q : Value → Shared → Prop} (hh : A.handled = none) (F₀ : Fr h₀ L s.heap m) (N : News h₀ L s.heap news) (hn : l.length ≤ 1000000)
    (h : ∀ D k vs h' tk, Fr h₀ L h' m → News h₀ L h' ((D, listOf (List.toArray vs) k) :: news) → (∀ q ∈ news, q.1 < D) → IntsAre vs (l.map fun c => (c.toNat : Int)) → Q (.ref D) { s with heap := h', toks := tk }) :
    wpAny (model prog w) A (call (.type "list") [.bytes l.toArray t]) Q E s := by
  refine callType_codes (Q₁ := fun obj s₁ => obj = .ref s.heap.objs.size ∧ s₁ = { s with heap := s.heap.push { cls := .type "list", data := .seq #[] } }) F.called_list (F.typeCall_list_1 _) F.entry_list_init
    (code_list_new _ ⟨rfl, rfl⟩) fun obj s₁ h₁ => ?_
  obtain ⟨rfl, rfl⟩ := h₁
  have hS : (s.heap.push { cls := .type "list", data := .seq #[] }).get? s.heap.objs.size = some { cls := .type "list", data := .seq #[] } := Heap.get?_push_size _ rfl
  refine ⟨⟨_, hS, rfl⟩, F.args_list_init_2 _ _, init_bytes (A := A.in1) (hn := by rw [List.size_toArray]; exact Nat.le_trans hn (by decide)) hh l.toArray t _ hS fun h' tk acc' c' hk hS' hacc => ?_⟩
  have hk' : ∀ b o, s.heap.get? b = some o → h'.get? b = some o := fun b o e => hk b o (Nat.ne_of_lt (Heap.lt_size e)) (Heap.get?_push_of_some _ e)
  refine ⟨rfl, h s.heap.objs.size c' acc'.toList h' tk (F₀.keeps hk') (fun q hq => ?_) (fun q hq => Heap.lt_size (N q hq).1) (ints_of_items hacc)⟩
  rcases List.mem_cons.mp hq with rfl | hq
  · refine ⟨?_, Nat.ne_of_gt F₀.ns.lt, next_is_new F₀⟩
    show h'.get? _ = some (listOf acc'.toList.toArray c')
    rw [Array.toArray_toList]; exact hS'
  · exact ⟨hk' _ _ (N q hq).1, (N q hq).2⟩
end
end Mine
set_option maxRecDepth 100000
set_option Elab.async false
open PySem PySem.W PySem.Calls PyProof.Rows
namespace Mine
/-! ## the turns of a comprehension, all alike -/
section
variable {prog : Program} {w : World} {A : Around} {s : Shared} {env : Env} {h₀ : Heap} {L : Addr} {m : Str → Option Value} {news : List (Addr × Obj)}
/-- the end of one turn's element: the ledger is as it was, and the element is fit -/
def EltEnd (h₀ : Heap) (L : Addr) (m : Str → Option Value) (all : List (Addr × Obj)) (s : Shared) (G : Value → Prop) (y : Value) (s' : Shared) : Prop :=
  ∃ h' tk', s' = { s with heap := h', toks := tk' } ∧ Fr h₀ L h' m ∧ News h₀ L h' all ∧ G y
theorem EltEnd.mk {all al' : List (Addr × Obj)} {G : Value → Prop} {y : Value} {h' : Heap} {tk' : Nat} (F : Fr h₀ L h' m) (N : News h₀ L h' al') (sub : ∀ p ∈ all, p ∈ al') (g : G y) : EltEnd h₀ L m all s G y { s with heap := h', toks := tk' } :=
  ⟨h', tk', rfl, F, fun p hp => N p (sub p hp), g⟩
theorem comp_turns {elt : Expr} {x : Str} {scope : Scope} {cl : List (Str × Addr)} {S : List (Addr × Obj) → Prop} {P : Nat → Value → Prop} {Fin : List Value → List (Addr × Obj) → Prop} {n : Nat} (G : Nat → Value → Prop) (hS : S news)
    (elts : ∀ i v I oI C oC D m₂ h tk (E' : Value → Shared → Prop) ys, i < n → P i v → LCg.NsObj oC m₂ → m₂ x = some v → Fr h₀ L h m → News h₀ L h ((I, oI) :: (C, oC) :: (D, LCg.lst ys) :: news) → LCg.Off3 I C D news → ((@Ne Nat I C) ∧ (@Ne Nat I D) ∧ (@Ne Nat C D)) →
      wpAny (model prog w) A (eval elt (compEnvC scope cl C env)) (EltEnd h₀ L m ((I, oI) :: (C, oC) :: (D, LCg.lst ys) :: news) { s with heap := h, toks := tk } (G i)) E' { s with heap := h, toks := tk })
    (fin : ∀ ys : List Value, ys.length = n → (∀ i y, ys[i]? = some y → G i y) → Fin ys news) :
    LCg.CompRest prog w A h₀ L m env elt x scope cl s S P Fin n 0 [] news := by
  have key : ∀ k i (ys : List Value), i + k = n → ys.length = i → (∀ j y, ys[j]? = some y → G j y) → LCg.CompRest prog w A h₀ L m env elt x scope cl s S P Fin k i ys news := by
    intro k
    induction k with
    | zero => intro i ys hk hl hg; exact fin ys (by omega) hg
    | succ k ih =>
      intro i ys hk hl hg v I oI C oC D m₂ h tk E' hP hC hx F N off ne
      refine wpAny_mono (elts i v I oI C oC D m₂ h tk E' ys (by omega) hP hC hx F N off ne) (fun y s' hy => ?_) fun _ _ e => e
      obtain ⟨h', tk', rfl, F', N', g⟩ := hy
      refine ⟨h', tk', news, rfl, F', N', off, hS, ih (i + 1) (ys ++ [y]) (by omega) (by rw [List.length_append]; simp; omega) fun j z hj => ?_⟩
      by_cases hlt : j < ys.length
      · rw [List.getElem?_append_left hlt] at hj; exact hg j z hj
      · rw [List.getElem?_append_right (by omega)] at hj
        have : j = i := by
          cases e : j - ys.length with
          | zero => omega
          | succ q => rw [e] at hj; simp at hj
        subst this
        rw [hl, Nat.sub_self] at hj
        simp at hj
        exact hj ▸ g
  exact key n 0 [] (by omega) rfl (fun j y hj => by simp at hj)
end
end Mine
set_option maxRecDepth 100000
set_option Elab.async false
open PySem PySem.W PySem.Calls PyProof.Rows
namespace Mine
/-! ## b''.join(a list of bytes) -/
section
variable {prog : Program} {w : World} {A : Around} {E : Value → Shared → Prop} {s : Shared}
theorem bytes_buffer_look : typeLookup (.type "bytes") "__buffer__" = pure (some (.builtin "bytes.__buffer__")) := by rw [typeLookup_type, builtinLookup_eq_fast]; kernel_rfl
theorem bytes_release_look : typeLookup (.type "bytes") "__release_buffer__" = pure none := by rw [typeLookup_type, builtinLookup_eq_fast]; kernel_rfl
theorem bytes_sub : isSubtype (.type "bytes") (.type "bytes") = pure true := by rw [isSubtype_type]; kernel_rfl
theorem ends_bbuffer : "bytes.__buffer__".endsWith ("." ++ "__buffer__") = true := by decide +kernel
theorem drop_bbuffer : "bytes.__buffer__".dropRight ("__buffer__".length + 1) = "bytes" := by decide +kernel
theorem own_buffer {b : Array UInt8} {t : Tok} {Q : Bool → Shared → Prop} (h : Q true s) : wpAny (model prog w) A (Builtin.Bytes.slotIsOwn (.bytes b t) "__buffer__") Q E s := by
  unfold Builtin.Bytes.slotIsOwn
  refine wpAny_bind (wpAny_specialOf (T := "bytes") (v := .bytes b t) rfl bytes_buffer_look ?_)
  dsimp only
  rw [ends_bbuffer, drop_bbuffer]
  simp only [Bool.not_true, Bool.false_eq_true, if_false]
  exact wpAny_isInstance (T := "bytes") (v := .bytes b t) rfl bytes_sub h
theorem own_release {b : Array UInt8} {t : Tok} {Q : Bool → Shared → Prop} (h : Q false s) : wpAny (model prog w) A (Builtin.Bytes.ownRelease (.bytes b t)) Q E s := by
  unfold Builtin.Bytes.ownRelease Builtin.Bytes.slotIsOwn
  refine wpAny_bind (wpAny_bind (wpAny_specialOf (T := "bytes") (v := .bytes b t) rfl bytes_release_look ?_))
  exact wpAny_pure (wpAny_pure h)
theorem take_bytes {id : String} {b : Array UInt8} {t : Tok} {Q : Option (Array UInt8 × Option Value) → Shared → Prop} (h : Q (some (b, none)) s) : wpAny (model prog w) A (Builtin.Bytes.takeBufferQuiet? id (.bytes b t) 0) Q E s := by
  unfold Builtin.Bytes.takeBufferQuiet?
  refine wpAny_bind (wpAny_attempt ?_)
  unfold Builtin.Bytes.takeBuffer?
  refine wpAny_bind (wpAny_specialOf (T := "bytes") (v := .bytes b t) rfl bytes_buffer_look ?_)
  dsimp only
  refine wpAny_bind (own_buffer ?_)
  simp only [Bool.not_true, Bool.false_eq_true, if_false]
  refine wpAny_bind (wpAny_specialOf (T := "bytes") (v := .bytes b t) rfl bytes_buffer_look ?_)
  try dsimp only
  refine wpAny_bind ?_
  unfold Builtin.Bytes.buffer?
  refine wpAny_bind (wpAny_specialOf (T := "bytes") (v := .bytes b t) rfl bytes_buffer_look ?_)
  dsimp only
  refine wpAny_bind (own_buffer ?_)
  simp only [Bool.not_true, Bool.false_eq_true, if_false]
  refine wpAny_bind (wpAny_specialOf (T := "bytes") (v := .bytes b t) rfl bytes_buffer_look ?_)
  try dsimp only
  refine wpAny_bind (own_release ?_)
  simp only [Bool.false_eq_true, if_false]
  exact wpAny_pure (wpAny_pure (wpAny_pure h))
/-- a list of bytes -/
def BysAre : List Value → List (List UInt8) → Prop
  | [], [] => True
  | v :: vs, b :: bs => (∃ t, v = .bytes b.toArray t) ∧ BysAre vs bs
  | _, _ => False
theorem BysAre.at : ∀ {vs : List Value} {bs : List (List UInt8)}, BysAre vs bs → ∀ {i : Nat}, i < bs.length → ∃ t, vs.getD i .none = .bytes (bs.getD i []).toArray t
  | [], [], _, _, h => absurd h (Nat.not_lt_zero _)
  | _ :: _, _ :: _, h, 0, _ => h.1
  | _ :: _, _ :: _, h, i + 1, hi => by
    have := BysAre.at h.2 (i := i) (by simpa using hi)
    simpa using this
  | [], _ :: _, h, _, _ => h.elim
  | _ :: _, [], h, _, _ => h.elim
theorem BysAre.length : ∀ {vs : List Value} {bs : List (List UInt8)}, BysAre vs bs → vs.length = bs.length
  | [], [], _ => rfl
  | _ :: _, _ :: _, h => by rw [List.length_cons, List.length_cons, BysAre.length h.2]
  | [], _ :: _, h => h.elim
  | _ :: _, [], h => h.elim
theorem slot_join : Slot "bytes" "join" "bytes.join" :=
  .of (owner := "bytes") (n := "join") (by rw [typeLookup_type, builtinLookup_eq_fast]; kernel_rfl) (by decide +kernel) (by decide +kernel) (by decide +kernel)
    (by first | exact .inl (by decide +kernel) | exact .inr (by decide +kernel)) (by rw [isSubtype_type]; kernel_rfl)
theorem type_join : typeOf (.builtin "bytes.join") = pure (.type "method_descriptor") := by show builtinType _ = _; rw [builtinType_eq_fast]; kernel_rfl
theorem entry_join : entryFor table "bytes.join" = some Builtin.«bytes.join» := entryFor_of_tree (by kernel_rfl)
theorem args_join (a b : Value) : argsOk "bytes.join" ⟨[a, b], []⟩ := by unfold argsOk; kernel_rfl
theorem seq_at {D : Addr} {xs : Array Value} {n : Nat} {Q : Option (Array Value) → Shared → Prop} (ho : s.heap.get? D = some (listOf xs n)) (h : Q (some xs) s) : wpAny (model prog w) A (seqItems? (.ref D)) Q E s := by
  unfold seqItems?
  exact wpAny_bind (wpAny_load ho (wpAny_pure h))
theorem let_go {keep : List Value} {Q : Unit → Shared → Prop} (h : Q () s) : ∀ taken : List (Value × Option Value), (∀ p ∈ taken, p.2 = none) → wpAny (model prog w) A (Builtin.Bytes.joinLetGo taken keep) Q E s
  | [], _ => wpAny_pure h
  | (x, w') :: rest, hn => by
    obtain rfl : w' = none := hn _ (.head _)
    unfold Builtin.Bytes.joinLetGo
    dsimp only
    refine wpAny_bind ?_
    exact wpAny_letGo (let_go h rest fun p hp => hn p (.tail _ hp))
theorem joined_flat : ∀ (l : List (List UInt8)) (k : Nat) (acc : Array UInt8), ((l.map List.toArray).zipIdx k).foldl (fun out (p, i) => (if i > 0 then out ++ (#[] : Array UInt8) else out) ++ p) acc = acc ++ l.flatten.toArray
  | [], _, acc => by simp
  | b :: l, k, acc => by
    rw [List.map_cons, List.zipIdx_cons, List.foldl_cons, joined_flat l]
    simp
theorem sizes_flat : ∀ (l : List (List UInt8)) (acc : Nat), (l.map List.toArray).foldl (fun x1 x2 => x1 + x2.size) acc = acc + l.flatten.length
  | [], acc => by simp
  | b :: l, acc => by
    rw [List.map_cons, List.foldl_cons, sizes_flat l]
    simp; omega
set_option maxHeartbeats 1000000 in
theorem join_bytes {D : Addr} {vs : List Value} {bs : List (List UInt8)} {t : Tok} {n : Nat} {Q : Value → Shared → Prop} (ho : s.heap.get? D = some (listOf vs.toArray n)) (hb : BysAre vs bs) (h2 : 2 ≤ bs.length) (hz : bs.flatten.length ≤ 1000000)
    (h : ∀ t' k, Q (.bytes bs.flatten.toArray t') { s with toks := k }) :
    wpAny (model prog w) A (Builtin.«bytes.join» ⟨[.bytes #[] t, .ref D], []⟩) (fun fin s' => ∃ v, fin = .done (.ret v) ∧ Q v s') E s := by
  unfold Builtin.«bytes.join» Builtin.Bytes.joinM
  refine wpAny_bind (wpAny_of_eq (a := (.bytes #[] t, .ref D)) rfl ?_)
  dsimp only
  refine wpAny_bind ?_
  unfold Builtin.Bytes.joinItems
  refine wpAny_bind (wpAny_typeOf (T := "list") ⟨_, ho, rfl⟩ ?_)
  rw [if_pos (by decide)]
  refine wpAny_pure ?_
  refine wpAny_bind (seq_at ho ?_)
  dsimp only
  rw [if_pos (by decide)]
  obtain ⟨v0, v1, vr, rfl⟩ : ∃ v0 v1 vr, vs = v0 :: v1 :: vr := by
    have := hb.length
    match vs, this with
    | [], e => simp at e; omega
    | [_], e => simp at e; omega
    | a :: b :: r, _ => exact ⟨a, b, r, rfl⟩
  refine wpAny_bind ?_
  rw [Std.Legacy.Range.forIn_eq_forIn_range']
  simp only [Std.Legacy.Range.size, Nat.sub_zero, Nat.add_sub_cancel, Nat.div_one]
  refine wpAny_forIn_list _ (fun rest b s' => ∃ i, s' = s ∧ rest = List.range' i (bs.length - i) ∧ i ≤ bs.length ∧ b.1 = ((bs.take i).map List.toArray).toArray ∧ (b.2.any fun x => x.1.onHeap) = false ∧ ∀ p ∈ b.2, p.2 = none) _ ?_ ?_ _ _ ⟨0, rfl, ?_, Nat.zero_le _, by simp, rfl, fun p hp => nomatch hp⟩
  · rintro x rest ⟨pt, tk⟩ s' ⟨i, rfl, hr, hi, hp, hany, hnone⟩
    dsimp only at hp hany hnone
    have hlt : i < bs.length := by
      rcases Nat.lt_or_ge i bs.length with h | h
      · exact h
      · rw [Nat.sub_eq_zero_of_le h] at hr; simp at hr
    obtain ⟨rfl, hrest⟩ : x = i ∧ rest = List.range' (i + 1) (bs.length - (i + 1)) := by
      have e : bs.length - i = (bs.length - (i + 1)) + 1 := by omega
      rw [e, List.range'_succ] at hr
      injection hr with h1 h2
      exact ⟨h1, h2⟩
    obtain ⟨ti, hv⟩ := hb.at hlt
    have hv' : (v0 :: v1 :: vr).toArray.getD x Value.none = .bytes (bs.getD x []).toArray ti := by
      rw [← hv]; simp
    refine wpAny_bind (seq_at ho ?_)
    dsimp only
    rw [if_neg (by rw [hany]; decide), hv']
    refine wpAny_bind (wpAny_holding (take_bytes ?_))
    dsimp only
    refine wpAny_bind (seq_at ho ?_)
    dsimp only
    rw [if_neg (by simp)]
    refine wpAny_pure ⟨x + 1, rfl, hrest, hlt, ?_, ?_, ?_⟩
    · subst hp
      dsimp only
      rw [List.push_toArray, List.take_succ, List.map_append, List.getElem?_eq_getElem hlt, List.getD_eq_getElem?_getD, List.getElem?_eq_getElem hlt]
      rfl
    · dsimp only; rw [List.any_append, hany]; rfl
    · intro p hp'
      rcases List.mem_append.mp hp' with h | h
      · exact hnone p h
      · rw [List.mem_singleton.mp h]
  · rintro ⟨pt, tk⟩ s' ⟨i, rfl, hr, hi, hp, hany, hnone⟩
    dsimp only at hp hany hnone ⊢
    obtain rfl : i = bs.length := by
      have := congrArg List.length hr
      simp at this
      omega
    rw [List.take_length] at hp
    subst hp
    refine wpAny_bind (wpAny_of_eq (a := (#[] : Array UInt8)) rfl ?_)
    have hsz : Array.foldl (fun x1 x2 => x1 + x2.size) ((#[] : Array UInt8).size * ((List.map List.toArray bs).toArray.size - 1)) (List.map List.toArray bs).toArray = bs.flatten.length := by
      rw [List.foldl_toArray, sizes_flat]; simp
    rw [hsz, if_neg (by unfold Builtin.Bytes.tooLong; rw [decide_eq_true_eq, sizeLine_eq]; omega)]
    have hj : Builtin.Bytes.joined #[] (List.map List.toArray bs).toArray.toList = bs.flatten.toArray := by
      unfold Builtin.Bytes.joined
      rw [List.toList_toArray]
      have := joined_flat bs 0 #[]
      rw [this]; simp
    rw [hj]
    refine wpAny_bind (show wpAny _ _ (mkBytes bs.flatten.toArray) _ _ _ from wpAny_mkBytes ?_ (by rw [List.size_toArray, sizeLine_eq]; omega))
    refine wpAny_bind (wpAny_holding (wpAny_point ?_))
    refine wpAny_bind (let_go ?_ tk hnone)
    exact wpAny_pure ⟨_, rfl, h _ _⟩
  · have := hb.length
    rw [List.size_toArray, this]; rfl
theorem get_join {b : Array UInt8} {t : Tok} {pl : Sem Bool} {Q : Value × List Value → Shared → Prop} (h : Q (.builtin "bytes.join", [.bytes b t]) s) : wpAny (model prog w) A (getMethod (.bytes b t) "join" pl) Q E s :=
  getMethod_builtin (PySem.W.typeIs_bytes _ _ _) FB.plainAttrs_bytes slot_join type_join (fun _ e => nomatch e) h
theorem bys_of {n : Nat} : ∀ {ys : List Value}, (∀ (i : Nat) (y : Value), ys[i]? = some y → ∃ (b : List UInt8) (t : Tok), y = .bytes b.toArray t ∧ b.length = n) → ∃ bs, BysAre ys bs ∧ bs.length = ys.length ∧ ∀ b ∈ bs, b.length = n
  | [], _ => ⟨[], trivial, rfl, fun _ h => nomatch h⟩
  | y :: ys, h => by
    obtain ⟨b, t, rfl, hb⟩ := h 0 y rfl
    obtain ⟨bs, h1, h2, h3⟩ := bys_of (ys := ys) fun i y hy => h (i + 1) y (by simpa using hy)
    refine ⟨b :: bs, ⟨⟨t, rfl⟩, h1⟩, by rw [List.length_cons, List.length_cons, h2], fun c hc => ?_⟩
    rcases List.mem_cons.mp hc with rfl | hc
    · exact hb
    · exact h3 c hc
theorem flat_len {n : Nat} : ∀ {bs : List (List UInt8)}, (∀ b ∈ bs, b.length = n) → bs.flatten.length = bs.length * n
  | [], _ => by simp
  | b :: bs, h => by
    rw [List.flatten_cons, List.length_append, flat_len fun c hc => h c (.tail _ hc), h b (.head _), List.length_cons, Nat.succ_mul, Nat.add_comm]
theorem call_join {D : Addr} {vs : List Value} {bs : List (List UInt8)} {t : Tok} {n : Nat} {Q : Value → Shared → Prop} (ho : s.heap.get? D = some (listOf vs.toArray n)) (hb : BysAre vs bs) (h2 : 2 ≤ bs.length) (hz : bs.flatten.length ≤ 1000000)
    (h : ∀ t' k, Q (.bytes bs.flatten.toArray t') { s with toks := k }) : wpAny (model prog w) A (call (.builtin "bytes.join") [.bytes #[] t, .ref D]) Q E s := by
  exact wpAny_call_entry slot_join (PySem.W.typeIs_bytes _ _ _) entry_join (join_bytes ho hb h2 hz h) (args_join _ _)
end
end Mine
set_option maxRecDepth 100000
set_option Elab.async false
open PySem PySem.W PySem.Calls PyProof.Rows
namespace Mine
/-! ## a loop over a range whose name lies in a cell -/
def TurnEndC {σ : Type} (s : Shared) (h₀ : Heap) (L cc I : Addr) (it : Obj) (Inv : σ → Prop) (mp : σ → Str → Option Value) (led : σ → List (Addr × Obj)) (Q : Flow → Shared → Prop) (f : Flow) (s' : Shared) : Prop :=
  match f with
  | .ret v => Q (.ret v) s'
  | .brk => Q .next s'
  | _ => ∃ c m' oc v h' tk, s' = { s with heap := h', toks := tk } ∧ Inv c ∧ Fr h₀ L h' m' ∧ oc.data = .cell v ∧ News h₀ L h' ((I, it) :: (cc, oc) :: led c) ∧ (∀ p ∈ led c, p.1 ≠ I ∧ p.1 ≠ cc) ∧ ∀ z, m' z = mp c z
theorem TurnEndC.next {σ : Type} {s : Shared} {h₀ : Heap} {L cc I : Addr} {it : Obj} {Inv : σ → Prop} {mp : σ → Str → Option Value} {led : σ → List (Addr × Obj)} {Q : Flow → Shared → Prop} {h' : Heap} {tk : Nat} {m' : Str → Option Value} {oc : Obj} {v : Option Value}
    (c : σ) (F : Fr h₀ L h' m') (hoc : oc.data = .cell v) (N : News h₀ L h' ((I, it) :: (cc, oc) :: led c)) (hI : ∀ p ∈ led c, p.1 ≠ I ∧ p.1 ≠ cc) (hm : ∀ z, m' z = mp c z) (hc : Inv c) : TurnEndC s h₀ L cc I it Inv mp led Q .next { s with heap := h', toks := tk } :=
  ⟨c, m', oc, v, h', tk, rfl, hc, F, hoc, N, hI, hm⟩
section
variable {prog : Program} {w : World} {A : Around} {E : Value → Shared → Prop} {s : Shared} {env : Env} {h₀ : Heap} {x : Str} {px : Pos} {body : List Stmt} {Q : Flow → Shared → Prop}
theorem forRangeC {σ : Type} {r cc : Addr} {a₀ b₀ c : Int} {t₀ u₀ v₀ : Tok} {n : Nat} {m₀ : Str → Option Value} {o₀ : Obj} {w₀ : Option Value} (hh : A.handled = none) (hr : IsRange s.heap r a₀ b₀ c t₀ u₀ v₀) (hsmall : Builtin.Range.small a₀ b₀ c = true) (hn : Builtin.Range.rangeSize a₀ b₀ c = (n : Int))
    (hkf : env.scope.kind = .function) (hx : env.kindOf x = some .cell) (hcc : env.cells.lookup x = some cc)
    (Inv : Nat → σ → Prop) (mp : σ → Str → Option Value) (led : σ → List (Addr × Obj)) (c₀ : σ) (F : Fr h₀ env.locals s.heap m₀) (ho₀ : o₀.data = .cell w₀) (N : News h₀ env.locals s.heap ((cc, o₀) :: led c₀)) (hoc₀ : ∀ p ∈ led c₀, p.1 ≠ cc) (hm : ∀ z, m₀ z = mp c₀ z) (h0 : Inv 0 c₀)
    (turn : ∀ i k I it oc t h tk, i < n → Inv i k → (∀ p ∈ led k, p.1 ≠ I ∧ p.1 ≠ cc) → cc ≠ I → Fr h₀ env.locals h (mp k) → oc.data = .cell (some (.int (a₀ + (i : Int) * c) t)) → News h₀ env.locals h ((I, it) :: (cc, oc) :: led k) →
      wpS (model prog w) A (execs body env) (TurnEndC { s with heap := h, toks := tk } h₀ env.locals cc I it (Inv (i + 1)) mp led Q) (fun _ _ => False) { s with heap := h, toks := tk })
    (done : ∀ k oc v h tk, Inv n k → Fr h₀ env.locals h (mp k) → oc.data = .cell v → News h₀ env.locals h ((cc, oc) :: led k) → (∀ p ∈ led k, p.1 ≠ cc) → Q .next { s with heap := h, toks := tk }) :
    wpAny (model prog w) A (pyIter (.ref r)) (fun it s₂ => codeS (model prog w) A (.forLoop (.Name x px) it body [] env) (fun r s' => match r with | .ok f => Q f s' | .error _ => False) s₂) E s := by
  refine wpAny_pyIter_range hr hsmall ?_
  rw [hn]
  have W := Walks.range (prog := prog) (w := w) hh s.heap.objs.size a₀ c n
  have hnew : h₀.get? s.heap.objs.size = none := next_is_new F
  have hLI : env.locals ≠ s.heap.objs.size := Nat.ne_of_lt F.ns.lt
  have hCI : cc ≠ s.heap.objs.size := Nat.ne_of_lt (Heap.lt_size (N _ (.head _)).1)
  have hCL : cc ≠ env.locals := (N _ (.head _)).2.1
  have hC0 : h₀.get? cc = none := (N _ (.head _)).2.2
  refine codeS_forLoop (R := fun r s' => match r with | .ok f => Q f s' | .error _ => False)
    (fun k s' => ∃ h' tk oc v d i, s' = { s with heap := h', toks := tk } ∧ IsRangeIter h' s.heap.objs.size (a₀ + (i : Nat) * c) ((n : Int) - (i : Nat)) c ∧ Fr h₀ env.locals h' (mp d) ∧ oc.data = .cell v ∧ News h₀ env.locals h' ((cc, oc) :: led d) ∧ (∀ p ∈ led d, p.1 ≠ s.heap.objs.size ∧ p.1 ≠ cc) ∧ Inv i d ∧ i ≤ n ∧ k = n + 1 - i) ?_ (n + 1) ?_
  · rintro k s' ⟨h', tk, oc, v, d, i, rfl, hst, F', hoc, N', hoff, hI, hi, rfl⟩
    have next : ∀ h₁ : Heap, (∀ b o, b ∉ [s.heap.objs.size] → h'.get? b = some o → h₁.get? b = some o) → Fr h₀ env.locals h₁ (mp d) ∧ News h₀ env.locals h₁ ((cc, oc) :: led d) := fun h₁ hk₁ =>
      ⟨⟨F'.ns.at' fun o e => hk₁ _ o (fun q => hLI (List.mem_singleton.mp q)) e, fun b o e => hk₁ b o (fun q => by rw [List.mem_singleton.mp q, hnew] at e; cases e) (F'.keep b o e), F'.above⟩,
       fun p hp => ⟨hk₁ _ _ (fun q => by
         rcases List.mem_cons.mp hp with rfl | hp
         · exact hCI (List.mem_singleton.mp q)
         · exact (hoff p hp).1 (List.mem_singleton.mp q)) (N' p hp).1, (N' p hp).2⟩⟩
    by_cases hlt : i < n
    · refine W.item i _ _ _ hlt hst fun v₁ h₁ tk₁ hP hst₁ hk₁ => ?_
      obtain ⟨F₁, N₁⟩ := next h₁ hk₁
      obtain ⟨t, rfl⟩ := hP
      refine wpAny_assign_Name (wpAny_storeName_cell hkf hx hcc ⟨oc, (N₁ _ (.head _)).1, hoc⟩ fun h₂ hn₂ hs₂ => ?_)
      obtain ⟨oc₂, hg₂, hd₂⟩ := hn₂
      have F₂ : Fr h₀ env.locals h₂ (mp d) := F₁.change hs₂ hCL hC0
      have hit : h₂.get? s.heap.objs.size = some { cls := .type "range_iterator", data := .fields #[rawInt (a₀ + ((i + 1 : Nat) : Int) * c), rawInt ((n : Int) - ((i + 1 : Nat) : Int)), rawInt c] } :=
        (hs₂.2 _ (Ne.symm hCI)).trans hst₁
      have N₂ : News h₀ env.locals h₂ ((s.heap.objs.size, { cls := .type "range_iterator", data := .fields #[rawInt (a₀ + ((i + 1 : Nat) : Int) * c), rawInt ((n : Int) - ((i + 1 : Nat) : Int)), rawInt c] }) :: (cc, oc₂) :: led d) := fun p hp => by
        rcases List.mem_cons.mp hp with rfl | hp
        · exact ⟨hit, Ne.symm hLI, hnew⟩
        · rcases List.mem_cons.mp hp with rfl | hp
          · exact ⟨hg₂, hCL, hC0⟩
          · exact ⟨hs₂.extBut _ _ (hoff p hp).2 (N₁ p (.tail _ hp)).1, (N₁ p (.tail _ hp)).2⟩
      refine wpS_mono (turn i d s.heap.objs.size _ oc₂ t h₂ _ hlt hI hoff hCI F₂ hd₂ N₂) (fun f s₃ h₃ => ?_) fun _ _ e => e
      have fin : (∃ c' m'' oc' v' h'' tk'', s₃ = { s with heap := h'', toks := tk'' } ∧ Inv (i + 1) c' ∧ Fr h₀ env.locals h'' m'' ∧ oc'.data = .cell v' ∧ News h₀ env.locals h'' ((s.heap.objs.size, { cls := .type "range_iterator", data := .fields #[rawInt (a₀ + ((i + 1 : Nat) : Int) * c), rawInt ((n : Int) - ((i + 1 : Nat) : Int)), rawInt c] }) :: (cc, oc') :: led c') ∧ (∀ p ∈ led c', p.1 ≠ s.heap.objs.size ∧ p.1 ≠ cc) ∧ ∀ z, m'' z = mp c' z) →
          ∃ m, m < n + 1 - i ∧ ∃ h' tk oc v d i, s₃ = { s with heap := h', toks := tk } ∧ IsRangeIter h' s.heap.objs.size (a₀ + (i : Nat) * c) ((n : Int) - (i : Nat)) c ∧ Fr h₀ env.locals h' (mp d) ∧ oc.data = .cell v ∧ News h₀ env.locals h' ((cc, oc) :: led d) ∧ (∀ p ∈ led d, p.1 ≠ s.heap.objs.size ∧ p.1 ≠ cc) ∧ Inv i d ∧ i ≤ n ∧ m = n + 1 - i := by
        rintro ⟨c', m'', oc', v', h'', tk'', e, hc', F₃, hoc', N₃, ho, hz⟩
        obtain rfl : m'' = mp c' := funext hz
        exact ⟨n + 1 - (i + 1), by omega, h'', tk'', oc', v', c', i + 1, e, (N₃ _ (List.mem_cons_self ..)).1, F₃, hoc', fun p hp => N₃ p (List.mem_cons_of_mem _ hp), ho, hc', hlt, rfl⟩
      cases f with
      | ret v => exact h₃
      | brk => exact h₃
      | next => exact fin h₃
      | cont => exact fin h₃
    · have hin : i = n := by omega
      subst hin
      refine W.done _ _ _ hst fun h₁ tk₁ hk₁ => ?_
      obtain ⟨F₁, N₁⟩ := next h₁ hk₁
      exact done d oc v h₁ tk₁ hI F₁ hoc N₁ fun p hp => (hoff p hp).2
  · obtain rfl : m₀ = mp c₀ := funext hm
    refine ⟨_, s.toks, o₀, w₀, c₀, 0, rfl, ?_, F.push _, ho₀, fun p hp => ⟨Heap.get?_push_of_some _ (N p hp).1, (N p hp).2⟩, fun p hp => ⟨Nat.ne_of_lt (Heap.lt_size (N p (.tail _ hp)).1), hoc₀ p hp⟩, h0, Nat.zero_le _, rfl⟩
    show IsRangeIter _ _ _ _ _
    simpa using Heap.get?_push_size _ rfl
end
end Mine
set_option maxRecDepth 100000
set_option Elab.async false
open PySem PySem.W PySem.Calls PyProof.Rows
namespace Mine
/-! ## two lists of the same bytes are the same -/
section
variable {prog : Program} {w : World} {A : Around} {E : Value → Shared → Prop} {s : Shared}
theorem eqAt_bytes (b : List UInt8) (t u : Tok) : SeqAt.EqAt A s (.bytes b.toArray t) (.bytes b.toArray u) true := by
  intro prog w E Q h
  unfold eqBool
  refine wpAny_holding ?_
  refine wpAny_ite_split (fun hab => ?_) (fun hab => ?_)
  · exact wpAny_bind (wpAny_rule (wpAny_pure h))
  · refine wpAny_bind (richCompare_gives (PySem.W.typeIs_bytes s b.toArray t) (PySem.W.typeIs_bytes s b.toArray u) FB.slot_bytes_eq FB.entry_bytes_eq (FB.args_bytes_eq_2 _ _) (gives_bytes_eq b.toArray b.toArray t u) (by simp [Made.takes]) (wpAny_truthy_bool ?_))
    simpa using h
theorem ne_bys {l b : Addr} {xs ys : List Value} {bs : List (List UInt8)} {Q : Value → Shared → Prop} (hl : s.heap.IsList l xs.toArray) (hb : s.heap.IsList b ys.toArray) (hx : BysAre xs bs) (hy : BysAre ys bs) (hu : A.units < cLine) (h : Q (.bool false) s) :
    wpAny (model prog w) A (compareOp .NotEq (.ref l) (.ref b)) Q E s := by
  have hsz : xs.toArray.size = ys.toArray.size := by rw [List.size_toArray, List.size_toArray, hx.length, hy.length]
  refine SeqAt.RcNeAt.lists (e := fun _ => true) hl hb hsz hu (fun j h1 h2 => ?_) prog w E Q ?_
  · rw [List.size_toArray] at h1 h2
    have hj : j < bs.length := by rw [← hx.length]; exact h1
    obtain ⟨t, e1⟩ := hx.at hj
    obtain ⟨u, e2⟩ := hy.at hj
    rw [List.getD_eq_getElem?_getD, List.getElem?_eq_getElem h1] at e1
    rw [List.getD_eq_getElem?_getD, List.getElem?_eq_getElem h2] at e2
    simp only [Option.getD_some] at e1 e2
    simp only [List.getElem_toArray]
    rw [e1, e2]
    exact eqAt_bytes _ _ _
  · have : ((List.range xs.toArray.size).all fun _ => true) = true := by simp
    rw [this]; exact h
end
/-! ## a test that is one comparison -/
theorem wpS_isTrue_Compare1 {M : Model} {A : Around} {E : Value → Shared → Prop} {s : Shared} {env : Env} {l op r pos whole} {Q : Bool → Shared → Prop}
    (h : wpS M A (eval l env) (fun a s₁ => wpS M A (eval r env) (fun b s₂ => wpS M A (compareOp op a b)
      (fun c s₃ => wpS M A (truthy c) Q E s₃) E s₂) E s₁) E s)
    (hm : behindInMarks op r = false := by with_unfolding_all rfl) : wpS M A (isTrue (.Compare l [op] [r] pos) env whole) Q E s := fun Γ p hΓ hc => by
  simp only [isTrue_Compare1, markedBehindIn_of_false hm, Sem.wp_bind', Sem.wp_holding, Sem.wp_cmd_standAt, Sem.wp_operate]
  exact Sem.wp_mono M Γ _ (fun a p₁ s₁ h₁ => Sem.wp_mono M Γ _ (fun b _ s₂ h₂ => Sem.wp_mono M Γ _ (fun c p₃ s₃ h₃ => h₃ Γ p₃ hΓ hc)
    (fun _ _ _ h' => h') _ _ (h₂ Γ _ hΓ hc)) (fun _ _ _ h' => h') _ _ (h₁ Γ p₁ hΓ hc)) (fun _ _ _ h' => h') _ _ (h Γ p hΓ hc)
theorem wpS_cutS {α : Type} {M : Model} {A : Around} {t : Sem α} {Q : α → Shared → Prop} {E : Value → Shared → Prop} {s : Shared} (P : α → Heap → Prop)
    (h1 : wpS M A t (CutEnd s P) (fun _ _ => False) s) (h2 : ∀ v h' tk', P v h' → Q v { s with heap := h', toks := tk' }) : wpS M A t Q E s :=
  wpS_mono h1 (fun v _ ⟨h', tk', e, p⟩ => e ▸ h2 v h' tk' p) fun _ _ x => x.elim
theorem bys_fun : ∀ {ys : List Value} {bs : List (List UInt8)}, ys.length = bs.length → (∀ (j : Nat) (y : Value), ys[j]? = some y → ∃ t, y = .bytes (bs.getD j []).toArray t) → BysAre ys bs
  | [], [], _, _ => trivial
  | y :: ys, b :: bs, hl, h => ⟨h 0 y rfl, bys_fun (by simpa using hl) fun j z hz => h (j + 1) z (by simpa using hz)⟩
  | [], _ :: _, hl, _ => by simp at hl
  | _ :: _, [], hl, _ => by simp at hl
/-- what the claim's caller makes of the call -/
theorem enter_callS {M : Model} {A : Around} {s : Shared} {f : Value} {pos : List Value} {kw : List (Str × Value)} {c : ClaimW} {cl : Str → Option Addr} {mean : ExcName → Option Value} {args : List WData} {s₁ : Shared}
    (h : codeS M A (.call f ⟨pos, kw⟩) (GoodW c cl mean args s₁) s) : wpS M A (PySem.call f pos kw) (fun v s' => GoodWG c cl mean args s₁ (.ok (.ret v)) s') (fun e s' => GoodWG c cl mean args s₁ (.error e) s') s :=
  wpS_call (codeS_mono h fun res s' g => by rcases g.1 with ⟨v, _, _, rfl, _⟩ | ⟨e, _, _, rfl, _⟩ <;> exact g.toG)
end Mine
set_option maxRecDepth 100000
set_option Elab.async false
open PySem PySem.W PySem.Calls PyProof.Rows
namespace Mine
/-! ## a loop over a list that stays as it is -/
section
variable {prog : Program} {w : World} {A : Around} {E : Value → Shared → Prop} {s : Shared} {env : Env} {h₀ : Heap} {x : Str} {px : Pos} {body : List Stmt} {Q : Flow → Shared → Prop}
theorem forListS {σ : Type} {l : Addr} {items : List Value} {kl : Nat} {m₀ : Str → Option Value} (hh : A.handled = none)
    (hx : env.kindOf x = some .local) (hp : (env.scope.kind == .class || (env.scope.kind == .module && env.locals != env.globals)) = false)
    (Inv : Nat → σ → Prop) (mp : σ → Str → Option Value) (led : σ → List (Addr × Obj)) (hsrc : ∀ c, (l, listOf (List.toArray items) kl) ∈ led c) (c₀ : σ) (F : Fr h₀ env.locals s.heap m₀) (N : News h₀ env.locals s.heap (led c₀)) (hm : ∀ z, z ≠ x → m₀ z = mp c₀ z) (h0 : Inv 0 c₀)
    (turn : ∀ i v k I it h tk, items[i]? = some v → Inv i k → (∀ p ∈ led k, p.1 ≠ I) → Fr h₀ env.locals h (fun y => if y = x then some v else mp k y) → News h₀ env.locals h ((I, it) :: led k) →
      wpS (model prog w) A (execs body env) (TurnEnd { s with heap := h, toks := tk } h₀ env.locals x I it (Inv (i + 1)) mp led Q) (fun _ _ => False) { s with heap := h, toks := tk })
    (done : ∀ k m' h tk, Inv items.length k → Fr h₀ env.locals h m' → (∀ z, z ≠ x → m' z = mp k z) → News h₀ env.locals h (led k) → Q .next { s with heap := h, toks := tk }) :
    wpAny (model prog w) A (pyIter (.ref l)) (fun it s₂ => codeS (model prog w) A (.forLoop (.Name x px) it body [] env) (fun r s' => match r with | .ok f => Q f s' | .error _ => False) s₂) E s := by
  refine wpAny_pyIter_list (News.isList N (hsrc c₀)) ?_
  have hnew : h₀.get? s.heap.objs.size = none := next_is_new F
  have hLI : env.locals ≠ s.heap.objs.size := Nat.ne_of_lt F.ns.lt
  refine codeS_forLoop (R := fun r s' => match r with | .ok f => Q f s' | .error _ => False)
    (fun k s' => ∃ h' tk m' d i, s' = { s with heap := h', toks := tk } ∧ h'.IsListIter s.heap.objs.size l i ∧ Fr h₀ env.locals h' m' ∧ News h₀ env.locals h' (led d) ∧ (∀ p ∈ led d, p.1 ≠ s.heap.objs.size) ∧ (∀ z, z ≠ x → m' z = mp d z) ∧ Inv i d ∧ i ≤ items.length ∧ k = items.length + 1 - i) ?_ (items.length + 1) ?_
  · rintro k s' ⟨h', tk, m', d, i, rfl, hst, F', N', hoff, hm', hI, hi, rfl⟩
    have hlist : h'.IsList l (List.toArray items) := News.isList N' (hsrc d)
    have next : ∀ h₁ : Heap, (∀ b o, b ≠ s.heap.objs.size → h'.get? b = some o → h₁.get? b = some o) → Fr h₀ env.locals h₁ m' ∧ News h₀ env.locals h₁ (led d) := fun h₁ hk₁ =>
      ⟨⟨F'.ns.at' fun o e => hk₁ _ o (fun q => hLI q) e, fun b o e => hk₁ b o (fun q => by rw [q, hnew] at e; cases e) (F'.keep b o e), F'.above⟩,
       fun p hp => ⟨hk₁ _ _ (fun q => hoff p hp q) (N' p hp).1, (N' p hp).2⟩⟩
    by_cases hlt : i < items.length
    · refine wpAny_pyNext_list_item (x := items[i]) hst hlist (by simp [hlt]) fun h₁ hst₁ hs₁ => ?_
      obtain ⟨F₁, N₁⟩ := next h₁ fun b o hb e => hs₁.extBut b o hb e
      refine wpAny_assign_Name (wpAny_storeName_local hx F₁.ns (fun h₂ hn₂ hs₂ => ?_) hp)
      have F₂ := F₁.set hn₂ hs₂
      have e : (fun y => if y = x then some items[i] else m' y) = fun y => if y = x then some items[i] else mp d y := by
        funext y; by_cases h : y = x
        · rw [if_pos h, if_pos h]
        · rw [if_neg h, if_neg h, hm' y h]
      rw [e] at F₂
      have hst₂ : h₂.IsListIter s.heap.objs.size l (i + 1) := hst₁.at fun o e => (hs₂.2 _ (Ne.symm hLI)).trans e
      obtain ⟨it, hit, hit2⟩ := hst₂
      have N₂ : News h₀ env.locals h₂ ((s.heap.objs.size, it) :: led d) := fun p hp => by
        rcases List.mem_cons.mp hp with rfl | hp
        · exact ⟨hit, Ne.symm hLI, hnew⟩
        · exact (N₁.set hs₂) p hp
      refine wpS_mono (turn i items[i] d s.heap.objs.size _ h₂ _ (List.getElem?_eq_getElem hlt) hI hoff F₂ N₂) (fun f s₃ h₃ => ?_) fun _ _ e => e
      have fin : (∃ c' m'' h'' tk'', s₃ = { s with heap := h'', toks := tk'' } ∧ Inv (i + 1) c' ∧ Fr h₀ env.locals h'' m'' ∧ News h₀ env.locals h'' ((s.heap.objs.size, it) :: led c') ∧ (∀ p ∈ led c', p.1 ≠ s.heap.objs.size) ∧ ∀ z, z ≠ x → m'' z = mp c' z) →
          ∃ m, m < items.length + 1 - i ∧ ∃ h' tk m' d i, s₃ = { s with heap := h', toks := tk } ∧ h'.IsListIter s.heap.objs.size l i ∧ Fr h₀ env.locals h' m' ∧ News h₀ env.locals h' (led d) ∧ (∀ p ∈ led d, p.1 ≠ s.heap.objs.size) ∧ (∀ z, z ≠ x → m' z = mp d z) ∧ Inv i d ∧ i ≤ items.length ∧ m = items.length + 1 - i := by
        rintro ⟨c', m'', h'', tk'', e, hc', F₃, N₃, ho, hz⟩
        exact ⟨items.length + 1 - (i + 1), by omega, h'', tk'', m'', c', i + 1, e, ⟨it, (N₃ _ (List.mem_cons_self ..)).1, hit2⟩, F₃, fun p hp => N₃ p (List.mem_cons_of_mem _ hp), ho, hz, hc', hlt, rfl⟩
      cases f with
      | ret v => exact h₃
      | brk => exact h₃
      | next => exact fin h₃
      | cont => exact fin h₃
    · have hin : i = items.length := by omega
      subst hin
      refine wpAny_pyNext_list_end hh hst hlist (by simp) fun h₁ he₁ => ?_
      obtain ⟨F₁, N₁⟩ := next h₁ fun b o hb e => he₁ b o hb e
      exact done d m' h₁ _ hI F₁ hm' N₁
  · refine ⟨_, s.toks, m₀, c₀, 0, rfl, ?_, F.push _, fun p hp => ⟨Heap.get?_push_of_some _ (N p hp).1, (N p hp).2⟩, fun p hp => Nat.ne_of_lt (Heap.lt_size (N p hp).1), hm, h0, Nat.zero_le _, rfl⟩
    exact ⟨_, Heap.get?_push_size _ rfl, rfl, rfl⟩
end
theorem fr_eqv {h₀ h : Heap} {L : Addr} {m m' : Str → Option Value} (F : Fr h₀ L h m) (e : ∀ y, m y = m' y) : Fr h₀ L h m' := by
  obtain rfl : m = m' := funext e
  exact F
theorem look1 {y k : Str} {v : Value} {r : List (Str × Value)} : List.lookup y ((k, v) :: r) = if y = k then some v else List.lookup y r := by
  by_cases h : y = k
  · subst h; rw [if_pos rfl]; simp [List.lookup]
  · have h' : (y == k) = false := by simpa using h
    rw [if_neg h]; simp only [List.lookup, h']
section
variable {prog : Program} {w : World} {A A₀ : Around} {s : Shared} {K : Frag} {L : Addr} {h₀ base : Heap} {m mg mb : Str → Option Value} {news : List (Addr × Obj)} {p : Program} {loose : List Str} {mean : ExcName → Option Value}
/-- a call of a def some of whose names live in cells, on any stack -/
theorem code_defCA {env : Env} {outer : List Env} {R : Result → Shared → Prop} {name qual : Str} {params : Arguments} {body : List Stmt} {scope : Scope} {dV kV doc pm cdv ct oc : Value} {an od : Option Addr} {osl : Array (Option Value)} {f : Addr} {args : Args} {binds : List (Str × Value)} (cls : Addr → List (Str × Addr))
    (B : Below A₀ base outer h₀) (F : Fr h₀ L s.heap m) (X₀ : K.In h₀) (N : News h₀ L s.heap news) (T : Top p loose mean mg mb h₀) (hA : A.frames = some (env :: outer)) (hf : env.frame = some L) (hke : env.scope.kind = .function)
    (ho : K.lookup f = some ⟨oc, od, .func (fnOf name qual params body scope dV kV doc pm an cdv ct), osl⟩) (hcd : codeIn K cdv qual = true) (hroom : A.depth < recursionLimit)
    (hbind : BindsTo s (fnOf name qual params body scope dV kV doc pm an cdv ct) args binds) (hkind : (binds.all fun y => scope.names.lookup y.1 == some .local || scope.names.lookup y.1 == some .cell) = true)
    (hnd : ((cellsFrom 0 scope.names []).map (·.1)).Nodup)
    (hcls : ∀ n, cellsFrom (n + 1) scope.names [] = cls n)
    (h : ∀ g L' h₁ tk cells, Fr h₀ L g m → Fr g L' h₁ (bindL (envOfC qual scope L' f cdv).kindOf binds fun _ => none) → News g L' h₁ (cells ++ news) →
      CellsAre (bindC (envOfC qual scope L' f cdv).kindOf binds fun _ => none) (cls L') cells → Below A base (env :: outer) g → K.In g → Top p loose mean mg mb g → (∀ p ∈ news, p.1 < L') →
      wpAny (model prog w) (A.deeper (envX qual scope L' f cdv (cls L'))) (execs body (envX qual scope L' f cdv (cls L')))
        (fun fl s' => LeaveK h₀ L m g R (match fl with | .ret v => v | _ => .none) s') (fun _ _ => False)
        { s with heap := h₁, toks := tk })
    (hco : scope.isCoroutine = false) (hgen : scope.isGenerator = false) (hk : scope.kind = .function) : codeAny (model prog w) A (.call (.ref f) args) R s := by
  refine code_defC B F X₀ N T hA hf hke ho hcd hroom hbind hkind hnd (fun g L' h₁ tk cells FG F' N' Y B' X' T' hlt => ?_) hco hgen hk
  have e : envOfC qual scope L' f cdv = envX qual scope L' f cdv (cls L') := by
    show envX qual scope L' f cdv (cellsFrom (L' + 1) scope.names []) = _
    rw [hcls]
  rw [hcls] at Y
  have hb := h g L' h₁ tk cells FG F' N' Y B' X' T' hlt
  rw [← e] at hb
  exact wpAny_mono hb (fun _ _ x => x) fun _ _ x => x.elim
end
end Mine
set_option maxRecDepth 100000
set_option Elab.async false
open PySem PySem.W PySem.Calls PyProof.Rows
namespace Mine
/-! ## a comprehension over a list of ints that takes some of them -/
section
variable {prog : Program} {w : World} {A : Around} {s : Shared} {env : Env} {h₀ : Heap} {L : Addr} {m : Str → Option Value} {news : List (Addr × Obj)}
def TestEnd (h₀ : Heap) (L : Addr) (m : Str → Option Value) (all : List (Addr × Obj)) (s : Shared) (g : Bool) (ok : Bool) (s' : Shared) : Prop :=
  ok = g ∧ ∃ h' tk', s' = { s with heap := h', toks := tk' } ∧ Fr h₀ L h' m ∧ News h₀ L h' all
theorem TestEnd.mk {all al' : List (Addr × Obj)} {g ok : Bool} {h' : Heap} {tk' : Nat} (e : ok = g) (F : Fr h₀ L h' m) (N : News h₀ L h' al') (sub : ∀ p ∈ all, p ∈ al') : TestEnd h₀ L m all s g ok { s with heap := h', toks := tk' } :=
  ⟨e, h', tk', rfl, F, fun p hp => N p (sub p hp)⟩
theorem comp_tests {ct : Expr} {x : Str} {px : Pos} {scope : Scope} {cl : List (Str × Addr)} {S : List (Addr × Obj) → Prop} {Fin : List Value → List (Addr × Obj) → Prop} {its : List Value} {ns : List Int} (f : Int → Bool) (hi : IntsAre its ns) (hS : S news)
    (tests : ∀ (i : Nat) (z : Int) (t : Tok) I oI C oC D m₂ h tk (E' : Value → Shared → Prop) ys, ns[i]? = some z → LCg.NsObj oC m₂ → m₂ x = some (.int z t) → Fr h₀ L h m → News h₀ L h ((I, oI) :: (C, oC) :: (D, LCg.lst ys) :: news) → LCg.Off3 I C D news → ((@Ne Nat I C) ∧ (@Ne Nat I D) ∧ (@Ne Nat C D)) →
      wpAny (model prog w) A (isTrue ct (compEnvC scope cl C env) (eval ct (compEnvC scope cl C env))) (TestEnd h₀ L m ((I, oI) :: (C, oC) :: (D, LCg.lst ys) :: news) { s with heap := h, toks := tk } (f z)) E' { s with heap := h, toks := tk })
    (fin : ∀ ys : List Value, IntsAre ys (ns.filter f) → Fin ys news)
    (hk : ∀ C, (compEnvC scope cl C env).scope.kind = .function := by intro _; rfl) (hl : ∀ C, (compEnvC scope cl C env).kindOf x = some .local := by intro _; rfl) (hd : (x == ("__debug__" : Str)) = false := by decide) :
    LCt.CompRestT prog w A h₀ L m env ct (.Name x px) x scope cl s S (fun i v => its.toArray[i]? = some v) Fin its.toArray.size 0 [] news := by
  have key : ∀ k i (ys : List Value), i + k = its.length → IntsAre ys ((ns.take i).filter f) → LCt.CompRestT prog w A h₀ L m env ct (.Name x px) x scope cl s S (fun i v => its.toArray[i]? = some v) Fin k i ys news := by
    intro k
    induction k with
    | zero =>
      intro i ys hk hy
      rw [Nat.add_zero] at hk
      rw [hk, hi.length, List.take_length] at hy
      exact fin ys hy
    | succ k ih =>
      intro i ys hik hy v I oI C oC D m₂ h tk E' hP hC hx F N off ne
      have hil : i < ns.length := by rw [← hi.length]; omega
      obtain ⟨t, rfl⟩ := hi.int_at i v (by simpa using hP)
      have hz : ns[i]? = some (ns.getD i 0) := by rw [List.getD_eq_getElem?_getD, List.getElem?_eq_getElem hil]; rfl
      have htake : (ns.take (i + 1)).filter f = (ns.take i).filter f ++ [ns.getD i 0].filter f := by
        rw [List.take_succ, hz, List.filter_append]; rfl
      refine wpAny_mono (tests i (ns.getD i 0) t I oI C oC D m₂ h tk E' ys hz hC hx F N off ne) (fun ok s' hy' => ?_) fun _ _ e => e
      obtain ⟨e, h', tk', rfl, F', N'⟩ := hy'
      by_cases hf : f (ns.getD i 0) = true
      · rw [hf] at e
        rw [if_pos e]
        refine LCgL.ld_own (s := ⟨h', _, _, _, _⟩) N' (.tail _ (.head _)) hC hx ?_ (hk C) (hl C) hd
        refine ⟨h', tk', news, rfl, F', N', off, hS, ih (i + 1) (ys ++ [.int (ns.getD i 0) t]) (by omega) ?_⟩
        rw [htake, List.filter_cons_of_pos hf, List.filter_nil]
        exact hy.append (.cons _ _ .nil)
      · rw [e, if_neg hf]
        refine ⟨h', tk', news, rfl, F', N', off, hS, ih (i + 1) ys (by omega) ?_⟩
        rw [htake, List.filter_cons_of_neg hf, List.filter_nil, List.append_nil]
        exact hy
  have := key its.length 0 [] (by omega) .nil
  simpa using this
end
end Mine
set_option maxRecDepth 100000
set_option Elab.async false
open PySem PySem.W PySem.Calls PyProof.Rows
namespace Mine

/-! ## the head, for a call that is shown in calm contexts alone -/
def look {α : Type} (good bad : Sem α) : Sem α := .stack fun st => if st.all (fun x => calmCode x.1) = true then good else bad

theorem look_any {α : Type} {M : Model} {A : Around} {Q : α → Shared → Prop} {E : Value → Shared → Prop} {s : Shared} {good bad : Sem α}
    (h : wpS M A good Q E s) (hb : wpAny M A bad Q E s) : wpAny M A (look good bad) Q E s := fun Γ p hΓ => by
  show Sem.wp M Γ (if ((Γ.code, p) :: Γ.below).all (fun x => calmCode x.1) = true then good else bad) _ _ p s
  split
  · rename_i hc
    rw [List.all_cons, Bool.and_eq_true] at hc
    exact h Γ p hΓ ⟨hc.1, fun x hx => List.all_eq_true.mp hc.2 x hx⟩
  · exact hb Γ p hΓ
theorem look_any' {α β : Type} {M : Model} {A : Around} {Q : α → Shared → Prop} {Q' : β → Shared → Prop} {E : Value → Shared → Prop} {s : Shared} {good bad : Sem α} {good' bad' : Sem β}
    (h : wpAny M A (look good bad) Q E s) (hg : ∀ Γ p, Sem.wp M Γ good (fun a _ s' => Q a s') (fun e _ s' => E e s') p s → Sem.wp M Γ good' (fun a _ s' => Q' a s') (fun e _ s' => E e s') p s)
    (hb : ∀ Γ p, Sem.wp M Γ bad (fun a _ s' => Q a s') (fun e _ s' => E e s') p s → Sem.wp M Γ bad' (fun a _ s' => Q' a s') (fun e _ s' => E e s') p s) : wpAny M A (look good' bad') Q' E s := fun Γ p hΓ => by
  have h1 : Sem.wp M Γ (if ((Γ.code, p) :: Γ.below).all (fun x => calmCode x.1) = true then good else bad) (fun a _ s' => Q a s') (fun e _ s' => E e s') p s := h Γ p hΓ
  show Sem.wp M Γ (if ((Γ.code, p) :: Γ.below).all (fun x => calmCode x.1) = true then good' else bad') _ _ p s
  split at h1
  · rename_i hc; rw [if_pos hc]; exact hg Γ p h1
  · rename_i hc; rw [if_neg hc]; exact hb Γ p h1

theorem sched_unlook {prog : Program} {w : World} {t bad : Sem Fin} {s s' : Shared} {n : Nat} {o : Outcome} (hz : s.asleep)
    (h : schedN (denote table) prog w n (.single s ⟨look t bad, .builtin "claim.caller" {}, default, []⟩) = .halted o s') :
    ∃ k, schedN (denote table) prog w k (.single s ⟨t, .builtin "claim.caller" {}, default, []⟩) = .halted o s' := by
  cases n with
  | zero => cases h
  | succ n =>
    refine ⟨n, ?_⟩
    have st : step (denote table) prog w s ⟨look t bad, .builtin "claim.caller" {}, default, []⟩ = .go s ⟨t, .builtin "claim.caller" {}, default, []⟩ := by
      show Step.go s ⟨if ([(Code.builtin "claim.caller" {}, (default : Pos))].all (fun x => calmCode x.1)) = true then t else bad, _, _, _⟩ = _
      rw [if_pos (by decide +kernel)]
    have hc : (⟨look t bad, .builtin "claim.caller" {}, default, []⟩ : Thread).calm = true := by
      have e : (⟨look t bad, .builtin "claim.caller" {}, default, []⟩ : Thread).calm = (⟨.stack fun _ => .pure default, .builtin "claim.caller" {}, default, []⟩ : Thread).calm := rfl
      rw [e]; decide +kernel
    rcases sstep_single (denote table) prog w s ⟨look t bad, .builtin "claim.caller" {}, default, []⟩ hc hz with e | e
    · rw [st] at e
      simp only [schedN, e, Step.lift] at h
      exact h
    · rw [st] at e; cases e

theorem holds_unlook {c : ClaimW} {tree : List Value → Sem Fin} {bad : Sem Fin} {defs keeps : List Str} {writes : Bool}
    (h : c.HoldsOpenBy (fun vs => ⟨look (tree vs) bad, .builtin "claim.caller" {}, default, []⟩) defs keeps writes) :
    c.HoldsOpenBy (fun vs => ⟨tree vs, .builtin "claim.caller" {}, default, []⟩) defs keeps writes := by
  obtain ⟨h1, h2, h3⟩ := h
  refine ⟨h1, h2, fun w => ⟨(h3 w).1, fun s hs => ?_⟩⟩
  obtain ⟨s₀, hf, hg, s₁, hT, a, b, d, hc⟩ := (h3 w).2 s hs
  refine ⟨s₀, hf, hg, s₁, hT, a, b, d, fun args hpre hlay ord hord => ?_⟩
  obtain ⟨vs, s₂, hlaid, n, o, s', hrun, rest⟩ := hc args hpre hlay ord hord
  have hs' : AfterImport (opening c.prog) w s := hs
  have z₂ : s₂.asleep := Shared.asleep_of_life ((layAllW_rest _ _ _ hlaid).2.2.2.trans (hT.2.1.trans (fence_lifeW hf))) hs'.life
  obtain ⟨k, hk⟩ := sched_unlook z₂ hrun
  exact ⟨vs, s₂, hlaid, k, o, s', hk, rest⟩

abbrev WalkS (q : Program) (loose : List Str) (XP : (Str → Option Value) → Heap → Prop) (YP : World → Heap → Prop) (r : RowW) (d : DefRec) (kwd : List (Str × Expr)) : Prop :=
  ∀ (w : World) (s₀ s₁ : Shared) (mg mb : Str → Option Value), Ground q loose r.records XP w s₀ mg mb s₁.heap → YP w s₁.heap → ∀ (a : Addr) (o : Obj) (pm cd doc dV kV : Value), s₁.heap.get? a = some o →
    o.data = .func { docDef d.name d.params d.body d.scope pm cd doc with defaults := dV, kwdefaults := kV } → s₁.heap.CodeRec cd d.name → Dflts mg s₁.heap d.params kwd dV kV → mg d.name = some (.ref a) → s₁.gens = #[] →
    ∀ (args : List WData) (vals : List Value) (as : List Addr), r.claim.pre args = true → WData.layableAll args = true → ReadsAllW r.records (classAt s₀.heap) s₁.heap vals args as → WellAll w.params s₁.heap vals args → (∀ a ∈ as, (a == sysModules) = false) →
      GoodWG r.claim (classAt s₀.heap) (ExcName.means s₀.heap) args s₁ (.ok (.ret (.bool true))) s₁ ∧
      wpS (model r.prog w) callerA (PySem.call (.ref a) vals) (fun v s' => GoodWG r.claim (classAt s₀.heap) (ExcName.means s₀.heap) args s₁ (.ok (.ret v)) s')
        (fun e s' => GoodWG r.claim (classAt s₀.heap) (ExcName.means s₀.heap) args s₁ (.error e) s') s₁

end Mine
open Mine
/-- the head's last step: named as the library's, in a namespace of its own, for the head's line to find it there -/
theorem MineH.PySem.W.holds_open {r : OpenRow} {q : Program} {loose : List Str} {Xt : Shared → Bool} {XP : (Str → Option Value) → Heap → Prop} {α : Type} {Yf : Shared → α} {Ya : World → α} {YP : World → Heap → Prop} {d : DefRec} {kwd : List (Str × Expr)} {N : Nat}
    (left : LeftO r.prog q loose Xt Yf Ya N) (hY : ∀ w s, Yf s = Ya w → YP w s.heap) (hYk : ∀ w h h', YP w h → (∀ b o, h.get? b = some o → h'.get? b = some o) → YP w h')
    (hX : ∀ s, Xt s = true → XP (s.heap.nsMap mainGlobals) s.heap) (hXk : ∀ mg h h', XP mg h → (∀ b o, h.get? b = some o → h'.get? b = some o) → XP mg h')
    (hdef : defOf q r.name = some (d, kwd)) (hp : r.prog.theDef r.name = some (d.params, d.body, d.scope)) (hk : kwWritten? d.params.kwonlyargs d.params.kw_defaults = some kwd) (hRf : ∀ s, Xt s = true → RecFacts r.records s.heap) (hwr : (!r.writes || r.records.isEmpty) = true)
    (k1 : r.wellSaid = true) (ok : (chainsOk q && opensWell r.prog && (frees r.toRowW && r.within.isEmpty)) = true) (hb : r.prog.bare) (hw : r.toRowW.promised)
    (call : WalkS q loose XP YP r.toRowW d kwd) : r.Holds := by
  refine ⟨k1, hw, holds_unlook (bad := ret (.bool true)) (open_anyG (r := r.toRowW) (run := fun f vs => look (PySem.call f vs) (pure (.bool true)))
    (tree := fun vs => look (do match ← nsGet mainNs r.name with
      | some f => do ret (← PySem.call f vs)
      | none => unsupported "claim.caller:no-such-global") (ret (.bool true))) left hY hYk hX hXk hRf hwr ok hb hw
    (fun vs w s mg f Q E hg hf h => look_any' h (fun Γ p h' => ?_) fun Γ p h' => h')
    (fun w s hg G n hn => ?_) fun w s₀ s₁ mg mb G Y args vs as hpre hlay L low => ?_)⟩
  · rw [Sem.wp_bind']
    show Sem.wp _ Γ (nsGet mainGlobals r.name) _ _ p s
    rw [Sem.wp_nsGet _ Γ _ p s hg, hf]
    show Sem.wp _ Γ (PySem.call f vs >>= fun v => ret v) _ _ p s
    rw [Sem.wp_bind']
    exact Sem.wp_mono _ Γ _ (fun _ _ _ x => x) (fun _ _ _ x => x) p s h'
  · obtain rfl : n = r.name := by split at hn <;> simp_all
    exact pinned_of_view hg G hdef hp hk
  · obtain ⟨a, o, pm, cd, doc, dV, kV, h1, h2, h3, h4, h5⟩ := G.fn hdef
    obtain ⟨t, c⟩ := call w s₀ s₁ mg mb G Y a o pm cd doc dV kV h2 h3 h4 h5 (defOf_name hdef ▸ h1) L.gens args vs as hpre hlay L.reads L.well (L.low low)
    exact ⟨.ref a, h1, look_any c (wpAny_pure t)⟩
open PySem PySem.W PyProof.Rows
set_option Elab.async false
set_option maxRecDepth 100000
namespace MineH
set_option maxHeartbeats 8000000 in
open_top hd for PySem.Challenge.rw_ny0470_02
end MineH
set_option maxRecDepth 100000
set_option Elab.async false
open PySem PySem.W PySem.Calls PyProof.Rows
namespace Mine

local macro_rules | `(tactic| walk_at "S") => `(tactic| repeat' (first | (k_unfold; (try dsimp only)) | walk1 | (dsimp only; walk1)))
local macro_rules | `(tactic| walk_at "subscriptTail") => `(tactic| (k_here; (with_reducible show wpAny _ _ (subscriptTail _ _ (Value.bytes (List.toArray _) _) (Value.int _ _)) _ _ _); refine bytes_item (by omega) (by omega) (by omega) ?_))

theorem rangeSize_step {n : Nat} {k q : Nat} (hn : 1 ≤ n) (h : k = q * n) : Builtin.Range.rangeSize 0 (k : Int) (n : Int) = (q : Int) := by
  unfold Builtin.Range.rangeSize
  rw [if_pos (by omega)]
  subst h
  cases q with
  | zero => simp
  | succ q =>
    have hpos : 0 < (q + 1) * n := Nat.mul_pos (Nat.succ_pos q) hn
    rw [if_pos (by omega)]
    have e : (((q + 1) * n : Nat) : Int) - 0 - 1 = (n : Int) * q + (n - 1 : Nat) := by
      rw [Nat.succ_mul]; push_cast [hn]; rw [Int.mul_comm]; omega
    rw [e, Int.mul_add_ediv_left _ _ (by omega), Int.ediv_eq_zero_of_lt (by omega) (by omega)]
    omega
theorem rangeSize_one {n : Nat} : Builtin.Range.rangeSize 0 (n : Int) 1 = (n : Int) := by
  unfold Builtin.Range.rangeSize
  rw [if_pos (by omega)]
  cases n with
  | zero => simp
  | succ n => rw [if_pos (by omega)]; omega

theorem small_of {a b c : Int} {n : Nat} (h : Builtin.Range.rangeSize a b c = (n : Int)) (ha : -1000000000 ≤ a) (ha' : a ≤ 1000000000) (hb : -1000000000 ≤ b) (hb' : b ≤ 1000000000) (hc : -1000000000 ≤ c) (hc' : c ≤ 1000000000) (hn : n ≤ 1000000000) :
    Builtin.Range.small a b c = true := by
  unfold Builtin.Range.small Builtin.Range.rangeFitsLong
  rw [h]
  simp only [Bool.and_eq_true, Bool.or_eq_true, decide_eq_true_eq]
  refine ⟨⟨⟨⟨?_, ?_⟩, ?_⟩, ?_⟩, .inr ?_⟩
  · omega
  · omega
  · omega
  · omega
  · split <;> simp only [Bool.and_eq_true, decide_eq_true_eq] <;> omega

set_option maxHeartbeats 4000000 in
theorem byteswap_S {prog : Program} {w : World} {p : Program} {loose : List Str} {mean : ExcName → Option Value} {mg mb : Str → Option Value}
    {dp un : Nat} {gd : Option (List Code)} {cn : Str} {cs : Scope} {a : Addr} {ccd : Value} {cl : List (Str × Addr)} {outer : List Env} {A₀ : Around} {base h₀ : Heap} {L : Addr} {m : Str → Option Value} {news : List (Addr × Obj)} {s : Shared}
    {b : List UInt8} {n : Nat} {t₁ t₂ : Tok} {Q E : Value → Shared → Prop}
    (B : Below A₀ base outer h₀) (F : Fr h₀ L s.heap m) (X : (MineH.hd.heap_39 w.params).In h₀) (N : News h₀ L s.heap news) (T : Top p loose mean mg mb h₀) (hk : cs.kind = .function) (hd : dp < recursionLimit)
    (hn : 1 ≤ n) (hdiv : n ∣ b.length) (hz : b.length ≤ 1000) (hn' : n ≤ 1000)
    (hret : ∀ t h' tk', Fr h₀ L h' m → News h₀ L h' news → Q (.bytes (swapL b n).toArray t) { s with heap := h', toks := tk' }) :
    wpS (model prog w) (ktrTop dp un gd cn cs L a ccd cl outer) (call (.ref 21) [.bytes b.toArray t₁, .int n t₂]) Q E s := by
  w_top off
  have hfill : PySem.Challenge.rw_ny0470_02 = PySem.Challenge.rw_ny0470_02 ∧ MineH.hd.heap_39 = MineH.hd.heap_39 := by k_fill; exact ⟨rfl, rfl⟩
  clear hfill
  refine wpS_call ?_
  k_dflt (refine' code_defS (binds := [(Str.ofString "data", .bytes b.toArray t₁), (Str.ofString "width", .int n t₂)]) ?k1 ?k2 ?k3 ?k4 ?k5 ?kA ?kF ?kK ?k6 ?k7 ?k8 ?k9 ?kB ?_ ?c2 ?c3 ?c4 ?c5; (case kA => exact rfl); (case kF => exact rfl); (case kK => assumption); (case k1 => k_asm); (case k2 => k_asm); (case k3 => k_asm); (case k4 => k_asm); (case k5 => k_asm); (case k6 => k_is); (case k7 => k_is); (case k8 => exact hd); (case k9 => exact BindsTo.of_eq rfl); (case c5 => decide); (case kB => exact locs rfl); (case c2 => exact rfl); (case c3 => exact rfl); (case c4 => exact rfl))
  intro g L' h₁ FG F' N' B' X' T' hlt
  clear B F X N T
  obtain ⟨q, hq⟩ := hdiv
  rw [Nat.mul_comm] at hq
  have hfit : b.length ≤ 1099511627776 := by omega
  refine wpS_execs_cons (wpS_Assign_Name (wpS_Call_type (T := "bytearray") ?_))
  k_fold
  walk_at "S"
  refine wpS_any ?_
  k_fold
  walk_at "S"
  refine call_bytearray_K (by k_asm) (by k_asm) (by omega) (by simp only [List.size_toArray, Int.toNat_natCast, sizeLine]; omega) ?_
  intro ab h₂ tk₂ F₂ N₂ hl₂
  k_sweep
  k_fold
  walk_at "S"
  refine wpS_execs_cons (wpS_For (wpS_any ?_))
  k_fold
  walk_at "S"
  rename Fr _ _ _ _ => F₃
  rename News _ _ _ _ => N₃
  rename IsRange _ _ _ _ _ _ _ _ => hr₃
  trace_state
  refine forRangeS (σ := List UInt8 × Option Value) (n := q) rfl hr₃ ?small ?size rfl rfl (fun i c => c.1 = swapTo b n i 0)
    (fun c y => if y = Str.ofString "j" then c.2 else if y = Str.ofString "swapped_data" then some (.ref ab) else List.lookup y [(Str.ofString "data", Value.bytes b.toArray t₁), (Str.ofString "width", Value.int n t₂)].reverse)
    (fun c => (ab, baObj c.1.toArray) :: news) (List.replicate b.length 0, none) F₃ ?led ?mp ?i0 ?turn ?done
  case small => rw [List.size_toArray]; exact small_of (rangeSize_step hn hq) (by omega) (by omega) (by omega) (by omega) (by omega) (by omega) (by have := Nat.le_mul_of_pos_right q hn; omega)
  case size => rw [List.size_toArray]; exact rangeSize_step hn hq
  case led =>
    have e : (List.replicate b.length (0 : UInt8)).toArray = Array.replicate ((b.toArray.size : Nat) : Int).toNat 0 := by simp
    show News g L' _ ((ab, baObj (List.replicate b.length (0 : UInt8)).toArray) :: news)
    rw [e]; exact N₃
  case mp =>
    intro z hz
    by_cases h : z = Str.ofString "j"
    · subst h; rfl
    · rw [if_neg h]
  case i0 => exact (swapTo_zero b n).symm
  case turn =>
    rintro i ⟨cb, jv⟩ I it t h tk hi hc hoff F₄ N₄
    dsimp only at hc
    subst hc
    change Fr g L' _ _ at F₄
    change News g L' _ _ at N₄
    have hin : i * n + n ≤ b.length := by
      rw [hq, ← Nat.succ_mul]; exact Nat.mul_le_mul_right n hi
    have hoff1 : ab ≠ I := hoff _ (List.mem_cons_self ..)
    have hoff2 : ∀ p ∈ news, p.1 ≠ I := fun p hp => hoff p (List.mem_cons_of_mem _ hp)
    have hoff3 : ∀ p ∈ news, p.1 ≠ ab := fun p hp => Nat.ne_of_lt (hl₂ p hp)
    refine wpS_execs_cons (wpS_For (wpS_any ?_))
    k_fold
    walk_at "S"
    rename Fr _ _ _ _ => F₅
    rename News _ _ _ _ => N₅
    rename IsRange _ _ _ _ _ _ _ _ => hr₅
    refine forRangeS (σ := List UInt8) (n := n) rfl hr₅ (small_of rangeSize_one (by omega) (by omega) (by omega) (by omega) (by omega) (by omega) (by omega)) rangeSize_one rfl rfl (fun j c => c = swapTo b n i j)
      (fun c y => if y = Str.ofString "i" then some (.int (0 + (i : Int) * n) t) else if y = Str.ofString "swapped_data" then some (.ref ab) else List.lookup y [(Str.ofString "data", Value.bytes b.toArray t₁), (Str.ofString "width", Value.int n t₂)].reverse)
      (fun c => (I, it) :: (ab, baObj c.toArray) :: news) (swapTo b n i 0) F₅ N₅ ?mp2 ?i02 ?turn2 ?done2
    case mp2 =>
      intro z hz
      by_cases h : z = Str.ofString "i"
      · subst h; rfl
      · rw [if_neg h, if_neg h, if_neg hz]
    case i02 => rfl
    case turn2 =>
      rintro j cb I₂ it₂ tj h₆ tk₆ hj rfl hoff' F₆ N₆
      change Fr g L' _ _ at F₆
      change News g L' _ _ at N₆
      have hoffA : I ≠ I₂ := hoff' _ (List.mem_cons_self ..)
      have hoffB : ab ≠ I₂ := hoff' _ (List.mem_cons_of_mem _ (List.mem_cons_self ..))
      have hjn : ((i * n + j : Nat) : Int) = (i : Int) * n + j := by push_cast; rfl
      have hin' : i * n + j < b.length := by omega
      refine wpS_execs_cons (wpS_any ?_)
      k_fold
      walk_at "S"
      refine ba_set_K (by k_asm) (by k_asm) (.tail (Ne.symm hoffB) (.tail (Ne.symm hoff1) (.head hoff3))) ?_ ?_ ?_ ?_ ?_ ?_
      · omega
      · rw [swapTo_length]; omega
      · rw [swapTo_length]; omega
      · omega
      · have := UInt8.toNat_lt (b.getD (0 + (i : Int) * n + (0 + (j : Int) * 1)).toNat 0); omega
      intro h₈ F₈ N₈
      have e1 : (0 + (i : Int) * n + n - 1 - (0 + (j : Int) * 1)).toNat = i * n + n - 1 - j := by omega
      have e2 : (0 + (i : Int) * n + (0 + (j : Int) * 1)).toNat = i * n + j := by omega
      rw [e1, e2] at N₈
      have e3 : ∀ x : UInt8, ((x.toNat : Nat) : Int).toNat.toUInt8 = x := fun x => by rw [Int.toNat_natCast]; exact UInt8.ofNat_toNat
      rw [e3, swapTo_set b n i j hn hj hin] at N₈
      dsimp only
      refine wpS_execs_nil ?_
      refine TurnEnd.next (swapTo b n i (j + 1)) F₈ N₈ ?_ ?_ rfl
      · intro p hp
        rcases List.mem_cons.mp hp with rfl | hp
        · exact hoffA
        · rcases List.mem_cons.mp hp with rfl | hp
          · exact hoffB
          · exact hoff' p (List.mem_cons_of_mem _ (List.mem_cons_of_mem _ hp))
      intro z hz
      rw [if_neg hz]
    case done2 =>
      rintro cb m₇ h₇ tk₇ rfl F₇ hm₇ N₇
      dsimp only
      refine wpS_execs_nil ?_
      refine TurnEnd.next (swapTo b n (i + 1) 0, m₇ (Str.ofString "j")) F₇ ?_ ?_ ?_ rfl
      · rw [← swapTo_next]; exact N₇
      · intro p hp
        rcases List.mem_cons.mp hp with rfl | hp
        · exact hoff1
        · exact hoff2 p hp
      · intro z hz
        dsimp only
        by_cases h : z = Str.ofString "j"
        · rw [if_pos h, h]
        · rw [if_neg h, hm₇ z h, if_neg hz]
  case done =>
    rintro ⟨cb, jv⟩ m₇ h₇ tk₇ hc F₇ hm₇ N₇
    dsimp only at hc
    subst hc
    rw [swapTo_all b n q hq] at N₇
    change Fr g L' _ _ at F₇
    change News g L' _ _ at N₇
    have e0 : (fun y => if y = Str.ofString "i" then m₇ (Str.ofString "i") else if y = Str.ofString "j" then jv else if y = Str.ofString "swapped_data" then some (Value.ref ab) else List.lookup y [(Str.ofString "data", Value.bytes b.toArray t₁), (Str.ofString "width", Value.int n t₂)].reverse) = m₇ := by
      funext y
      by_cases h : y = Str.ofString "i"
      · rw [if_pos h, h]
      · rw [if_neg h, hm₇ y h]
    rw [← e0] at F₇
    dsimp only
    refine wpS_execs_cons (wpS_Return (wpS_any ?_))
    k_fold
    walk_at "S"
    refine ba_bytes (b := (swapL b n).toArray) (N₇ _ (List.mem_cons_self ..)).1 (by rw [List.size_toArray, swapL_length]; simp only [sizeLine]; omega) fun t k => ?_
    walk_at "S"
    refine leaveK_ (m' := _) (news' := news) F₇ (fun p hp => N₇ p (List.mem_cons_of_mem _ hp)) fun Fb Nb => ?_
    exact hret _ _ _ Fb Nb
end Mine
set_option maxRecDepth 100000
set_option Elab.async false
open PySem PySem.W PySem.Calls PyProof.Rows
namespace Mine
local macro_rules | `(tactic| walk_at "S") => `(tactic| repeat' (first | (k_unfold; (try dsimp only)) | walk1 | (dsimp only; walk1)))
local macro_rules | `(tactic| walk_at "mp") => `(tactic| (intro z; (try intro hz); (try dsimp only); (repeat' split) <;> first | rfl | contradiction | (exfalso; subst_vars; (rename (_ : Str) = _ => hq9); exact absurd hq9 (by decide)) | (subst_vars; rfl) | (simp_all; done)))
local macro_rules | `(tactic| walk_at "subscriptTail") => `(tactic| (k_here; (with_reducible show wpAny _ _ (subscriptTail _ _ (Value.bytes (List.toArray _) _) (Value.int _ _)) _ _ _); refine bytes_item (by omega) (by omega) (by omega) ?_))
local macro_rules | `(tactic| walk_at "subscriptTail") => `(tactic| (k_here; (with_reducible show wpAny _ _ (subscriptTail _ (Expr.Slice _ _ none _) (Value.bytes (List.toArray _) _) (Value.ref _)) _ _ _); (with_reducible rename Fr _ _ _ _ => F'); (with_reducible rename News _ _ _ _ => N'); (refine bytes_cut (s := ⟨_, _, _, _, _⟩) F' N' (by constructor) (by constructor) (by omega) ?_); intro _ _ _ _ _; (try k_sweep)))
local macro_rules | `(tactic| walk_at "binaryOp Add bytes bytes") => `(tactic| (k_here; (with_reducible show wpAny _ _ (binaryOp Operator.Add (Value.bytes (List.toArray _) _) (Value.bytes (List.toArray _) _)) _ _ _); refine bytes_add_K (by (simp only [List.size_toArray, List.length_reverse, List.length_take, List.length_append, List.length_cons, List.length_nil]; omega)) rfl ?_; intro _ _))
local macro_rules | `(tactic| walk_at "subscriptTail List cons Slice ref ref") => `(tactic| (k_here; k_dflt (refine kba_turn (value' := PySem.Expr.Name (PySem.Str.ofString "_") ⟨0, 0, 0, 0⟩) (fun _ => rfl) ?_); k_dflt (refine' kmk_slice_ints ?F ?N ?l ?p ?q ?i ?m ?c ?_ ?s ?t ?z; (case F => k_asm); (case N => k_asm); (case l => kmk_list); (case p => kmk_part); (case q => kmk_part); (case i => l_ints); (case m => exact kmk_from (by l_ints) (by kmk_sign)); (case c => exact List.length_drop ..); (case s => with_unfolding_all rfl); (case t => kmk_pure); (case z => kmk_size)); intro D' ws' h' F' N' l1 hI' hC' hL'; (try k_lt l1); (try k_sweep)))
local macro_rules | `(tactic| walk_at "binaryOp Add ref ref") => `(tactic| (k_here; (with_reducible show wpAny _ _ (binaryOp _ (Value.ref _) (Value.ref _)) _ _ _); k_dflt (refine' kmk_add_ints ?F ?N ?a ?b ?i ?j ?_ ?z; (case F => k_asm); (case N => k_asm); (case a => kmk_list); (case b => kmk_list); (case i => l_ints); (case j => l_ints); (case z => kmk_sum)); intro D' ws' h' F' N' l1 hI'; (try k_lt l1); (try k_sweep)))
local macro_rules | `(tactic| k_all) => `(tactic| assumption)
local macro_rules | `(tactic| k_ne) => `(tactic| first | assumption | exact Ne.symm (by assumption))

theorem swapL_whole (b : List UInt8) : swapL b (max b.length 1) = b.reverse := by
  apply List.ext_getElem
  · simp [swapL]
  · intro k h1 h2
    rw [swapL_length] at h1
    simp only [swapL, List.getElem_map, List.getElem_range, List.getElem_reverse]
    have e : max b.length 1 = b.length := by omega
    rw [e]
    unfold swapAt
    rw [Nat.div_eq_of_lt h1, Nat.mod_eq_of_lt h1, Nat.zero_mul, Nat.zero_add]
    rw [List.getD_eq_getElem?_getD, List.getElem?_eq_getElem (by omega)]
    rfl
def octs (ns : List Int) : List UInt8 := ns.map fun z => z.toNat.toUInt8
theorem octs_len (ns : List Int) : (octs ns).length = ns.length := by simp [octs]
theorem oct_nat {z : Int} (h0 : 0 ≤ z) (h1 : z < 256) : ((z.toNat.toUInt8.toNat : Nat) : Int) = z := by
  have a : z.toNat.toUInt8.toNat = z.toNat := by simp [Nat.toUInt8]; omega
  rw [a]; omega
theorem octs_back {ns : List Int} (h : ∀ z ∈ ns, 0 ≤ z ∧ z < 256) : (octs ns).map (fun c => (c.toNat : Int)) = ns := by
  unfold octs
  rw [List.map_map]
  conv => rhs; rw [← List.map_id ns]
  apply List.map_congr_left
  intro z hz
  exact oct_nat (h z hz).1 (h z hz).2
section
variable {prog : Program} {w : World} {p : Program} {loose : List Str} {mean : ExcName → Option Value} {mg mb : Str → Option Value}
  {dp un : Nat} {gd : Option (List Code)} {cn : Str} {cs : Scope} {a : Addr} {ccd : Value} {cl : List (Str × Addr)} {outer : List Env} {A₀ : Around} {base h₀ : Heap} {L : Addr} {m : Str → Option Value} {news : List (Addr × Obj)} {s : Shared} {Q E : Value → Shared → Prop}
  {l : Addr} {vs : List Value} {k : Nat} {ns : List Int}
  (B : Below A₀ base outer h₀) (F : Fr h₀ L s.heap m) (X : (MineH.hd.heap_39 w.params).In h₀) (N : News h₀ L s.heap ((l, listOf (List.toArray vs) k) :: news)) (T : Top p loose mean mg mb h₀) (hk : cs.kind = .function)
include B F X N T hk
set_option maxHeartbeats 4000000 in
theorem turned_S (hd : dp + 1 < recursionLimit) (hi : IntsAre vs ns) (hz : ns.length ≤ 9) (ho : ∀ z ∈ ns, 0 ≤ z ∧ z < 256)
    (hret : ∀ ad ws k' h' tk', IntsAre ws ns.reverse → Fr h₀ L h' m → News h₀ L h' ((ad, listOf (List.toArray ws) k') :: (l, listOf (List.toArray vs) k) :: news) → (∀ q ∈ (l, listOf (List.toArray vs) k) :: news, q.1 < ad) → Q (.ref ad) { s with heap := h', toks := tk' }) :
    wpS (model prog w) (ktrTop dp un gd cn cs L a ccd cl outer) (call (.ref 28) [.ref l]) Q E s := by
  w_top off
  have hfill : PySem.Challenge.rw_ny0470_02 = PySem.Challenge.rw_ny0470_02 ∧ MineH.hd.heap_39 = MineH.hd.heap_39 := by k_fill; exact ⟨rfl, rfl⟩
  clear hfill
  refine wpS_call ?_
  k_dflt (refine' code_defS (binds := [(Str.ofString "cards", .ref l)]) ?k1 ?k2 ?k3 ?k4 ?k5 ?kA ?kF ?kK ?k6 ?k7 ?k8 ?k9 ?kB ?_ ?c2 ?c3 ?c4 ?c5; (case kA => exact rfl); (case kF => exact rfl); (case kK => assumption); (case k1 => k_asm); (case k2 => k_asm); (case k3 => k_asm); (case k4 => k_asm); (case k5 => k_asm); (case k6 => k_is); (case k7 => k_is); (case k8 => (exact Nat.lt_of_succ_lt hd)); (case k9 => exact BindsTo.of_eq rfl); (case c5 => decide); (case kB => exact locs rfl); (case c2 => exact rfl); (case c3 => exact rfl); (case c4 => exact rfl))
  intro g L' h₁ FG F' N' B' X' T' hlt
  clear B F X N T
  have hvl : vs.length = ns.length := hi.length
  refine wpS_execs_cons (wpS_Return (wpS_Call_type (T := "list") ?_))
  k_fold
  walk_at "S"
  all_goals (try clear qk ek)
  refine wpS_spliced_cons ?_
  refine wpS_Call_K (K := MineH.hd.heap_39 w.params) (f := .ref 21) (by k_is) ?_
  k_fold
  walk_at "S"
  all_goals (try clear qk ek)
  refine wpS_any ?_
  k_fold
  walk_at "S"
  all_goals (try clear qk ek)
  rename Fr _ _ _ _ => F₃
  rename News _ _ _ _ => N₃
  have e : (if 1 > ((ns.length : Nat) : Int) then (1 : Int) else ((ns.length : Nat) : Int)) = ((max (octs ns).length 1 : Nat) : Int) := by
    rw [octs_len]; split <;> omega
  have ea : byteArr ns = (octs ns).toArray := rfl
  rw [e, ea]
  refine byteswap_S (by k_asm) F₃ (by k_asm) N₃ (by k_asm) rfl hd (by omega) ?_ (by rw [octs_len]; omega) (by rw [octs_len]; omega) fun t h' tk' F₄ N₄ => ?_
  · by_cases h : (octs ns).length = 0
    · rw [h]; exact Nat.dvd_zero _
    · rw [show max (octs ns).length 1 = (octs ns).length by omega]; exact Nat.dvd_refl _
  clear F₃ N₃
  k_sweep
  rw [swapL_whole]
  refine wpS_any ?_
  k_fold
  walk_at "S"
  all_goals (try clear qk ek)
  refine wpS_any ?_
  refine list_bytes (s := ⟨_, _, _, _, _⟩) rfl F₄ N₄ (by rw [List.length_reverse, octs_len]; omega) ?_
  intro D₃ k₃ vs₃ h₃ tk₃ F₅ N₅ hD₃ hI₃
  rw [List.map_reverse, octs_back ho] at hI₃
  refine leaveK_ F₅ N₅ fun Fb Nb => ?_
  exact hret _ _ _ _ _ hI₃ Fb Nb hD₃
end
end Mine
set_option maxRecDepth 100000
set_option Elab.async false
open PySem PySem.W PySem.Calls PyProof.Rows
namespace Mine
local macro_rules | `(tactic| walk_at "S") => `(tactic| repeat' (first | (k_unfold; (try dsimp only)) | walk1 | (dsimp only; walk1)))
local macro_rules | `(tactic| walk_at "mp") => `(tactic| (intro z; (try intro hz); (try dsimp only); (repeat' split) <;> first | rfl | contradiction | (exfalso; subst_vars; (rename (_ : Str) = _ => hq9); exact absurd hq9 (by decide)) | (subst_vars; rfl) | (simp_all; done)))
local macro_rules | `(tactic| walk_at "subscriptTail") => `(tactic| (k_here; (with_reducible show wpAny _ _ (subscriptTail _ _ (Value.bytes (List.toArray _) _) (Value.int _ _)) _ _ _); refine bytes_item (by omega) (by omega) (by omega) ?_))
local macro_rules | `(tactic| walk_at "subscriptTail") => `(tactic| (k_here; (with_reducible show wpAny _ _ (subscriptTail _ (Expr.Slice _ _ none _) (Value.bytes (List.toArray _) _) (Value.ref _)) _ _ _); (with_reducible rename Fr _ _ _ _ => F'); (with_reducible rename News _ _ _ _ => N'); (refine bytes_cut (s := ⟨_, _, _, _, _⟩) F' N' (by constructor) (by constructor) (by omega) ?_); intro _ _ _ _ _; (try k_sweep)))
local macro_rules | `(tactic| walk_at "binaryOp Add bytes bytes") => `(tactic| (k_here; (with_reducible show wpAny _ _ (binaryOp Operator.Add (Value.bytes (List.toArray _) _) (Value.bytes (List.toArray _) _)) _ _ _); refine bytes_add_K (by (simp only [List.size_toArray, List.length_reverse, List.length_take, List.length_append, List.length_cons, List.length_nil]; omega)) rfl ?_; intro _ _))
local macro_rules | `(tactic| walk_at "subscriptTail List cons Slice ref ref") => `(tactic| (k_here; k_dflt (refine kba_turn (value' := PySem.Expr.Name (PySem.Str.ofString "_") ⟨0, 0, 0, 0⟩) (fun _ => rfl) ?_); k_dflt (refine' kmk_slice_ints ?F ?N ?l ?p ?q ?i ?m ?c ?_ ?s ?t ?z; (case F => k_asm); (case N => k_asm); (case l => kmk_list); (case p => kmk_part); (case q => kmk_part); (case i => l_ints); (case m => exact kmk_from (by l_ints) (by kmk_sign)); (case c => exact List.length_drop ..); (case s => with_unfolding_all rfl); (case t => kmk_pure); (case z => kmk_size)); intro D' ws' h' F' N' l1 hI' hC' hL'; (try k_lt l1); (try k_sweep)))
local macro_rules | `(tactic| walk_at "binaryOp Add ref ref") => `(tactic| (k_here; (with_reducible show wpAny _ _ (binaryOp _ (Value.ref _) (Value.ref _)) _ _ _); k_dflt (refine' kmk_add_ints ?F ?N ?a ?b ?i ?j ?_ ?z; (case F => k_asm); (case N => k_asm); (case a => kmk_list); (case b => kmk_list); (case i => l_ints); (case j => l_ints); (case z => kmk_sum)); intro D' ws' h' F' N' l1 hI'; (try k_lt l1); (try k_sweep)))
local macro_rules | `(tactic| k_all) => `(tactic| assumption)
local macro_rules | `(tactic| k_ne) => `(tactic| first | assumption | exact Ne.symm (by assumption))
local macro_rules | `(tactic| units_room) => `(tactic| (show _ + 3 + 64 < 9900; omega))
def riffL : List Int → List Int → List Int → List Int
  | _, _, [] => []
  | hs, rs, z :: zs => if hs ≠ [] ∧ (rs = [] ∨ z.fmod 2 = 1) then hs.getD 0 0 :: riffL (hs.drop 1) rs zs else rs.getD 0 0 :: riffL hs (rs.drop 1) zs
theorem allLt_mem {d : Addr} : ∀ {l : List (Addr × Obj)}, AllLt d l → ∀ p ∈ l, p.1 < d
  | [], _, _, h => nomatch h
  | _ :: _, x, p, h => by
    rcases List.mem_cons.mp h with rfl | h
    · exact x.1
    · exact allLt_mem x.2 p h
structure Rif where
  pv : List Value
  kp : Nat
  ha : Addr
  hv : List Value
  hk : Nat
  ra : Addr
  rv : List Value
  rk : Nat
section
variable {prog : Program} {w : World} {p : Program} {loose : List Str} {mean : ExcName → Option Value} {mg mb : Str → Option Value}
  {dp un : Nat} {gd : Option (List Code)} {cn : Str} {cs : Scope} {a : Addr} {ccd : Value} {cl : List (Str × Addr)} {outer : List Env} {A₀ : Around} {base h₀ : Heap} {L : Addr} {m : Str → Option Value} {news : List (Addr × Obj)} {s : Shared} {Q E : Value → Shared → Prop}
  {l1 l2 l3 : Addr} {v1 v2 v3 : List Value} {k1 k2 k3 : Nat} {n1 n2 n3 : List Int}
  (B : Below A₀ base outer h₀) (F : Fr h₀ L s.heap m) (X : (MineH.hd.heap_39 w.params).In h₀) (N : News h₀ L s.heap ((l1, listOf (List.toArray v1) k1) :: (l2, listOf (List.toArray v2) k2) :: (l3, listOf (List.toArray v3) k3) :: news)) (T : Top p loose mean mg mb h₀) (hk : cs.kind = .function)
include B F X N T hk
set_option maxHeartbeats 4000000 in
theorem riffled_S (hd : dp < recursionLimit) (hun : un ≤ 1000) (hi1 : IntsAre v1 n1) (hi2 : IntsAre v2 n2) (hi3 : IntsAre v3 n3) (hz : n3.length ≤ 9) (hsum : n1.length + n2.length = n3.length)
    (hret : ∀ ad ws k' h' tk', IntsAre ws (riffL n1 n2 n3) → Fr h₀ L h' m → News h₀ L h' ((ad, listOf (List.toArray ws) k') :: (l1, listOf (List.toArray v1) k1) :: (l2, listOf (List.toArray v2) k2) :: (l3, listOf (List.toArray v3) k3) :: news) → (∀ q ∈ (l1, listOf (List.toArray v1) k1) :: (l2, listOf (List.toArray v2) k2) :: (l3, listOf (List.toArray v3) k3) :: news, q.1 < ad) → Q (.ref ad) { s with heap := h', toks := tk' }) :
    wpS (model prog w) (ktrTop dp un gd cn cs L a ccd cl outer) (call (.ref 35) [.ref l1, .ref l2, .ref l3]) Q E s := by
  w_top off
  have hfill : PySem.Challenge.rw_ny0470_02 = PySem.Challenge.rw_ny0470_02 ∧ MineH.hd.heap_39 = MineH.hd.heap_39 := by k_fill; exact ⟨rfl, rfl⟩
  clear hfill
  refine wpS_call ?_
  k_dflt (refine' code_defS (binds := [(Str.ofString "heap", .ref l1), (Str.ofString "rest", .ref l2), (Str.ofString "numbers", .ref l3)]) ?k1 ?k2 ?k3 ?k4 ?k5 ?kA ?kF ?kK ?k6 ?k7 ?k8 ?k9 ?kB ?_ ?c2 ?c3 ?c4 ?c5; (case kA => exact rfl); (case kF => exact rfl); (case kK => assumption); (case k1 => k_asm); (case k2 => k_asm); (case k3 => k_asm); (case k4 => k_asm); (case k5 => k_asm); (case k6 => k_is); (case k7 => k_is); (case k8 => (exact hd)); (case k9 => exact BindsTo.of_eq rfl); (case c5 => decide); (case kB => exact locs rfl); (case c2 => exact rfl); (case c3 => exact rfl); (case c4 => exact rfl))
  intro g L' h₁ FG F' N' B' X' T' hlt
  clear B F X N T
  have F'' : Fr g L' h₁ (fun y => if y = Str.ofString "numbers" then some (.ref l3) else if y = Str.ofString "rest" then some (.ref l2) else if y = Str.ofString "heap" then some (.ref l1) else none) :=
    fr_eqv F' fun y => by simp only [List.reverse_cons, List.reverse_nil, List.nil_append, List.cons_append, look1]; rfl
  clear F'
  refine wpS_execs_cons (wpS_any ?_)
  k_fold
  walk_at "S"
  all_goals (try clear qk ek)
  rename Fr _ _ _ _ => F₂
  rename News _ _ _ _ => N₂
  rename_i ad hh2 lad hh1
  have hlad : ∀ q ∈ (l1, listOf (List.toArray v1) k1) :: (l2, listOf (List.toArray v2) k2) :: (l3, listOf (List.toArray v3) k3) :: news, q.1 < ad := allLt_mem (l := (l1, listOf (List.toArray v1) k1) :: (l2, listOf (List.toArray v2) k2) :: (l3, listOf (List.toArray v3) k3) :: news) lad
  refine wpS_execs_cons (wpS_For ?_)
  refine wpS_any ?_
  k_fold
  walk_at "S"
  all_goals (try clear qk ek)
  refine forListS (σ := Rif) (items := v3) (kl := k3) rfl rfl rfl
    (fun i c => ∃ hs rs dn, IntsAre c.pv dn ∧ IntsAre c.hv hs ∧ IntsAre c.rv rs ∧ riffL n1 n2 n3 = dn ++ riffL hs rs (n3.drop i) ∧ hs.length + rs.length + i = n3.length ∧ dn.length = i ∧ c.ha ≠ ad ∧ c.ra ≠ ad)
    (fun c y => if y = Str.ofString "pack" then some (.ref ad) else if y = Str.ofString "numbers" then some (.ref l3) else if y = Str.ofString "rest" then some (.ref c.ra) else if y = Str.ofString "heap" then some (.ref c.ha) else none)
    (fun c => (ad, listOf (List.toArray c.pv) c.kp) :: (c.ha, listOf (List.toArray c.hv) c.hk) :: (c.ra, listOf (List.toArray c.rv) c.rk) :: (l1, listOf (List.toArray v1) k1) :: (l2, listOf (List.toArray v2) k2) :: (l3, listOf (List.toArray v3) k3) :: news)
    (fun c => by simp) ⟨[], 0, l1, v1, k1, l2, v2, k2⟩ F₂ ?N0 ?mp ?i0 ?turn ?done
  case N0 =>
    intro p hp
    refine N₂ p ?_
    simp only [List.mem_cons] at hp ⊢
    rcases hp with h | h | h | h
    · exact .inl h
    · exact .inr (.inl h)
    · exact .inr (.inr (.inl h))
    · exact .inr h
  case mp => intro z hz; rfl
  case i0 => exact ⟨n1, n2, [], .nil, hi1, hi2, rfl, hsum, rfl, Nat.ne_of_lt (hlad _ (.head _)), Nat.ne_of_lt (hlad _ (.tail _ (.head _)))⟩
  case turn =>
    rintro i v ⟨pv, kp, ha, hv, hk', ra, rv, rk⟩ I it h tk₂ hv3 ⟨hs, rs, dn, hpv, hhv, hrv, heq, hlen, hdn, hne1, hne2⟩ hoff F₅ N₅
    change Fr g L' _ _ at F₅
    change News g L' _ _ at N₅
    dsimp only at hpv hhv hrv hne1 hne2 hoff F₅ N₅
    obtain ⟨tz, rfl⟩ := hi3.int_at i v hv3
    have hil : i < n3.length := by
      have := (List.getElem?_eq_some_iff.mp hv3).1
      rw [hi3.length] at this; exact this
    have hdrop : n3.drop i = n3.getD i 0 :: n3.drop (i + 1) := by
      rw [List.drop_eq_getElem_cons hil, List.getD_eq_getElem?_getD, List.getElem?_eq_getElem hil]; rfl
    rw [hdrop, riffL] at heq
    generalize n3.getD i 0 = z at *
    have hpl : pv.length ≤ 9 := by rw [hpv.length]; omega
    have hhl : hs.length ≤ 9 := by omega
    have hrl : rs.length ≤ 9 := by omega
    have o1 : ad ≠ I := hoff _ (.head _)
    have o2 : ha ≠ I := hoff _ (.tail _ (.head _))
    have o3 : ra ≠ I := hoff _ (.tail _ (.tail _ (.head _)))
    have hall : ∀ p ∈ (l1, listOf (List.toArray v1) k1) :: (l2, listOf (List.toArray v2) k2) :: (l3, listOf (List.toArray v3) k3) :: news, p.1 ≠ ad := fun p hp => Nat.ne_of_lt (hlad p hp)
    clear F₂ N₂
    refine wpS_execs_cons (wpS_If (wpS_cut (fun b h' => b = decide (hs ≠ [] ∧ (rs = [] ∨ z.fmod 2 = 1)) ∧ Fr g L' h' (fun y => if y = Str.ofString "number" then some (.int z tz) else if y = Str.ofString "pack" then some (.ref ad) else if y = Str.ofString "numbers" then some (.ref l3) else if y = Str.ofString "rest" then some (.ref ra) else if y = Str.ofString "heap" then some (.ref ha) else none) ∧ News g L' h' ((I, it) :: (ad, listOf (List.toArray pv) kp) :: (ha, listOf (List.toArray hv) hk') :: (ra, listOf (List.toArray rv) rk) :: (l1, listOf (List.toArray v1) k1) :: (l2, listOf (List.toArray v2) k2) :: (l3, listOf (List.toArray v3) k3) :: news)) ?_ ?_))
    · k_fold
      walk_at "S"
      all_goals (try clear qk ek)
      all_goals (rename Fr _ _ _ _ => F₆; rename News _ _ _ _ => N₆; refine CutEnd.mk ⟨?_, F₆, fun p hp => N₆ p ?_⟩)
      all_goals first | (exact .tail _ hp) | (exact .tail _ (.tail _ hp)) | (simp_all; done)
    rintro b h₆ tk₆ ⟨rfl, F₆, N₆⟩
    clear F₅ N₅
    by_cases hc : hs ≠ [] ∧ (rs = [] ∨ z.fmod 2 = 1)
    · rw [if_pos hc] at heq
      rw [if_pos (by simpa using hc)]
      have hpos : 0 < hs.length := List.length_pos_iff.mpr hc.1
      refine wpS_any ?_
      k_fold
      walk_at "S"
      all_goals (try clear qk ek)
      refine wpS_execs_nil ?_
      rename Fr _ _ _ _ => F₇
      rename News _ _ _ _ => N₇
      rename IntsAre _ (List.drop 1 hs) => hI₇
      rename_i t₇ hh7 D₇ ws₇ hh8 hC₇ hL₇ lt₇ hh9
      rw [List.push_toArray] at N₇
      refine TurnEnd.next ⟨pv ++ [.int (hs.getD (Int.toNat 0) 0) t₇], kp + 1, D₇, ws₇, 0, ra, rv, rk⟩ F₇ (fun p hp => N₇ p ?_) (fun p hp => ?_) ?_ ⟨hs.drop 1, rs, dn ++ [hs.getD 0 0], hpv.append (.cons _ _ .nil), hI₇, hrv, by rw [heq, List.append_assoc]; rfl, by omega, by rw [List.length_append]; simp [hdn], Nat.ne_of_gt lt₇.2.1, hne2⟩
      · rcases List.mem_cons.mp hp with rfl | hp
        · exact .tail _ (.head _)
        · rcases List.mem_cons.mp hp with rfl | hp
          · exact .tail _ (.tail _ (.head _))
          · rcases List.mem_cons.mp hp with rfl | hp
            · exact .head _
            · exact .tail _ (.tail _ (.tail _ (.tail _ hp)))
      · rcases List.mem_cons.mp hp with rfl | hp
        · exact o1
        · rcases List.mem_cons.mp hp with rfl | hp
          · exact Nat.ne_of_gt lt₇.1
          · exact hoff p (.tail _ (.tail _ hp))
      · intro y hy
        by_cases h1 : y = Str.ofString "heap"
        · subst h1; rfl
        · simp only [if_neg h1, if_neg hy]
    · rw [if_neg hc] at heq
      rw [if_neg (by simpa using hc)]
      have hpos : 0 < rs.length := by
        refine List.length_pos_iff.mpr fun e => ?_
        by_cases h0 : hs = []
        · rw [h0, e] at hlen; simp at hlen; omega
        · exact hc ⟨h0, .inl e⟩
      refine wpS_any ?_
      k_fold
      walk_at "S"
      all_goals (try clear qk ek)
      refine wpS_execs_nil ?_
      rename Fr _ _ _ _ => F₇
      rename News _ _ _ _ => N₇
      rename IntsAre _ (List.drop 1 rs) => hI₇
      rename_i t₇ hh7 D₇ ws₇ hh8 hC₇ hL₇ lt₇ hh9
      rw [List.push_toArray] at N₇
      refine TurnEnd.next ⟨pv ++ [.int (rs.getD (Int.toNat 0) 0) t₇], kp + 1, ha, hv, hk', D₇, ws₇, 0⟩ F₇ (fun p hp => N₇ p ?_) (fun p hp => ?_) ?_ ⟨hs, rs.drop 1, dn ++ [rs.getD 0 0], hpv.append (.cons _ _ .nil), hhv, hI₇, by rw [heq, List.append_assoc]; rfl, by omega, by rw [List.length_append]; simp [hdn], hne1, Nat.ne_of_gt lt₇.2.1⟩
      · rcases List.mem_cons.mp hp with rfl | hp
        · exact .tail _ (.head _)
        · rcases List.mem_cons.mp hp with rfl | hp
          · exact .tail _ (.tail _ (.head _))
          · rcases List.mem_cons.mp hp with rfl | hp
            · exact .tail _ (.tail _ (.tail _ (.head _)))
            · rcases List.mem_cons.mp hp with rfl | hp
              · exact .head _
              · exact .tail _ (.tail _ (.tail _ (.tail _ (.tail _ hp))))
      · rcases List.mem_cons.mp hp with rfl | hp
        · exact o1
        · rcases List.mem_cons.mp hp with rfl | hp
          · exact o2
          · rcases List.mem_cons.mp hp with rfl | hp
            · exact Nat.ne_of_gt lt₇.1
            · exact hoff p (.tail _ (.tail _ (.tail _ hp)))
      · intro y hy
        by_cases h1 : y = Str.ofString "rest"
        · subst h1; rfl
        · simp only [if_neg h1, if_neg hy]
  case done =>
    rintro ⟨pv, kp, ha, hv, hk', ra, rv, rk⟩ m' h tk₂ ⟨hs, rs, dn, hpv, hhv, hrv, heq, hlen, hdn, hne1, hne2⟩ F₅ hm N₅
    show wpS _ _ _ _ _ _
    change Fr g L' _ _ at F₅
    change News g L' _ _ at N₅
    dsimp only at hpv hm N₅
    rw [hi3.length, List.drop_eq_nil_of_le (Nat.le_refl _), riffL, List.append_nil] at heq
    refine wpS_execs_cons (wpS_Return (wpS_any (wpAny_Name (wpAny_loadName_local rfl rfl F₅.ns (by rw [hm _ (by decide)]; rfl) ?_))))
    refine leaveK_ F₅ N₅ fun Fb Nb => ?_
    refine hret ad pv kp _ _ (heq ▸ hpv) Fb (fun p hp => Nb p ?_) hlad
    rcases List.mem_cons.mp hp with rfl | hp
    · exact .head _
    · exact .tail _ (.tail _ (.tail _ hp))
end
end Mine
set_option maxRecDepth 100000
set_option Elab.async false
open PySem PySem.W PySem.Calls PyProof.Rows
namespace Mine
local macro_rules | `(tactic| walk_at "S") => `(tactic| repeat' (first | (k_unfold; (try dsimp only)) | walk1 | (dsimp only; walk1)))
local macro_rules | `(tactic| walk_at "mp") => `(tactic| (intro z; (try intro hz); (try dsimp only); (repeat' split) <;> first | rfl | contradiction | (exfalso; subst_vars; (rename (_ : Str) = _ => hq9); exact absurd hq9 (by decide)) | (subst_vars; rfl) | (simp_all; done)))
local macro_rules | `(tactic| walk_at "subscriptTail") => `(tactic| (k_here; (with_reducible show wpAny _ _ (subscriptTail _ _ (Value.bytes (List.toArray _) _) (Value.int _ _)) _ _ _); refine bytes_item (by omega) (by omega) (by omega) ?_))
local macro_rules | `(tactic| walk_at "subscriptTail") => `(tactic| (k_here; (with_reducible show wpAny _ _ (subscriptTail _ (Expr.Slice _ _ none _) (Value.bytes (List.toArray _) _) (Value.ref _)) _ _ _); (with_reducible rename Fr _ _ _ _ => F'); (with_reducible rename News _ _ _ _ => N'); (refine bytes_cut (s := ⟨_, _, _, _, _⟩) F' N' (by constructor) (by constructor) (by omega) ?_); intro _ _ _ _ _; (try k_sweep)))
local macro_rules | `(tactic| walk_at "binaryOp Add bytes bytes") => `(tactic| (k_here; (with_reducible show wpAny _ _ (binaryOp Operator.Add (Value.bytes (List.toArray _) _) (Value.bytes (List.toArray _) _)) _ _ _); refine bytes_add_K (by (simp only [List.size_toArray, List.length_reverse, List.length_take, List.length_append, List.length_cons, List.length_nil]; omega)) rfl ?_; intro _ _))
local macro_rules | `(tactic| walk_at "subscriptTail List cons Slice ref ref") => `(tactic| (k_here; k_dflt (refine kba_turn (value' := PySem.Expr.Name (PySem.Str.ofString "_") ⟨0, 0, 0, 0⟩) (fun _ => rfl) ?_); k_dflt (refine' kmk_slice_ints ?F ?N ?l ?p ?q ?i ?m ?c ?_ ?s ?t ?z; (case F => k_asm); (case N => k_asm); (case l => kmk_list); (case p => kmk_part); (case q => kmk_part); (case i => l_ints); (case m => exact kmk_from (by l_ints) (by kmk_sign)); (case c => exact List.length_drop ..); (case s => with_unfolding_all rfl); (case t => kmk_pure); (case z => kmk_size)); intro D' ws' h' F' N' l1 hI' hC' hL'; (try k_lt l1); (try k_sweep)))
local macro_rules | `(tactic| walk_at "binaryOp Add ref ref") => `(tactic| (k_here; (with_reducible show wpAny _ _ (binaryOp _ (Value.ref _) (Value.ref _)) _ _ _); k_dflt (refine' kmk_add_ints ?F ?N ?a ?b ?i ?j ?_ ?z; (case F => k_asm); (case N => k_asm); (case a => kmk_list); (case b => kmk_list); (case i => l_ints); (case j => l_ints); (case z => kmk_sum)); intro D' ws' h' F' N' l1 hI'; (try k_lt l1); (try k_sweep)))
local macro_rules | `(tactic| k_all) => `(tactic| assumption)
local macro_rules | `(tactic| k_ne) => `(tactic| first | assumption | exact Ne.symm (by assumption))
local macro_rules | `(tactic| units_room) => `(tactic| (show _ + 3 + 64 < 9900; omega))
def onceB (ns : List Int) : Bool := decide ((ns.map fun z => z.fmod ns.length).Perm (rangeKs 0 ns.length))
theorem range_sorted (n : Nat) : (rangeKs 0 n).Pairwise (· ≤ ·) := by
  unfold rangeKs
  rw [List.pairwise_map]
  exact (List.pairwise_lt_range (n := n)).imp fun h => by omega
theorem once_val {ns ms : List Int} {n : Nat} (hp : ms.Perm (ns.map fun z => z.fmod ns.length)) (hs : ms.Pairwise (· ≤ ·)) (hn : n = ns.length) : decide (ms = rangeKs 0 n) = onceB ns := by
  subst hn
  unfold onceB
  apply decide_eq_decide.mpr
  constructor
  · rintro rfl; exact hp.symm
  · intro h
    exact (hp.trans h).eq_of_pairwise (fun a b _ _ h1 h2 => Int.le_antisymm h1 h2) hs (range_sorted _)
section
variable {prog : Program} {w : World} {p : Program} {loose : List Str} {mean : ExcName → Option Value} {mg mb : Str → Option Value}
  {dp un : Nat} {gd : Option (List Code)} {cn : Str} {cs : Scope} {a : Addr} {ccd : Value} {cl : List (Str × Addr)} {outer : List Env} {A₀ : Around} {base h₀ : Heap} {L : Addr} {m : Str → Option Value} {news : List (Addr × Obj)} {s : Shared} {Q E : Value → Shared → Prop}
  {l : Addr} {vs : List Value} {k : Nat} {ns : List Int}
  (B : Below A₀ base outer h₀) (F : Fr h₀ L s.heap m) (X : (MineH.hd.heap_39 w.params).In h₀) (N : News h₀ L s.heap ((l, listOf (List.toArray vs) k) :: news)) (T : Top p loose mean mg mb h₀) (hk : cs.kind = .function)
include B F X N T hk
set_option maxHeartbeats 4000000 in
theorem exchanged_S {x y : Int} {t1 t2 : Tok} (hd : dp < recursionLimit) (hun : un ≤ 1000) (hi : IntsAre vs ns) (hz : ns.length ≤ 9) (hx0 : 0 ≤ x) (hx1 : x < ns.length) (hy0 : 0 ≤ y) (hy1 : y < ns.length)
    (hret : ∀ ad ws k' h' tk', IntsAre ws ((ns.set x.toNat (ns.getD y.toNat 0)).set y.toNat (ns.getD x.toNat 0)) → Fr h₀ L h' m → News h₀ L h' ((ad, listOf (List.toArray ws) k') :: (l, listOf (List.toArray vs) k) :: news) → (∀ q ∈ (l, listOf (List.toArray vs) k) :: news, q.1 < ad) → Q (.ref ad) { s with heap := h', toks := tk' }) :
    wpS (model prog w) (ktrTop dp un gd cn cs L a ccd cl outer) (call (.ref 42) [.ref l, .int x t1, .int y t2]) Q E s := by
  w_top off
  have hfill : PySem.Challenge.rw_ny0470_02 = PySem.Challenge.rw_ny0470_02 ∧ MineH.hd.heap_39 = MineH.hd.heap_39 := by k_fill; exact ⟨rfl, rfl⟩
  clear hfill
  refine wpS_call ?_
  k_dflt (refine' code_defS (binds := [(Str.ofString "pack", .ref l), (Str.ofString "one", .int x t1), (Str.ofString "other", .int y t2)]) ?k1 ?k2 ?k3 ?k4 ?k5 ?kA ?kF ?kK ?k6 ?k7 ?k8 ?k9 ?kB ?_ ?c2 ?c3 ?c4 ?c5; (case kA => exact rfl); (case kF => exact rfl); (case kK => assumption); (case k1 => k_asm); (case k2 => k_asm); (case k3 => k_asm); (case k4 => k_asm); (case k5 => k_asm); (case k6 => k_is); (case k7 => k_is); (case k8 => (exact hd)); (case k9 => exact BindsTo.of_eq rfl); (case c5 => decide); (case kB => exact locs rfl); (case c2 => exact rfl); (case c3 => exact rfl); (case c4 => exact rfl))
  intro g L' h₁ FG F' N' B' X' T' hlt
  clear B F X N T
  have hvl : vs.length = ns.length := hi.length
  refine wpS_execs_cons (wpS_any ?_)
  k_fold
  walk_at "S"
  all_goals (try clear qk ek)
  refine wpS_execs_cons (wpS_any ?_)
  k_fold
  walk_at "S"
  all_goals (try clear qk ek)
  refine wpS_execs_cons (wpS_any ?_)
  k_fold
  walk_at "S"
  all_goals (try clear qk ek)
  refine wpS_execs_cons (wpS_Return ?_)
  refine wpS_any ?_
  k_fold
  walk_at "S"
  all_goals (try clear qk ek)
  rename Fr _ _ _ _ => F₃
  rename News _ _ _ _ => N₃
  rename_i hI₃ _ _
  rename _ ∧ AllLt _ news => hlt₃
  refine leaveK_ F₃ N₃ fun Fb Nb => ?_
  exact hret _ _ _ _ _ (by assumption) Fb Nb (allLt_mem (l := (l, listOf (List.toArray vs) k) :: news) hlt₃)
end
section
variable {prog : Program} {w : World} {p : Program} {loose : List Str} {mean : ExcName → Option Value} {mg mb : Str → Option Value}
  {dp un : Nat} {gd : Option (List Code)} {cn : Str} {cs : Scope} {a : Addr} {ccd : Value} {cl : List (Str × Addr)} {outer : List Env} {A₀ : Around} {base h₀ : Heap} {L : Addr} {m : Str → Option Value} {news : List (Addr × Obj)} {s : Shared} {Q E : Value → Shared → Prop}
  {l : Addr} {vs : List Value} {k : Nat} {ns : List Int}
  (B : Below A₀ base outer h₀) (F : Fr h₀ L s.heap m) (X : (MineH.hd.heap_39 w.params).In h₀) (N : News h₀ L s.heap ((l, listOf (List.toArray vs) k) :: news)) (T : Top p loose mean mg mb h₀) (hk : cs.kind = .function)
include B F X N T hk
set_option maxHeartbeats 4000000 in
theorem once_S (hd : dp < recursionLimit) (hun : un ≤ 1000) (hi : IntsAre vs ns) (hz : ns.length ≤ 9) (hp : 0 < ns.length)
    (hret : ∀ h' tk', Fr h₀ L h' m → News h₀ L h' ((l, listOf (List.toArray vs) k) :: news) → Q (.bool (onceB ns)) { s with heap := h', toks := tk' }) :
    wpAny (model prog w) (ktrTop dp un gd cn cs L a ccd cl outer) (call (.ref 47) [.ref l]) Q E s := by
  w_top off
  have hfill : PySem.Challenge.rw_ny0470_02 = PySem.Challenge.rw_ny0470_02 ∧ MineH.hd.heap_39 = MineH.hd.heap_39 := by k_fill; exact ⟨rfl, rfl⟩
  clear hfill
  refine wpAny_call ?_
  k_dflt (refine' code_defCA (binds := [(Str.ofString "cards", .ref l)]) (fun n => [(Str.ofString "cards", n + 1)]) ?k1 ?k2 ?k3 ?k4 ?k5 ?kA ?kF ?kK ?k6 ?k7 ?k8 ?k9 ?kB ?kD ?kC ?_ ?c2 ?c3 ?c4; (case kA => exact rfl); (case kF => exact rfl); (case kK => assumption); (case k1 => k_asm); (case k2 => k_asm); (case k3 => k_asm); (case k4 => k_asm); (case k5 => k_asm); (case k6 => k_is); (case k7 => k_is); (case k8 => exact hd); (case k9 => exact BindsTo.of_eq rfl); (case kB => exact rfl); (case kD => decide +kernel); (case kC => exact fun _ => rfl); (case c2 => exact rfl); (case c3 => exact rfl); (case c4 => exact rfl))
  intro g L' h₁ tk₁ cells FG F' N' Y' B' X' T' hlt
  clear B F X N T
  obtain ⟨oc, hE', dc⟩ := CellsAre.one Y'
  subst hE'
  clear Y'
  change Fr g L' h₁ (fun _ => none) at F'
  change News g L' h₁ ((L' + 1, oc) :: (l, listOf (List.toArray vs) k) :: news) at N'
  change oc.data = .cell (some (.ref l)) at dc
  have hvl : vs.length = ns.length := hi.length
  show wpAny _ _ _ _ _ _
  k_fold
  walk_at "S"
  all_goals (try clear qk ek)
  rename Fr _ _ _ _ => F₃
  rename News _ _ _ _ => N₃
  rename List.Perm _ _ => hperm
  rename List.Pairwise _ _ => hsort
  refine leaveK_ F₃ N₃ fun Fb Nb => ?_
  rw [once_val hperm hsort (by simp)]
  exact hret _ _ Fb fun p hp => Nb p (.tail _ (.tail _ (.tail _ (.tail _ hp))))
end
end Mine
set_option maxRecDepth 100000
set_option Elab.async false
open PySem PySem.W PySem.Calls PyProof.Rows
namespace Mine
local macro_rules | `(tactic| walk_at "S") => `(tactic| repeat' (first | (k_unfold; (try dsimp only)) | walk1 | (dsimp only; walk1)))
local macro_rules | `(tactic| walk_at "mp") => `(tactic| (intro z; (try intro hz); (try dsimp only); (repeat' split) <;> first | rfl | contradiction | (exfalso; subst_vars; (rename (_ : Str) = _ => hq9); exact absurd hq9 (by decide)) | (subst_vars; rfl) | (simp_all; done)))
local macro_rules | `(tactic| walk_at "subscriptTail") => `(tactic| (k_here; (with_reducible show wpAny _ _ (subscriptTail _ _ (Value.bytes (List.toArray _) _) (Value.int _ _)) _ _ _); refine bytes_item (by omega) (by omega) (by omega) ?_))
local macro_rules | `(tactic| walk_at "subscriptTail") => `(tactic| (k_here; (with_reducible show wpAny _ _ (subscriptTail _ (Expr.Slice _ _ none _) (Value.bytes (List.toArray _) _) (Value.ref _)) _ _ _); (with_reducible rename Fr _ _ _ _ => F'); (with_reducible rename News _ _ _ _ => N'); (refine bytes_cut (s := ⟨_, _, _, _, _⟩) F' N' (by constructor) (by constructor) (by omega) ?_); intro _ _ _ _ _; (try k_sweep)))
local macro_rules | `(tactic| walk_at "binaryOp Add bytes bytes") => `(tactic| (k_here; (with_reducible show wpAny _ _ (binaryOp Operator.Add (Value.bytes (List.toArray _) _) (Value.bytes (List.toArray _) _)) _ _ _); refine bytes_add_K (by (simp only [List.size_toArray, List.length_reverse, List.length_take, List.length_append, List.length_cons, List.length_nil]; omega)) rfl ?_; intro _ _))
local macro_rules | `(tactic| walk_at "subscriptTail List cons Slice ref ref") => `(tactic| (k_here; k_dflt (refine kba_turn (value' := PySem.Expr.Name (PySem.Str.ofString "_") ⟨0, 0, 0, 0⟩) (fun _ => rfl) ?_); k_dflt (refine' kmk_slice_ints ?F ?N ?l ?p ?q ?i ?m ?c ?_ ?s ?t ?z; (case F => k_asm); (case N => k_asm); (case l => kmk_list); (case p => kmk_part); (case q => kmk_part); (case i => l_ints); (case m => exact kmk_from (by l_ints) (by kmk_sign)); (case c => exact List.length_drop ..); (case s => with_unfolding_all rfl); (case t => kmk_pure); (case z => kmk_size)); intro D' ws' h' F' N' l1 hI' hC' hL'; (try k_lt l1); (try k_sweep)))
local macro_rules | `(tactic| walk_at "binaryOp Add ref ref") => `(tactic| (k_here; (with_reducible show wpAny _ _ (binaryOp _ (Value.ref _) (Value.ref _)) _ _ _); k_dflt (refine' kmk_add_ints ?F ?N ?a ?b ?i ?j ?_ ?z; (case F => k_asm); (case N => k_asm); (case a => kmk_list); (case b => kmk_list); (case i => l_ints); (case j => l_ints); (case z => kmk_sum)); intro D' ws' h' F' N' l1 hI'; (try k_lt l1); (try k_sweep)))
local macro_rules | `(tactic| k_all) => `(tactic| assumption)
local macro_rules | `(tactic| k_ne) => `(tactic| first | assumption | exact Ne.symm (by assumption) | (refine Nat.ne_of_lt ?_; omega) | (refine Nat.ne_of_gt ?_; omega))
def Halt (P : Prop) : Prop := P
theorem halt {P : Prop} (h : Halt P) : P := h
local macro_rules | `(tactic| walk_at "call ref") => `(tactic| (k_here; (with_reducible show wpAny _ _ (call (Value.ref 47) [Value.ref _]) _ _ _); refine halt ?_))
local macro_rules | `(tactic| walk_at "eval ListComp") => `(tactic| (k_here; (with_reducible show wpAny _ _ (eval (Expr.ListComp (Expr.Call _ _ _ _) _ _ _) _) _ _ _); refine halt ?_))
local macro_rules | `(tactic| walk_at "compareOp NotIn") => `(tactic| (k_here; (with_reducible show wpAny _ _ (compareOp CmpOp.NotIn (Value.bool false) (Value.ref _)) _ _ _); refine halt ?_))
local macro_rules | `(tactic| walk_at "subscriptTail Name Slice ref ref") => `(tactic| (k_here; (with_reducible show wpAny _ _ (subscriptTail _ (PySem.Expr.Slice (some _) none none _) (Value.ref _) (Value.ref _)) _ _ _); refine halt ?_))
local macro_rules | `(tactic| walk_at "CompSrc") => `(tactic| (k_here; (with_reducible show LCg.CompSrc _ _ _ _ _ _ _ (Expr.Call _ _ _ _) _ _ _ _ _ _); refine halt ?_))
local macro_rules | `(tactic| units_room) => `(tactic| (show _ + 3 + 64 < 9900; omega))
def lowL (ns : List Int) : List Int := ns.filter fun z => decide (z ≤ ns.getD 0 0)
def highL (ns : List Int) : List Int := ns.filter fun z => decide (ns.getD 0 0 < z)
theorem rangeSize_up {n : Nat} : Builtin.Range.rangeSize 1 ((n : Int) + 1) 1 = (n : Int) := by
  unfold Builtin.Range.rangeSize
  rw [if_pos (by omega)]
  cases n with
  | zero => simp
  | succ n => rw [if_pos (by omega)]; omega
structure Fo where
  fb : List Bool
  kf : Nat
  rb : List Bool
  kr : Nat
  gb : List Bool
  kg : Nat
def bv (bs : List Bool) : List Value := bs.map Value.bool
theorem bv_push (bs : List Bool) (b : Bool) : (bv bs).toArray.push (Value.bool b) = (bv (bs ++ [b])).toArray := by simp [bv]
def rowL (ns : List Int) (m : Nat) : List Bool := (List.range (ns.length / m)).map fun k => onceB ((ns.drop (k * m)).take m)
theorem flat_le (f : Nat → List Bool) (hf : ∀ j, (f j).length ≤ 9) : ∀ i : Nat, ((List.range i).map f).flatten.length ≤ i * 9
  | 0 => by simp
  | i + 1 => by
    rw [List.range_succ, List.map_append, List.flatten_append, List.length_append]
    have h1 := flat_le f hf i
    have h2 := hf i
    simp only [List.map_cons, List.map_nil, List.flatten_cons, List.flatten_nil, List.append_nil]
    omega
def maxI (ns : List Int) : Int := ns.foldr max 0
def minI (ns : List Int) : Int := ns.foldr min 1000
theorem maxI_mem : ∀ {l : List Int} {M : Int}, (∀ a ∈ l, a ≤ M) → 0 ≤ M → maxI l ≤ M
  | [], _, _, h => h
  | b :: l, M, h, h0 => by
    have h1 := maxI_mem (l := l) (M := M) (fun a ha => h a (.tail _ ha)) h0
    have h2 := h b (.head _)
    show max b (maxI l) ≤ M
    omega
theorem maxI_ge : ∀ {l : List Int} {a : Int}, a ∈ l → a ≤ maxI l
  | b :: l, a, h => by
    show a ≤ max b (maxI l)
    rcases List.mem_cons.mp h with rfl | h
    · omega
    · have := maxI_ge h; omega
theorem maxI_eq {l : List Int} {M : Int} (hm : M ∈ l) (hM : ∀ a ∈ l, a ≤ M) (h0 : ∀ a ∈ l, 0 ≤ a) : M = maxI l :=
  Int.le_antisymm (maxI_ge hm) (maxI_mem hM (h0 M hm))
theorem minI_mem : ∀ {l : List Int} {M : Int}, (∀ a ∈ l, M ≤ a) → M ≤ 1000 → M ≤ minI l
  | [], _, _, h => h
  | b :: l, M, h, h0 => by
    have h1 := minI_mem (l := l) (M := M) (fun a ha => h a (.tail _ ha)) h0
    have h2 := h b (.head _)
    show M ≤ min b (minI l)
    omega
theorem minI_le : ∀ {l : List Int} {a : Int}, a ∈ l → minI l ≤ a
  | b :: l, a, h => by
    show min b (minI l) ≤ a
    rcases List.mem_cons.mp h with rfl | h
    · omega
    · have := minI_le h; omega
theorem minI_eq {l : List Int} {M : Int} (hm : M ∈ l) (hM : ∀ a ∈ l, M ≤ a) (h0 : ∀ a ∈ l, a < 256) : M = minI l :=
  Int.le_antisymm (minI_mem hM (by have := h0 M hm; omega)) (minI_le hm)
def gapB (ns : List Int) (m : Nat) : Bool := maxI (ns.take m) - minI (ns.take m) == (m : Int) - 1
def isB : Value → Bool
  | .bool b => b == false
  | _ => false
theorem eqGives_bool (a b : Bool) : MeetsSeq.EqGives (.bool a) (.bool b) (a == b) := by
  intro prog w A E s Q h
  unfold eqBool
  refine wpAny_holding ?_
  refine wpAny_ite_split (fun hab => ?_) (fun hab => ?_)
  · have e : a = b := by have := eq_of_beq hab; injection this
    subst e
    rw [beq_self_eq_true] at h
    exact wpAny_bind (wpAny_rule (wpAny_pure h))
  · exact wpAny_bind (show wpAny _ _ (compareOp .Eq (.bool a) (.bool b)) _ _ _ from eq_bool (wpAny_truthy_bool h))
theorem any_bools : ∀ bs : List Bool, (!(bv bs).any isB) = bs.all id
  | [] => rfl
  | b :: bs => by
    have ih := any_bools bs
    unfold bv at ih ⊢
    rw [List.map_cons, List.any_cons, List.all_cons, Bool.not_or, ih]
    cases b <;> rfl
theorem notin_bools {prog : Program} {w : World} {A : Around} {E : Value → Shared → Prop} {s : Shared} {l : Addr} {bs : List Bool} {Q : Value → Shared → Prop} (hl : s.heap.IsList l (bv bs).toArray) (h : Q (.bool (bs.all id)) s) : wpAny (model prog w) A (compareOp .NotIn (.bool false) (.ref l)) Q E s := by
  refine SeqInW.notIn_listW isB (fun y hy => ?_) hl ?_
  · obtain ⟨b, _, rfl⟩ := List.mem_map.mp (show y ∈ bv bs by simpa using hy)
    exact eqGives_bool b false
  · rw [← Array.any_toList, List.toList_toArray, any_bools]; exact h
def dealtB (ns : List Int) : Bool := decide (lowL ns = ((rangeKs 0 ns.length).take (lowL ns).length).reverse) && decide (highL ns = (rangeKs 0 ns.length).drop (lowL ns).length)
def fourB (ns : List Int) : List Bool := [dealtB ns, ((List.range ns.length).map (fun j => onceB (ns.take (j + 1)))).all id, (((List.range ns.length).map fun j => rowL ns (j + 1)).flatten).all id, ((List.range ns.length).map fun j => gapB ns (j + 1)).all id]
theorem octs_range {n : Nat} (hn : n ≤ 9) : ∀ z ∈ rangeKs 0 n, 0 ≤ z ∧ z < 256 := fun z hz => by
  have := mem_rangeKs hz; omega
section
variable {prog : Program} {w : World} {p : Program} {loose : List Str} {mean : ExcName → Option Value} {mg mb : Str → Option Value}
  {dp un : Nat} {gd : Option (List Code)} {cn : Str} {cs : Scope} {a : Addr} {ccd : Value} {cl : List (Str × Addr)} {outer : List Env} {A₀ : Around} {base h₀ : Heap} {L : Addr} {m : Str → Option Value} {news : List (Addr × Obj)} {s : Shared} {Q E : Value → Shared → Prop}
  {l : Addr} {vs : List Value} {k : Nat} {ns : List Int}
  (B : Below A₀ base outer h₀) (F : Fr h₀ L s.heap m) (X : (MineH.hd.heap_39 w.params).In h₀) (N : News h₀ L s.heap ((l, listOf (List.toArray vs) k) :: news)) (T : Top p loose mean mg mb h₀) (hk : cs.kind = .function)
include B F X N T hk
set_option maxHeartbeats 4000000 in
theorem four_S (hd : dp + 2 < recursionLimit) (hun : un ≤ 900) (hi : IntsAre vs ns) (hz : ns.length ≤ 9) (hp : 0 < ns.length) (ho : ∀ z ∈ ns, 0 ≤ z ∧ z < 256)
    (hret : ∀ ad k' h' tk', Fr h₀ L h' m → News h₀ L h' ((ad, listOf (List.toArray (bv (fourB ns))) k') :: (l, listOf (List.toArray vs) k) :: news) → (∀ q ∈ (l, listOf (List.toArray vs) k) :: news, q.1 < ad) → Q (.ref ad) { s with heap := h', toks := tk' }) :
    wpS (model prog w) (ktrTop dp un gd cn cs L a ccd cl outer) (call (.ref 52) [.ref l]) Q E s := by
  w_top off
  have hfill : PySem.Challenge.rw_ny0470_02 = PySem.Challenge.rw_ny0470_02 ∧ MineH.hd.heap_39 = MineH.hd.heap_39 := by k_fill; exact ⟨rfl, rfl⟩
  clear hfill
  have hd0 : dp < recursionLimit := by omega
  have hd1 : dp + 1 < recursionLimit := by omega
  refine wpS_call ?_
  k_dflt (refine' code_defCS (binds := [(Str.ofString "pack", .ref l)]) (fun n => [(Str.ofString "m", n + 1 + 1), (Str.ofString "pack", n + 1)]) ?k1 ?k2 ?k3 ?k4 ?k5 ?kA ?kF ?kK ?k6 ?k7 ?k8 ?k9 ?kB ?kD ?kC ?_ ?c2 ?c3 ?c4; (case kA => exact rfl); (case kF => exact rfl); (case kK => assumption); (case k1 => k_asm); (case k2 => k_asm); (case k3 => k_asm); (case k4 => k_asm); (case k5 => k_asm); (case k6 => k_is); (case k7 => k_is); (case k8 => exact hd0); (case k9 => exact BindsTo.of_eq rfl); (case kB => exact rfl); (case kD => decide +kernel); (case kC => exact fun _ => rfl); (case c2 => exact rfl); (case c3 => exact rfl); (case c4 => exact rfl))
  intro g L' h₁ tk₁ cells FG F' N' Y' B' X' T' hlt
  clear B F X N T
  obtain ⟨oc2, oc1, hE', dc2, dc1⟩ := CellsAre.two Y'
  subst hE'
  clear Y'
  change Fr g L' h₁ (fun _ => none) at F'
  change News g L' h₁ ((L' + 1 + 1, oc2) :: (L' + 1, oc1) :: (l, listOf (List.toArray vs) k) :: news) at N'
  change oc1.data = .cell (some (.ref l)) at dc1
  change oc2.data = .cell none at dc2
  have hvl : vs.length = ns.length := hi.length
  refine wpS_execs_cons (wpS_any ?_)
  k_fold
  walk_at "S"
  all_goals (try clear qk ek)
  rename Fr _ _ _ _ => F₂
  rename News _ _ _ _ => N₂
  rename IntsAre _ (rangeKs _ _) => hdeck
  rename_i rt1 rt2 rt3 rgx rga dk dv dkk hh1 hh2 ldk hh3
  rw [show (((ns.length : Nat) : Int) - 0).toNat = ns.length by omega] at hdeck
  refine wpS_tk (s := s) (h' := hh3) fun tk₂ => ?_
  clear rgx rga
  refine wpS_execs_cons (wpS_any (LCt.Assign_ListComp_T F₂ rfl (by with_unfolding_all rfl) rfl (by decide) rfl (by decide) rfl rfl rfl ?_))
  refine wpAny_Name (wpAny_loadName_cell rfl rfl rfl ⟨oc1, N₂.get (.tail _ (.tail _ (.head _))), dc1⟩ ?_)
  refine LCt.CompSrcT.ledger rfl F₂ N₂ (.tail _ (.tail _ (.tail _ (.head _)))) (by rw [List.size_toArray, sizeLine_eq]; omega) fun g₂ => ?_
  refine comp_tests (fun z => decide (z ≤ ns.getD 0 0)) hi (.inr ⟨_, .tail _ (.tail _ (.tail _ (.head _))), rfl, _, rfl⟩) ?_ ?_
  · intro i z t I oI C oC D m₂ h tk E' ys hz hC hx F₃ N₃ off ne
    show wpAny _ _ _ _ _ _
    k_fold
    walk_at "S"
    all_goals (try clear qk ek)
    exact TestEnd.mk rfl F₃ N₃ (fun p hp => hp)
  intro lv hlow la h₃ tk₃ F₃ N₃ off₃
  clear F₂ N₂
  show wpS _ _ _ _ _ _
  refine wpS_tk (s := s) (h' := h₃) fun tk₄ => ?_
  refine wpS_execs_cons (wpS_any (LCt.Assign_ListComp_T F₃ rfl (by with_unfolding_all rfl) rfl (by decide) rfl (by decide) rfl rfl rfl ?_))
  refine wpAny_Name (wpAny_loadName_cell rfl rfl rfl ⟨oc1, N₃.get (.tail _ (.tail _ (.tail _ (.head _)))), dc1⟩ ?_)
  refine LCt.CompSrcT.ledger rfl F₃ N₃ (.tail _ (.tail _ (.tail _ (.tail _ (.head _))))) (by rw [List.size_toArray, sizeLine_eq]; omega) fun g₂ => ?_
  refine comp_tests (fun z => decide (ns.getD 0 0 < z)) hi (.inr ⟨_, .tail _ (.tail _ (.tail _ (.tail _ (.head _)))), rfl, _, rfl⟩) ?_ ?_
  · intro i z t I oI C oC D m₂ h tk E' ys hz hC hx F₄ N₄ off ne
    show wpAny _ _ _ _ _ _
    k_fold
    walk_at "S"
    all_goals (try clear qk ek)
    exact TestEnd.mk rfl F₄ N₄ (fun p hp => hp)
  intro hv hhigh ha h₄ tk₅ F₄ N₄ off₄
  clear F₃ N₃
  show wpS _ _ _ _ _ _
  change IntsAre lv (lowL ns) at hlow
  change IntsAre hv (highL ns) at hhigh
  refine wpS_tk (s := s) (h' := h₄) fun tk₆ => ?_
  refine wpS_execs_cons (wpS_any ?_)
  k_fold
  walk_at "S"
  all_goals (try clear qk ek)
  rename Fr _ _ _ _ => F₅
  rename News _ _ _ _ => N₅
  rename_i fa hf1 lf ra hr1 lr ga hg1 lg tu hu1 lu hu2 hu3 hu4 hh5
  have hnl : ∀ p ∈ news, p.1 < L' := fun p hp => hlt p (.tail _ hp)
  have hll : l < L' := hlt _ (.head _)
  obtain ⟨lf1, lf2, lf3, lf4, lf5, lf6, _⟩ := lf
  obtain ⟨lr1, _⟩ := lr
  obtain ⟨lg1, _⟩ := lg
  obtain ⟨hc1, hc2, _⟩ := off₃
  obtain ⟨hc4, hc5, hc6, hc7, hc8, _⟩ := off₄
  dsimp only at hc1 hc2 hc4 hc5 hc6 hc7 hc8
  obtain ⟨ldk1, ldk2, ldk3, _⟩ := ldk
  have hnc : ∀ p ∈ news, p.1 ≠ L' + 1 + 1 := fun p hp => Nat.ne_of_lt (Nat.lt_trans (hnl p hp) (by omega))
  have hnf : ∀ p ∈ news, p.1 ≠ fa := fun p hp => Nat.ne_of_lt (Nat.lt_trans (hnl p hp) (by omega))
  have hnr : ∀ p ∈ news, p.1 ≠ ra := fun p hp => Nat.ne_of_lt (Nat.lt_trans (hnl p hp) (by omega))
  have hng : ∀ p ∈ news, p.1 ≠ ga := fun p hp => Nat.ne_of_lt (Nat.lt_trans (hnl p hp) (by omega))
  refine wpS_tk (s := s) (h' := hh5) fun tk₇ => ?_
  refine wpS_execs_cons (wpS_For ?_)
  refine wpS_any ?_
  k_fold
  walk_at "S"
  all_goals (try clear qk ek)
  rename Fr _ _ _ _ => F₆
  rename News _ _ _ _ => N₆
  rename IsRange _ _ _ _ _ _ _ _ => hr₆
  refine forRangeC (cc := L' + 1 + 1) (o₀ := oc2) (σ := Fo) (n := ns.length) rfl hr₆ ?small ?size rfl rfl rfl
    (fun i c => c.fb = (List.range i).map (fun j => onceB (ns.take (j + 1))) ∧ c.rb = ((List.range i).map fun j => rowL ns (j + 1)).flatten ∧ c.gb = (List.range i).map fun j => gapB ns (j + 1))
    (fun c y => if y = Str.ofString "fronts" then some (.ref fa) else if y = Str.ofString "rows" then some (.ref ra) else if y = Str.ofString "gaps" then some (.ref ga) else if y = Str.ofString "high" then some (.ref ha) else if y = Str.ofString "low" then some (.ref la) else if y = Str.ofString "deck" then some (.ref dk) else none)
    (fun c => (ga, listOf (List.toArray (bv c.gb)) c.kg) :: (ra, listOf (List.toArray (bv c.rb)) c.kr) :: (fa, listOf (List.toArray (bv c.fb)) c.kf) :: (ha, LCg.lst hv) :: (la, LCg.lst lv) :: (dk, listOf (List.toArray dv) dkk) :: (L' + 1, oc1) :: (l, listOf (List.toArray vs) k) :: news)
    ⟨[], 0, [], 0, [], 0⟩ F₆ dc2 ?N6 ?off6 ?mp6 ?i6 ?turn6 ?done6
  case size => exact rangeSize_up
  case small => exact small_of rangeSize_up (by omega) (by omega) (by omega) (by omega) (by omega) (by omega) (by omega)
  case N6 =>
    intro p hp
    refine N₆ p ?_
    simp only [List.mem_cons] at hp ⊢
    rcases hp with h | h | h | h | h | h | h | h | h | h <;> simp [h, bv]
  case off6 =>
    intro p hp
    simp only [List.mem_cons] at hp
    rcases hp with rfl | rfl | rfl | rfl | rfl | rfl | rfl | rfl | h
    · exact Nat.ne_of_gt (by dsimp only; omega)
    · exact Nat.ne_of_gt (by dsimp only; omega)
    · exact Nat.ne_of_gt (by dsimp only; omega)
    · exact Ne.symm hc6
    · exact Ne.symm hc2
    · exact Nat.ne_of_gt ldk1
    · exact Nat.ne_of_lt (Nat.lt_succ_self _)
    · exact Nat.ne_of_lt (Nat.lt_trans hll (by omega))
    · exact hnc p h
  case mp6 => intro z; rfl
  case i6 => exact ⟨rfl, rfl, rfl⟩
  case turn6 =>
    rintro i ⟨fb, kf, rb, kr, gb, kg⟩ I it oc' t' h' tk₈ hi' ⟨hfb, hrb, hgb⟩ hoff hcI F₇ hoc' N₇
    change Fr g L' _ _ at F₇
    change News g L' _ _ at N₇
    dsimp only at hfb hrb hgb hoff F₇ N₇
    clear F₆ N₆ hr₆
    have o1 := (hoff _ (.head _)).1
    have o2 := (hoff _ (.tail _ (.head _))).1
    have o3 := (hoff _ (.tail _ (.tail _ (.head _)))).1
    dsimp only at o1 o2 o3
    have hoc'' : oc'.data = .cell (some (.int ((i + 1 : Nat) : Int) t')) := by rw [hoc', show (1 + (i : Int) * 1) = ((i + 1 : Nat) : Int) by omega]
    clear hoc'
    have hfl : (bv fb).length ≤ 9 := by rw [hfb]; simp [bv]; omega
    have hgl : (bv gb).length ≤ 9 := by rw [hgb]; simp [bv]; omega
    refine wpS_execs_cons (wpS_any ?_)
    k_fold
    walk_at "S"
    all_goals (try clear qk ek)
    rename Fr _ _ _ _ => F₈
    rename News _ _ _ _ => N₈
    rename IntsAre _ (List.take _ ns) => hI₈
    rename_i D₈ ws₈ hh8 hC₈ hL₈ lt₈
    rw [show (((i + 1 : Nat) : Int)).toNat = i + 1 by omega] at hI₈
    have htl : (ns.take (i + 1)).length = i + 1 := by rw [List.length_take]; omega
    clear hC₈ hL₈
    refine once_S B' F₈ X' N₈ T' rfl hd1 (show un + 3 ≤ 1000 by omega) hI₈ (by omega) (by omega) fun h₉ tk₉ F₉ N₉ => ?_
    clear F₈ N₈
    k_sweep
    show wpAny _ _ _ _ _ _
    walk_at "S"
    all_goals (try clear qk ek)
    rename Fr _ _ _ _ => F₁₀
    rename News _ _ _ _ => N₁₀
    rename_i hh10
    rw [bv_push] at N₁₀
    have hdl : (ns.length / (i + 1)) ≤ 9 := Nat.le_trans (Nat.div_le_self _ _) hz
    have hdp : 1 ≤ ns.length / (i + 1) := (Nat.one_le_div_iff (by omega)).mpr (by omega)
    refine wpS_tk (s := s) (h' := hh10) fun tk₁₀ => ?_
    refine wpS_execs_cons (wpS_any ?_)
    k_fold
    walk_at "S"
    all_goals (try clear qk ek)
    show wpAny _ _ _ _ _ _
    refine LCg.ListComp_U F₁₀ rfl (by decide) rfl (by decide) rfl ?_
    walk_at "S"
    show LCg.CompSrc _ _ _ _ _ _ _ _ _ _ _ _ _ _
    rename Fr _ _ _ _ => F₁₁
    rename News _ _ _ _ => N₁₁
    rename IsRange _ _ _ _ _ _ _ _ => hr₁₁
    have hfd : Int.fdiv ((ns.length : Nat) : Int) ((i + 1 : Nat) : Int) = ((ns.length / (i + 1) : Nat) : Int) := by
      rw [Int.fdiv_eq_ediv_of_nonneg _ (by omega)]; rfl
    rw [hfd] at hr₁₁
    refine LCg.CompSrc.range (n := ns.length / (i + 1)) rfl F₁₁ N₁₁ hr₁₁ (small_of rangeSize_one (by omega) (by omega) (by omega) (by omega) (by omega) (by omega) (by omega)) rangeSize_one (by rw [sizeLine_eq]; omega) fun g₁₁ => ?_
    refine comp_turns (fun j y => y = .bool (onceB ((ns.drop (j * (i + 1))).take (i + 1)))) trivial ?_ ?_
    · rintro j v I₃ oI C oC D₄ m₂ h₄ tk₅ E' ys₄ hj ⟨tj, rfl⟩ hC hx F₁₂ N₁₂ off ne
      clear F₁₁ N₁₁ hr₁₁ qk ek
      have hjm : (j + 1) * (i + 1) ≤ ns.length := Nat.le_trans (Nat.mul_le_mul_right _ hj) (Nat.div_mul_le_self _ _)
      rw [Nat.succ_mul] at hjm
      rw [Int.zero_add] at hx
      show wpAny _ _ _ _ _ _
      k_fold
      walk_at "S"
      all_goals (try clear qk ek)
      rename Fr _ _ _ _ => F₁₃
      rename News _ _ _ _ => N₁₃
      rename IntsAre _ (List.take _ (List.drop _ ns)) => hI₁₃
      rw [show ((j : Int) * ((i + 1 : Nat) : Int)).toNat = j * (i + 1) by rw [← Int.natCast_mul, Int.toNat_natCast], show ((j : Int) * ((i + 1 : Nat) : Int) + ((i + 1 : Nat) : Int)).toNat = j * (i + 1) + (i + 1) by rw [← Int.natCast_mul, ← Int.natCast_add, Int.toNat_natCast], Nat.min_eq_left hjm, Nat.add_sub_cancel_left] at hI₁₃
      have hbl : ((ns.drop (j * (i + 1))).take (i + 1)).length = i + 1 := by rw [List.length_take, List.length_drop]; omega
      refine once_S B' F₁₃ X' N₁₃ T' rfl hd1 (show un + 3 ≤ 1000 by omega) hI₁₃ (by omega) (by omega) fun h₁₄ tk₁₄ F₁₄ N₁₄ => ?_
      exact EltEnd.mk F₁₄ N₁₄ (fun p hp => .tail _ hp) rfl
    · intro ys₄ hy₄ hG₄ D₄ h₄ tk₅ F₁₂ N₁₂ off₄
      clear F₁₁ N₁₁ hr₁₁
      have hys : ys₄ = bv (rowL ns (i + 1)) := by
        apply List.ext_getElem
        · simp [bv, rowL, hy₄]
        · intro q h1 h2
          have := hG₄ q ys₄[q] (List.getElem?_eq_getElem h1)
          rw [this]; simp [bv, rowL]
      subst hys
      obtain ⟨e1, e2, e3, e4, e5, e6, e7, e8, e9, e10, e11, e12⟩ := off₄
      dsimp only at e1 e2 e3 e4 e5 e6 e7 e8 e9 e10 e11
      show wpAny _ _ _ _ _ _
      walk_at "S"
      have hrl : rb.length ≤ 81 := by
        rw [hrb]
        refine Nat.le_trans (flat_le (fun j => rowL ns (j + 1)) (fun j => by unfold rowL; rw [List.length_map, List.length_range]; exact Nat.le_trans (Nat.div_le_self _ _) hz) i) (by omega)
      have hrw : (rowL ns (i + 1)).length = ns.length / (i + 1) := by simp [rowL]
      refine kl_extend (s := ⟨h₄, _, _, _, _⟩) (its := (bv rb).toArray) (its2 := (bv (rowL ns (i + 1))).toArray) (l := bv (rb ++ rowL ns (i + 1))) F₁₂ N₁₂ (.head _) (by simp [bv]) (by simp only [List.toList_toArray, bv, List.length_map]; omega)
        (.tail (Ne.symm e5) (.tail (by k_ne) (.tail (Ne.symm o2) (.tail (by k_ne) (.tail (by k_ne) (.head fun p hp => ?_))))))
        (fun h => by
          rw [Bool.and_eq_true] at h
          have h2 := of_decide_eq_true h.2
          rw [sizeLine_eq] at h2
          simp only [List.size_toArray, bv, List.length_map] at h2
          omega) (by simp only [List.toList_toArray, bv, List.length_map, sizeLine_eq]; omega) (by simp only [List.size_toArray, bv, List.length_map, sizeLine_eq]; omega) fun h₁₅ F₁₅ N₁₅ => ?_
      · simp only [List.mem_cons] at hp
        rcases hp with rfl | rfl | rfl | rfl | rfl | rfl | h
        · exact Nat.ne_of_lt lr1
        · exact Nat.ne_of_lt (Nat.lt_trans lf1 lr1)
        · exact Nat.ne_of_lt (Nat.lt_trans lf2 lr1)
        · exact Nat.ne_of_lt (Nat.lt_trans lf3 lr1)
        · exact Nat.ne_of_lt (Nat.lt_trans lf5 lr1)
        · exact Nat.ne_of_lt (Nat.lt_trans lf6 lr1)
        · exact hnr p h
      clear F₁₂ N₁₂
      walk_at "S"
      all_goals (try clear qk ek)
      refine wpS_tk (s := s) (h' := h₁₅) fun tk₁₅ => ?_
      refine wpS_execs_cons (wpS_any ?_)
      k_fold
      walk_at "S"
      all_goals (try clear qk ek)
      rename Fr _ _ _ _ => F₁₆
      rename News _ _ _ _ => N₁₆
      rename_i D₁₆ ws₁₆ hh16 hI16 hC16 hL16 lt16 hh17 M1 tM1 kM1 hM1 hM1' D₁₇ ws₁₇ hh18 hI17 hC17 hL17 lt17 hh19 M2 tM2 kM2 hM2 hM2' hh20
      rw [show (((i + 1 : Nat) : Int)).toNat = i + 1 by omega] at hM1 hM1' hM2 hM2'
      have hgap : (M1 - M2 == ((i + 1 : Nat) : Int) - 1) = gapB ns (i + 1) := by
        unfold gapB
        rw [maxI_eq hM1 hM1' (fun z hz => (ho z (List.mem_of_mem_take hz)).1), minI_eq hM2 hM2' (fun z hz => (ho z (List.mem_of_mem_take hz)).2)]
      rw [bv_push, hgap] at N₁₆
      refine wpS_execs_nil ?_
      refine TurnEndC.next ⟨fb ++ [onceB (ns.take (i + 1))], kf + 1, rb ++ rowL ns (i + 1), kr + 1, gb ++ [gapB ns (i + 1)], kg + 1⟩ F₁₆ hoc'' (fun p hp => N₁₆ p ?_) (fun p hp => ?_) (fun z => rfl) ⟨?_, ?_, ?_⟩
      · simp only [List.mem_cons] at hp ⊢
        rcases hp with h | h | h | h | h | h | h | h | h | h | h <;> simp [h]
      · rcases List.mem_cons.mp hp with rfl | hp
        · exact hoff (ga, listOf (List.toArray (bv gb)) kg) (.head _)
        · rcases List.mem_cons.mp hp with rfl | hp
          · exact hoff (ra, listOf (List.toArray (bv rb)) kr) (.tail _ (.head _))
          · rcases List.mem_cons.mp hp with rfl | hp
            · exact hoff (fa, listOf (List.toArray (bv fb)) kf) (.tail _ (.tail _ (.head _)))
            · exact hoff p (.tail _ (.tail _ (.tail _ hp)))
      · dsimp only; rw [hfb, List.range_succ, List.map_append]; rfl
      · dsimp only; rw [hrb, List.range_succ, List.map_append, List.flatten_append]; simp
      · dsimp only; rw [hgb, List.range_succ, List.map_append]; rfl
  case done6 =>
    rintro ⟨fb, kf, rb, kr, gb, kg⟩ oc' v' h' tk₈ ⟨hfb, hrb, hgb⟩ F₇ hoc' N₇ hoff
    change Fr g L' _ _ at F₇
    change News g L' _ _ at N₇
    dsimp only at hfb hrb hgb hoff F₇ N₇
    clear F₆ N₆ hr₆
    show wpS _ _ _ _ _ _
    have hlwl : (lowL ns).length ≤ 9 := Nat.le_trans (List.length_filter_le _ _) hz
    have hhil : (highL ns).length ≤ 9 := Nat.le_trans (List.length_filter_le _ _) hz
    have hlvl : lv.length = (lowL ns).length := hlow.length
    refine wpS_tk (s := s) (h' := h') fun tk₉ => ?_
    have hz' := hz
    have hdl : dv.length = ns.length := by rw [hdeck.length, rangeKs_length]
    have hdr : (rangeKs 0 ns.length).length = ns.length := rangeKs_length _ _
    refine wpS_execs_cons (wpS_Assign_Name (wpS_cutS (fun v h' => v = .bool (dealtB ns) ∧ Fr g L' h' (fun y => if y = Str.ofString "fronts" then some (.ref fa) else if y = Str.ofString "rows" then some (.ref ra) else if y = Str.ofString "gaps" then some (.ref ga) else if y = Str.ofString "high" then some (.ref ha) else if y = Str.ofString "low" then some (.ref la) else if y = Str.ofString "deck" then some (.ref dk) else none) ∧ News g L' h' ((L' + 1 + 1, oc') :: (ga, listOf (List.toArray (bv gb)) kg) :: (ra, listOf (List.toArray (bv rb)) kr) :: (fa, listOf (List.toArray (bv fb)) kf) :: (ha, LCg.lst hv) :: (la, LCg.lst lv) :: (dk, listOf (List.toArray dv) dkk) :: (L' + 1, oc1) :: (l, listOf (List.toArray vs) k) :: news)) ?_ ?_))
    · refine wpS_And2 (wpS_Compare1 ?_)
      refine wpS_any ?_
      k_fold
      walk_at "S"
      all_goals (try clear qk ek)
      refine wpS_Call_K (K := MineH.hd.heap_39 w.params) (f := .ref 28) (by k_is) ?_
      k_fold
      walk_at "S"
      all_goals (try clear qk ek)
      refine wpS_any ?_
      k_fold
      walk_at "S"
      all_goals (try clear qk ek)
      rename Fr _ _ _ _ => F₈
      rename News _ _ _ _ => N₈
      rename IntsAre _ (List.take _ _) => hI₈
      rename_i D₈ ws₈ hh8 hC₈ hL₈ lt₈
      rw [Int.toNat_natCast] at hI₈
      have htl : ((rangeKs 0 ns.length).take (lowL ns).length).length ≤ 9 := by rw [List.length_take]; omega
      clear hC₈ hL₈
      refine turned_S B' F₈ X' N₈ T' rfl hd hI₈ htl (fun z hz => octs_range hz' z (List.mem_of_mem_take hz)) fun ad ws k₉ h₉ tk₉ hI₉ F₉ N₉ hlt₉ => ?_
      clear F₈ N₈
      have hwl : ws.length ≤ 9 := by rw [hI₉.length, List.length_reverse]; exact htl
      refine wpS_any ?_
      k_fold
      walk_at "S"
      all_goals (try clear qk ek)
      · rename_i htrue
        refine wpS_Compare1 ?_
        have hdd : dealtB ns = decide (highL ns = (rangeKs 0 ns.length).drop (lowL ns).length) := by
          unfold dealtB; rw [decide_eq_true htrue]; rfl
        rw [hdd]
        clear hdd htrue hI₈ hI₉ htl hwl
        generalize rangeKs 0 ns.length = rk at *
        generalize lowL ns = lo at *
        refine wpS_any ?_
        k_fold
        walk_at "S"
        all_goals (try clear qk ek)
        refine wpS_any ?_
        k_fold
        walk_at "S"
        refine kmk_slice_ints (s := ⟨_, _, _, _, _⟩) F₉ N₉ (News.isList N₉ (.tail _ (.tail _ (.tail _ (.tail _ (.tail _ (.tail _ (.tail _ (.tail _ (.head _)))))))))) (.int _ _) .none hdeck (kmk_from hdeck (by omega)) (List.length_drop ..) ?_ (by with_unfolding_all rfl) (by intro _; with_unfolding_all rfl) (by rw [List.size_toArray, sizeLine_eq]; omega)
        intro D₁₀ ws₁₀ h₁₀ F₁₀ N₁₀ l₁₀ hI₁₀ hC₁₀ hL₁₀
        clear F₉ N₉
        walk_at "S"
        all_goals (try clear qk ek)
        have hw10 : ws₁₀.length ≤ 9 := by rw [hI₁₀.length]; omega
        refine wpS_any ?_
        k_fold
        walk_at "S"
        all_goals (try clear qk ek)
        refine CutEnd.mk ⟨?_, F₁₀, fun p hp => N₁₀ p (.tail _ (.tail _ (.tail _ hp)))⟩
        rw [Int.toNat_natCast]
      · rename_i hfalse
        refine CutEnd.mk ⟨?_, F₉, fun p hp => N₉ p (.tail _ (.tail _ hp))⟩
        unfold dealtB
        rw [decide_eq_false hfalse]; rfl
    · rintro v h₈ tk₁₀ ⟨rfl, F₈, N₈⟩
      clear F₇ N₇
      refine wpAny_storeName_local rfl F₈.ns (fun h₉ hn₉ hs₉ => ?_) rfl
      have F₉ := F₈.set hn₉ hs₉
      have N₉ := N₈.set hs₉
      clear F₈ N₈
      show wpS _ _ _ _ _ _
      refine wpS_tk (s := s) (h' := h₉) fun tk₁₁ => ?_
      refine wpS_execs_cons (wpS_Return ?_)
      refine wpS_any ?_
      k_fold
      walk_at "S"
      all_goals (try clear qk ek)
      refine notin_bools (News.isList N₉ (.tail _ (.tail _ (.tail _ (.head _))))) ?_
      walk_at "S"
      refine notin_bools (News.isList N₉ (.tail _ (.tail _ (.head _)))) ?_
      walk_at "S"
      refine notin_bools (News.isList N₉ (.tail _ (.head _))) ?_
      walk_at "S"
      rename Fr _ _ _ _ => F₁₀
      rename News _ _ _ _ => N₁₀
      rename_i ad10 hh10 lt10
      show LeaveK _ _ _ _ _ _ _
      refine leaveK_ F₁₀ N₁₀ fun Fb Nb => ?_
      have e4 : (#[Value.bool (dealtB ns), Value.bool (fb.all id), Value.bool (rb.all id), Value.bool (gb.all id)] : Array Value) = (bv (fourB ns)).toArray := by rw [hfb, hrb, hgb]; rfl
      rw [e4] at Nb
      refine hret ad10 0 _ _ Fb (fun p hp => Nb p ?_) (allLt_mem (l := (l, listOf (List.toArray vs) k) :: news) lt10.2.2.2.2.2.2.2.2)
      rcases List.mem_cons.mp hp with rfl | hp
      · exact .head _
      · exact .tail _ (.tail _ (.tail _ (.tail _ (.tail _ (.tail _ (.tail _ (.tail _ (.tail _ hp))))))))
end
end Mine
set_option maxRecDepth 100000
open PySem PySem.W PySem.Calls PyProof.Rows
namespace Mine
/-! ## the plain law of 02 -/
theorem not_le_dec (a z : Int) : (!decide (z ≤ a)) = decide (a < z) := by
  by_cases h : z ≤ a
  · rw [decide_eq_true h, decide_eq_false (by omega)]; rfl
  · rw [decide_eq_false h, decide_eq_true (by omega)]; rfl
theorem mem_rk {a z : Int} {n : Nat} : z ∈ rangeKs a n ↔ a ≤ z ∧ z < a + n :=
  ⟨mem_rangeKs, fun h => by
    unfold rangeKs
    exact List.mem_map.mpr ⟨(z - a).toNat, List.mem_range.mpr (by omega), by omega⟩⟩
theorem rk_len (a : Int) (n : Nat) : (rangeKs a n).length = n := rangeKs_length a n
theorem rk_nodup (a : Int) (n : Nat) : (rangeKs a n).Nodup := by
  unfold rangeKs List.Nodup
  rw [List.pairwise_map]
  exact (List.nodup_range (n := n)).imp fun h e => h (by omega)
theorem rk_succ (a : Int) (n : Nat) : rangeKs a (n + 1) = rangeKs a n ++ [a + n] := by
  unfold rangeKs
  rw [List.range_succ, List.map_append]; rfl
theorem rk_app (a : Int) (x : Nat) : ∀ y : Nat, rangeKs a (x + y) = rangeKs a x ++ rangeKs (a + x) y
  | 0 => by simp [rangeKs]
  | y + 1 => by
    rw [← Nat.add_assoc, rk_succ, rk_app a x y, rk_succ, List.append_assoc, show a + ((x + y : Nat) : Int) = a + x + y by omega]
theorem rk_cons (a : Int) (n : Nat) : rangeKs (a - 1) (n + 1) = (a - 1) :: rangeKs a n := by
  have := rk_app (a - 1) 1 n
  rw [Nat.add_comm] at this
  rw [this, show a - 1 + ((1 : Nat) : Int) = a by omega]
  simp [rangeKs]
theorem len_le : ∀ (m : Nat) {l : List Int} {a : Int}, l.Nodup → (∀ z ∈ l, a ≤ z ∧ z < a + m) → l.length ≤ m
  | 0, l, a, _, h => by
    cases l with
    | nil => exact Nat.le_refl _
    | cons z l => have := h z (.head _); omega
  | m + 1, l, a, hn, h => by
    by_cases hm : (a + m) ∈ l
    · have h1 := len_le m (hn.erase (a + m)) (a := a) fun z hz => by
        have := hn.mem_erase_iff.mp hz
        have := h z this.2
        omega
      have h2 := List.length_erase_of_mem hm
      omega
    · have := len_le m hn (a := a) fun z hz => by
        have h1 := h z hz
        have : z ≠ a + m := fun e => hm (e ▸ hz)
        omega
      omega
theorem box : ∀ (m : Nat) {l : List Int} {a : Int}, l.Nodup → (∀ z ∈ l, a ≤ z ∧ z < a + m) → l.length = m → l.Perm (rangeKs a m)
  | 0, l, a, _, _, hl => by
    rw [List.eq_nil_of_length_eq_zero hl]; simp [rangeKs]
  | m + 1, l, a, hn, h, hl => by
    have hm : (a + m) ∈ l := Classical.byContradiction fun hm => by
      have := len_le m hn (a := a) fun z hz => by
        have h1 := h z hz
        have : z ≠ a + m := fun e => hm (e ▸ hz)
        omega
      omega
    have h1 := box m (hn.erase (a + m)) (a := a) (fun z hz => by
        have := hn.mem_erase_iff.mp hz
        have := h z this.2
        omega) (by rw [List.length_erase_of_mem hm]; omega)
    rw [rk_succ]
    exact (List.perm_cons_erase hm).trans ((h1.cons _).trans (List.perm_append_comm (l₁ := [a + (m : Int)])))
theorem no_mult {m : Nat} {q k r : Int} (h : (m : Int) * q = m * k + r) (h0 : 0 < r) (h1 : r < m) : False := by
  have e : r = m * (q - k) := by rw [Int.mul_sub]; omega
  have e2 : r % m = 0 := by rw [e]; exact Int.mul_emod_right _ _
  rw [Int.emod_eq_of_lt (by omega) h1] at e2
  omega
theorem fmod_dvd {m : Nat} {x y : Int} (h : x.fmod m = y.fmod m) : ∃ q : Int, x - y = m * q := by
  rw [Int.fmod_eq_emod_of_nonneg _ (by omega), Int.fmod_eq_emod_of_nonneg _ (by omega), Int.emod_eq_emod_iff_emod_sub_eq_zero] at h
  obtain ⟨q, hq⟩ := Int.dvd_of_emod_eq_zero h
  exact ⟨q, hq⟩
theorem fmod_near {m : Nat} {x y : Int} (hne : x ≠ y) (h1 : x - y < m) (h2 : y - x < m) : x.fmod m ≠ y.fmod m := fun h => by
  rcases Int.lt_or_gt_of_ne hne with hlt | hlt
  · obtain ⟨q, hq⟩ := fmod_dvd h.symm
    exact no_mult (q := q) (k := 0) (r := y - x) (by rw [Int.mul_zero, ← hq]; omega) (by omega) h2
  · obtain ⟨q, hq⟩ := fmod_dvd h
    exact no_mult (q := q) (k := 0) (r := x - y) (by rw [Int.mul_zero, ← hq]; omega) (by omega) h1
theorem nodup_map_of {l : List Int} {f : Int → Int} (hn : l.Nodup) (h : ∀ x ∈ l, ∀ y ∈ l, x ≠ y → f x ≠ f y) : (l.map f).Nodup := by
  unfold List.Nodup
  rw [List.pairwise_map]
  exact List.Pairwise.imp_of_mem (fun hx hy hne => h _ hx _ hy hne) hn
theorem inj_of_nodup {f : Int → Int} : ∀ {l : List Int}, (l.map f).Nodup → ∀ {x y : Int}, x ∈ l → y ∈ l → f x = f y → x = y
  | [], _, _, _, hx, _, _ => nomatch hx
  | a :: l, h, x, y, hx, hy, e => by
    rw [List.map_cons, List.nodup_cons] at h
    rcases List.mem_cons.mp hx with hx' | hx' <;> rcases List.mem_cons.mp hy with hy' | hy'
    · rw [hx', hy']
    · exact absurd (show f a ∈ l.map f by rw [← hx', e]; exact List.mem_map_of_mem hy') h.1
    · exact absurd (show f a ∈ l.map f by rw [← hy', ← e]; exact List.mem_map_of_mem hx') h.1
    · exact inj_of_nodup h.2 hx' hy' e
theorem once_of {l : List Int} (hl : 0 < l.length) (h : (l.map fun z => z.fmod l.length).Nodup) : onceB l = true := by
  unfold onceB
  refine decide_eq_true (box _ h (fun z hz => ?_) (by rw [List.length_map]))
  obtain ⟨x, _, rfl⟩ := List.mem_map.mp hz
  have h0 := Int.fmod_nonneg_of_pos x (b := (l.length : Int)) (by omega)
  have h1 := Int.fmod_lt_of_pos x (b := (l.length : Int)) (by omega)
  omega
theorem of_once {l : List Int} (h : onceB l = true) : (l.map fun z => z.fmod l.length).Nodup :=
  (of_decide_eq_true h).nodup_iff.mpr (rk_nodup _ _)
/-- each front of the pack is a row of neighbours -/
def Good (P : List Int) : Prop := ∀ m, 1 ≤ m → m ≤ P.length → ∃ a, (P.take m).Perm (rangeKs a m)
theorem good_once {l : List Int} {a : Int} {m : Nat} (hm : 1 ≤ m) (h : l.Perm (rangeKs a m)) : onceB l = true := by
  have hl : l.length = m := by rw [h.length_eq, rk_len]
  refine once_of (by omega) ?_
  refine nodup_map_of (h.nodup_iff.mpr (rk_nodup _ _)) fun x hx y hy hne => ?_
  have h1 := mem_rk.mp (h.mem_iff.mp hx)
  have h2 := mem_rk.mp (h.mem_iff.mp hy)
  rw [hl]
  exact fmod_near hne (by omega) (by omega)
section
variable {P : List Int} {n : Nat} (hP : P.Perm (rangeKs 0 n))
include hP
theorem pl : P.length = n := by rw [hP.length_eq, rk_len]
theorem pnd : P.Nodup := hP.nodup_iff.mpr (rk_nodup _ _)
theorem take_nd (m : Nat) : (P.take m).Nodup := (pnd hP).sublist (List.take_sublist _ _)
theorem take_next {m : Nat} (hm : m < n) : ∃ c, P.take (m + 1) = P.take m ++ [c] ∧ c ∉ P.take m := by
  have hml : m < P.length := by rw [pl hP]; exact hm
  refine ⟨P[m], by rw [List.take_add_one, List.getElem?_eq_getElem hml]; rfl, fun hc => ?_⟩
  have := take_nd hP (m + 1)
  rw [List.take_add_one, List.getElem?_eq_getElem hml] at this
  exact (List.nodup_append.mp this).2.2 _ hc _ (.head _) rfl
theorem fronts_good (h : ∀ m, 1 ≤ m → m ≤ n → onceB (P.take m) = true) : Good P := by
  have hl := pl hP
  have key : ∀ j, j < n → ∃ a, (P.take (n - j)).Perm (rangeKs a (n - j)) := by
    intro j
    induction j with
    | zero => intro _; exact ⟨0, by rw [Nat.sub_zero, ← hl, List.take_length, hl]; exact hP⟩
    | succ j ih =>
      intro hj
      obtain ⟨a, ha⟩ := ih (by omega)
      obtain ⟨m, hm⟩ : ∃ m, n - (j + 1) = m := ⟨_, rfl⟩
      have hm1 : n - j = m + 1 := by omega
      rw [hm1] at ha
      rw [hm]
      obtain ⟨c, hc, hcn⟩ := take_next hP (m := m) (by omega)
      rw [hc] at ha
      have htl : (P.take m).length = m := by rw [List.length_take, hl]; omega
      have hin : ∀ z, z ∈ P.take m → a ≤ z ∧ z < a + ((m + 1 : Nat) : Int) ∧ z ≠ c := fun z hz => by
        have := mem_rk.mp (ha.mem_iff.mp (List.mem_append.mpr (.inl hz)))
        exact ⟨this.1, this.2, fun e => hcn (e ▸ hz)⟩
      have hcr := mem_rk.mp (ha.mem_iff.mp (List.mem_append.mpr (.inr (.head _))))
      have hend : c = a ∨ c = a + m := Classical.byContradiction fun hno => by
        have ha1 : a ∈ P.take m := by
          rcases List.mem_append.mp (ha.mem_iff.mpr (mem_rk.mpr ⟨Int.le_refl _, by omega⟩)) with h | h
          · exact h
          · exact absurd (List.mem_singleton.mp h).symm fun e => hno (.inl e)
        have ha2 : a + m ∈ P.take m := by
          rcases List.mem_append.mp (ha.mem_iff.mpr ((mem_rk (z := a + m)).mpr ⟨by omega, by omega⟩)) with h | h
          · exact h
          · exact absurd (List.mem_singleton.mp h).symm fun e => hno (.inr e)
        have hnd := of_once (h m (by omega) (by omega))
        rw [htl] at hnd
        have := inj_of_nodup hnd ha1 ha2 (by
          show a.fmod m = (a + m).fmod m
          rw [Int.fmod_eq_emod_of_nonneg _ (by omega), Int.fmod_eq_emod_of_nonneg _ (by omega), Int.add_emod_right])
        omega
      rcases hend with rfl | rfl
      · exact ⟨c + 1, box m (take_nd hP m) (fun z hz => by have := hin z hz; omega) htl⟩
      · exact ⟨a, box m (take_nd hP m) (fun z hz => by have := hin z hz; omega) htl⟩
  intro m h1 h2
  rw [hl] at h2
  have := key (n - m) (by omega)
  rwa [show n - (n - m) = m by omega] at this
theorem gap_iff (hn : n ≤ 256) {m : Nat} (h1 : 1 ≤ m) (h2 : m ≤ n) : gapB P m = true ↔ ∃ a, (P.take m).Perm (rangeKs a m) := by
  have hl := pl hP
  have htl : (P.take m).length = m := by rw [List.length_take, hl]; omega
  have hb : ∀ z ∈ P.take m, 0 ≤ z ∧ z < 256 := fun z hz => by
    have := mem_rk.mp (hP.mem_iff.mp (List.mem_of_mem_take hz)); omega
  unfold gapB
  rw [beq_iff_eq]
  constructor
  · intro h
    refine ⟨minI (P.take m), box m (take_nd hP m) (fun z hz => ?_) htl⟩
    have := minI_le hz
    have := maxI_ge hz
    omega
  · rintro ⟨a, ha⟩
    have e1 := maxI_eq (l := P.take m) (M := a + m - 1) (ha.mem_iff.mpr (mem_rk.mpr ⟨by omega, by omega⟩)) (fun z hz => by have := mem_rk.mp (ha.mem_iff.mp hz); omega) fun z hz => (hb z hz).1
    have e2 := minI_eq (l := P.take m) (M := a) (ha.mem_iff.mpr (mem_rk.mpr ⟨by omega, by omega⟩)) (fun z hz => by have := mem_rk.mp (ha.mem_iff.mp hz); omega) fun z hz => (hb z hz).2
    rw [← e1, ← e2]; omega
theorem good_rows (hg : Good P) {m k : Nat} (hm : 1 ≤ m) (hk : (k + 1) * m ≤ n) : onceB ((P.drop (k * m)).take m) = true := by
  have hl := pl hP
  rw [Nat.succ_mul] at hk
  have hbl : ((P.drop (k * m)).take m).length = m := by rw [List.length_take, List.length_drop, hl]; omega
  have hsplit : P.take (k * m + m) = P.take (k * m) ++ (P.drop (k * m)).take m := by rw [List.take_add]
  obtain ⟨a', ha'⟩ := hg (k * m + m) (by omega) (by omega)
  have hnd := take_nd hP (k * m + m)
  rw [hsplit] at ha' hnd
  obtain ⟨_, hnd2, hdis⟩ := List.nodup_append.mp hnd
  rcases Nat.eq_zero_or_pos (k * m) with h0 | h0
  · rw [h0, List.take_zero, List.nil_append, Nat.zero_add] at ha'
    rw [h0]
    exact good_once hm ha'
  obtain ⟨a, ha⟩ := hg (k * m) h0 (by omega)
  have hb : ∀ z ∈ (P.drop (k * m)).take m, a' ≤ z ∧ z < a' + ((k * m + m : Nat) : Int) ∧ (z < a ∨ a + ((k * m : Nat) : Int) ≤ z) := fun z hz => by
    have h1 := mem_rk.mp (ha'.mem_iff.mp (List.mem_append.mpr (.inr hz)))
    refine ⟨h1.1, h1.2, Classical.byContradiction fun hno => ?_⟩
    exact hdis z (ha.mem_iff.mpr (mem_rk.mpr ⟨by omega, by omega⟩)) z hz rfl
  have e1 := mem_rk.mp (ha'.mem_iff.mp (List.mem_append.mpr (.inl (ha.mem_iff.mpr ((mem_rk (z := a)).mpr ⟨by omega, by omega⟩)))))
  have e2 := mem_rk.mp (ha'.mem_iff.mp (List.mem_append.mpr (.inl (ha.mem_iff.mpr ((mem_rk (z := a + ((k * m : Nat) : Int) - 1)).mpr ⟨by omega, by omega⟩)))))
  refine once_of (by omega) ?_
  rw [hbl]
  have ekm : ((k * m : Nat) : Int) = m * (k : Int) := by rw [Int.natCast_mul, Int.mul_comm]
  refine nodup_map_of hnd2 fun x hx y hy hne => ?_
  have bx := hb x hx
  have by' := hb y hy
  by_cases hs : (x < a ∧ y < a) ∨ (¬ x < a ∧ ¬ y < a)
  · exact fmod_near hne (by omega) (by omega)
  · intro h
    by_cases hxa : x < a
    · obtain ⟨q, hq⟩ := fmod_dvd h.symm
      exact no_mult (q := q) (k := (k : Int)) (r := y - x - ((k * m : Nat) : Int)) (by rw [← ekm, ← hq]; omega) (by omega) (by omega)
    · obtain ⟨q, hq⟩ := fmod_dvd h
      exact no_mult (q := q) (k := (k : Int)) (r := x - y - ((k * m : Nat) : Int)) (by rw [← ekm, ← hq]; omega) (by omega) (by omega)
theorem low_le : (lowL P).length ≤ n := by rw [← pl hP]; exact List.length_filter_le _ _
theorem dealt_good (h : dealtB P = true) : Good P := by
  have hl := pl hP
  have hX := low_le hP
  unfold dealtB at h
  rw [Bool.and_eq_true, decide_eq_true_eq, decide_eq_true_eq, hl] at h
  obtain ⟨h1, h2⟩ := h
  obtain ⟨X, hXe⟩ : ∃ X, (lowL P).length = X := ⟨_, rfl⟩
  rw [hXe] at h1 h2 hX
  have hr : rangeKs 0 n = rangeKs 0 X ++ rangeKs (X : Int) (n - X) := by
    have := rk_app 0 X (n - X)
    rwa [show X + (n - X) = n by omega, Int.zero_add] at this
  rw [hr, List.take_left' (rk_len _ _)] at h1
  rw [hr, List.drop_left' (rk_len _ _)] at h2
  intro m _ _
  have p1 : (P.take m).filter (fun z => decide (z ≤ P.getD 0 0)) <+: lowL P := (List.take_prefix m P).filter _
  have p2 : (P.take m).filter (fun z => decide (P.getD 0 0 < z)) <+: highL P := (List.take_prefix m P).filter _
  rw [h1] at p1
  rw [h2] at p2
  have q1 := List.prefix_iff_eq_take.mp p1
  have q2 := List.prefix_iff_eq_take.mp p2
  have l1 := p1.length_le
  have l2 := p2.length_le
  rw [List.length_reverse, rk_len] at l1
  rw [rk_len] at l2
  have hsum : ((P.take m).filter fun z => decide (z ≤ P.getD 0 0)).length + ((P.take m).filter fun z => decide (P.getD 0 0 < z)).length = (P.take m).length := by
    have := (List.filter_append_perm (fun z => decide (z ≤ P.getD 0 0)) (P.take m)).length_eq
    rw [List.length_append] at this
    rw [← this]
    rw [show (fun x => !decide (x ≤ P.getD 0 0)) = fun z => decide (P.getD 0 0 < z) from funext fun z => not_le_dec _ _]
  have hperm : (P.take m).Perm (((P.take m).filter fun z => decide (z ≤ P.getD 0 0)) ++ ((P.take m).filter fun z => decide (P.getD 0 0 < z))) := by
    have := (List.filter_append_perm (fun z => decide (z ≤ P.getD 0 0)) (P.take m)).symm
    have e : (fun x => !decide (x ≤ P.getD 0 0)) = fun z => decide (P.getD 0 0 < z) := funext fun z => not_le_dec _ _
    rwa [e] at this
  obtain ⟨x, hx⟩ : ∃ x, ((P.take m).filter fun z => decide (z ≤ P.getD 0 0)).length = x := ⟨_, rfl⟩
  obtain ⟨y, hy⟩ : ∃ y, ((P.take m).filter fun z => decide (P.getD 0 0 < z)).length = y := ⟨_, rfl⟩
  rw [hx] at q1 l1 hsum
  rw [hy] at q2 l2 hsum
  rw [q1, q2] at hperm
  have hr1 : rangeKs 0 X = rangeKs 0 (X - x) ++ rangeKs (((X - x : Nat) : Int)) x := by
    have := rk_app 0 (X - x) x
    rwa [show X - x + x = X by omega, Int.zero_add] at this
  have hr2 : rangeKs (X : Int) (n - X) = rangeKs (X : Int) y ++ rangeKs ((X : Int) + y) (n - X - y) := by
    have := rk_app (X : Int) y (n - X - y)
    rwa [show y + (n - X - y) = n - X by omega] at this
  rw [hr1, List.reverse_append, List.take_left' (by rw [List.length_reverse, rk_len]), hr2, List.take_left' (rk_len _ _)] at hperm
  refine ⟨((X - x : Nat) : Int), ?_⟩
  have hm : (P.take m).length = m := by rw [List.length_take]; omega
  have hr3 := rk_app ((X - x : Nat) : Int) x y
  rw [show ((X - x : Nat) : Int) + x = X by omega, show x + y = m by omega] at hr3
  rw [hr3]
  exact hperm.trans ((List.reverse_perm _).append_right _)
theorem good_dealt (hn : 1 ≤ n) (hg : Good P) : dealtB P = true := by
  have hl := pl hP
  obtain ⟨p0, hp0⟩ : ∃ p0, P.getD 0 0 = p0 := ⟨_, rfl⟩
  have key : ∀ m, 1 ≤ m → m ≤ n → ∃ x y : Nat, x + y = m ∧ 1 ≤ x ∧ (P.take m).filter (fun z => decide (z ≤ p0)) = (rangeKs (p0 - x + 1) x).reverse ∧ (P.take m).filter (fun z => decide (p0 < z)) = rangeKs (p0 + 1) y ∧ (P.take m).Perm (rangeKs (p0 - x + 1) m) := by
    intro m
    induction m with
    | zero => intro h _; omega
    | succ m ih =>
      intro _ hm
      rcases Nat.eq_zero_or_pos m with rfl | hm0
      · have e : P.take 1 = [p0] := by
          have h0 : 0 < P.length := by omega
          rw [show (1 : Nat) = 0 + 1 from rfl, List.take_add_one, List.getElem?_eq_getElem h0, List.take_zero, ← hp0, List.getD_eq_getElem?_getD, List.getElem?_eq_getElem h0]; rfl
        refine ⟨1, 0, rfl, Nat.le_refl _, ?_, ?_, ?_⟩
        · rw [e]; simp [rangeKs]
        · rw [e]; simp [rangeKs]
        · rw [e, show p0 - ((1 : Nat) : Int) + 1 = p0 by omega]; simp [rangeKs]
      · obtain ⟨x, y, hxy, hx1, f1, f2, hp⟩ := ih hm0 (by omega)
        obtain ⟨c, hc, hcn⟩ := take_next hP (m := m) (by omega)
        obtain ⟨a', ha'⟩ := hg (m + 1) (by omega) (by omega)
        rw [hc] at ha'
        have hcr := mem_rk.mp (ha'.mem_iff.mp (List.mem_append.mpr (.inr (.head _))))
        have e1 := mem_rk.mp (ha'.mem_iff.mp (List.mem_append.mpr (.inl (hp.mem_iff.mpr ((mem_rk (z := p0 - x + 1)).mpr ⟨by omega, by omega⟩)))))
        have e2 := mem_rk.mp (ha'.mem_iff.mp (List.mem_append.mpr (.inl (hp.mem_iff.mpr ((mem_rk (z := p0 - x + 1 + m - 1)).mpr ⟨by omega, by omega⟩)))))
        have hco : ¬ (p0 - x + 1 ≤ c ∧ c < p0 - x + 1 + m) := fun h => hcn (hp.mem_iff.mpr (mem_rk.mpr h))
        rw [hc, List.filter_append, List.filter_append, f1, f2]
        by_cases hlt : c < p0 - x + 1
        · obtain rfl : c = p0 - x := by omega
          obtain rfl : a' = p0 - x := by omega
          refine ⟨x + 1, y, by omega, by omega, ?_, ?_, ?_⟩
          · have := rk_cons (p0 - x + 1) x
            rw [show p0 - (x : Int) + 1 - 1 = p0 - x by omega] at this
            rw [show p0 - ((x + 1 : Nat) : Int) + 1 = p0 - x by omega, this, List.reverse_cons, List.filter_cons_of_pos (by simp; omega), List.filter_nil]
          · rw [List.filter_cons_of_neg (by simp; omega), List.filter_nil, List.append_nil]
          · rw [show p0 - ((x + 1 : Nat) : Int) + 1 = p0 - x by omega]; exact ha'
        · obtain rfl : c = p0 + 1 + y := by omega
          obtain rfl : a' = p0 - x + 1 := by omega
          refine ⟨x, y + 1, by omega, hx1, ?_, ?_, ha'⟩
          · rw [List.filter_cons_of_neg (by simp; omega), List.filter_nil, List.append_nil]
          · rw [List.filter_cons_of_pos (by simp; omega), List.filter_nil, rk_succ]
  obtain ⟨x, y, hxy, hx1, f1, f2, hp⟩ := key n hn (Nat.le_refl _)
  rw [← hl, List.take_length] at f1 f2 hp
  rw [hl] at hp
  have hpq := hp.symm.trans hP
  have e1 := mem_rk.mp (hpq.mem_iff.mp ((mem_rk (z := p0 - x + 1)).mpr ⟨by omega, by omega⟩))
  have e2 := mem_rk.mp (hpq.mem_iff.mpr ((mem_rk (z := 0)).mpr ⟨by omega, by omega⟩))
  have e0 : p0 - x + 1 = 0 := by omega
  rw [e0] at f1
  rw [show p0 + 1 = (x : Int) by omega] at f2
  have hlow : lowL P = (rangeKs 0 x).reverse := by unfold lowL; rw [hp0]; exact f1
  have hhigh : highL P = rangeKs (x : Int) y := by unfold highL; rw [hp0]; exact f2
  have hr := rk_app 0 x y
  rw [hxy, Int.zero_add] at hr
  unfold dealtB
  rw [hlow, hhigh, List.length_reverse, rk_len, hl, hr, List.take_left' (rk_len _ _), List.drop_left' (rk_len _ _)]
  simp
omit hP in
theorem all_iff {α : Type} {f : α → Bool} {l : List α} : (l.map f).all id = true ↔ ∀ x ∈ l, f x = true := by
  rw [List.all_eq_true]
  exact ⟨fun h x hx => h _ (List.mem_map_of_mem hx), fun h b hb => by obtain ⟨x, hx, rfl⟩ := List.mem_map.mp hb; exact h x hx⟩
theorem fronts_iff : ((List.range P.length).map fun j => onceB (P.take (j + 1))).all id = true ↔ Good P := by
  have hl := pl hP
  rw [all_iff]
  constructor
  · intro h
    refine fronts_good hP fun m h1 h2 => ?_
    have := h (m - 1) (List.mem_range.mpr (by omega))
    rwa [show m - 1 + 1 = m by omega] at this
  · intro h j hj
    rw [List.mem_range] at hj
    obtain ⟨a, ha⟩ := h (j + 1) (by omega) (by omega)
    exact good_once (by omega) ha
theorem gaps_iff (hn : n ≤ 256) : ((List.range P.length).map fun j => gapB P (j + 1)).all id = true ↔ Good P := by
  have hl := pl hP
  rw [all_iff]
  constructor
  · intro h m h1 h2
    have := h (m - 1) (List.mem_range.mpr (by omega))
    rw [show m - 1 + 1 = m by omega] at this
    exact (gap_iff hP hn h1 (by omega)).mp this
  · intro h j hj
    rw [List.mem_range] at hj
    exact (gap_iff hP hn (by omega) (by omega)).mpr (h (j + 1) (by omega) (by omega))
theorem rows_iff : (((List.range P.length).map fun j => rowL P (j + 1)).flatten).all id = true ↔ Good P := by
  have hl := pl hP
  rw [List.all_eq_true]
  constructor
  · intro h
    refine fronts_good hP fun m h1 h2 => ?_
    have := h (onceB ((P.drop (0 * m)).take m)) (List.mem_flatten.mpr ⟨rowL P m, List.mem_map.mpr ⟨m - 1, List.mem_range.mpr (by omega), by rw [show m - 1 + 1 = m by omega]⟩, List.mem_map.mpr ⟨0, List.mem_range.mpr (Nat.div_pos (by omega) (by omega)), rfl⟩⟩)
    rw [Nat.zero_mul, List.drop_zero] at this
    exact this
  · intro h b hb
    obtain ⟨r, hr, hb⟩ := List.mem_flatten.mp hb
    obtain ⟨j, hj, rfl⟩ := List.mem_map.mp hr
    obtain ⟨k, hk, rfl⟩ := List.mem_map.mp hb
    rw [List.mem_range] at hj hk
    refine good_rows hP h (by omega) ?_
    have h1 : k + 1 ≤ P.length / (j + 1) := hk
    have h2 := Nat.mul_le_mul_right (j + 1) h1
    have h3 := Nat.div_mul_le_self P.length (j + 1)
    omega
theorem dealt_iff (hn : 1 ≤ n) : dealtB P = true ↔ Good P := ⟨dealt_good hP, good_dealt hP hn⟩
theorem four_val (hn : 1 ≤ n) (hn9 : n ≤ 256) (b : Bool) (hb : b = true ↔ Good P) : fourB P = [b, b, b, b] := by
  have e : ∀ {c : Bool}, (c = true ↔ Good P) → c = b := fun {c} hc => by
    cases c <;> cases b <;> simp_all
  unfold fourB
  rw [e (dealt_iff hP hn), e (fronts_iff hP), e (rows_iff hP), e (gaps_iff hP hn9)]
end
open Classical in
theorem four_same {ns : List Int} {n : Nat} (h : ns.Perm (rangeKs 0 n)) (hn : 1 ≤ n) (hn9 : n ≤ 256) : ∃ b, fourB ns = [b, b, b, b] :=
  ⟨decide (Good ns), four_val h hn hn9 _ (by simp)⟩
theorem exch_perm {ns : List Int} {x y : Nat} (hx : x < ns.length) (hy : y < ns.length) : ((ns.set x (ns.getD y 0)).set y (ns.getD x 0)).Perm ns := by
  have := List.set_set_perm hx hy
  rw [List.getD_eq_getElem?_getD, List.getElem?_eq_getElem hy, List.getD_eq_getElem?_getD, List.getElem?_eq_getElem hx]
  exact this
theorem riff_inv : ∀ (nums : List Int) (h r : Nat) (e : Int), nums.length = h + r → ∀ m, m ≤ nums.length →
    ∃ x y : Nat, x + y = m ∧ x ≤ h ∧ y ≤ r ∧ ((riffL (rangeKs 0 h).reverse (rangeKs e r) nums).take m).Perm (rangeKs ((h - x : Nat) : Int) x ++ rangeKs e y) := by
  intro nums
  induction nums with
  | nil =>
    intro h r e hl m hm
    have : m = 0 := by simpa using hm
    subst this
    exact ⟨0, 0, rfl, Nat.zero_le _, Nat.zero_le _, by simp [rangeKs]⟩
  | cons z zs ih =>
    intro h r e hl m hm
    rw [List.length_cons] at hl hm
    cases m with
    | zero => exact ⟨0, 0, rfl, Nat.zero_le _, Nat.zero_le _, by simp [rangeKs]⟩
    | succ m =>
      rw [riffL]
      split
      · rename_i hc
        cases h with
        | zero => exact absurd (by simp [rangeKs]) hc.1
        | succ h =>
          have e1 : (rangeKs 0 (h + 1)).reverse = (h : Int) :: (rangeKs 0 h).reverse := by rw [rk_succ, List.reverse_append]; simp
          rw [e1, List.drop_one, List.tail_cons, List.getD_cons_zero, List.take_succ_cons]
          obtain ⟨x, y, hxy, hx, hy, hp⟩ := ih h r e (by omega) m (by omega)
          refine ⟨x + 1, y, by omega, by omega, hy, ?_⟩
          have e2 := rk_succ ((h - x : Nat) : Int) x
          rw [show ((h - x : Nat) : Int) + x = h by omega] at e2
          rw [show h + 1 - (x + 1) = h - x by omega, e2, List.append_assoc]
          refine (hp.cons _).trans ?_
          exact List.perm_middle.symm
      · rename_i hc
        cases r with
        | zero =>
          exfalso
          apply hc
          refine ⟨fun e => ?_, .inl (by simp [rangeKs])⟩
          have := congrArg List.length e
          rw [List.length_reverse, rk_len] at this
          simp at this; omega
        | succ r =>
          have e1 : rangeKs e (r + 1) = e :: rangeKs (e + 1) r := by
            have := rk_cons (e + 1) r
            rwa [show e + 1 - 1 = e by omega] at this
          rw [e1, List.drop_one, List.tail_cons, List.getD_cons_zero, List.take_succ_cons]
          obtain ⟨x, y, hxy, hx, hy, hp⟩ := ih h r (e + 1) (by omega) m (by omega)
          refine ⟨x, y + 1, by omega, hx, by omega, ?_⟩
          have e2 : rangeKs e (y + 1) = e :: rangeKs (e + 1) y := by
            have := rk_cons (e + 1) y
            rwa [show e + 1 - 1 = e by omega] at this
          rw [e2]
          refine (hp.cons _).trans ?_
          exact List.perm_middle.symm
theorem riff_len : ∀ (hs rs nums : List Int), (riffL hs rs nums).length = nums.length
  | _, _, [] => by simp [riffL]
  | hs, rs, z :: zs => by
    rw [riffL]
    split
    · rw [List.length_cons, riff_len, List.length_cons]
    · rw [List.length_cons, riff_len, List.length_cons]
theorem riff_facts {n d : Nat} {nums : List Int} (hd : d ≤ n) (hl : nums.length = n) (hn : 1 ≤ n) (hn9 : n ≤ 256) :
    (riffL ((rangeKs 0 n).take d).reverse ((rangeKs 0 n).drop d) nums).Perm (rangeKs 0 n) ∧ fourB (riffL ((rangeKs 0 n).take d).reverse ((rangeKs 0 n).drop d) nums) = [true, true, true, true] := by
  have hr : rangeKs 0 n = rangeKs 0 d ++ rangeKs (d : Int) (n - d) := by
    have := rk_app 0 d (n - d)
    rwa [show d + (n - d) = n by omega, Int.zero_add] at this
  have e1 : (rangeKs 0 n).take d = rangeKs 0 d := by rw [hr, List.take_left' (rk_len _ _)]
  have e2 : (rangeKs 0 n).drop d = rangeKs (d : Int) (n - d) := by rw [hr, List.drop_left' (rk_len _ _)]
  rw [e1, e2]
  have hi := riff_inv nums d (n - d) (d : Int) (by omega)
  have hlen := riff_len (rangeKs 0 d).reverse (rangeKs (d : Int) (n - d)) nums
  generalize riffL (rangeKs 0 d).reverse (rangeKs (d : Int) (n - d)) nums = P at *
  have hgood : Good P := fun m h1 h2 => by
    obtain ⟨x, y, hxy, hx, hy, hp⟩ := hi m (by omega)
    refine ⟨((d - x : Nat) : Int), ?_⟩
    have hr3 := rk_app ((d - x : Nat) : Int) x y
    rw [show ((d - x : Nat) : Int) + x = d by omega, hxy] at hr3
    rw [hr3]; exact hp
  have hperm : P.Perm (rangeKs 0 n) := by
    obtain ⟨x, y, hxy, hx, hy, hp⟩ := hi n (by omega)
    rw [← hl, ← hlen, List.take_length] at hp
    rw [hr]
    have hx' : x = d := by omega
    have hy' : y = n - d := by omega
    subst hx' hy'
    rwa [Nat.sub_self] at hp
  exact ⟨hperm, four_val hperm hn hn9 true (by simp [hgood])⟩
end Mine
set_option maxRecDepth 100000
set_option Elab.async false
open PySem PySem.W PySem.Calls PyProof.Rows
namespace Mine
local macro_rules | `(tactic| walk_at "S") => `(tactic| repeat' (first | (k_unfold; (try dsimp only)) | walk1 | (dsimp only; walk1)))
local macro_rules | `(tactic| walk_at "mp") => `(tactic| (intro z; (try intro hz); (try dsimp only); (repeat' split) <;> first | rfl | contradiction | (exfalso; subst_vars; (rename (_ : Str) = _ => hq9); exact absurd hq9 (by decide)) | (subst_vars; rfl) | (simp_all; done)))
local macro_rules | `(tactic| walk_at "subscriptTail") => `(tactic| (k_here; (with_reducible show wpAny _ _ (subscriptTail _ _ (Value.bytes (List.toArray _) _) (Value.int _ _)) _ _ _); refine bytes_item (by omega) (by omega) (by omega) ?_))
local macro_rules | `(tactic| walk_at "subscriptTail") => `(tactic| (k_here; (with_reducible show wpAny _ _ (subscriptTail _ (Expr.Slice _ _ none _) (Value.bytes (List.toArray _) _) (Value.ref _)) _ _ _); (with_reducible rename Fr _ _ _ _ => F'); (with_reducible rename News _ _ _ _ => N'); (refine bytes_cut (s := ⟨_, _, _, _, _⟩) F' N' (by constructor) (by constructor) (by omega) ?_); intro _ _ _ _ _; (try k_sweep)))
local macro_rules | `(tactic| walk_at "binaryOp Add bytes bytes") => `(tactic| (k_here; (with_reducible show wpAny _ _ (binaryOp Operator.Add (Value.bytes (List.toArray _) _) (Value.bytes (List.toArray _) _)) _ _ _); refine bytes_add_K (by (simp only [List.size_toArray, List.length_reverse, List.length_take, List.length_append, List.length_cons, List.length_nil]; omega)) rfl ?_; intro _ _))
local macro_rules | `(tactic| walk_at "subscriptTail List cons Slice ref ref") => `(tactic| (k_here; k_dflt (refine kba_turn (value' := PySem.Expr.Name (PySem.Str.ofString "_") ⟨0, 0, 0, 0⟩) (fun _ => rfl) ?_); k_dflt (refine' kmk_slice_ints ?F ?N ?l ?p ?q ?i ?m ?c ?_ ?s ?t ?z; (case F => k_asm); (case N => k_asm); (case l => kmk_list); (case p => kmk_part); (case q => kmk_part); (case i => l_ints); (case m => exact kmk_from (by l_ints) (by kmk_sign)); (case c => exact List.length_drop ..); (case s => with_unfolding_all rfl); (case t => kmk_pure); (case z => kmk_size)); intro D' ws' h' F' N' l1 hI' hC' hL'; (try k_lt l1); (try k_sweep)))
local macro_rules | `(tactic| walk_at "binaryOp Add ref ref") => `(tactic| (k_here; (with_reducible show wpAny _ _ (binaryOp _ (Value.ref _) (Value.ref _)) _ _ _); k_dflt (refine' kmk_add_ints ?F ?N ?a ?b ?i ?j ?_ ?z; (case F => k_asm); (case N => k_asm); (case a => kmk_list); (case b => kmk_list); (case i => l_ints); (case j => l_ints); (case z => kmk_sum)); intro D' ws' h' F' N' l1 hI'; (try k_lt l1); (try k_sweep)))
local macro_rules | `(tactic| k_all) => `(tactic| assumption)
local macro_rules | `(tactic| k_ne) => `(tactic| first | assumption | exact Ne.symm (by assumption))
local macro_rules | `(tactic| walk_at "subscriptTail Name Slice ref ref") => `(tactic| (k_here; (with_reducible show wpAny _ _ (subscriptTail _ (PySem.Expr.Slice (some _) none none _) (Value.ref _) (Value.ref _)) _ _ _); refine halt ?_))
theorem eq_bools {prog : Program} {w : World} {A : Around} {E : Value → Shared → Prop} {s : Shared} {l b : Addr} {bs : List Bool} {Q : Value → Shared → Prop} (hl : s.heap.IsList l (bv bs).toArray) (hb : s.heap.IsList b (bv bs).toArray) (hu : A.units < cLine) (h : Q (.bool true) s) :
    wpAny (model prog w) A (compareOp .Eq (.ref l) (.ref b)) Q E s := by
  refine cmp_ofEq (SeqAt.RcAt.lists (e := fun _ => true) hl hb rfl hu (fun j h1 h2 => ?_) prog w E Q ?_)
  · have e : (bv bs).toArray[j] = .bool (bs[j]'(by simpa [bv] using h1)) := by simp [bv]
    rw [e]
    intro prog w E Q h
    refine eqGives_bool _ _ prog w _ E s Q ?_
    rw [beq_self_eq_true]; exact h
  · have : ((List.range (bv bs).toArray.size).all fun _ => true) = true := by simp
    rw [this]; exact h
section
variable {prog : Program} {w : World} {p : Program} {loose : List Str} {mean : ExcName → Option Value} {mg mb : Str → Option Value} {s : Shared} {R : Result → Shared → Prop}
set_option maxHeartbeats 2000000 in
theorem law_S {l : Addr} {vs : List Value} {ns : List Int} (X : (MineH.hd.heap_39 w.params).In s.heap) (T : Top p loose mean mg mb s.heap) (hl : s.heap.IsList l vs.toArray) (hi : IntsAre vs ns) (hz : ns.length ≤ 63)
    (hret : ∀ h' tk' L m, Fr s.heap L h' m → R (.ok (.ret (.bool true))) { s with heap := h', toks := tk' }) :
    codeS (model prog w) callerA (.call (.ref 59) ⟨[.ref l], []⟩) R s := by
  w_top off
  have hfill : PySem.Challenge.rw_ny0470_02 = PySem.Challenge.rw_ny0470_02 ∧ MineH.hd.heap_39 = MineH.hd.heap_39 := by k_fill; exact ⟨rfl, rfl⟩
  clear hfill
  have B := below_caller s.heap
  k_dflt (refine' code_topS (binds := [(Str.ofString "script", .ref l)]) X T ?k6 ?k7 ?k8 ?k9 ?kB ?_ ?c2 ?c3 ?c4 ?c5; (case k6 => k_is); (case k7 => k_is); (case k8 => decide); (case k9 => exact BindsTo.of_eq rfl); (case kB => exact locs rfl); (case c2 => exact rfl); (case c3 => exact rfl); (case c4 => exact rfl); (case c5 => decide))
  intro L' h₁ hL' F'
  have N' : News s.heap L' h₁ [] := News.nil
  refine wpS_execs_cons (wpS_any ?_)
  k_fold
  walk_at "S"
  all_goals (try clear qk ek)
  refine wpS_execs_cons (wpS_any ?_)
  k_fold
  walk_at "S"
  all_goals (try clear qk ek)
  refine wpS_execs_cons (wpS_any ?_)
  k_fold
  walk_at "S"
  all_goals (try clear qk ek)
  rename Fr _ _ _ _ => F₂a
  rename News _ _ _ _ => N₂
  rename IntsAre _ (_ ++ _) => hI
  rename_i D2 ws2 hh9 hI1 hC1 hL1 l13 la hh8 l12 D1 ws1 hh7 hI0 hC0 hL0 l11 D ws hh6 l10 hh5 hh4 tk' t' hh3 hh2
  have hlenD : (List.take 9 ns ++ List.drop ((ns.length : Nat) : Int).toNat [3, 8, 1, 2, 5, 4, 7, 0, 3]).length = 9 := by
    rw [List.length_append, List.length_take, List.length_drop]; simp only [List.length_cons, List.length_nil]; omega
  have N₃ : News s.heap L' hh2 [(D, listOf ws.toArray 0)] := fun p hp => N₂ p (by
    rw [List.mem_singleton.mp hp]; exact .head _)
  clear N₂ hI1 hC1 hL1 l13 l12 hI0 hC0 hL0 l11 l10
  generalize hnums : List.take 9 ns ++ List.drop ((ns.length : Nat) : Int).toNat [3, 8, 1, 2, 5, 4, 7, 0, 3] = nums at *
  obtain ⟨ts, tt, F₂b⟩ : ∃ ts tt, Fr s.heap L' hh2 (fun y => if y = Str.ofString "size" then some (.int (4 + nums.sum.fmod 6) ts) else if y = Str.ofString "total" then some (.int nums.sum tt) else if y = Str.ofString "numbers" then some (.ref D) else if y = Str.ofString "script" then some (.ref l) else none) := ⟨_, _, fr_eqv F₂a fun y => by simp only [List.reverse_cons, List.reverse_nil, List.nil_append, look1]; rfl⟩
  clear F₂a hnums
  obtain ⟨n, hn4, hn9, hn⟩ : ∃ n : Nat, 4 ≤ n ∧ n ≤ 9 ∧ 4 + nums.sum.fmod 6 = (n : Int) := by
    have h0 := Int.fmod_nonneg_of_pos nums.sum (b := 6) (by decide)
    have h1 := Int.fmod_lt_of_pos nums.sum (b := 6) (by decide)
    exact ⟨(4 + nums.sum.fmod 6).toNat, by omega, by omega, by omega⟩
  rw [hn] at F₂b
  clear hn
  generalize nums.sum = total at *
  have hws : ws.length = 9 := by rw [hI.length]; exact hlenD
  refine wpS_tk (s := s) (h' := hh2) fun tk₂ => ?_
  have hn0 : ((n : Nat) : Int) + 1 ≠ 0 := by omega
  refine wpS_execs_cons (wpS_any ?_)
  k_fold
  walk_at "S"
  all_goals (try clear qk ek)
  rename Fr _ _ _ _ => F₃a
  rename News _ _ _ _ => N₄
  rename_i hh3
  obtain ⟨d, hd9, hd⟩ : ∃ d : Nat, d ≤ n ∧ (total.fdiv 6).fmod ((n : Int) + 1) = (d : Int) := by
    have h0 := Int.fmod_nonneg_of_pos (total.fdiv 6) (b := (n : Int) + 1) (by omega)
    have h1 := Int.fmod_lt_of_pos (total.fdiv 6) (b := (n : Int) + 1) (by omega)
    exact ⟨((total.fdiv 6).fmod ((n : Int) + 1)).toNat, by omega, by omega⟩
  rw [hd] at F₃a
  obtain ⟨td, F₃⟩ : ∃ td, Fr s.heap L' hh3 (fun y => if y = Str.ofString "dealt" then some (.int (d : Int) td) else if y = Str.ofString "size" then some (.int (n : Int) ts) else if y = Str.ofString "total" then some (.int total tt) else if y = Str.ofString "numbers" then some (.ref D) else if y = Str.ofString "script" then some (.ref l) else none) := ⟨_, F₃a⟩
  clear F₃a
  refine wpS_tk (s := s) (h' := hh3) fun tk₃ => ?_
  refine wpS_execs_cons (wpS_any ?_)
  k_fold
  walk_at "S"
  all_goals (try clear qk ek)
  rename Fr _ _ _ _ => F₅
  rename News _ _ _ _ => N₅
  rename IntsAre _ (rangeKs _ _) => hdeck
  rename_i rt1 rt2 rt3 rgx rga dk dv dkk hh4 hh4b ldk hh5
  rw [show (((n : Nat) : Int) - 0).toNat = n by omega] at hdeck
  have hdl : dv.length = n := by rw [hdeck.length, rangeKs_length]
  have hoct := octs_range hn9
  have hrl : (rangeKs 0 n).length = n := rangeKs_length _ _
  clear rgx rga
  refine wpS_tk (s := s) (h' := hh5) fun tk₅ => ?_
  refine wpS_execs_cons (wpS_Assign_Name (wpS_Call_K (K := MineH.hd.heap_39 w.params) (f := .ref 35) (by k_is) ?_))
  k_fold
  walk_at "S"
  all_goals (try clear qk ek)
  refine wpS_spliced_cons ?_
  refine wpS_Call_K (K := MineH.hd.heap_39 w.params) (f := .ref 28) (by k_is) ?_
  k_fold
  walk_at "S"
  all_goals (try clear qk ek)
  generalize hrk : rangeKs 0 n = rk at *
  refine wpS_any ?_
  k_fold
  walk_at "S"
  all_goals (try clear qk ek)
  rename Fr _ _ _ _ => F₆
  rename News _ _ _ _ => N₆
  rename IntsAre _ (List.take _ _) => hI₆
  rename_i D₆ ws₆ hh6 hC₆ hL₆ lt₆
  rw [Int.toNat_natCast] at hI₆
  clear hC₆ hL₆
  refine turned_S B F₆ X N₆ T rfl (by decide) hI₆ (by rw [List.length_take]; omega) (fun z hz => hoct z (List.mem_of_mem_take hz)) fun ad₁ ws₁ k₁ h₇ tk₇ hI₁ F₇ N₇ hlt₁ => ?_
  clear F₆ N₆
  k_sweep
  refine wpS_any ?_
  k_fold
  walk_at "S"
  all_goals (try clear qk ek)
  refine kmk_slice_ints (s := ⟨_, _, _, _, _⟩) F₇ N₇ (News.isList N₇ (.tail _ (.tail _ (.head _)))) (.int _ _) .none hdeck (kmk_from hdeck (by omega)) (List.length_drop ..) ?_ (by with_unfolding_all rfl) (by intro _; with_unfolding_all rfl) (by rw [List.size_toArray, sizeLine_eq]; omega)
  intro D₈ ws₈ h₈ F₈ N₈ l₈ hI₈ hC₈ hL₈
  clear F₇ N₇
  rw [Int.toNat_natCast] at hI₈
  walk_at "S"
  all_goals (try clear qk ek)
  rename Fr _ _ _ _ => F₉
  rename News _ _ _ _ => N₉
  rename IntsAre _ (List.take _ nums) => hI₉
  rename_i D₉ ws₉ hh9 hC₉ hL₉ lt₉
  rw [Int.toNat_natCast] at hI₉
  have N₉' : News s.heap L' hh9 [(ad₁, listOf (List.toArray ws₁) k₁), (D₈, listOf (List.toArray ws₈) 0), (D₉, listOf (List.toArray ws₉) 0)] := fun p hp => N₉ p (by
    simp only [List.mem_cons, List.not_mem_nil, or_false] at hp ⊢
    rcases hp with h | h | h <;> simp [h])
  clear N₉ hC₈ hL₈ hC₉ hL₉ lt₉ l₈ hlt₁ lt₆ ldk
  refine riffled_S (k1 := k₁) (k2 := 0) (k3 := 0) (news := []) B F₉ X N₉' T rfl (by decide) (by decide) hI₁ hI₈ hI₉ (by rw [List.length_take]; omega) (by rw [List.length_reverse, List.length_take, List.length_take, List.length_drop]; omega) fun pa pv kp h₁₀ tk₁₀ hP F₁₀ N₁₀ hlt₂ => ?_
  clear F₉ N₉' hlt₂
  have N₁₁ : News s.heap L' h₁₀ [(pa, listOf (List.toArray pv) kp)] := fun p hp => N₁₀ p (by rw [List.mem_singleton.mp hp]; exact .head _)
  clear N₁₀ hI₁ hI₈ hI₉ hI₆
  subst hrk
  obtain ⟨hperm, hfour⟩ := riff_facts (n := n) (d := d) (nums := nums.take n) hd9 (by rw [List.length_take]; omega) (by omega) (by omega)
  generalize riffL ((rangeKs 0 n).take d).reverse ((rangeKs 0 n).drop d) (nums.take n) = P at *
  have hPl : P.length = n := by rw [hperm.length_eq, rangeKs_length]
  have hPo : ∀ z ∈ P, 0 ≤ z ∧ z < 256 := fun z hz => hoct z (hperm.mem_iff.mp hz)
  have hpvl : pv.length = n := by rw [hP.length]; exact hPl
  clear hoct hrl hdeck hdl
  k_sweep
  show wpAny _ _ _ _ _ _
  k_fold
  walk_at "S"
  all_goals (try clear qk ek)
  rename Fr _ _ _ _ => F₁₁a
  rename News _ _ _ _ => N₁₂
  rename_i hh11
  refine wpS_tk (s := s) (h' := hh11) fun tk₁₁ => ?_
  have hnn : ((n : Nat) : Int) ≠ 0 := by omega
  refine wpS_execs_cons (wpS_Assign_Name (wpS_Call_K (K := MineH.hd.heap_39 w.params) (f := .ref 52) (by k_is) ?_))
  k_fold
  walk_at "S"
  all_goals (try clear qk ek)
  refine wpS_spliced_cons ?_
  refine wpS_Call_K (K := MineH.hd.heap_39 w.params) (f := .ref 42) (by k_is) ?_
  k_fold
  walk_at "S"
  all_goals (try clear qk ek)
  refine wpS_any ?_
  k_fold
  walk_at "S"
  all_goals (try clear qk ek)
  have hx0 := Int.fmod_nonneg_of_pos (total.fdiv 7) (b := (n : Int)) (by omega)
  have hx1 := Int.fmod_lt_of_pos (total.fdiv 7) (b := (n : Int)) (by omega)
  have hy0 := Int.fmod_nonneg_of_pos (total.fdiv 5) (b := (n : Int)) (by omega)
  have hy1 := Int.fmod_lt_of_pos (total.fdiv 5) (b := (n : Int)) (by omega)
  generalize (total.fdiv 7).fmod (n : Int) = x at *
  generalize (total.fdiv 5).fmod (n : Int) = y at *
  refine exchanged_S B F₁₁a X N₁₂ T rfl (by decide) (by decide) hP (by omega) hx0 (by omega) hy0 (by omega) fun xa xv kx h₁₃ tk₁₃ hX F₁₃ N₁₃ hlt₃ => ?_
  clear F₁₁a N₁₂
  obtain ⟨b, hb⟩ := four_same ((exch_perm (ns := P) (x := x.toNat) (y := y.toNat) (by omega) (by omega)).trans hperm) (by omega) (by omega)
  have hXl : ((P.set x.toNat (P.getD y.toNat 0)).set y.toNat (P.getD x.toNat 0)).length = n := by rw [List.length_set, List.length_set]; exact hPl
  have hXo : ∀ z ∈ (P.set x.toNat (P.getD y.toNat 0)).set y.toNat (P.getD x.toNat 0), 0 ≤ z ∧ z < 256 := fun z hz => hPo z ((exch_perm (ns := P) (x := x.toNat) (y := y.toNat) (by omega) (by omega)).mem_iff.mp hz)
  k_sweep
  refine wpS_any ?_
  k_fold
  walk_at "S"
  all_goals (try clear qk ek)
  refine four_S B F₁₃ X N₁₃ T rfl (by decide) (by decide) hX (by omega) (by omega) hXo fun fa kf h₁₄ tk₁₄ F₁₄ N₁₄ hlt₄ => ?_
  clear F₁₃ N₁₃
  rw [hb] at N₁₄
  k_sweep
  show wpAny _ _ _ _ _ _
  k_fold
  walk_at "S"
  all_goals (try clear qk ek)
  rename Fr _ _ _ _ => F₁₅
  rename News _ _ _ _ => N₁₅
  rename_i hh15
  refine wpS_tk (s := s) (h' := hh15) fun tk₁₅ => ?_
  have N₁₆ : News s.heap L' hh15 [(pa, listOf (List.toArray pv) kp), (fa, listOf #[.bool b, .bool b, .bool b, .bool b] kf)] := fun p hp => N₁₅ p (by
    simp only [List.mem_cons, List.not_mem_nil, or_false] at hp ⊢
    rcases hp with h | h <;> simp [h, bv])
  clear N₁₅
  refine wpS_execs_cons (wpS_Return (wpS_And2 (wpS_Compare1 ?_)))
  refine wpS_Call_K (K := MineH.hd.heap_39 w.params) (f := .ref 52) (by k_is) ?_
  k_fold
  walk_at "S"
  all_goals (try clear qk ek)
  refine wpS_any ?_
  k_fold
  walk_at "S"
  all_goals (try clear qk ek)
  refine four_S B F₁₅ X N₁₆ T rfl (by decide) (by decide) hP (by omega) (by omega) hPo fun ga kg h₁₇ tk₁₇ F₁₇ N₁₇ hlt₅ => ?_
  clear F₁₅ N₁₆
  rw [hfour] at N₁₇
  change News s.heap L' h₁₇ [(ga, listOf #[.bool true, .bool true, .bool true, .bool true] kg), (pa, listOf (List.toArray pv) kp), (fa, listOf #[.bool b, .bool b, .bool b, .bool b] kf)] at N₁₇
  have hf1 : fa < ga := hlt₅ _ (.tail _ (.head _))
  have hf2 : pa < ga := hlt₅ _ (.head _)
  refine wpS_tk (s := s) (h' := h₁₇) fun tk₁₈ => ?_
  refine wpS_any ?_
  k_fold
  walk_at "S"
  all_goals (try clear qk ek)
  rename Fr _ _ _ _ => F₁₈
  rename News _ _ _ _ => N₁₈
  rename_i lt8 hh18 lt9 D₁₈ hh19 lt10
  show wpS _ _ _ _ _ _
  refine wpS_any (eq_bools (bs := [true, true, true, true]) (News.isList N₁₈ (.tail _ (.tail _ (.head _)))) (News.isList N₁₈ (.head _)) (show callerA.units + 3 < cLine by decide) ?_)
  refine wpAny_truthy_bool ?_
  rw [if_pos rfl]
  clear qk ek
  refine wpS_Compare1 ?_
  refine wpS_tk (s := s) (h' := hh19) fun tk₁₉ => ?_
  refine wpS_any ?_
  k_fold
  walk_at "S"
  all_goals (try clear qk ek)
  refine wpS_any ?_
  k_fold
  walk_at "S"

  rename Fr _ _ _ _ => F₂₀
  rename News _ _ _ _ => N₂₀
  show wpS _ _ _ _ _ _
  refine wpS_any (eq_bools (bs := [b, b, b, b]) (News.isList N₂₀ (.tail _ (.tail _ (.tail _ (.tail _ (.tail _ (.tail _ (.head _)))))))) (News.isList N₂₀ (.head _)) (show callerA.units + 3 < cLine by decide) ?_)
  exact hret _ _ _ _ F₂₀
end
end Mine
set_option maxRecDepth 100000
set_option Elab.async false
open PySem PySem.W PySem.Calls PyProof.Rows Mine
set_option maxHeartbeats 8000000 in
theorem PySem.Challenge.cw_ny0470_02_holds : PySem.Challenge.rw_ny0470_02.Holds := by
  w_on
  refine MineH.hd ?_
  k_fill
  intro w s₀ s₁ mg mb G Y fa o pm cd doc dV kV ho hd hcd hD hmg hg args vals as hpre hlay hrd hwl hlo
  have KX := kIn_of Y
  refine Ground.open G ?_
  intro T B D TE TW
  wrow_args hpre hlay hrd hwl hlo
  rename_i ns _ _ _ _ _ _ _ l vs _ hl _ _ _ hi _ hcond _
  have hfa : mg (Str.ofString "law") = some (.ref 59) := mg_of KX T.g (by k_is)
  obtain rfl : fa = 59 := by
    have e : some (Value.ref 59) = some (Value.ref fa) := hfa.symm.trans hmg
    injection e with e
    injection e with e
    exact e.symm
  have hz : ns.length ≤ 63 := by omega
  have hn : ∀ cls, PySem.Challenge.rw_ny0470_02.row.claim.raises [ofPy (PyData.list (List.map PyData.int ns))] cls = false := raisesW_false (by wrow_none_raised)
  have hp : PySem.Challenge.rw_ny0470_02.row.claim.post [ofPy (PyData.list (List.map PyData.int ns))] (.bool true) [ofPy (PyData.list (List.map PyData.int ns))] = true := by wrow_post
  refine ⟨⟨.inl ⟨_, .bool true, [], rfl, hn, .bool true, hp, unshared_nil⟩, .of_keep fun _ _ e => e, rfl, .of_eq hg⟩, ?_⟩
  refine enter_callS ?_
  refine law_S KX T hl hi hz fun h' tk' L m F => ?_
  exact goodW_bool F hg hn hp
