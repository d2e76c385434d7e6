import PyProof.Rows.All
import Wide.All
import OpenK.AllK
import Wide.FinOn
import PySem.Challenge.RW_ny0470_04
set_option maxRecDepth 100000
set_option Elab.async false
open PySem PySem.W PySem.Calls PyProof.Rows
namespace Mine

/-! ## contexts without a built-in that may hold a bytearray's memory -/

def badIds : List String := Builtin.Bytes.decodersThatHold ++ ["bytearray.__contains__", "bytearray.__mod__", "bytearray.__rmod__", "_struct.pack_into.held", "bytearray.find.held"]
def calmCode : Code → Bool
  | .builtin id _ => !badIds.contains id
  | _ => true
def CalmC (Γ : Ctx) : Prop := calmCode Γ.code = true ∧ ∀ x ∈ Γ.below, calmCode x.1 = true

def wpS {α : Type} (M : Model) (A : Around) (t : Sem α) (Q : α → Shared → Prop) (E : Value → Shared → Prop) (s : Shared) : Prop :=
  ∀ Γ p, Γ.In A → CalmC Γ → Sem.wp M Γ t (fun a _ s' => Q a s') (fun e _ s' => E e s') p s
def codeS (M : Model) (A : Around) (c : Code) (R : Result → Shared → Prop) (s : Shared) : Prop :=
  ∀ Γ p, Γ.code = c → Γ.Below A → CalmC Γ → wpCode M Γ R p s

theorem CalmC.enter {Γ : Ctx} (h : CalmC Γ) {c : Code} (hc : calmCode c = true) (hd : Option Value) (p : Pos) : CalmC (Γ.enter c hd p) :=
  ⟨hc, fun x hx => by rcases List.mem_cons.mp hx with rfl | hx; exact h.1; exact h.2 x hx⟩
theorem CalmC.goto {Γ : Ctx} (h : CalmC Γ) {c : Code} (hc : calmCode c = true) : CalmC (Γ.goto c) := ⟨hc, h.2⟩

section
variable {α β : Type} {M : Model} {A : Around} {E : Value → Shared → Prop} {s : Shared}

theorem wpS_any {t : Sem α} {Q : α → Shared → Prop} (h : wpAny M A t Q E s) : wpS M A t Q E s := fun Γ p hΓ _ => h Γ p hΓ
theorem codeS_any {c : Code} {R : Result → Shared → Prop} (h : codeAny M A c R s) : codeS M A c R s := fun Γ p hc hΓ _ => h Γ p hc hΓ
theorem wpS_pure {a : α} {Q : α → Shared → Prop} (h : Q a s) : wpS M A (pure a) Q E s := fun _ _ _ _ => h
theorem wpS_mono {t : Sem α} {Q Q' : α → Shared → Prop} {E' : Value → Shared → Prop} (h : wpS M A t Q E s)
    (hQ : ∀ a s, Q a s → Q' a s) (hE : ∀ e s, E e s → E' e s) : wpS M A t Q' E' s :=
  fun Γ p hΓ hc => Sem.wp_mono M Γ t (fun a _ s => hQ a s) (fun e _ s => hE e s) p s (h Γ p hΓ hc)
theorem wpS_bind {m : Sem α} {f : α → Sem β} {Q : β → Shared → Prop} (h : wpS M A m (fun a s' => wpS M A (f a) Q E s') E s) :
    wpS M A (m >>= f) Q E s := fun Γ p hΓ hc => by
  rw [Sem.wp_bind']
  exact Sem.wp_mono M Γ m (fun a p' s' h' => h' Γ p' hΓ hc) (fun _ _ _ h' => h') p s (h Γ p hΓ hc)
theorem wpS_holding {vs : List Value} {m : Sem α} {Q : α → Shared → Prop} (h : wpS M A m Q E s) : wpS M A (holding vs m) Q E s :=
  fun Γ p hΓ hc => by rw [Sem.wp_holding]; exact h Γ p hΓ hc
theorem wpS_keep {vs : List Value} {m : Sem α} {Q : α → Shared → Prop} (h : wpS M A m Q E s) : wpS M A (m.keep vs) Q E s :=
  fun Γ p hΓ hc => by rw [Sem.wp_keep]; exact h Γ p hΓ hc
theorem wpS_onRaise {m : Sem α} {k : Value → Sem Unit} {Q : α → Shared → Prop}
    (h : wpS M A m Q (fun e s' => wpS M A (k e) (fun _ s'' => E e s'') E s') s) : wpS M A (m.onRaise k) Q E s := fun Γ p hΓ hc => by
  rw [Sem.wp_onRaise]
  exact Sem.wp_mono M Γ m (fun _ _ _ h' => h') (fun e p' s' h' => h' Γ p' hΓ hc) p s (h Γ p hΓ hc)
theorem wpS_attempt {m : Sem α} {Q : Except Value α → Shared → Prop} (h : wpS M A m (fun a => Q (.ok a)) (fun e => Q (.error e)) s) :
    wpS M A m.attempt Q E s := fun Γ p hΓ hc => by rw [Sem.wp_attempt]; exact h Γ p hΓ hc
theorem wpS_standAt {pos : Pos} {Q : Unit → Shared → Prop} (h : Q () s) : wpS M A (standAt pos) Q E s := fun _ _ _ _ => h
theorem wpS_eq {t t' : Sem α} {Q : α → Shared → Prop} (e : t = t') (h : wpS M A t' Q E s) : wpS M A t Q E s := e ▸ h

theorem wpS_run {c : Code} {h : Option Value} {Q : Flow → Shared → Prop} (hcc : calmCode c = true)
    (hc : codeS M (A.mark h) c (fun r s' => match r with | .ok f => Q f s' | .error e => E e s') s) (hnb : h ≠ some byPass := by intro x; cases x) :
    wpS M A (run c h) Q E s :=
  fun Γ p hΓ hq => by rw [Sem.wp_run]; exact hc _ p rfl (hΓ.enter c h p hnb) (hq.enter hcc h p)
theorem wpS_runValue {c : Code} {Q : Value → Shared → Prop} (hcc : calmCode c = true)
    (hc : codeS M A c (fun r s' => match r with | .ok (.ret v) => Q v s' | .ok _ => False | .error e => E e s') s) :
    wpS M A (runValue c) Q E s := fun Γ p hΓ hq => by
  rw [Sem.wp_runValue]; exact hc _ p rfl (hΓ.enter c none p (by intro x; cases x)) (hq.enter hcc none p)
theorem wpS_call {f : Value} {pos : List Value} {kw : List (Str × Value)} {Q : Value → Shared → Prop}
    (hc : codeS M A (.call f ⟨pos, kw⟩) (fun r s' => match r with | .ok (.ret v) => Q v s' | .ok _ => False | .error e => E e s') s) :
    wpS M A (call f pos kw) Q E s := wpS_runValue rfl hc
theorem codeS_mono {c : Code} {R R' : Result → Shared → Prop} (h : codeS M A c R s) (hR : ∀ r s, R r s → R' r s) : codeS M A c R' s :=
  fun Γ p hc hΓ hq => wpCode_mono hR (h Γ p hc hΓ hq)
theorem codeS_of_tree {c : Code} {R : Result → Shared → Prop}
    (h : wpS M (A.under c) (M.den c) (fun fin s' => match fin with | .done f => R (.ok f) s' | .again c' => c'.quiet = true ∧ calmCode c' = true ∧ codeS M A c' R s')
      (fun e s' => R (.error e) s') s) : codeS M A c R s := fun Γ p hc hΓ hq => by
  rw [wpCode_iff_wp, hc]
  refine Sem.wp_mono M Γ _ (fun fin p' s' h' => ?_) (fun _ _ _ h' => h') p s (h Γ p (hc ▸ hΓ.in) hq)
  cases fin with
  | done f => exact h'
  | again c' => exact ⟨h'.1, h'.2.2 (Γ.goto c') p' rfl (hΓ.goto c') (hq.goto h'.2.1)⟩
theorem codeS_loop {c : Code} {R : Result → Shared → Prop} (hq : c.quiet = true) (hcc : calmCode c = true) (I : Nat → Shared → Prop)
    (turn : ∀ n s, I n s → wpS M (A.under c) (M.den c)
      (fun fin s' => match fin with | .done f => R (.ok f) s' | .again c' => c' = c ∧ ∃ m, m < n ∧ I m s') (fun e s' => R (.error e) s') s)
    (n : Nat) (h : I n s) : codeS M A c R s := by
  induction n using Nat.strongRecOn generalizing s with
  | ind n ih =>
    refine codeS_of_tree (wpS_mono (turn n s h) (fun fin s' hf => ?_) fun _ _ h' => h')
    cases fin with
    | done f => exact hf
    | again c' => obtain ⟨rfl, m, hm, hI⟩ := hf; exact ⟨hq, hcc, ih m hm hI⟩
end

/-! ## statements and expressions -/
section
variable {M : Model} {A : Around} {E : Value → Shared → Prop} {s : Shared} {env : Env}

theorem wpS_execs_nil {Q : Flow → Shared → Prop} (h : Q .next s) : wpS M A (execs [] env) Q E s := fun _ _ _ _ => h
theorem wpS_execs_cons {st rest} {Q : Flow → Shared → Prop}
    (h : wpS M A (exec st env) (fun f s' => match f with | .next => wpS M A (execs rest env) Q E s' | f => Q f s') E s) :
    wpS M A (execs (st :: rest) env) Q E s := by
  rw [execs_cons]
  refine wpS_bind (wpS_mono h (fun f s' h' => ?_) fun _ _ x => x)
  cases f <;> first | exact h' | exact wpS_pure h'
theorem wpS_Assign_Name {x pos' value pos} {Q : Flow → Shared → Prop}
    (h : wpS M A (eval value env) (fun v s₁ => wpAny M A (storeName env x v) (fun _ => Q .next) E s₁) E s)
    (hs : swapsWith value (some (.Name x pos')) pos.line env = pure false := by rfl) :
    wpS M A (exec (.Assign [.Name x pos'] value pos) env) Q E s := fun Γ p hΓ hc => by
  simp only [exec_Assign_Name env x pos' value pos hs, Sem.wp_bind', Sem.wp_cmd_standAt, Sem.wp_bindName, Sem.wp_pure']
  exact Sem.wp_mono M Γ _ (fun v _ s₁ h₁ => h₁ Γ _ hΓ) (fun _ _ _ h' => h') _ _ (h Γ _ hΓ hc)
theorem wpS_If {test body orelse pos} {Q : Flow → Shared → Prop}
    (h : wpS M A (isTrue test env (eval test env))
      (fun b s₂ => if b then wpS M A (execs body env) Q E s₂ else wpS M A (execs orelse env) Q E s₂) E s) :
    wpS M A (exec (.If test body orelse pos) env) Q E s := fun Γ p hΓ hc => by
  simp only [exec_If, Sem.wp_bind', Sem.wp_cmd_standAt]
  refine Sem.wp_mono M Γ _ (fun b p₂ s₂ h₂ => ?_) (fun _ _ _ h' => h') _ _ (h Γ _ hΓ hc)
  cases b <;> exact h₂ Γ p₂ hΓ hc
theorem wpS_Return {e pos} {Q : Flow → Shared → Prop} (h : wpS M A (eval e env) (fun v => Q (.ret v)) E s) :
    wpS M A (exec (.Return (some e) pos) env) Q E s := fun Γ p hΓ hc => by
  simp only [exec_Return_some, Sem.wp_bind', Sem.wp_cmd_standAt, Sem.wp_pure']; exact h Γ _ hΓ hc
theorem wpS_BinOp {l op r pos} {Q : Value → Shared → Prop}
    (h : wpS M A (eval l env) (fun a s₁ => wpS M A (eval r env) (fun b s₂ => wpS M A (binaryOp op a b) Q E s₂) E s₁) E s) :
    wpS M A (eval (.BinOp l op r pos) env) Q E s := fun Γ p hΓ hc => by
  simp only [eval_BinOp, Sem.wp_bind', Sem.wp_holding, Sem.wp_cmd_standAt, Sem.wp_operate]
  exact Sem.wp_mono M Γ _ (fun a p₁ s₁ h₁ => Sem.wp_mono M Γ _ (fun b _ s₂ h₂ => h₂ Γ _ hΓ hc) (fun _ _ _ h' => h') _ _ (h₁ Γ p₁ hΓ hc))
    (fun _ _ _ h' => h') _ _ (h Γ p hΓ hc)
theorem wpS_Compare1 {l op r pos} {Q : Value → Shared → Prop}
    (h : wpS M A (eval l env) (fun a s₁ => wpS M A (eval r env) (fun b s₂ => wpS M A (compareOp op a b) Q E s₂) E s₁) E s)
    (hm : behindInMarks op r = false := by with_unfolding_all rfl) :
    wpS M A (eval (.Compare l [op] [r] pos) env) Q E s := fun Γ p hΓ hc => by
  simp only [eval_Compare1, markedBehindIn_of_false hm, Sem.wp_bind', Sem.wp_holding, Sem.wp_cmd_standAt, Sem.wp_operate]
  exact Sem.wp_mono M Γ _ (fun a p₁ s₁ h₁ => Sem.wp_mono M Γ _ (fun b _ s₂ h₂ => h₂ Γ _ hΓ hc) (fun _ _ _ h' => h') _ _ (h₁ Γ p₁ hΓ hc))
    (fun _ _ _ h' => h') _ _ (h Γ p hΓ hc)
theorem wpS_isTrue_plain {e : Expr} {whole : Sem Value} {Q : Bool → Shared → Prop} (h : wpS M A whole (fun v s₁ => wpAny M A (truthy v) Q E s₁) E s)
    (he : isTrue e env whole = (do let v ← whole; standAt e.pos; holding [v] (truthy v)) := by rfl) : wpS M A (isTrue e env whole) Q E s := by
  rw [he]
  exact wpS_bind (wpS_mono h (fun v s₁ h₁ => wpS_bind (wpS_standAt (wpS_holding (wpS_any h₁)))) fun _ _ x => x)
theorem wpS_isTrue_not {x pos whole} {Q : Bool → Shared → Prop} (h : wpS M A (isTrue x env (eval x env)) (fun c s' => Q (!c) s') E s) :
    wpS M A (isTrue (.UnaryOp .Not x pos) env whole) Q E s := by
  show wpS M A (do return !(← isTrue x env (eval x env))) Q E s
  exact wpS_bind (wpS_mono h (fun c s' h' => wpS_pure h') fun _ _ x => x)
theorem wpS_And2 {x y pos} {Q : Value → Shared → Prop}
    (h : wpS M A (eval x env) (fun v s₁ => wpAny M A (truthy v) (fun b s₂ => if b then wpS M A (eval y env) Q E s₂ else Q v s₂) E s₁) E s) :
    wpS M A (eval (.BoolOp .And [x, y] pos) env) Q E s := by
  show wpS M A (do
    let v ← eval x env
    standAt pos
    let t ← holding [v] (truthy v)
    match BoolOp.And, t with
    | .And, false | .Or, true => pure v
    | _, _ => eval y env) Q E s
  refine wpS_bind (wpS_mono h (fun v s₁ h₁ => wpS_bind (wpS_standAt (wpS_bind (wpS_holding (wpS_mono (wpS_any h₁) (fun b s₂ h₂ => ?_) fun _ _ x => x))))) fun _ _ x => x)
  cases b
  · exact wpS_pure h₂
  · exact h₂

theorem wpS_callWith {P : Heap → Prop} {pos : Pos} {f : Value} {first : List Value} {Q : Value → Shared → Prop} {args : List (Bool × Sem Value)} {keywords : List (Option Str × Sem Value)} (hplain : (args.any (·.1) || keywords.any (·.1.isNone)) = false)
    (hk : ∀ h, P h → ∃ k, (k = Keeper.frame ∨ k = Keeper.machine ∨ k = Keeper.boundFrame) ∧ Looks M h (keeperOf f) k)
    (h : wpS M A (evalArgs f true args keywords) (fun a s₁ => P s₁.heap ∧ wpS M A (call f (first ++ a.pos) a.kw) Q E s₁) E s) : wpS M A (callWith pos f first args keywords) Q E s := by
  unfold callWith
  refine wpS_bind (wpS_holding (wpS_mono h (fun a s₁ h₁ => wpS_bind (wpS_standAt ?_)) fun _ _ x => x))
  obtain ⟨k, hk', L⟩ := hk _ h₁.1
  simp only [hplain]
  refine wpS_bind (wpS_any (L.here ?_))
  have tail : ∀ {t : Sem Value}, wpS M A t Q E s₁ → wpS M A (t >>= fun r => holding [r] point >>= fun _ => pure r) Q E s₁ :=
    fun ht => wpS_bind (wpS_mono ht (fun r s₂ hr => wpS_bind (wpS_holding (wpS_any (wpAny_point (wpS_pure hr))))) fun _ _ x => x)
  have marked (mk : Value) : wpS M A (callMarked mk f (first ++ a.pos) a.kw) Q E s₁ := by unfold callMarked; exact wpS_keep h₁.2
  rcases hk' with rfl | rfl | rfl <;> dsimp only <;> first | exact tail h₁.2 | (split <;> first | exact tail h₁.2 | exact tail (marked _))
theorem wpS_evalArgs {f : Value} {x : Sem Value} {rest : List (Bool × Sem Value)} {Q : Args → Shared → Prop}
    (h : wpS M A (spliced ((false, x) :: rest)) (fun vs s' => Q ⟨vs, []⟩ s') E s) : wpS M A (evalArgs f true ((false, x) :: rest) []) Q E s := by
  unfold evalArgs
  show wpS M A (spliced ((false, x) :: rest) >>= _) Q E s
  refine wpS_bind (wpS_mono h (fun vs s' h' => ?_) fun _ _ x => x)
  refine wpS_holding ?_
  exact wpS_bind (wpS_pure (wpS_bind (wpS_pure (wpS_pure h'))))
theorem wpS_spliced_nil {Q : List Value → Shared → Prop} (h : Q [] s) : wpS M A (spliced []) Q E s := fun _ _ _ _ => h
theorem wpS_spliced_cons {x : Sem Value} {rest : List (Bool × Sem Value)} {Q : List Value → Shared → Prop}
    (h : wpS M A x (fun v s₁ => wpS M A (spliced rest) (fun vs s₂ => Q (v :: vs) s₂) E s₁) E s) : wpS M A (spliced ((false, x) :: rest)) Q E s := by
  show wpS M A (x >>= fun v => pure [v] >>= fun here => holding here (spliced rest) >>= fun r => pure (here ++ r)) Q E s
  exact wpS_bind (wpS_mono h (fun v s₁ h₁ => wpS_bind (wpS_pure (wpS_bind (wpS_holding (wpS_mono h₁ (fun vs s₂ h₂ => wpS_pure h₂) fun _ _ x => x))))) fun _ _ x => x)
theorem wpS_Call_type {fn : Expr} {e : Expr} {rest : List Expr} {pos : Pos} {T : String} {Q : Value → Shared → Prop}
    (hf : wpAny M A (eval fn env) (fun v s₁ => v = .type T ∧ wpS M A (spliced (backTo pos (starEach (e :: rest) env))) (fun vs s₂ => wpS M A (call (.type T) vs) Q E s₂) E s₁) E s)
    (hc : eval (.Call fn (e :: rest) [] pos) env = (do callWith pos (← eval fn env) [] (backTo pos (starEach (e :: rest) env)) (backToKw pos (keywordEach [] env))) := by rfl)
    (he : starEach (e :: rest) env = (false, eval e env) :: starEach rest env := by rfl) (hplain : (backTo pos (starEach rest env)).any (·.1) = false := by rfl) :
    wpS M A (eval (.Call fn (e :: rest) [] pos) env) Q E s := by
  rw [hc]
  refine wpS_bind (wpS_mono (wpS_any hf) (fun v s₁ h₁ => ?_) fun _ _ x => x)
  obtain ⟨rfl, h₁⟩ := h₁
  rw [he] at h₁ ⊢
  refine wpS_callWith (P := fun _ => True) (by show ((false || (backTo pos (starEach rest env)).any (·.1)) || false) = false; rw [hplain]; rfl) (fun h _ => ⟨.machine, .inr (.inl rfl), Looks.of_pure rfl⟩) ?_
  exact wpS_evalArgs (wpS_mono h₁ (fun _ _ x => ⟨trivial, x⟩) fun _ _ x => x)
/-- a call whose callee is a def of the written part: the arguments, then the call -/
theorem wpS_Call_K {K : Frag} {fn : Expr} {e : Expr} {rest : List Expr} {pos : Pos} {f : Value} {Q : Value → Shared → Prop} (hk : keepIn K f = true)
    (hf : wpAny M A (eval fn env) (fun v s₁ => v = f ∧ wpS M A (spliced (backTo pos (starEach (e :: rest) env))) (fun vs s₂ => K.In s₂.heap ∧ wpS M A (call f vs) Q E s₂) E s₁) E s)
    (hc : eval (.Call fn (e :: rest) [] pos) env = (do callWith pos (← eval fn env) [] (backTo pos (starEach (e :: rest) env)) (backToKw pos (keywordEach [] env))) := by rfl)
    (he : starEach (e :: rest) env = (false, eval e env) :: starEach rest env := by rfl) (hplain : (backTo pos (starEach rest env)).any (·.1) = false := by rfl) :
    wpS M A (eval (.Call fn (e :: rest) [] pos) env) Q E s := by
  rw [hc]
  refine wpS_bind (wpS_mono (wpS_any hf) (fun v s₁ h₁ => ?_) fun _ _ x => x)
  obtain ⟨rfl, h₁⟩ := h₁
  rw [he] at h₁ ⊢
  refine wpS_callWith (P := fun h => K.In h) (by show ((false || (backTo pos (starEach rest env)).any (·.1)) || false) = false; rw [hplain]; rfl) (keeps_K hk) ?_
  exact wpS_evalArgs h₁
end

/-! ## calls of defs -/
section
variable {prog : Program} {w : World} {A : Around} {s : Shared} {R : Result → Shared → Prop}
theorem codeS_func {body env}
    (h : wpS (model prog w) (A.deeper env) (execs body env) (fun f s' => R (.ok (.ret (match f with | .ret v => v | _ => .none))) s') (fun _ _ => False) s) :
    codeS (model prog w) A (.func body env) R s := by
  refine codeS_of_tree ?_
  show wpS _ (A.deeper env) (do point; match ← (execs body env).onRaise (leaving env) with | .ret v => ret v | _ => ret .none) _ _ s
  refine wpS_bind (wpS_any (wpAny_point (wpS_bind (wpS_onRaise (wpS_mono h (fun f s' h' => ?_) fun _ _ h' => h'.elim)))))
  cases f <;> exact wpS_pure h'
theorem codeS_call_function {a : Addr} {args : Args} {o : Obj} {fd : FuncData} {body : List Stmt} (hroom : A.depth < recursionLimit)
    (ho : s.heap.get? a = some o)
    (hd' : o.data = .func fd) (hco : fd.scope.isCoroutine = false) (hgen : fd.scope.isGenerator = false) (hbody : fd.body = .stmts body) (hcd : s.heap.CodeRec fd.code fd.qualname)
    (h : wpAny (model prog w) A.in1 (bindArgs fd args) (fun binds s₁ =>
      wpAny (model prog w) A.in1 (newFunctionEnv fd.scope fd.globals fd.closure binds (fd.qualname ++ ".<locals>.") (some a) fd.code none fd.builtins)
        (fun env s₂ => s₂.heap.NoLimit ∧ codeS (model prog w) A (.func body env) R s₂) (fun e s' => R (.error e) s') s₁) (fun e s' => R (.error e) s') s) :
    codeS (model prog w) A (.call (.ref a) args) R s := by
  refine codeS_of_tree ?_
  show wpS _ A.in1 (callAny (.ref a) args) _ _ s
  simp only [callAny]
  refine wpS_any (wpAny_bind (wpAny_load ho ?_))
  obtain ⟨c, oc, vs, tq, hc, hoc, hdc, hq⟩ := hcd
  simp only [hd', callFunction, hco, hgen, hbody, hc]
  rw [hc] at h
  refine wpAny_bind (m := field (.ref c) 1) (wpAny_field hoc hdc hq (wpAny_bind (wpAny_pure ?_)))
  exact wpAny_bind (wpAny_mono h (fun binds s₁ h₁ => wpAny_bind (wpAny_mono h₁ (fun env s₂ h₂ => wpAny_bind (wpAny_enterFrame h₂.1 hroom
    (wpAny_pure ⟨rfl, rfl, h₂.2⟩))) fun _ _ h' => h')) fun _ _ h' => h')
theorem codeS_call_def {a : Addr} {o : Obj} {fd : FuncData} {body : List Stmt} {args : Args} {binds : List (Str × Value)}
    (hroom : A.depth < recursionLimit) (ho : s.heap.get? a = some o) (hdata : o.data = .func fd) (hlim : s.heap.NoLimit) (hcd : s.heap.CodeRec fd.code fd.qualname)
    (hbody : fd.body = .stmts body) (hbind : BindsTo s fd args binds)
    (hcell : ∀ x ∈ fd.scope.names, x.2 ≠ .cell) (hloc : ∀ x ∈ binds, fd.scope.names.lookup x.1 = some .local)
    (h : ∀ h₀, h₀.Ns s.heap.objs.size (fun x => binds.reverse.lookup x) → (∀ b o, s.heap.get? b = some o → h₀.get? b = some o) →
      wpS (model prog w) (A.deeper (callEnv fd s.heap.objs.size a)) (execs body (callEnv fd s.heap.objs.size a)) (fun f s' => R (.ok (.ret (match f with | .ret v => v | _ => .none))) s')
        (fun _ _ => False) { s with heap := h₀, toks := s.toks + binds.length })
    (hco : fd.scope.isCoroutine = false := by rfl) (hgen : fd.scope.isGenerator = false := by rfl) (hk : fd.scope.kind = .function := by rfl) :
    codeS (model prog w) A (.call (.ref a) args) R s := by
  refine codeS_call_function hroom ho hdata hco hgen hbody hcd (hbind _ _ _ _ ?_)
  refine wpAny_newFunctionEnv hcell hloc (fun h₀ hns₀ hsb₀ => ⟨hlim.fresh _ hsb₀, codeS_func (h h₀ hns₀ fun b o e => ?_)⟩) hk
  exact hsb₀.extBut b o (Nat.ne_of_lt (Heap.lt_size e)) (Heap.get?_push_of_some _ e)
theorem call_fullS {name : Str} {params : Arguments} {body : List Stmt} {scope : Scope}
    {dV kV pm cd doc : Value} {a : Addr} {o : Obj} {args : Args} {binds : List (Str × Value)}
    (hroom : A.depth < recursionLimit) (ho : s.heap.get? a = some o) (hdata : o.data = .func { docDef name params body scope pm cd doc with defaults := dV, kwdefaults := kV }) (hlim : s.heap.NoLimit) (hcd : s.heap.CodeRec cd name)
    (hbind : BindsTo s { docDef name params body scope pm cd doc with defaults := dV, kwdefaults := kV } args binds)
    (hloc : ∀ x ∈ binds, scope.names.lookup x.1 = some .local)
    (h : ∀ h₁, Fr s.heap s.heap.objs.size h₁ (fun x => binds.reverse.lookup x) →
      wpS (model prog w) (A.deeper (envOf name scope s.heap.objs.size a cd)) (execs body (envOf name scope s.heap.objs.size a cd))
        (fun f s' => R (.ok (.ret (match f with | .ret v => v | _ => .none))) s') (fun _ _ => False)
        { s with heap := h₁, toks := s.toks + binds.length })
    (hco : scope.isCoroutine = false := by rfl) (hgen : scope.isGenerator = false := by rfl) (hk : scope.kind = .function := by rfl)
    (hcell : ∀ x ∈ scope.names, x.2 ≠ .cell := by decide) :
    codeS (model prog w) A (.call (.ref a) args) R s :=
  codeS_call_def hroom ho hdata hlim hcd rfl hbind hcell hloc (fun h₁ hns hkeep => h h₁ ⟨hns, hkeep, Nat.le_refl _⟩) hco hgen hk
end

section
variable {prog : Program} {w : World} {A A₀ : Around} {s : Shared} {K : Frag} {L : Addr} {h₀ base : Heap} {m mg mb : Str → Option Value} {news : List (Addr × Obj)} {p : Program} {loose : List Str} {mean : ExcName → Option Value}
/-- a call of a def of the written part, in calm contexts: its body is run in a frame of its own -/
theorem code_defS {env : Env} {outer : List Env} {R : Result → Shared → Prop} {name qual : Str} {params : Arguments} {body : List Stmt} {scope : Scope} {dV kV doc pm cdv ct oc : Value} {an od : Option Addr} {osl : Array (Option Value)} {f : Addr} {args : Args} {binds : List (Str × Value)}
    (B : Below A₀ base outer h₀) (F : Fr h₀ L s.heap m) (X₀ : K.In h₀) (N : News h₀ L s.heap news) (T : Top p loose mean mg mb h₀) (hA : A.frames = some (env :: outer)) (hf : env.frame = some L) (hke : env.scope.kind = .function)
    (ho : K.lookup f = some ⟨oc, od, .func (fnOf name qual params body scope dV kV doc pm an cdv ct), osl⟩) (hcd : codeIn K cdv qual = true) (hroom : A.depth < recursionLimit)
    (hbind : BindsTo s (fnOf name qual params body scope dV kV doc pm an cdv ct) args binds) (hloc : ∀ y ∈ binds, scope.names.lookup y.1 = some .local)
    (h : ∀ g L' h₁, Fr h₀ L g m → Fr g L' h₁ (fun y => binds.reverse.lookup y) → News g L' h₁ news → Below A base (env :: outer) g → K.In g → Top p loose mean mg mb g → (∀ p ∈ news, p.1 < L') →
      wpS (model prog w) (A.deeper (envOf qual scope L' f cdv)) (execs body (envOf qual scope L' f cdv))
        (fun fl s' => LeaveK h₀ L m g R (match fl with | .ret v => v | _ => .none) s') (fun _ _ => False)
        { s with heap := h₁, toks := s.toks + binds.length })
    (hco : scope.isCoroutine = false) (hgen : scope.isGenerator = false) (hk : scope.kind = .function)
    (hcell : ∀ x ∈ scope.names, x.2 ≠ .cell) : codeS (model prog w) A (.call (.ref f) args) R s := by
  obtain ⟨FG, BG, st, lv⟩ := groundX (R := R) B F N hA hf hke
  have X := X₀.keeps F.keep
  refine codeS_call_def (fd := fnOf name qual params body scope dV kV doc pm an cdv ct) (body := body) (binds := binds) hroom (X _ _ ho) rfl (T.nolimit.keeps F.keep) (codeRec_of X hcd) rfl hbind hcell hloc (fun h₁ hns hk₁ => ?_) hco hgen hk
  exact wpS_mono (h _ s.heap.objs.size h₁ FG ⟨hns, fun b o e => hk₁ b o (of_hideAll _ e), Nat.le_of_eq (hideAll_size _ _)⟩
    (fun p hp => ⟨hk₁ _ _ (N p hp).1, Nat.ne_of_lt (Heap.lt_size (N p hp).1), hideAll_none _ (List.mem_map_of_mem hp)⟩) BG (X₀.keeps st) (T.keeps st) (fun p hp => Heap.lt_size (N p hp).1)) (fun fl s' hl => lv _ _ hl) fun _ _ y => y
end

section
variable {prog : Program} {w : World} {A A₀ : Around} {s : Shared} {K : Frag} {L : Addr} {h₀ base : Heap} {m mg mb : Str → Option Value} {news : List (Addr × Obj)} {p : Program} {loose : List Str} {mean : ExcName → Option Value}
/-- the same for a def some of whose names live in cells -/
theorem code_defCS {env : Env} {outer : List Env} {R : Result → Shared → Prop} {name qual : Str} {params : Arguments} {body : List Stmt} {scope : Scope} {dV kV doc pm cdv ct oc : Value} {an od : Option Addr} {osl : Array (Option Value)} {f : Addr} {args : Args} {binds : List (Str × Value)} (cls : Addr → List (Str × Addr))
    (B : Below A₀ base outer h₀) (F : Fr h₀ L s.heap m) (X₀ : K.In h₀) (N : News h₀ L s.heap news) (T : Top p loose mean mg mb h₀) (hA : A.frames = some (env :: outer)) (hf : env.frame = some L) (hke : env.scope.kind = .function)
    (ho : K.lookup f = some ⟨oc, od, .func (fnOf name qual params body scope dV kV doc pm an cdv ct), osl⟩) (hcd : codeIn K cdv qual = true) (hroom : A.depth < recursionLimit)
    (hbind : BindsTo s (fnOf name qual params body scope dV kV doc pm an cdv ct) args binds) (hkind : (binds.all fun y => scope.names.lookup y.1 == some .local || scope.names.lookup y.1 == some .cell) = true)
    (hnd : ((cellsFrom 0 scope.names []).map (·.1)).Nodup)
    (hcls : ∀ n, cellsFrom (n + 1) scope.names [] = cls n)
    (h : ∀ g L' h₁ tk cells, Fr h₀ L g m → Fr g L' h₁ (bindL (envOfC qual scope L' f cdv).kindOf binds fun _ => none) → News g L' h₁ (cells ++ news) →
      CellsAre (bindC (envOfC qual scope L' f cdv).kindOf binds fun _ => none) (cls L') cells → Below A base (env :: outer) g → K.In g → Top p loose mean mg mb g → (∀ p ∈ news, p.1 < L') →
      wpS (model prog w) (A.deeper (envX qual scope L' f cdv (cls L'))) (execs body (envX qual scope L' f cdv (cls L')))
        (fun fl s' => LeaveK h₀ L m g R (match fl with | .ret v => v | _ => .none) s') (fun _ _ => False)
        { s with heap := h₁, toks := tk })
    (hco : scope.isCoroutine = false) (hgen : scope.isGenerator = false) (hk : scope.kind = .function) : codeS (model prog w) A (.call (.ref f) args) R s := by
  obtain ⟨FG, BG, st, lv⟩ := groundX (R := R) B F N hA hf hke
  have X := X₀.keeps F.keep
  refine codeS_call_function hroom (X _ _ ho) rfl hco hgen rfl (codeRec_of X hcd) (hbind _ _ _ _ ?_)
  refine wpAny_newFunctionEnv_cells hk (kindsX hkind _) fun env' he s' x => ?_
  subst he
  refine ⟨(T.nolimit.keeps F.keep).keeps x.toInCall.keep, codeS_func ?_⟩
  obtain ⟨h₁, tk, rfl, _⟩ := x.done
  have hk₁ := x.toInCall.keep
  obtain ⟨cells, NC, Y⟩ := Cl.news (h₀ := s.heap) (Nat.le_refl _) fun n c hm => ⟨x.cell n c (lookup_of_mem_nodup (cellsFrom_names scope.names 0 (s.heap.objs.size + 1) [] [] rfl ▸ hnd) hm), x.above n c hm⟩
  rw [hcls] at Y
  have e : envOfC qual scope s.heap.objs.size f cdv = envX qual scope s.heap.objs.size f cdv (cls s.heap.objs.size) := by
    show envX qual scope s.heap.objs.size f cdv (cellsFrom (s.heap.objs.size + 1) scope.names []) = _
    rw [hcls]
  have hb := h _ s.heap.objs.size h₁ tk cells FG ⟨x.toInCall.ns, fun b o e => hk₁ b o (of_hideAll _ e), Nat.le_of_eq (hideAll_size _ _)⟩ (fun p hp => ?_) Y BG (X₀.keeps st) (T.keeps st) (fun p hp => Heap.lt_size (N p hp).1)
  · rw [← e] at hb
    exact wpS_mono hb (fun fl s' hl => lv _ _ hl) fun _ _ y => y
  rcases List.mem_append.mp hp with hp | hp
  · refine ⟨(NC p hp).1, (NC p hp).2.1, ?_⟩
    cases q : (hideAll s.heap (news.map (·.1))).get? p.1 with
    | none => rfl
    | some o => have := of_hideAll _ q; rw [(NC p hp).2.2] at this; cases this
  · exact ⟨hk₁ _ _ (N p hp).1, Nat.ne_of_lt (Heap.lt_size (N p hp).1), hideAll_none _ (List.mem_map_of_mem hp)⟩
/-- the first call, from the claim's caller -/
theorem code_topS {R : Result → Shared → Prop} {name qual : Str} {params : Arguments} {body : List Stmt} {scope : Scope} {dV kV doc pm cdv ct oc : Value} {an od : Option Addr} {osl : Array (Option Value)} {f : Addr} {args : Args} {binds : List (Str × Value)}
    (X : K.In s.heap) (T : Top p loose mean mg mb s.heap)
    (ho : K.lookup f = some ⟨oc, od, .func (fnOf name qual params body scope dV kV doc pm an cdv ct), osl⟩) (hcd : codeIn K cdv qual = true) (hroom : A.depth < recursionLimit)
    (hbind : BindsTo s (fnOf name qual params body scope dV kV doc pm an cdv ct) args binds) (hloc : ∀ y ∈ binds, scope.names.lookup y.1 = some .local)
    (h : ∀ L' h₁, s.heap.objs.size = L' → Fr s.heap L' h₁ (fun y => binds.reverse.lookup y) →
      wpS (model prog w) (A.deeper (envOf qual scope L' f cdv)) (execs body (envOf qual scope L' f cdv))
        (fun fl s' => R (.ok (.ret (match fl with | .ret v => v | _ => .none))) s') (fun _ _ => False)
        { s with heap := h₁, toks := s.toks + binds.length })
    (hco : scope.isCoroutine = false) (hgen : scope.isGenerator = false) (hk : scope.kind = .function)
    (hcell : ∀ x ∈ scope.names, x.2 ≠ .cell) : codeS (model prog w) A (.call (.ref f) args) R s :=
  codeS_call_def (fd := fnOf name qual params body scope dV kV doc pm an cdv ct) (body := body) (binds := binds) hroom (X _ _ ho) rfl T.nolimit (codeRec_of X hcd) rfl hbind hcell hloc
    (fun h₁ hns hk₁ => h _ h₁ rfl ⟨hns, hk₁, Nat.le_refl _⟩) hco hgen hk
theorem code_topCS {R : Result → Shared → Prop} {name qual : Str} {params : Arguments} {body : List Stmt} {scope : Scope} {dV kV doc pm cdv ct oc : Value} {an od : Option Addr} {osl : Array (Option Value)} {f : Addr} {args : Args} {binds : List (Str × Value)} (cls : Addr → List (Str × Addr))
    (X : K.In s.heap) (T : Top p loose mean mg mb s.heap)
    (ho : K.lookup f = some ⟨oc, od, .func (fnOf name qual params body scope dV kV doc pm an cdv ct), osl⟩) (hcd : codeIn K cdv qual = true) (hroom : A.depth < recursionLimit)
    (hbind : BindsTo s (fnOf name qual params body scope dV kV doc pm an cdv ct) args binds) (hkind : (binds.all fun y => scope.names.lookup y.1 == some .local || scope.names.lookup y.1 == some .cell) = true)
    (hnd : ((cellsFrom 0 scope.names []).map (·.1)).Nodup)
    (hcls : ∀ n, cellsFrom (n + 1) scope.names [] = cls n)
    (h : ∀ L' h₁ tk cells, s.heap.objs.size = L' → Fr s.heap L' h₁ (bindL (envOfC qual scope L' f cdv).kindOf binds fun _ => none) → News s.heap L' h₁ cells →
      CellsAre (bindC (envOfC qual scope L' f cdv).kindOf binds fun _ => none) (cls L') cells →
      wpS (model prog w) (A.deeper (envX qual scope L' f cdv (cls L'))) (execs body (envX qual scope L' f cdv (cls L')))
        (fun fl s' => R (.ok (.ret (match fl with | .ret v => v | _ => .none))) s') (fun _ _ => False)
        { s with heap := h₁, toks := tk })
    (hco : scope.isCoroutine = false) (hgen : scope.isGenerator = false) (hk : scope.kind = .function) : codeS (model prog w) A (.call (.ref f) args) R s := by
  refine codeS_call_function hroom (X _ _ ho) rfl hco hgen rfl (codeRec_of X hcd) (hbind _ _ _ _ ?_)
  refine wpAny_newFunctionEnv_cells hk (kindsX hkind _) fun env' he s' x => ?_
  subst he
  refine ⟨T.nolimit.keeps x.toInCall.keep, codeS_func ?_⟩
  obtain ⟨h₁, tk, rfl, _⟩ := x.done
  obtain ⟨cells, NC, Y⟩ := Cl.news (h₀ := s.heap) (Nat.le_refl _) fun n c hm => ⟨x.cell n c (lookup_of_mem_nodup (cellsFrom_names scope.names 0 (s.heap.objs.size + 1) [] [] rfl ▸ hnd) hm), x.above n c hm⟩
  rw [hcls] at Y
  have e : envOfC qual scope s.heap.objs.size f cdv = envX qual scope s.heap.objs.size f cdv (cls s.heap.objs.size) := by
    show envX qual scope s.heap.objs.size f cdv (cellsFrom (s.heap.objs.size + 1) scope.names []) = _
    rw [hcls]
  have := h _ h₁ tk cells rfl ⟨x.toInCall.ns, x.toInCall.keep, Nat.le_refl _⟩ NC Y
  rw [← e] at this
  exact this
end

/-! ## loops -/
section
variable {M : Model} {A : Around} {E : Value → Shared → Prop} {s : Shared} {env : Env}
theorem wpS_runOwn {c : Code} {Q : Flow → Shared → Prop} (hcc : calmCode c = true)
    (hc : codeS M A c (fun r s' => match r with | .ok f => Q f s' | .error _ => False) s) : wpS M A (runOwn c env) Q E s := by
  unfold runOwn
  refine wpS_onRaise (wpS_run hcc (codeS_mono hc fun r s' h' => ?_))
  cases r with
  | ok f => exact h'
  | error e => exact h'.elim
theorem wpS_While {test body orelse pos} {Q : Flow → Shared → Prop}
    (h : codeS M A (.whileLoop test body orelse env) (fun r s' => match r with | .ok f => Q f s' | .error _ => False) s) :
    wpS M A (exec (.While test body orelse pos) env) Q E s := by
  rw [exec_While]; exact wpS_bind (wpS_standAt (wpS_runOwn rfl h))
theorem wpS_For {target iter body orelse pos} {Q : Flow → Shared → Prop}
    (h : wpS M A (eval iter env) (fun x s₁ => wpAny M A (pyIter x) (fun it s₂ =>
      codeS M A (.forLoop target it body orelse env) (fun r s' => match r with | .ok f => Q f s' | .error _ => False) s₂) E s₁) E s)
    (hs : ∀ x, foldedSetIterable iter env x = pure x := by intro _; rfl) :
    wpS M A (exec (.For target iter body orelse pos) env) Q E s := by
  rw [exec_For]
  exact wpS_bind (wpS_standAt (wpS_bind (wpS_mono h (fun x s₁ h₁ => wpS_bind (wpS_eq (hs x) (wpS_pure (wpS_bind (wpS_standAt (wpS_bind (wpS_holding
    (wpS_mono (wpS_any h₁) (fun it s₂ h₂ => wpS_runOwn rfl h₂) fun _ _ h' => h')))))))) fun _ _ h' => h')))
end

/-! ### the turns -/
section
variable {prog : Program} {w : World} {A : Around} {s : Shared} {R : Result → Shared → Prop}
theorem codeS_block {env : Env} (h : R (.ok .next) s) : codeS (model prog w) A (.block [] env) R s := by
  refine codeS_of_tree ?_
  show wpS _ (A.under (.block [] env)) (do return PySem.Fin.done (← (execs [] env).onRaise (fun x => do noteFrame x env; theTreesLotGoes x))) _ _ s
  exact wpS_bind (wpS_onRaise (wpS_execs_nil (wpS_pure h)))
theorem codeS_whileLoop {test body env} (I : Nat → Shared → Prop)
    (turn : ∀ n s, I n s →
      wpS (model prog w) A (isTrue test env (eval test env)) (fun b s₂ =>
        if b then wpS (model prog w) A (execs body env) (fun f s₃ => match f with
            | .next | .cont => ∃ m, m < n ∧ I m s₃
            | .brk => R (.ok .next) s₃
            | .ret v => R (.ok (.ret v)) s₃) (fun _ _ => False) s₂
        else R (.ok .next) s₂) (fun _ _ => False) s)
    (n : Nat) (h : I n s) : codeS (model prog w) A (.whileLoop test body [] env) R s := by
  refine codeS_loop rfl rfl I (fun n s hI => ?_) n h
  rw [Around.under_of_weight rfl]
  show wpS _ A ((whileTurn test body [] env).onRaise (fun x => do noteFrame x env; theTreesLotGoes x)) _ _ s
  refine wpS_onRaise (wpS_mono (E := fun _ _ => False) ?_ (fun _ _ h' => h') fun _ _ h' => h'.elim)
  simp only [whileTurn]
  refine wpS_bind (wpS_mono (turn n s hI) (fun b s₂ h₂ => ?_) fun _ _ h' => h')
  cases b with
  | false =>
    simp only [Bool.false_eq_true, if_false] at h₂ ⊢
    exact wpS_bind (wpS_execs_nil (wpS_pure h₂))
  | true =>
    simp only [if_true] at h₂ ⊢
    refine wpS_bind (wpS_mono h₂ (fun f s₃ h₃ => ?_) fun _ _ h' => h')
    cases f with
    | next => exact wpS_pure ⟨rfl, h₃⟩
    | cont => exact wpS_pure ⟨rfl, h₃⟩
    | brk => exact wpS_pure h₃
    | ret v => exact wpS_pure h₃
theorem codeS_forLoop {target it body env} (I : Nat → Shared → Prop)
    (turn : ∀ n s, I n s → wpAny (model prog w) A (pyNext it) (fun r s₁ => match r with
      | none => R (.ok .next) s₁
      | some v => wpAny (model prog w) A (assign target env v) (fun _ s₂ => wpS (model prog w) A (execs body env) (fun f s₃ => match f with
          | .next | .cont => ∃ m, m < n ∧ I m s₃
          | .brk => R (.ok .next) s₃
          | .ret v => R (.ok (.ret v)) s₃) (fun _ _ => False) s₂) (fun _ _ => False) s₁) (fun _ _ => False) s)
    (n : Nat) (h : I n s) (ht : ∀ v, letOwnedTupleGo target it v = pure () := by intro _; rfl) : codeS (model prog w) A (.forLoop target it body [] env) R s := by
  induction n using Nat.strongRecOn generalizing s with
  | ind n ih =>
    refine codeS_of_tree ?_
    rw [Around.under_of_weight rfl]
    show wpS _ _ ((forTurn target it body [] env).onRaise (fun x => do noteFrame x env; theTreesLotGoes x)) _ _ s
    refine wpS_onRaise (wpS_mono (E := fun _ _ => False) ?_ (fun _ _ h' => h') fun _ _ h' => h'.elim)
    simp only [forTurn]
    refine wpS_bind (wpS_standAt (wpS_bind (wpS_onRaise (wpS_mono (wpS_any (turn n s h)) (fun r s₁ h₁ => ?_) fun _ _ h' => h'.elim))))
    cases r with
    | none => exact wpS_pure ⟨rfl, rfl, codeS_block h₁⟩
    | some v =>
      refine wpS_bind (wpS_eq (ht v) (wpS_pure ?_))
      refine wpS_bind (wpS_mono (wpS_any h₁) (fun _ s₂ h₂ => wpS_bind (wpS_mono h₂ (fun f s₃ h₃ => ?_) fun _ _ h' => h')) fun _ _ h' => h')
      cases f with
      | next => obtain ⟨m, hm, hI⟩ := h₃; exact wpS_pure ⟨rfl, rfl, ih m hm hI⟩
      | cont => obtain ⟨m, hm, hI⟩ := h₃; exact wpS_pure ⟨rfl, rfl, ih m hm hI⟩
      | brk => exact wpS_pure h₃
      | ret v => exact wpS_pure h₃
end

/-- what a turn of a loop must leave behind -/
def TurnEnd {σ : Type} (s : Shared) (h₀ : Heap) (L : Addr) (x : Str) (I : Addr) (it : Obj) (Inv : σ → Prop) (mp : σ → Str → Option Value) (led : σ → List (Addr × Obj)) (Q : Flow → Shared → Prop) (f : Flow) (s' : Shared) : Prop :=
  match f with
  | .ret v => Q (.ret v) s'
  | .brk => Q .next s'
  | _ => ∃ c m' h' tk, s' = { s with heap := h', toks := tk } ∧ Inv c ∧ Fr h₀ L h' m' ∧ News h₀ L h' ((I, it) :: led c) ∧ (∀ p ∈ led c, p.1 ≠ I) ∧ ∀ z, z ≠ x → m' z = mp c z
theorem TurnEnd.next {σ : Type} {s : Shared} {h₀ : Heap} {L : Addr} {x : Str} {I : Addr} {it : Obj} {Inv : σ → Prop} {mp : σ → Str → Option Value} {led : σ → List (Addr × Obj)} {Q : Flow → Shared → Prop} {h' : Heap} {tk : Nat} {m' : Str → Option Value}
    (c : σ) (F : Fr h₀ L h' m') (N : News h₀ L h' ((I, it) :: led c)) (hI : ∀ p ∈ led c, p.1 ≠ I) (hm : ∀ z, z ≠ x → m' z = mp c z) (hc : Inv c) : TurnEnd s h₀ L x I it Inv mp led Q .next { s with heap := h', toks := tk } :=
  ⟨c, m', h', tk, rfl, hc, F, N, hI, hm⟩

section
variable {prog : Program} {w : World} {A : Around} {E : Value → Shared → Prop} {s : Shared} {env : Env} {h₀ : Heap} {x : Str} {px : Pos} {body : List Stmt} {Q : Flow → Shared → Prop}
theorem forRangeS {σ : Type} {r : Addr} {a₀ b₀ c : Int} {t₀ u₀ v₀ : Tok} {n : Nat} {m₀ : Str → Option Value} (hh : A.handled = none) (hr : IsRange s.heap r a₀ b₀ c t₀ u₀ v₀) (hsmall : Builtin.Range.small a₀ b₀ c = true) (hn : Builtin.Range.rangeSize a₀ b₀ c = (n : Int))
    (hx : env.kindOf x = some .local) (hp : (env.scope.kind == .class || (env.scope.kind == .module && env.locals != env.globals)) = false)
    (Inv : Nat → σ → Prop) (mp : σ → Str → Option Value) (led : σ → List (Addr × Obj)) (c₀ : σ) (F : Fr h₀ env.locals s.heap m₀) (N : News h₀ env.locals s.heap (led c₀)) (hm : ∀ z, z ≠ x → m₀ z = mp c₀ z) (h0 : Inv 0 c₀)
    (turn : ∀ i k I it t h tk, i < n → Inv i k → (∀ p ∈ led k, p.1 ≠ I) → Fr h₀ env.locals h (fun y => if y = x then some (.int (a₀ + (i : Int) * c) t) else mp k y) → News h₀ env.locals h ((I, it) :: led k) →
      wpS (model prog w) A (execs body env) (TurnEnd { s with heap := h, toks := tk } h₀ env.locals x I it (Inv (i + 1)) mp led Q) (fun _ _ => False) { s with heap := h, toks := tk })
    (done : ∀ k m' h tk, Inv n k → Fr h₀ env.locals h m' → (∀ z, z ≠ x → m' z = mp k z) → News h₀ env.locals h (led k) → Q .next { s with heap := h, toks := tk }) :
    wpAny (model prog w) A (pyIter (.ref r)) (fun it s₂ => codeS (model prog w) A (.forLoop (.Name x px) it body [] env) (fun r s' => match r with | .ok f => Q f s' | .error _ => False) s₂) E s := by
  refine wpAny_pyIter_range hr hsmall ?_
  rw [hn]
  have W := Walks.range (prog := prog) (w := w) hh s.heap.objs.size a₀ c n
  have hnew : h₀.get? s.heap.objs.size = none := next_is_new F
  have hLI : env.locals ≠ s.heap.objs.size := Nat.ne_of_lt F.ns.lt
  refine codeS_forLoop (R := fun r s' => match r with | .ok f => Q f s' | .error _ => False)
    (fun k s' => ∃ h' tk m' d i, s' = { s with heap := h', toks := tk } ∧ IsRangeIter h' s.heap.objs.size (a₀ + (i : Nat) * c) ((n : Int) - (i : Nat)) c ∧ Fr h₀ env.locals h' m' ∧ News h₀ env.locals h' (led d) ∧ (∀ p ∈ led d, p.1 ≠ s.heap.objs.size) ∧ (∀ z, z ≠ x → m' z = mp d z) ∧ Inv i d ∧ i ≤ n ∧ k = n + 1 - i) ?_ (n + 1) ?_
  · rintro k s' ⟨h', tk, m', d, i, rfl, hst, F', N', hoff, hm', hI, hi, rfl⟩
    have next : ∀ h₁ : Heap, (∀ b o, b ∉ [s.heap.objs.size] → h'.get? b = some o → h₁.get? b = some o) → Fr h₀ env.locals h₁ m' ∧ News h₀ env.locals h₁ (led d) := fun h₁ hk₁ =>
      ⟨⟨F'.ns.at' fun o e => hk₁ _ o (fun q => hLI (List.mem_singleton.mp q)) e, fun b o e => hk₁ b o (fun q => by rw [List.mem_singleton.mp q, hnew] at e; cases e) (F'.keep b o e), F'.above⟩,
       fun p hp => ⟨hk₁ _ _ (fun q => hoff p hp (List.mem_singleton.mp q)) (N' p hp).1, (N' p hp).2⟩⟩
    by_cases hlt : i < n
    · refine W.item i _ _ _ hlt hst fun v h₁ tk₁ hP hst₁ hk₁ => ?_
      obtain ⟨F₁, N₁⟩ := next h₁ hk₁
      obtain ⟨t, rfl⟩ := hP
      refine wpAny_assign_Name (wpAny_storeName_local hx F₁.ns (fun h₂ hn₂ hs₂ => ?_) hp)
      have F₂ := F₁.set hn₂ hs₂
      have e : (fun y => if y = x then some (Value.int (a₀ + (i : Int) * c) t) else m' y) = fun y => if y = x then some (Value.int (a₀ + (i : Int) * c) t) else mp d y := by
        funext y; by_cases h : y = x
        · rw [if_pos h, if_pos h]
        · rw [if_neg h, if_neg h, hm' y h]
      rw [e] at F₂
      have hit : h₂.get? s.heap.objs.size = some { cls := .type "range_iterator", data := .fields #[rawInt (a₀ + ((i + 1 : Nat) : Int) * c), rawInt ((n : Int) - ((i + 1 : Nat) : Int)), rawInt c] } :=
        (hs₂.2 _ (Ne.symm hLI)).trans hst₁
      have N₂ : News h₀ env.locals h₂ ((s.heap.objs.size, { cls := .type "range_iterator", data := .fields #[rawInt (a₀ + ((i + 1 : Nat) : Int) * c), rawInt ((n : Int) - ((i + 1 : Nat) : Int)), rawInt c] }) :: led d) := fun p hp => by
        rcases List.mem_cons.mp hp with rfl | hp
        · exact ⟨hit, Ne.symm hLI, hnew⟩
        · exact (N₁.set hs₂) p hp
      refine wpS_mono (turn i d s.heap.objs.size _ t h₂ _ hlt hI hoff F₂ N₂) (fun f s₃ h₃ => ?_) fun _ _ e => e
      have fin : (∃ c' m'' h'' tk'', s₃ = { s with heap := h'', toks := tk'' } ∧ Inv (i + 1) c' ∧ Fr h₀ env.locals h'' m'' ∧ News h₀ env.locals h'' ((s.heap.objs.size, { cls := .type "range_iterator", data := .fields #[rawInt (a₀ + ((i + 1 : Nat) : Int) * c), rawInt ((n : Int) - ((i + 1 : Nat) : Int)), rawInt c] }) :: led c') ∧ (∀ p ∈ led c', p.1 ≠ s.heap.objs.size) ∧ ∀ z, z ≠ x → m'' z = mp c' z) →
          ∃ m, m < n + 1 - i ∧ ∃ h' tk m' d i, s₃ = { s with heap := h', toks := tk } ∧ IsRangeIter h' s.heap.objs.size (a₀ + (i : Nat) * c) ((n : Int) - (i : Nat)) c ∧ Fr h₀ env.locals h' m' ∧ News h₀ env.locals h' (led d) ∧ (∀ p ∈ led d, p.1 ≠ s.heap.objs.size) ∧ (∀ z, z ≠ x → m' z = mp d z) ∧ Inv i d ∧ i ≤ n ∧ m = n + 1 - i := by
        rintro ⟨c', m'', h'', tk'', e, hc', F₃, N₃, ho, hz⟩
        exact ⟨n + 1 - (i + 1), by omega, h'', tk'', m'', c', i + 1, e, (N₃ _ (List.mem_cons_self ..)).1, F₃, fun p hp => N₃ p (List.mem_cons_of_mem _ hp), ho, hz, hc', hlt, rfl⟩
      cases f with
      | ret v => exact h₃
      | brk => exact h₃
      | next => exact fin h₃
      | cont => exact fin h₃
    · have hin : i = n := by omega
      subst hin
      refine W.done _ _ _ hst fun h₁ tk₁ hk₁ => ?_
      obtain ⟨F₁, N₁⟩ := next h₁ hk₁
      exact done d m' h₁ tk₁ hI F₁ hm' N₁
  · refine ⟨_, s.toks, m₀, c₀, 0, rfl, ?_, F.push _, fun p hp => ⟨Heap.get?_push_of_some _ (N p hp).1, (N p hp).2⟩, fun p hp => Nat.ne_of_lt (Heap.lt_size (N p hp).1), hm, h0, Nat.zero_le _, rfl⟩
    show IsRangeIter _ _ _ _ _
    simpa using Heap.get?_push_size _ rfl
end

/-- what a turn of a while must leave behind -/
def WhileEnd {σ : Type} (s : Shared) (h₀ : Heap) (L : Addr) (Inv : σ → Prop) (meas : σ → Nat) (k : Nat) (mp : σ → Str → Option Value) (led : σ → List (Addr × Obj)) (Q : Flow → Shared → Prop) (f : Flow) (s' : Shared) : Prop :=
  match f with
  | .ret v => Q (.ret v) s'
  | .brk => Q .next s'
  | _ => ∃ c m' h' tk, s' = { s with heap := h', toks := tk } ∧ Inv c ∧ meas c < k ∧ Fr h₀ L h' m' ∧ News h₀ L h' (led c) ∧ ∀ z, m' z = mp c z
theorem WhileEnd.next {σ : Type} {s : Shared} {h₀ : Heap} {L : Addr} {Inv : σ → Prop} {meas : σ → Nat} {k : Nat} {mp : σ → Str → Option Value} {led : σ → List (Addr × Obj)} {Q : Flow → Shared → Prop} {h' : Heap} {tk : Nat} {m' : Str → Option Value}
    (c : σ) (F : Fr h₀ L h' m') (N : News h₀ L h' (led c)) (hm : ∀ z, m' z = mp c z) (hc : Inv c) (hk : meas c < k) : WhileEnd s h₀ L Inv meas k mp led Q .next { s with heap := h', toks := tk } :=
  ⟨c, m', h', tk, rfl, hc, hk, F, N, hm⟩
theorem whileS {σ : Type} {prog : Program} {w : World} {A : Around} {s : Shared} {env : Env} {h₀ : Heap} {test : Expr} {body : List Stmt} {Q : Flow → Shared → Prop} {m₀ : Str → Option Value}
    (Inv : σ → Prop) (meas : σ → Nat) (mp : σ → Str → Option Value) (led : σ → List (Addr × Obj)) (c₀ : σ) (F : Fr h₀ env.locals s.heap m₀) (N : News h₀ env.locals s.heap (led c₀)) (hm : ∀ z, m₀ z = mp c₀ z) (h0 : Inv c₀)
    (turn : ∀ c h tk, Inv c → Fr h₀ env.locals h (mp c) → News h₀ env.locals h (led c) →
      wpS (model prog w) A (isTrue test env (eval test env)) (fun b s₂ => if b then wpS (model prog w) A (execs body env) (WhileEnd s h₀ env.locals Inv meas (meas c) mp led Q) (fun _ _ => False) s₂ else Q .next s₂) (fun _ _ => False) { s with heap := h, toks := tk }) :
    codeS (model prog w) A (.whileLoop test body [] env) (fun r s' => match r with | .ok f => Q f s' | .error _ => False) s := by
  refine codeS_whileLoop (R := fun r s' => match r with | .ok f => Q f s' | .error _ => False)
    (fun k s' => ∃ c m' h' tk, s' = { s with heap := h', toks := tk } ∧ Inv c ∧ k = meas c ∧ Fr h₀ env.locals h' m' ∧ News h₀ env.locals h' (led c) ∧ ∀ z, m' z = mp c z) ?_ (meas c₀) ⟨c₀, m₀, s.heap, s.toks, rfl, h0, rfl, F, N, hm⟩
  rintro k s' ⟨c, m', h', tk, rfl, hc, rfl, F', N', hm'⟩
  have e : m' = mp c := funext hm'
  subst e
  refine wpS_mono (turn c h' tk hc F' N') (fun b s₂ h₂ => ?_) fun _ _ x => x
  cases b with
  | false => exact h₂
  | true =>
    refine wpS_mono h₂ (fun f s₃ h₃ => ?_) fun _ _ x => x
    have fin : (∃ c' m' h' tk, s₃ = { s with heap := h', toks := tk } ∧ Inv c' ∧ meas c' < meas c ∧ Fr h₀ env.locals h' m' ∧ News h₀ env.locals h' (led c') ∧ ∀ z, m' z = mp c' z) →
        ∃ k, k < meas c ∧ ∃ c m' h' tk, s₃ = { s with heap := h', toks := tk } ∧ Inv c ∧ k = meas c ∧ Fr h₀ env.locals h' m' ∧ News h₀ env.locals h' (led c) ∧ ∀ z, m' z = mp c z := by
      rintro ⟨c', m'', h'', tk'', e, a, b, d, f, g⟩
      exact ⟨meas c', b, c', m'', h'', tk'', e, a, rfl, d, f, g⟩
    cases f with
    | ret v => exact h₃
    | brk => exact h₃
    | next => exact fin h₃
    | cont => exact fin h₃

/-- several ways of one tree meet again -/
def CutEnd {α : Type} (s : Shared) (P : α → Heap → Prop) (v : α) (s' : Shared) : Prop := ∃ h' tk', s' = { s with heap := h', toks := tk' } ∧ P v h'
theorem CutEnd.mk {α : Type} {s : Shared} {P : α → Heap → Prop} {v : α} {h' : Heap} {tk : Nat} (p : P v h') : CutEnd s P v { s with heap := h', toks := tk } := ⟨h', tk, rfl, p⟩
theorem wpS_cut {α : Type} {M : Model} {A : Around} {t : Sem α} {Q : α → Shared → Prop} {E : Value → Shared → Prop} {s : Shared} (P : α → Heap → Prop)
    (h1 : wpAny M A t (CutEnd s P) (fun _ _ => False) s) (h2 : ∀ v h' tk', P v h' → Q v { s with heap := h', toks := tk' }) : wpS M A t Q E s :=
  wpS_mono (wpS_any h1) (fun v s' ⟨h', tk', e, p⟩ => e ▸ h2 v h' tk' p) fun _ _ x => x.elim

theorem wpS_tk {α : Type} {M : Model} {A : Around} {t : Sem α} {Q : α → Shared → Prop} {E : Value → Shared → Prop} {s : Shared} {h' : Heap} {tk₀ : Nat}
    (gen : ∀ tk, wpS M A t Q E { s with heap := h', toks := tk }) : wpS M A t Q E { s with heap := h', toks := tk₀ } := gen _

end Mine
set_option maxRecDepth 100000
set_option Elab.async false
open PySem PySem.W PySem.Calls PyProof.Rows
namespace Mine

/-! ## bytearray(n), b[k] = v, bytes(b) -/
namespace Fa
theorem mro : mroOf (.type "bytearray") = pure [.type "bytearray", .type "object"] := by rw [mroOf_type]; kernel_rfl
theorem lookup_new : typeLookup (.type "bytearray") "__new__" = pure (some (.builtin "bytearray.__new__")) := by rw [typeLookup_type, builtinLookup_eq_fast]; kernel_rfl
theorem slot_init : Slot "bytearray" "__init__" "bytearray.__init__" :=
  .of (owner := "bytearray") (n := "__init__") (by rw [typeLookup_type, builtinLookup_eq_fast]; kernel_rfl) (by decide +kernel) (by decide +kernel) (by decide +kernel)
    (by first | exact .inl (by decide +kernel) | exact .inr (by decide +kernel)) (by rw [isSubtype_type]; kernel_rfl)
theorem made : Bind.madeBy (.type "bytearray") = pure (some "bytearray.__new__") := madeBy_type mro lookup_new (by decide +kernel)
theorem sub : isSubtype (.type "bytearray") (.type "bytearray") = pure true := by rw [isSubtype_type]; kernel_rfl
theorem called : TypeCalled "bytearray" "bytearray.__new__" "bytearray.__init__" :=
  ⟨by decide +kernel, by decide +kernel, ⟨_, _, mro⟩, made, by decide +kernel, sub, slot_init⟩
theorem typeCall (a : Value) : checkTypeCall "bytearray" ⟨[a], []⟩ = pure () := by kernel_rfl
theorem newCall (a : Value) : checkBuiltinCall "bytearray.__new__" ⟨[.type "bytearray", a], []⟩ = pure () := by kernel_rfl
theorem entry_new : entryFor table "bytearray.__new__" = some Builtin.«list.__new__» :=
  entryFor_alias (id' := "list.__new__") (by kernel_rfl) (by first | rfl | decide +kernel) (by decide +kernel) (by kernel_rfl)
theorem entry_init : entryFor table "bytearray.__init__" = some Builtin.«bytearray.__init__» := by first | exact entryFor_of_fast (by kernel_rfl) | exact entryFor_of_tree (by kernel_rfl)
theorem plain_new : plainId "bytearray.__new__" = true := by decide +kernel
theorem plain_init : plainId "bytearray.__init__" = true := by decide +kernel
theorem lookup_release : typeLookup (.type "bytearray") "__release_buffer__" = pure (some (.builtin "bytearray.__release_buffer__")) := by rw [typeLookup_type, builtinLookup_eq_fast]; kernel_rfl
theorem lookup_buffer : typeLookup (.type "bytearray") "__buffer__" = pure (some (.builtin "bytearray.__buffer__")) := by rw [typeLookup_type, builtinLookup_eq_fast]; kernel_rfl
theorem bind1 (v : Value) : Builtin.Bytes.bindOptional "bytearray.__init__" "bytearray" ["source", "encoding", "errors"] [v] [] = pure [some v, none, none] := by kernel_rfl
theorem noBytes : typeLookup (.type "bytearray") "__bytes__" = pure none := by rw [typeLookup_type, builtinLookup_eq_fast]; kernel_rfl
theorem noIndex : typeLookup (.type "bytearray") "__index__" = pure none := by rw [typeLookup_type, builtinLookup_eq_fast]; kernel_rfl
theorem int_index : typeLookup (.type "int") "__index__" = pure (some (.builtin "int.__index__")) := by rw [typeLookup_type, builtinLookup_eq_fast]; kernel_rfl
theorem slot_setitem : Slot "bytearray" "__setitem__" "bytearray.__setitem__" :=
  .of (owner := "bytearray") (n := "__setitem__") (by rw [typeLookup_type, builtinLookup_eq_fast]; kernel_rfl) (by decide +kernel) (by decide +kernel) (by decide +kernel)
    (by first | exact .inl (by decide +kernel) | exact .inr (by decide +kernel)) (by rw [isSubtype_type]; kernel_rfl)
theorem entry_setitem : entryFor table "bytearray.__setitem__" = some Builtin.«bytearray.__setitem__» := by first | exact entryFor_of_fast (by kernel_rfl) | exact entryFor_of_tree (by kernel_rfl)
end Fa
set_option maxRecDepth 1000000 in
set_option maxHeartbeats 4000000 in
theorem owner_new : ("bytearray.__new__".splitOn ".__new__").headD "" = "bytearray" := by simp +decide [String.splitOn, String.splitOnAux]
theorem ends_release : "bytearray.__release_buffer__".endsWith ("." ++ "__release_buffer__") = true := by decide +kernel
theorem ends_buffer : "bytearray.__buffer__".endsWith ("." ++ "__buffer__") = true := by decide +kernel
theorem drop_release : "bytearray.__release_buffer__".dropRight ("__release_buffer__".length + 1) = "bytearray" := by decide +kernel
theorem drop_buffer : "bytearray.__buffer__".dropRight ("__buffer__".length + 1) = "bytearray" := by decide +kernel

def baObj (b : Array UInt8) : Obj := { cls := .type "bytearray", data := .bytearray b }

section
variable {prog : Program} {w : World} {A : Around} {E : Value → Shared → Prop} {s : Shared}
theorem typeIs_int (n : Int) (t : Tok) : s.TypeIs (.int n t) "int" := rfl
theorem typeIs_ba {a : Addr} {b : Array UInt8} (h : s.heap.get? a = some (baObj b)) : s.TypeIs (.ref a) "bytearray" := ⟨_, h, rfl⟩

theorem code_ba_new (a : Value) {Q₁ : Value → Shared → Prop}
    (h : Q₁ (.ref s.heap.objs.size) { s with heap := s.heap.push (baObj #[]) }) :
    codeAny (model prog w) A (.call (.builtin "bytearray.__new__") ⟨[.type "bytearray", a], []⟩) (wants Q₁ E) s := by
  refine codeAny_of_tree ?_
  show wpAny _ A.in1 (do checkBuiltinCall "bytearray.__new__" ⟨[.type "bytearray", a], []⟩; again (.builtin "bytearray.__new__" ⟨[.type "bytearray", a], []⟩)) _ _ s
  refine wpAny_bind (wpAny_of_eq (Fa.newCall a) (wpAny_pure ⟨plainId_quiet Fa.plain_new _, codeAny_builtin_stack Fa.entry_new rfl fun p st => ?_⟩))
  rw [Around.under_plainId Fa.plain_new _]
  have hsub := Fa.sub
  have hown := owner_new
  obtain ⟨hp, g, d, tk, os⟩ := s
  simp only [hown]
  wp_walk
  exact h

theorem slotOwn_release {a : Addr} {b : Array UInt8} {Q : Bool → Shared → Prop} (ho : s.heap.get? a = some (baObj b)) (h : Q false s) : wpAny (model prog w) A (Builtin.Bytes.ownRelease (.ref a)) Q E s := by
  unfold Builtin.Bytes.ownRelease Builtin.Bytes.slotIsOwn
  refine wpAny_bind (wpAny_bind (wpAny_specialOf (typeIs_ba ho) Fa.lookup_release ?_))
  dsimp only
  rw [ends_release, drop_release]
  simp only [Bool.not_true, Bool.false_eq_true, if_false]
  exact wpAny_isInstance (typeIs_ba ho) Fa.sub (wpAny_pure h)

theorem wpS_stackAny {M : Model} {f : Code × Pos → Bool} {Q : Bool → Shared → Prop} (hf : ∀ c q, calmCode c = true → f (c, q) = false) (h : Q false s) : wpS M A (do return (← stack).any f) Q E s := fun Γ p hΓ hc => by
  show Q (((Γ.code, p) :: Γ.below).any f) s
  have e : ((Γ.code, p) :: Γ.below).any f = false := by
    rw [List.any_eq_false]
    intro x hx
    rw [Bool.not_eq_true]
    rcases List.mem_cons.mp hx with rfl | hx
    · exact hf _ _ hc.1
    · obtain ⟨c, q⟩ := x
      exact hf c q (hc.2 _ hx)
  rw [e]; exact h
theorem calm_bad {id : String} {args : Args} (h : calmCode (.builtin id args) = true) : badIds.contains id = false := by
  simpa only [calmCode, Bool.not_eq_true'] using h
theorem exported_calm {a : Addr} {Q : Bool → Shared → Prop} (h : Q false s) : wpS (model prog w) A (Builtin.Bytes.exported (.ref a)) Q E s := by
  unfold Builtin.Bytes.exported
  refine wpS_stackAny (fun c q hq => ?_) h
  split
  · rename_i e; cases e; exact absurd (calm_bad hq) (by decide +kernel)
  · rename_i e; cases e; exact absurd (calm_bad hq) (by decide +kernel)
  · rename_i e; cases e; exact absurd (calm_bad hq) (by decide +kernel)
  · rename_i e; cases e; exact absurd (calm_bad hq) (by decide +kernel)
  · rename_i e; cases e; exact absurd (calm_bad hq) (by decide +kernel)
  · rename_i e; cases e
    have h1 := calm_bad hq
    simp only [badIds, List.contains_append, Bool.or_eq_false_iff] at h1
    rw [h1.1, Bool.and_false]
  · rfl

theorem sif_false {α : Type} {M : Model} {c : Bool} {a b : Sem α} {Q : α → Shared → Prop} (hc : c = false) (h : wpS M A b Q E s) : wpS M A (if c = true then a else b) Q E s := by
  subst hc
  exact h
theorem sif_true {α : Type} {M : Model} {c : Bool} {a b : Sem α} {Q : α → Shared → Prop} (hc : c = true) (h : wpS M A a Q E s) : wpS M A (if c = true then a else b) Q E s := by
  subst hc
  exact h
theorem ba_write {a : Addr} {b : Array UInt8} {f : Array UInt8 → Array UInt8} {Q : Unit → Shared → Prop} (ho : s.heap.get? a = some (baObj b)) (hz : (f b).size ≤ sizeLine)
    (h : Q () { s with heap := s.heap.update a (Obj.mapBytearray f) }) : wpAny (model prog w) A (Builtin.Bytes.write (.ref a) f) Q E s := by
  show wpAny _ _ (updateBytearray a f) _ _ _
  unfold updateBytearray
  refine wpAny_bind (wpAny_load ho ?_)
  show wpAny _ _ (update a (Obj.mapBytearray f) >>= fun _ => lookBehind a) _ _ _
  refine wpAny_bind (wpAny_update ho ?_)
  have h2 : (s.heap.update a (Obj.mapBytearray f)).get? a = some (baObj (f b)) := Heap.get?_update_self (Obj.mapBytearray f) ho rfl
  refine wpAny_lookBehind h2 ?_ h
  show (if (f b).size > sizeLine then some "bytearray:memory" else none) = none
  rw [if_neg (Nat.not_lt.mpr hz)]
set_option maxHeartbeats 2000000 in
theorem ba_init {a : Addr} {n : Int} {t : Tok} {Q : Fin → Shared → Prop} (ho : s.heap.get? a = some (baObj #[])) (h0 : 0 ≤ n) (hz : n.toNat ≤ sizeLine)
    (h : ∀ h', h'.get? a = some (baObj (Array.replicate n.toNat 0)) → (∀ b o, b ≠ a → s.heap.get? b = some o → h'.get? b = some o) → ∀ tk, Q (.done (.ret .none)) { s with heap := h', toks := tk }) :
    wpS (model prog w) A (Builtin.«bytearray.__init__» ⟨[.ref a, .int n t], []⟩) Q E s := by
  unfold Builtin.«bytearray.__init__»
  dsimp only
  refine wpS_bind (wpS_any (slotOwn_release ho ?_))
  refine sif_false rfl ?_
  refine wpS_bind (wpS_any (wpAny_of_eq (Fa.bind1 _) ?_))
  dsimp only
  refine wpS_bind (wpS_any (wpAny_of_eq (a := ()) rfl ?_))
  refine wpS_bind (wpS_any (wpAny_of_eq (a := ()) rfl ?_))
  refine wpS_bind ?_
  refine wpS_bind (exported_calm ?_)
  show wpS _ _ (do return decide ((← Builtin.Bytes.exportsOf (.ref a)) > 0)) _ _ _
  refine wpS_any ?_
  refine wpAny_bind ?_
  unfold Builtin.Bytes.exportsOf
  refine wpAny_bind (wpAny_load ho (wpAny_pure (wpAny_pure ?_)))
  refine sif_false rfl (wpS_any ?_)
  have hl₁ : (s.heap.update a (Obj.mapBytearray fun _ => #[])).get? a = some (baObj #[]) := Heap.get?_update_self (Obj.mapBytearray fun _ => #[]) ho rfl
  refine wpAny_bind (ba_write ho (Nat.zero_le _) ?_)
  refine wpAny_bind (wpAny_of_eq (a := none) rfl ?_)
  refine bm_if_false rfl ?_
  refine wpAny_bind (wpAny_of_eq (a := ()) rfl ?_)
  refine wpAny_bind (wpAny_specialOf (typeIs_int _ _) Fa.int_index ?_)
  refine bm_if_true rfl ?_
  refine wpAny_bind (wpAny_attempt (wpAny_of_eq (a := n) rfl ?_))
  dsimp only
  have hb : n.toNat ≤ 16777216 := hz
  refine bm_if_false (by unfold Builtin.Bytes.fitsIndex; simp only [Bool.not_eq_false', Bool.and_eq_true, decide_eq_true_eq]; omega) ?_
  rw [if_neg (by omega)]
  refine bm_if_false (by rw [beq_eq_false_iff_ne]; omega) ?_
  refine bm_if_false (by unfold Builtin.Bytes.tooLong; rw [decide_eq_false_iff_not]; exact Nat.not_lt.mpr hz) ?_
  refine wpAny_bind (wpAny_rule ?_)
  split
  · refine wpAny_bind (ba_write hl₁ (by rw [Array.size_replicate]; exact hz) ?_)
    have hl₂ : ((s.heap.update a (Obj.mapBytearray fun _ => #[])).update a (Obj.mapBytearray fun _ => Array.replicate n.toNat 0)).get? a = some (baObj (Array.replicate n.toNat 0)) := Heap.get?_update_self (Obj.mapBytearray fun _ => Array.replicate n.toNat 0) hl₁ rfl
    exact wpAny_pure (h _ hl₂ (fun b o hb e => ((Heap.get?_update_ne _ _ _ _ hb).trans (Heap.get?_update_ne _ _ _ _ hb)).trans e) _)
  · have hn : n = 0 := by omega
    subst hn
    exact wpAny_pure (h _ hl₁ (fun b o hb e => (Heap.get?_update_ne _ _ _ _ hb).trans e) _)

theorem codeS_builtin {id : String} {args : Args} {b : Builtin} {R : Result → Shared → Prop} (hb : entryFor table id = some b)
    (h : wpS (model prog w) (A.under (.builtin id args)) (b args)
      (fun fin s' => match fin with | .done f => R (.ok f) s' | .again c' => c'.quiet = true ∧ calmCode c' = true ∧ codeS (model prog w) A c' R s') (fun e s' => R (.error e) s') s) :
    codeS (model prog w) A (.builtin id args) R s := by
  refine codeS_of_tree ?_
  show wpS _ _ (match entryFor table id with | some b => b args | none => unsupported ((withoutEnding? id "#data").getD id)) _ _ s
  rw [hb]; exact h
theorem calm_of {id : String} {args : Args} (h : badIds.contains id = false) : calmCode (.builtin id args) = true := by
  simp only [calmCode, h, Bool.not_false]
set_option maxHeartbeats 2000000 in
theorem call_bytearray {n : Int} {t : Tok} {Q : Value → Shared → Prop} (h0 : 0 ≤ n) (hz : n.toNat ≤ sizeLine)
    (h : ∀ h', h'.get? s.heap.objs.size = some (baObj (Array.replicate n.toNat 0)) → (∀ b o, s.heap.get? b = some o → h'.get? b = some o) → ∀ tk, Q (.ref s.heap.objs.size) { s with heap := h', toks := tk }) :
    wpS (model prog w) A (call (.type "bytearray") [.int n t]) Q E s := by
  refine wpS_call (codeS_of_tree ?_)
  show wpS _ _ (callAny (.type "bytearray") _) _ _ _
  refine wpS_pure ⟨Code.quiet_builtin _ (by decide +kernel), calm_of (by decide +kernel), codeS_builtin F.entry_type_call ?_⟩
  rw [Around.under_plain (weight_type_call_type "bytearray" [.int n t] []) rfl]
  unfold Builtin.«type.__call__»
  dsimp only
  refine sif_false (by decide) ?_
  refine sif_false Fa.called.canCreate ?_
  refine wpS_bind (wpS_any (wpAny_of_eq (Fa.typeCall _) ?_))
  refine wpS_bind (wpS_any (wpAny_of_eq Fa.mro ?_))
  refine sif_false rfl ?_
  refine wpS_bind (wpS_any (wpAny_of_eq Fa.made ?_))
  dsimp only
  refine wpS_bind (wpS_pure ?_)
  refine wpS_bind (wpS_holding ?_)
  refine wpS_any (wpAny_call (codeAny_mono (code_ba_new (E := fun _ _ => False) (.int n t) (Q₁ := fun v s₁ => v = .ref s.heap.objs.size ∧ s₁ = { s with heap := s.heap.push (baObj #[]) }) ⟨rfl, rfl⟩) fun r s₁ hr => ?_))
  cases r with
  | error e => exact hr.elim
  | ok fl =>
    cases fl with
    | ret obj =>
      obtain ⟨rfl, rfl⟩ := hr
      have ho : (s.heap.push (baObj #[])).get? s.heap.objs.size = some (baObj #[]) := Heap.get?_push_size _ rfl
      have hT : ({ s with heap := s.heap.push (baObj #[]) } : Shared).TypeIs (.ref s.heap.objs.size) "bytearray" := ⟨_, ho, rfl⟩
      dsimp only
      refine wpS_bind (wpS_any (wpAny_isInstance hT Fa.sub ?_))
      refine sif_false rfl ?_
      refine wpS_bind (wpS_holding ?_)
      unfold callSpecial?
      refine wpS_bind (wpS_any (wpAny_specialOf hT Fa.slot_init.lookup ?_))
      dsimp only
      refine wpS_holding (wpS_bind (wpS_any (wpAny_of_eq (Fa.slot_init.bind _) ?_)))
      dsimp only
      refine wpS_bind (wpS_call (codeS_of_tree ?_))
      show wpS _ _ (do checkBuiltinCall "bytearray.__init__" ⟨[.ref s.heap.objs.size, .int n t], []⟩; again (.builtin "bytearray.__init__" ⟨[.ref s.heap.objs.size, .int n t], []⟩)) _ _ _
      refine wpS_bind (wpS_any (Fa.slot_init.check _ _ _ _ _ _ _ _ hT (by unfold argsOk; kernel_rfl) ?_))
      refine wpS_pure ⟨plainId_quiet Fa.plain_init _, calm_of (by decide +kernel), codeS_builtin Fa.entry_init ?_⟩
      refine ba_init ho h0 hz fun h' h1 h2 tk => ?_
      dsimp only
      refine wpS_pure ?_
      dsimp only
      refine sif_false (by decide) ?_
      exact wpS_pure (h h' h1 (fun b o e => h2 b o (Nat.ne_of_lt (Heap.lt_size e)) (Heap.get?_push_of_some _ e)) tk)
    | _ => exact hr.elim

theorem ba_setItem {a : Addr} {b : Array UInt8} {k v : Int} {t u : Tok} {Q : Unit → Shared → Prop} (ho : s.heap.get? a = some (baObj b)) (h0 : 0 ≤ k) (hk : k.toNat < b.size) (hz : b.size ≤ sizeLine) (hv : 0 ≤ v) (hv' : v < 256)
    (h : Q () { s with heap := s.heap.update a (Obj.mapBytearray (·.setIfInBounds k.toNat v.toNat.toUInt8)) }) :
    wpAny (model prog w) A (setItem (.ref a) (.int k t) (.int v u)) Q E s := by
  have hT := typeIs_ba ho
  have hb : b.size ≤ 16777216 := hz
  unfold setItem
  try with_reducible refine wpAny_holding ?_
  first | refine wpAny_bind (wpAny_pure ?_) | skip
  refine wpAny_bind (wpAny_sequenceKey hT (by decide) ?_)
  refine wpAny_bind (wpAny_callSpecial?_slot (name := Str.ofString "__setitem__") hT Fa.slot_setitem
    (wpAny_call_entry Fa.slot_setitem hT Fa.entry_setitem ?_ (by unfold argsOk; kernel_rfl)))
  unfold Builtin.«bytearray.__setitem__»
  dsimp only
  refine bm_if_false rfl ?_
  unfold Builtin.Bytes.subscript?
  refine wpAny_bind (wpAny_bind (wpAny_specialOf (typeIs_int _ _) Fa.int_index ?_))
  refine bm_if_false rfl ?_
  refine wpAny_bind (wpAny_of_eq (a := k) rfl ?_)
  refine bm_if_false (by unfold Builtin.Bytes.fitsIndex; simp only [Bool.not_eq_false', Bool.and_eq_true, decide_eq_true_eq]; omega) ?_
  refine wpAny_pure ?_
  dsimp only
  unfold Builtin.Bytes.byteValue
  refine wpAny_bind (wpAny_bind (wpAny_of_eq (a := v) rfl ?_))
  refine bm_if_false (by simp only [Bool.or_eq_false_iff, decide_eq_false_iff_not]; omega) ?_
  refine wpAny_pure ?_
  unfold Builtin.Bytes.payload Builtin.Bytes.payload?
  refine wpAny_bind (wpAny_bind (wpAny_bind (wpAny_load ho (wpAny_pure (wpAny_pure ?_)))))
  have e : seqIndex? k b.size = some k.toNat := by
    unfold seqIndex?
    have hk' : (k.toNat : Int) < b.size := Int.ofNat_lt.mpr hk
    have e1 : (if k < 0 then k + (b.size : Int) else k) = k := if_neg (by omega)
    simp only [e1]
    rw [if_pos]
    simp only [Bool.and_eq_true, decide_eq_true_eq]
    omega
  rw [e]
  dsimp only
  refine wpAny_bind (ba_write ho (by rw [Array.size_setIfInBounds]; exact hz) ?_)
  first
    | exact wpAny_pure ⟨.none, rfl, wpAny_pure h⟩
    | exact wpAny_bind (wpAny_pure (wpAny_pure ⟨.none, rfl, wpAny_pure h⟩))
theorem ba_bytes {a : Addr} {b : Array UInt8} {Q : Value → Shared → Prop} (ho : s.heap.get? a = some (baObj b)) (hz : b.size ≤ sizeLine)
    (h : ∀ t k, Q (.bytes b t) { s with toks := k }) : wpAny (model prog w) A (call (.type "bytes") [.ref a]) Q E s := by
  have hT := typeIs_ba ho
  refine callType_codes (Q₁ := fun obj s₁ => s₁.TypeIs obj "bytes" ∧ Q obj s₁) F.bm_called (F.bm_typeCall _) F.entry_object_init ?_ fun obj s₁ h₁ => ?_
  · refine codeAny_of_tree ?_
    show wpAny _ _ (do checkBuiltinCall "bytes.__new__" ⟨[.type "bytes", .ref a], []⟩; again (.builtin "bytes.__new__" ⟨[.type "bytes", .ref a], []⟩)) _ _ s
    refine wpAny_bind (wpAny_of_eq (F.bm_newCall _) (wpAny_pure ⟨plainId_quiet F.bm_plain _, codeAny_builtin F.bm_entry ?_⟩))
    rw [Around.under_plainId F.bm_plain _]
    unfold Builtin.«bytes.__new__»
    refine wpAny_bind (wpAny_of_eq (a := true) rfl ?_)
    refine bm_if_false rfl ?_
    refine wpAny_bind (wpAny_of_eq F.bm_sub ?_)
    refine bm_if_false rfl ?_
    refine wpAny_bind (wpAny_of_eq (F.bm_bind _) ?_)
    refine wpAny_bind (wpAny_of_eq (a := ()) rfl ?_)
    refine wpAny_bind (wpAny_of_eq (a := ()) rfl ?_)
    refine bm_if_false rfl ?_
    refine wpAny_bind (wpAny_specialOf hT Fa.noBytes ?_)
    refine wpAny_bind (wpAny_bind ?_)
    show wpAny _ _ (load a >>= _) _ _ _
    refine wpAny_bind (wpAny_load ho ?_)
    refine wpAny_pure (wpAny_pure ?_)
    refine bm_if_false rfl ?_
    refine wpAny_bind (wpAny_specialOf hT Fa.noIndex ?_)
    refine bm_if_true rfl ?_
    first
      | show wpAny _ _ (Builtin.Bytes.buffer? "bytes.__new__" (.ref a) true >>= _) _ _ _
      | (refine wpAny_bind ?_; show wpAny _ _ (Builtin.Bytes.buffer? "bytes.__new__" (.ref a) true >>= _) _ _ _)
    refine wpAny_bind ?_
    unfold Builtin.Bytes.buffer?
    refine wpAny_bind (wpAny_specialOf hT Fa.lookup_buffer ?_)
    dsimp only
    unfold Builtin.Bytes.slotIsOwn
    refine wpAny_bind (wpAny_bind (wpAny_specialOf hT Fa.lookup_buffer ?_))
    dsimp only
    rw [ends_buffer, drop_buffer]
    simp only [Bool.not_true, Bool.false_eq_true, if_false]
    refine wpAny_isInstance hT Fa.sub ?_
    simp only [Bool.not_true, Bool.false_eq_true, if_false]
    refine wpAny_bind (wpAny_specialOf hT Fa.lookup_buffer ?_)
    show wpAny _ _ (Builtin.Bytes.ownRelease (.ref a) >>= _) _ _ _
    refine wpAny_bind (slotOwn_release ho ?_)
    refine bm_if_false rfl ?_
    unfold Builtin.Bytes.payload Builtin.Bytes.payload?
    refine wpAny_bind (wpAny_bind (wpAny_bind (wpAny_load ho (wpAny_pure (wpAny_pure (wpAny_pure ?_))))))
    dsimp only
    refine wpAny_bind (wpAny_rule ?_)
    refine wpAny_bind (wpAny_mkBytes ?_ hz)
    show wpAny _ _ (if (Value.type "bytes" == Value.type "bytes") = true then _ else _) _ _ _
    refine bm_if_true (by decide) ?_
    first
      | exact wpAny_pure ⟨PySem.W.typeIs_bytes _ _ _, h _ _⟩
      | exact wpAny_bind (wpAny_pure (wpAny_pure ⟨PySem.W.typeIs_bytes _ _ _, h _ _⟩))
  · exact ⟨h₁.1, F.args_object_init_2 obj _, object_init_meets F.bm_called.init.lookup F.bm_called.made (by decide) prog w A.in1 _ s₁ ⟨h₁.1, rfl, h₁.2⟩⟩

variable {h₀ : Heap} {L : Addr} {m : Str → Option Value} {news news' : List (Addr × Obj)}
theorem call_bytearray_K {n : Int} {t : Tok} {Q : Value → Shared → Prop} (F : Fr h₀ L s.heap m) (N : News h₀ L s.heap news) (h0 : 0 ≤ n) (hz : n.toNat ≤ sizeLine)
    (h : ∀ a h' tk, Fr h₀ L h' m → News h₀ L h' ((a, baObj (Array.replicate n.toNat 0)) :: news) → (∀ p ∈ news, p.1 < a) → Q (.ref a) { s with heap := h', toks := tk }) :
    wpS (model prog w) A (call (.type "bytearray") [.int n t]) Q E s := by
  refine call_bytearray h0 hz fun h' h1 h2 tk => h _ h' tk (F.grownK h2) (fun p hp => ?_) fun p hp => Heap.lt_size (N p hp).1
  rcases List.mem_cons.mp hp with rfl | hp
  · exact ⟨h1, Nat.ne_of_gt F.ns.lt, next_is_new F⟩
  · exact N.grown h2 p hp
theorem ba_set_K {a : Addr} {b : List UInt8} {k v : Int} {t u : Tok} {Q : Unit → Shared → Prop} (F : Fr h₀ L s.heap m) (N : News h₀ L s.heap news) (U : Upd a (baObj b.toArray) (baObj (b.set k.toNat v.toNat.toUInt8).toArray) news news')
    (h0 : 0 ≤ k) (hk : k < b.length) (hz : b.length ≤ 1000000) (hv : 0 ≤ v) (hv' : v < 256)
    (h : ∀ h', Fr h₀ L h' m → News h₀ L h' news' → Q () { s with heap := h' }) :
    wpAny (model prog w) A (setItem (.ref a) (.int k t) (.int v u)) Q E s := by
  obtain ⟨pre, post, rfl, rfl, e1, e2⟩ := U.split
  have z := N (a, baObj b.toArray) (List.mem_append.mpr (.inr (.head _)))
  refine ba_setItem z.1 h0 (by rw [List.size_toArray]; omega) (by rw [List.size_toArray]; exact Nat.le_trans hz (by decide)) hv hv' ?_
  obtain ⟨F', N'⟩ := news_upd (f := Obj.mapBytearray (·.setIfInBounds k.toNat v.toNat.toUInt8)) (o' := baObj (b.set k.toNat v.toNat.toUInt8).toArray) F N e1 e2 (by simp [Obj.mapBytearray, baObj]) rfl
  exact h _ F' N'
theorem bytes_item {value slice : PySem.Expr} {l : List UInt8} {i : Int} {t u : Tok} {Q : Value → Shared → Prop} (hz : l.length ≤ 1000000) (h0 : 0 ≤ i) (h1 : i < l.length)
    (h : Q (.int (l.getD i.toNat 0).toNat s.toks) { s with toks := s.toks + 1 })
    (hs : subscripted slice false (.bytes l.toArray t) (.int i u) = operate [.bytes l.toArray t, .int i u] (getItem (.bytes l.toArray t) (.int i u)) := by with_unfolding_all rfl) :
    wpAny (model prog w) A (subscriptTail value slice (.bytes l.toArray t) (.int i u)) Q E s :=
  subscriptTail_builtin (typeIs_bytes _ _ _) FB.slot_bytes_getitem.lookup (getItem_bytes (Nat.le_trans hz (by decide)) h0 h1 h) hs (by intro r; unfold letTemporaryGo; split <;> first | rfl | contradiction)
theorem bytes_cut {value slice : PySem.Expr} {b : List UInt8} {t : Tok} {l u : Value} {lo hi : Option Int} {Q : Value → Shared → Prop} (hF : Fr h₀ L s.heap m) (hN : News h₀ L s.heap news) (hl : IsPart l lo) (hu : IsPart u hi) (hz : b.length ≤ 1000000)
    (h : ∀ h' t' k, Fr h₀ L h' m → News h₀ L h' news → Q (.bytes ((b.drop (lo.elim 0 (clipAt b.length))).take (hi.elim b.length (clipAt b.length) - lo.elim 0 (clipAt b.length))).toArray t') { s with heap := h', toks := k })
    (hs : subscripted slice false (.bytes b.toArray t) (.ref s.heap.objs.size) = operate [.ref s.heap.objs.size, .bytes b.toArray t] (getItem (.bytes b.toArray t) (.ref s.heap.objs.size)) := by with_unfolding_all rfl)
    (ht : ∀ r, letTemporaryGo value (.bytes b.toArray t) r = pure () := by intro _; with_unfolding_all rfl) :
    wpAny (model prog w) A (subscriptTail value slice (.bytes b.toArray t) (.ref s.heap.objs.size)) Q E { s with heap := s.heap.push { cls := .type "slice", data := .fields #[l, u, .none] } } := by
  refine KBc.slice_K (ks := KBw.bInts b.toArray) hF hN rfl hl hu (by rw [KBw.ints_length, List.size_toArray]; omega) (fun h' t' k F' N' _ => ?_) hs ht
  rw [KBc.picked_eq]
  simp only [List.size_toArray]
  exact h h' t' k F' N'
end

/-! ## what _byteswap gives -/
def swapAt (b : List UInt8) (n k : Nat) : UInt8 := b.getD (k / n * n + (n - 1 - k % n)) 0
def swapL (b : List UInt8) (n : Nat) : List UInt8 := (List.range b.length).map (swapAt b n)
/-- after i whole words and j octets of the next one -/
def swapTo (b : List UInt8) (n i j : Nat) : List UInt8 := (List.range b.length).map fun k => if k < i * n ∨ (i * n + n - j ≤ k ∧ k < i * n + n) then swapAt b n k else 0
theorem swapTo_length (b : List UInt8) (n i j : Nat) : (swapTo b n i j).length = b.length := by simp [swapTo]
theorem swapL_length (b : List UInt8) (n : Nat) : (swapL b n).length = b.length := by simp [swapL]
theorem swapTo_zero (b : List UInt8) (n : Nat) : swapTo b n 0 0 = List.replicate b.length 0 := by
  apply List.ext_getElem
  · simp [swapTo]
  · intro k h1 h2
    simp only [swapTo, List.getElem_map, List.getElem_range, List.getElem_replicate]
    rw [if_neg (by omega)]
theorem swapTo_next (b : List UInt8) (n i : Nat) : swapTo b n i n = swapTo b n (i + 1) 0 := by
  apply List.ext_getElem
  · simp [swapTo]
  · intro k h1 h2
    simp only [swapTo, List.getElem_map, List.getElem_range]
    have e : (i + 1) * n = i * n + n := Nat.succ_mul i n
    rw [e]
    by_cases h : k < i * n + n
    · rw [if_pos (by omega), if_pos (by omega)]
    · rw [if_neg (by omega), if_neg (by omega)]
theorem swapTo_all (b : List UInt8) (n q : Nat) (h : b.length = q * n) : swapTo b n q 0 = swapL b n := by
  apply List.ext_getElem
  · simp [swapTo, swapL]
  · intro k h1 h2
    simp only [swapTo, swapL, List.getElem_map, List.getElem_range]
    rw [swapTo_length] at h1
    rw [if_pos (by omega)]
theorem swapTo_set (b : List UInt8) (n i j : Nat) (hn : 0 < n) (hj : j < n) (hi : i * n + n ≤ b.length) :
    (swapTo b n i j).set (i * n + n - 1 - j) (b.getD (i * n + j) 0) = swapTo b n i (j + 1) := by
  apply List.ext_getElem
  · simp [swapTo]
  · intro k h1 h2
    rw [List.getElem_set]
    simp only [swapTo, List.getElem_map, List.getElem_range]
    by_cases h : i * n + n - 1 - j = k
    · rw [if_pos h, if_pos (by omega)]
      have e : k = i * n + (n - 1 - j) := by omega
      have e1 : k / n = i := by rw [e, Nat.mul_comm, Nat.mul_add_div hn, Nat.div_eq_of_lt (by omega), Nat.add_zero]
      have e2 : k % n = n - 1 - j := by rw [e, Nat.mul_comm, Nat.mul_add_mod, Nat.mod_eq_of_lt (by omega)]
      unfold swapAt
      rw [e1, e2]
      congr 1
      omega
    · rw [if_neg h]
      by_cases h' : k < i * n ∨ i * n + n - j ≤ k ∧ k < i * n + n
      · rw [if_pos h', if_pos (by omega)]
      · rw [if_neg h', if_neg (by omega)]
end Mine
set_option maxRecDepth 100000
set_option Elab.async false
open PySem PySem.W PySem.Calls PyProof.Rows
namespace Mine
/-! ## comprehensions over any source, by the ledger -/
section
variable {prog : Program} {w : World} {A : Around} {E : Value → Shared → Prop} {s : Shared} {env : Env} {h₀ : Heap} {L : Addr} {m : Str → Option Value} {news : List (Addr × Obj)}
/-- what the source of a comprehension must give -/
def CompAt (prog : Program) (w : World) (A : Around) (env : Env) (scope : Scope) (cl : List (Str × Addr)) (x : Str) (ifs : List Expr) (elt : Expr) (p : Value → Bool) (G : Value → Value → Prop) (Q : Value → Shared → Prop) (it : Value) (s₂ : Shared) : Prop :=
  ∃ I fp wr n P St, it = .ref I ∧ Walks prog w A I fp wr n P St ∧ n ≤ sizeLine ∧ St 0 s₂.heap ∧ (∀ b ∈ fp, b < s₂.heap.objs.size) ∧
      QuietOnC prog w A env scope cl x ifs elt wr P p G s₂ ∧
      (∀ D h' tk ys (vs : List Value), s₂.heap.get? D = none → h'.IsList D ys → h'.PlainList D ys → vs.length = n → (∀ j v, vs[j]? = some v → P j v) → Paired G (vs.filter p) ys.toList →
        (∀ b o, b ∉ wr → s₂.heap.get? b = some o → h'.get? b = some o) → Q (.ref D) { s₂ with heap := h', toks := tk })
theorem comp_any {elt iter : Expr} {x : Str} {px : Pos} {ifs : List Expr} {scope : Scope} {cl : List (Str × Addr)} {pos : Pos} {Q : Value → Shared → Prop} (p : Value → Bool) (G : Value → Value → Prop)
    (hclos : closureFor scope env = pure cl) (hcell : ∀ y ∈ scope.names, y.2 ≠ .cell) (hkind : scope.kind = .function)
    (hnames : ∀ y ∈ scope.names, y.2 = .local → scope.names.lookup y.1 = some .local) (hx : scope.names.lookup x = some .local)
    (h : wpAny (model prog w) A (eval iter env) (fun xv s₁ => wpAny (model prog w) A (pyIter xv) (CompAt prog w A env scope cl x ifs elt p G Q) E s₁) E s)
    (hs : ∀ x, foldedSetIterable iter env x = pure x := by intro _; rfl) :
    wpAny (model prog w) A (eval (.ListComp elt [⟨.Name x px, iter, ifs, 0⟩] scope pos) env) Q E s :=
  wpAny_ListComp_free p G hclos hcell hkind hnames hx h hs
theorem comp_at {I : Addr} {fp wr : List Addr} {n : Nat} {P : Nat → Value → Prop} {St : Nat → Heap → Prop} {scope : Scope} {cl : List (Str × Addr)} {x : Str} {ifs : List Expr} {elt : Expr} {p : Value → Bool} {G : Value → Value → Prop} {Q : Value → Shared → Prop}
    (W : Walks prog w A I fp wr n P St) (hn : n ≤ sizeLine) (hst : St 0 s.heap) (hfp : ∀ b ∈ fp, b < s.heap.objs.size)
    (hwr : ∀ b ∈ wr, h₀.get? b = none ∧ b ≠ L ∧ ∀ q ∈ news, q.1 ≠ b) (F : Fr h₀ L s.heap m) (N : News h₀ L s.heap news)
    (tests : ∀ C i v s₃ m₃ E', P i v → s₃.heap.Ns C m₃ → m₃ x = some v → Fr h₀ L s₃.heap m → News h₀ L s₃.heap news →
      wpAny (model prog w) A (forIn ifs true fun c r => if r = true then do let ok ← isTrue c (compEnvC scope cl C env) (eval c (compEnvC scope cl C env)); pure (ForInStep.yield ok) else pure (ForInStep.yield r))
        (fun ok s₄ => ok = p v ∧ Keeps s₃ s₄) E' s₃)
    (elts : ∀ C i v s₃ m₃ E', P i v → p v = true → s₃.heap.Ns C m₃ → m₃ x = some v → Fr h₀ L s₃.heap m → News h₀ L s₃.heap news →
      wpAny (model prog w) A (eval elt (compEnvC scope cl C env)) (fun y s₄ => G v y ∧ Keeps s₃ s₄) E' s₃)
    (h : ∀ (D : Addr) (k : Nat) (ys vs : List Value) (h' : Heap) (tk : Nat), Fr h₀ L h' m → News h₀ L h' ((D, listOf (List.toArray ys) k) :: news) → (∀ q ∈ news, q.1 ≠ D) → vs.length = n → (∀ j v, vs[j]? = some v → P j v) → Paired G (vs.filter p) ys → Q (.ref D) { s with heap := h', toks := tk }) :
    CompAt prog w A env scope cl x ifs elt p G Q (.ref I) s := by
  have grow : ∀ h' : Heap, (∀ b o, b ∉ wr → s.heap.get? b = some o → h'.get? b = some o) → Fr h₀ L h' m ∧ News h₀ L h' news := fun h' hk =>
    ⟨⟨F.ns.at' fun o e => hk _ o (fun q => (hwr _ q).2.1 rfl) e, fun b o e => hk b o (fun q => by rw [(hwr _ q).1] at e; cases e) (F.keep b o e), F.above⟩,
      fun q hq => ⟨hk _ _ (fun z => (hwr _ z).2.2 q hq rfl) (N q hq).1, (N q hq).2⟩⟩
  refine ⟨I, fp, wr, n, P, St, rfl, W, hn, hst, hfp, ⟨?_, ?_⟩, ?_⟩
  · intro C i v s₃ m₃ E' _ hP hns hm hk _
    obtain ⟨F₃, N₃⟩ := grow _ hk
    exact tests C i v s₃ m₃ E' hP hns hm F₃ N₃
  · intro C i v s₃ m₃ E' _ hP hp hns hm hk _
    obtain ⟨F₃, N₃⟩ := grow _ hk
    exact elts C i v s₃ m₃ E' hP hp hns hm F₃ N₃
  · intro D h' tk ys vs hD _ hpl hlen hP hG hk
    obtain ⟨F₃, N₃⟩ := grow _ hk
    obtain ⟨k, hk'⟩ := hpl
    have hne : ∀ q ∈ news, q.1 ≠ D := fun q hq z => by have := (N q hq).1; rw [z, hD] at this; cases this
    refine h D k ys.toList vs h' tk F₃ (fun q hq => ?_) hne hlen hP hG
    rcases List.mem_cons.mp hq with rfl | hq
    · refine ⟨?_, ?_, ?_⟩
      · show h'.get? D = some (listOf ys.toList.toArray k)
        rw [Array.toArray_toList]; exact hk'
      · intro z
        obtain ⟨o, es, ep, ho, _⟩ := F.ns
        rw [← z, hD] at ho; cases ho
      · cases z : h₀.get? D with
        | none => rfl
        | some o => have := F.keep D o z; rw [hD] at this; cases this
    · exact N₃ q hq

theorem comp_bytes {b : List UInt8} {t : Tok} {scope : Scope} {cl : List (Str × Addr)} {x : Str} {ifs : List Expr} {elt : Expr} {p : Value → Bool} {G : Value → Value → Prop} {Q : Value → Shared → Prop} (hh : A.handled = none)
    (hz : b.length ≤ 1000000) (F : Fr h₀ L s.heap m) (N : News h₀ L s.heap news)
    (tests : ∀ C v s₃ m₃ E', (∃ c u, c ∈ b ∧ v = .int (c.toNat : Int) u) → s₃.heap.Ns C m₃ → m₃ x = some v → Fr h₀ L s₃.heap m → News h₀ L s₃.heap news →
      wpAny (model prog w) A (forIn ifs true fun c r => if r = true then do let ok ← isTrue c (compEnvC scope cl C env) (eval c (compEnvC scope cl C env)); pure (ForInStep.yield ok) else pure (ForInStep.yield r))
        (fun ok s₄ => ok = p v ∧ Keeps s₃ s₄) E' s₃)
    (elts : ∀ C v s₃ m₃ E', (∃ c u, c ∈ b ∧ v = .int (c.toNat : Int) u) → p v = true → s₃.heap.Ns C m₃ → m₃ x = some v → Fr h₀ L s₃.heap m → News h₀ L s₃.heap news →
      wpAny (model prog w) A (eval elt (compEnvC scope cl C env)) (fun y s₄ => G v y ∧ Keeps s₃ s₄) E' s₃)
    (h : ∀ (D : Addr) (k : Nat) (ys vs : List Value) (h' : Heap) (tk : Nat), Fr h₀ L h' m → News h₀ L h' ((D, listOf (List.toArray ys) k) :: news) → (∀ q ∈ news, q.1 ≠ D) → IntsAre vs (b.map fun c => (c.toNat : Int)) → Paired G (vs.filter p) ys → Q (.ref D) { s with heap := h', toks := tk }) :
    wpAny (model prog w) A (pyIter (.bytes b.toArray t)) (CompAt prog w A env scope cl x ifs elt p G Q) E s := by
  refine KBw.pyIter_bytes ?_
  have hmem : ∀ {i : Nat} {c : UInt8}, b.toArray[i]? = some c → c ∈ b := fun {i c} e => List.mem_of_getElem? (by simpa using e)
  refine comp_at (KBw.walks hh s.heap.objs.size b.toArray t) (by rw [List.size_toArray]; exact Nat.le_trans hz (by decide)) ⟨_, Heap.get?_push_size _ rfl, rfl, rfl⟩ ?_ ?_ (F.push _) (fun q hq => ⟨Heap.get?_push_of_some _ (N q hq).1, (N q hq).2⟩) ?_ ?_ ?_
  · intro q hq
    rw [List.mem_singleton.mp hq, Heap.size_push]; exact Nat.lt_succ_self _
  · intro q hq
    rw [List.mem_singleton.mp hq]
    exact ⟨next_is_new F, Nat.ne_of_gt F.ns.lt, fun z hz => Nat.ne_of_lt (Heap.lt_size (N z hz).1)⟩
  · rintro C i v s₃ m₃ E' ⟨c, u, hc, rfl⟩
    exact tests C _ s₃ m₃ E' ⟨c, u, hmem hc, rfl⟩
  · rintro C i v s₃ m₃ E' ⟨c, u, hc, rfl⟩
    exact elts C _ s₃ m₃ E' ⟨c, u, hmem hc, rfl⟩
  · intro D k ys vs h' tk F' N' hne hlen hP hG
    refine h D k ys vs h' tk F' N' hne ?_ hG
    rw [List.size_toArray] at hlen
    clear hG N' F' hne h elts tests F N
    induction vs generalizing b with
    | nil => cases b with
      | nil => exact .nil
      | cons c b => simp at hlen
    | cons v vs ih =>
      cases b with
      | nil => simp at hlen
      | cons c b =>
        obtain ⟨c', u, hc, rfl⟩ := hP 0 v rfl
        simp only [List.getElem?_toArray, List.getElem?_cons_zero, Option.some.injEq] at hc
        subst hc
        refine .cons _ _ (ih (b := b) (by simp at hz; omega) (fun {i c} e => List.mem_of_getElem? (by simpa using e)) (by simpa using hlen) fun j v hj => ?_)
        obtain ⟨c', u', hc', e⟩ := hP (j + 1) v (by simpa using hj)
        exact ⟨c', u', by simpa using hc', e⟩
end
end Mine
set_option maxRecDepth 100000
set_option Elab.async false
open PySem PySem.W PySem.Calls PyProof.Rows
namespace Mine
/-! ## list(bytes) -/
section
variable {prog : Program} {w : World} {A : Around} {E : Value → Shared → Prop} {s : Shared}
theorem bytes_len_look : typeLookup (.type "bytes") "__len__" = pure (some (.builtin "bytes.__len__")) := by rw [typeLookup_type, builtinLookup_eq_fast]; kernel_rfl
def OctAt (b : Array UInt8) (i : Nat) (v : Value) : Prop := ∃ c u, b[i]? = some c ∧ v = .int (c.toNat : Int) u
theorem extend_bytes {R : Result → Shared → Prop} (hh : A.handled = none) (b : Array UInt8) (t : Tok) (S : Addr) (res : Value) (c₀ : Nat) (hS : s.heap.get? S = some { cls := .type "list", data := .seq #[] c₀ })
    (hR : ∀ h' tk acc' c', (∀ b o, b ≠ S → s.heap.get? b = some o → h'.get? b = some o) → h'.get? S = some { cls := .type "list", dict := none, data := .seq acc' c', slots := #[] } →
      ItemsOf (OctAt b) acc' b.size → R (.ok (.ret res)) { s with heap := h', toks := tk }) (hn : b.size ≤ sizeLine) :
    wpAny (model prog w) A.in1 (Builtin.List.listExtendWith (.ref S) (.bytes b t) res)
      (fun fin s' => match fin with | .done f => R (.ok f) s' | .again c' => c'.quiet = true ∧ codeAny (model prog w) A c' R s') (fun e s' => R (.error e) s') s := by
  have hSI : S ≠ s.heap.objs.size := Nat.ne_of_lt (Heap.lt_size hS)
  have hSf : S ∉ [s.heap.objs.size] := fun hm => hSI (List.mem_singleton.mp hm)
  unfold Builtin.List.listExtendWith
  refine wpAny_bind (wpAny_typeOf (T := "bytes") (v := .bytes b t) rfl ?_)
  have h1 : Builtin.List.listSameRef (.ref S) (.bytes b t) = false := rfl
  have h2 : (Value.type "bytes" == Value.type "list") = false := by decide
  have h3 : (Value.type "bytes" == Value.type "tuple") = false := by decide
  simp only [h1, h2, h3, Bool.or_false, Bool.false_eq_true, if_false]
  refine wpAny_bind (KBw.pyIter_bytes ?_)
  refine wpAny_bind (wpAny_holding ?_)
  unfold Builtin.List.listLengthHint
  refine wpAny_bind (wpAny_specialOf (T := "bytes") (v := .bytes b t) rfl bytes_len_look ?_)
  wp_delta
  refine wpAny_bind (wpAny_isInstance (T := "bytes") (v := .bytes b t) (b := true) rfl (by rw [isSubtype_type]; kernel_rfl) ?_)
  show wpAny _ _ (typeOf (Value.bytes b t) >>= _) _ _ _
  refine wpAny_bind (wpAny_typeOf (T := "bytes") (v := .bytes b t) rfl ?_)
  refine wpAny_pure ?_
  rw [if_neg (by decide)]
  refine wpAny_pure ⟨plainId_quiet F.plain_extend_loop _, codeAny_extend_loopS (KBw.walks (A := A.in1) hh s.heap.objs.size b t).toS hn _ hSf _ b.size 0 _ _ _ rfl (Nat.zero_le _) ⟨_, Heap.get?_push_size _ rfl, rfl, rfl⟩ (Heap.get?_push_of_some _ hS) (ItemsOf.nil _) fun s' acc' c' hm hS' hacc => ?_⟩
  rw [Moved.eq_with hm]
  refine hR s'.heap s'.toks acc' c' (fun b ob hb e => hm.heap b ob (fun hmem => ?_) (Heap.get?_push_of_some _ e)) hS' hacc
  rcases List.mem_cons.mp hmem with e' | hmem
  · exact hb e'
  · exact absurd (Heap.lt_size e) (by rw [List.mem_singleton.mp hmem]; exact Nat.lt_irrefl _)
theorem init_bytes {R : Result → Shared → Prop} (hh : A.handled = none) (x : Array UInt8) (t : Tok) (S : Addr) (hS : s.heap.get? S = some { cls := .type "list", data := .seq #[] })
    (hR : ∀ h' tk acc' c', (∀ b o, b ≠ S → s.heap.get? b = some o → h'.get? b = some o) → h'.get? S = some { cls := .type "list", dict := none, data := .seq acc' c', slots := #[] } →
      ItemsOf (OctAt x) acc' x.size → R (.ok (.ret .none)) { s with heap := h', toks := tk }) (hn : x.size ≤ sizeLine) :
    wpAny (model prog w) A.in1 (Builtin.«list.__init__» ⟨[.ref S, .bytes x t], []⟩)
      (fun fin s' => match fin with | .done f => R (.ok f) s' | .again c' => c'.quiet = true ∧ codeAny (model prog w) A c' R s') (fun e s' => R (.error e) s') s := by
  show wpAny _ _ (do let old ← Builtin.List.listItems (.ref S); Builtin.List.listUpdate (.ref S) (fun _ => #[]); letGo old.toList.reverse; Builtin.List.listExtendWith (.ref S) (.bytes x t) .none) _ _ s
  refine wpAny_bind ?_
  unfold Builtin.List.listItems
  refine wpAny_bind (wpAny_seqItems hS rfl (wpAny_pure ?_))
  show wpAny _ _ (updateSeq S (fun _ => #[]) >>= fun _ => letGo (#[] : Array Value).toList.reverse >>= fun _ => Builtin.List.listExtendWith (.ref S) (.bytes x t) .none) _ _ s
  refine wpAny_bind (wpAny_updateSeq hS rfl ?_)
  have hS₂ := Heap.get?_update_self (Obj.mapSeq (fun _ => (#[] : Array Value))) hS rfl
  have oth : ∀ b o, b ≠ S → s.heap.get? b = some o → (s.heap.update S (Obj.mapSeq (fun _ => (#[] : Array Value)))).get? b = some o :=
    fun b o hb e => (Heap.get?_update_other _ _ (Ne.symm hb)).trans e
  refine wpAny_bind (wpAny_letGo ?_)
  refine extend_bytes (hn := hn) hh x t S .none _ hS₂ fun h' tk acc' c' hk hS' hacc => ?_
  exact hR h' tk acc' c' (fun b o hb e => hk b o hb (oth b o hb e)) hS' hacc
theorem ints_of_items {l : List UInt8} {acc : Array Value} (h : ItemsOf (OctAt l.toArray) acc l.toArray.size) : IntsAre acc.toList (l.map fun c => (c.toNat : Int)) := by
  have hlen : acc.toList.length = l.length := by simpa using h.1
  have hP : ∀ (j : Nat) (v : Value), acc.toList[j]? = some v → ∃ (c : UInt8) (u : Tok), l[j]? = some c ∧ v = Value.int (c.toNat : Int) u := by
    intro j v hv
    obtain ⟨c, u, hc, e⟩ := h.2 j v (by simpa using hv)
    exact ⟨c, u, by simpa using hc, e⟩
  clear h
  generalize acc.toList = vs at *
  induction vs generalizing l with
  | nil => cases l with
    | nil => exact .nil
    | cons c b => simp at hlen
  | cons v vs ih =>
    cases l with
    | nil => simp at hlen
    | cons c b =>
      obtain ⟨c', u, hc, rfl⟩ := hP 0 v rfl
      simp only [List.getElem?_cons_zero, Option.some.injEq] at hc
      subst hc
      refine .cons _ _ (ih (by simpa using hlen) fun j v hj => ?_)
      obtain ⟨c', u', hc', e⟩ := hP (j + 1) v (by simpa using hj)
      exact ⟨c', u', by simpa using hc', e⟩
variable {h₀ : Heap} {L : Addr} {m : Str → Option Value} {news : List (Addr × Obj)}
theorem list_bytes {l : List UInt8} {t : Tok} {Q : Value → Shared → Prop} (hh : A.handled = none) (F₀ : Fr h₀ L s.heap m) (N : News h₀ L s.heap news) (hn : l.length ≤ 1000000)
    (h : ∀ D k vs h' tk, Fr h₀ L h' m → News h₀ L h' ((D, listOf (List.toArray vs) k) :: news) → (∀ q ∈ news, q.1 < D) → IntsAre vs (l.map fun c => (c.toNat : Int)) → Q (.ref D) { s with heap := h', toks := tk }) :
    wpAny (model prog w) A (call (.type "list") [.bytes l.toArray t]) Q E s := by
  refine callType_codes (Q₁ := fun obj s₁ => obj = .ref s.heap.objs.size ∧ s₁ = { s with heap := s.heap.push { cls := .type "list", data := .seq #[] } }) F.called_list (F.typeCall_list_1 _) F.entry_list_init
    (code_list_new _ ⟨rfl, rfl⟩) fun obj s₁ h₁ => ?_
  obtain ⟨rfl, rfl⟩ := h₁
  have hS : (s.heap.push { cls := .type "list", data := .seq #[] }).get? s.heap.objs.size = some { cls := .type "list", data := .seq #[] } := Heap.get?_push_size _ rfl
  refine ⟨⟨_, hS, rfl⟩, F.args_list_init_2 _ _, init_bytes (A := A.in1) (hn := by rw [List.size_toArray]; exact Nat.le_trans hn (by decide)) hh l.toArray t _ hS fun h' tk acc' c' hk hS' hacc => ?_⟩
  have hk' : ∀ b o, s.heap.get? b = some o → h'.get? b = some o := fun b o e => hk b o (Nat.ne_of_lt (Heap.lt_size e)) (Heap.get?_push_of_some _ e)
  refine ⟨rfl, h s.heap.objs.size c' acc'.toList h' tk (F₀.keeps hk') (fun q hq => ?_) (fun q hq => Heap.lt_size (N q hq).1) (ints_of_items hacc)⟩
  rcases List.mem_cons.mp hq with rfl | hq
  · refine ⟨?_, Nat.ne_of_gt F₀.ns.lt, next_is_new F₀⟩
    show h'.get? _ = some (listOf acc'.toList.toArray c')
    rw [Array.toArray_toList]; exact hS'
  · exact ⟨hk' _ _ (N q hq).1, (N q hq).2⟩
end
end Mine
set_option maxRecDepth 100000
set_option Elab.async false
open PySem PySem.W PySem.Calls PyProof.Rows
namespace Mine
/-! ## the turns of a comprehension, all alike -/
section
variable {prog : Program} {w : World} {A : Around} {s : Shared} {env : Env} {h₀ : Heap} {L : Addr} {m : Str → Option Value} {news : List (Addr × Obj)}
/-- the end of one turn's element: the ledger is as it was, and the element is fit -/
def EltEnd (h₀ : Heap) (L : Addr) (m : Str → Option Value) (all : List (Addr × Obj)) (s : Shared) (G : Value → Prop) (y : Value) (s' : Shared) : Prop :=
  ∃ h' tk', s' = { s with heap := h', toks := tk' } ∧ Fr h₀ L h' m ∧ News h₀ L h' all ∧ G y
theorem EltEnd.mk {all al' : List (Addr × Obj)} {G : Value → Prop} {y : Value} {h' : Heap} {tk' : Nat} (F : Fr h₀ L h' m) (N : News h₀ L h' al') (sub : ∀ p ∈ all, p ∈ al') (g : G y) : EltEnd h₀ L m all s G y { s with heap := h', toks := tk' } :=
  ⟨h', tk', rfl, F, fun p hp => N p (sub p hp), g⟩
theorem comp_turns {elt : Expr} {x : Str} {scope : Scope} {cl : List (Str × Addr)} {S : List (Addr × Obj) → Prop} {P : Nat → Value → Prop} {Fin : List Value → List (Addr × Obj) → Prop} {n : Nat} (G : Nat → Value → Prop) (hS : S news)
    (elts : ∀ i v I oI C oC D m₂ h tk (E' : Value → Shared → Prop) ys, i < n → P i v → LCg.NsObj oC m₂ → m₂ x = some v → Fr h₀ L h m → News h₀ L h ((I, oI) :: (C, oC) :: (D, LCg.lst ys) :: news) → LCg.Off3 I C D news → ((@Ne Nat I C) ∧ (@Ne Nat I D) ∧ (@Ne Nat C D)) →
      wpAny (model prog w) A (eval elt (compEnvC scope cl C env)) (EltEnd h₀ L m ((I, oI) :: (C, oC) :: (D, LCg.lst ys) :: news) { s with heap := h, toks := tk } (G i)) E' { s with heap := h, toks := tk })
    (fin : ∀ ys : List Value, ys.length = n → (∀ i y, ys[i]? = some y → G i y) → Fin ys news) :
    LCg.CompRest prog w A h₀ L m env elt x scope cl s S P Fin n 0 [] news := by
  have key : ∀ k i (ys : List Value), i + k = n → ys.length = i → (∀ j y, ys[j]? = some y → G j y) → LCg.CompRest prog w A h₀ L m env elt x scope cl s S P Fin k i ys news := by
    intro k
    induction k with
    | zero => intro i ys hk hl hg; exact fin ys (by omega) hg
    | succ k ih =>
      intro i ys hk hl hg v I oI C oC D m₂ h tk E' hP hC hx F N off ne
      refine wpAny_mono (elts i v I oI C oC D m₂ h tk E' ys (by omega) hP hC hx F N off ne) (fun y s' hy => ?_) fun _ _ e => e
      obtain ⟨h', tk', rfl, F', N', g⟩ := hy
      refine ⟨h', tk', news, rfl, F', N', off, hS, ih (i + 1) (ys ++ [y]) (by omega) (by rw [List.length_append]; simp; omega) fun j z hj => ?_⟩
      by_cases hlt : j < ys.length
      · rw [List.getElem?_append_left hlt] at hj; exact hg j z hj
      · rw [List.getElem?_append_right (by omega)] at hj
        have : j = i := by
          cases e : j - ys.length with
          | zero => omega
          | succ q => rw [e] at hj; simp at hj
        subst this
        rw [hl, Nat.sub_self] at hj
        simp at hj
        exact hj ▸ g
  exact key n 0 [] (by omega) rfl (fun j y hj => by simp at hj)
end
end Mine
set_option maxRecDepth 100000
set_option Elab.async false
open PySem PySem.W PySem.Calls PyProof.Rows
namespace Mine
/-! ## b''.join(a list of bytes) -/
section
variable {prog : Program} {w : World} {A : Around} {E : Value → Shared → Prop} {s : Shared}
theorem bytes_buffer_look : typeLookup (.type "bytes") "__buffer__" = pure (some (.builtin "bytes.__buffer__")) := by rw [typeLookup_type, builtinLookup_eq_fast]; kernel_rfl
theorem bytes_release_look : typeLookup (.type "bytes") "__release_buffer__" = pure none := by rw [typeLookup_type, builtinLookup_eq_fast]; kernel_rfl
theorem bytes_sub : isSubtype (.type "bytes") (.type "bytes") = pure true := by rw [isSubtype_type]; kernel_rfl
theorem ends_bbuffer : "bytes.__buffer__".endsWith ("." ++ "__buffer__") = true := by decide +kernel
theorem drop_bbuffer : "bytes.__buffer__".dropRight ("__buffer__".length + 1) = "bytes" := by decide +kernel
theorem own_buffer {b : Array UInt8} {t : Tok} {Q : Bool → Shared → Prop} (h : Q true s) : wpAny (model prog w) A (Builtin.Bytes.slotIsOwn (.bytes b t) "__buffer__") Q E s := by
  unfold Builtin.Bytes.slotIsOwn
  refine wpAny_bind (wpAny_specialOf (T := "bytes") (v := .bytes b t) rfl bytes_buffer_look ?_)
  dsimp only
  rw [ends_bbuffer, drop_bbuffer]
  simp only [Bool.not_true, Bool.false_eq_true, if_false]
  exact wpAny_isInstance (T := "bytes") (v := .bytes b t) rfl bytes_sub h
theorem own_release {b : Array UInt8} {t : Tok} {Q : Bool → Shared → Prop} (h : Q false s) : wpAny (model prog w) A (Builtin.Bytes.ownRelease (.bytes b t)) Q E s := by
  unfold Builtin.Bytes.ownRelease Builtin.Bytes.slotIsOwn
  refine wpAny_bind (wpAny_bind (wpAny_specialOf (T := "bytes") (v := .bytes b t) rfl bytes_release_look ?_))
  exact wpAny_pure (wpAny_pure h)
theorem take_bytes {id : String} {b : Array UInt8} {t : Tok} {Q : Option (Array UInt8 × Option Value) → Shared → Prop} (h : Q (some (b, none)) s) : wpAny (model prog w) A (Builtin.Bytes.takeBufferQuiet? id (.bytes b t) 0) Q E s := by
  unfold Builtin.Bytes.takeBufferQuiet?
  refine wpAny_bind (wpAny_attempt ?_)
  unfold Builtin.Bytes.takeBuffer?
  refine wpAny_bind (wpAny_specialOf (T := "bytes") (v := .bytes b t) rfl bytes_buffer_look ?_)
  dsimp only
  refine wpAny_bind (own_buffer ?_)
  simp only [Bool.not_true, Bool.false_eq_true, if_false]
  refine wpAny_bind (wpAny_specialOf (T := "bytes") (v := .bytes b t) rfl bytes_buffer_look ?_)
  try dsimp only
  refine wpAny_bind ?_
  unfold Builtin.Bytes.buffer?
  refine wpAny_bind (wpAny_specialOf (T := "bytes") (v := .bytes b t) rfl bytes_buffer_look ?_)
  dsimp only
  refine wpAny_bind (own_buffer ?_)
  simp only [Bool.not_true, Bool.false_eq_true, if_false]
  refine wpAny_bind (wpAny_specialOf (T := "bytes") (v := .bytes b t) rfl bytes_buffer_look ?_)
  try dsimp only
  refine wpAny_bind (own_release ?_)
  simp only [Bool.false_eq_true, if_false]
  exact wpAny_pure (wpAny_pure (wpAny_pure h))
/-- a list of bytes -/
def BysAre : List Value → List (List UInt8) → Prop
  | [], [] => True
  | v :: vs, b :: bs => (∃ t, v = .bytes b.toArray t) ∧ BysAre vs bs
  | _, _ => False
theorem BysAre.at : ∀ {vs : List Value} {bs : List (List UInt8)}, BysAre vs bs → ∀ {i : Nat}, i < bs.length → ∃ t, vs.getD i .none = .bytes (bs.getD i []).toArray t
  | [], [], _, _, h => absurd h (Nat.not_lt_zero _)
  | _ :: _, _ :: _, h, 0, _ => h.1
  | _ :: _, _ :: _, h, i + 1, hi => by
    have := BysAre.at h.2 (i := i) (by simpa using hi)
    simpa using this
  | [], _ :: _, h, _, _ => h.elim
  | _ :: _, [], h, _, _ => h.elim
theorem BysAre.length : ∀ {vs : List Value} {bs : List (List UInt8)}, BysAre vs bs → vs.length = bs.length
  | [], [], _ => rfl
  | _ :: _, _ :: _, h => by rw [List.length_cons, List.length_cons, BysAre.length h.2]
  | [], _ :: _, h => h.elim
  | _ :: _, [], h => h.elim
theorem slot_join : Slot "bytes" "join" "bytes.join" :=
  .of (owner := "bytes") (n := "join") (by rw [typeLookup_type, builtinLookup_eq_fast]; kernel_rfl) (by decide +kernel) (by decide +kernel) (by decide +kernel)
    (by first | exact .inl (by decide +kernel) | exact .inr (by decide +kernel)) (by rw [isSubtype_type]; kernel_rfl)
theorem type_join : typeOf (.builtin "bytes.join") = pure (.type "method_descriptor") := by show builtinType _ = _; rw [builtinType_eq_fast]; kernel_rfl
theorem entry_join : entryFor table "bytes.join" = some Builtin.«bytes.join» := entryFor_of_tree (by kernel_rfl)
theorem args_join (a b : Value) : argsOk "bytes.join" ⟨[a, b], []⟩ := by unfold argsOk; kernel_rfl
theorem seq_at {D : Addr} {xs : Array Value} {n : Nat} {Q : Option (Array Value) → Shared → Prop} (ho : s.heap.get? D = some (listOf xs n)) (h : Q (some xs) s) : wpAny (model prog w) A (seqItems? (.ref D)) Q E s := by
  unfold seqItems?
  exact wpAny_bind (wpAny_load ho (wpAny_pure h))
theorem let_go {keep : List Value} {Q : Unit → Shared → Prop} (h : Q () s) : ∀ taken : List (Value × Option Value), (∀ p ∈ taken, p.2 = none) → wpAny (model prog w) A (Builtin.Bytes.joinLetGo taken keep) Q E s
  | [], _ => wpAny_pure h
  | (x, w') :: rest, hn => by
    obtain rfl : w' = none := hn _ (.head _)
    unfold Builtin.Bytes.joinLetGo
    dsimp only
    refine wpAny_bind ?_
    exact wpAny_letGo (let_go h rest fun p hp => hn p (.tail _ hp))
theorem joined_flat : ∀ (l : List (List UInt8)) (k : Nat) (acc : Array UInt8), ((l.map List.toArray).zipIdx k).foldl (fun out (p, i) => (if i > 0 then out ++ (#[] : Array UInt8) else out) ++ p) acc = acc ++ l.flatten.toArray
  | [], _, acc => by simp
  | b :: l, k, acc => by
    rw [List.map_cons, List.zipIdx_cons, List.foldl_cons, joined_flat l]
    simp
theorem sizes_flat : ∀ (l : List (List UInt8)) (acc : Nat), (l.map List.toArray).foldl (fun x1 x2 => x1 + x2.size) acc = acc + l.flatten.length
  | [], acc => by simp
  | b :: l, acc => by
    rw [List.map_cons, List.foldl_cons, sizes_flat l]
    simp; omega
set_option maxHeartbeats 1000000 in
theorem join_bytes {D : Addr} {vs : List Value} {bs : List (List UInt8)} {t : Tok} {n : Nat} {Q : Value → Shared → Prop} (ho : s.heap.get? D = some (listOf vs.toArray n)) (hb : BysAre vs bs) (h2 : 2 ≤ bs.length) (hz : bs.flatten.length ≤ 1000000)
    (h : ∀ t' k, Q (.bytes bs.flatten.toArray t') { s with toks := k }) :
    wpAny (model prog w) A (Builtin.«bytes.join» ⟨[.bytes #[] t, .ref D], []⟩) (fun fin s' => ∃ v, fin = .done (.ret v) ∧ Q v s') E s := by
  unfold Builtin.«bytes.join» Builtin.Bytes.joinM
  refine wpAny_bind (wpAny_of_eq (a := (.bytes #[] t, .ref D)) rfl ?_)
  dsimp only
  refine wpAny_bind ?_
  unfold Builtin.Bytes.joinItems
  refine wpAny_bind (wpAny_typeOf (T := "list") ⟨_, ho, rfl⟩ ?_)
  rw [if_pos (by decide)]
  refine wpAny_pure ?_
  refine wpAny_bind (seq_at ho ?_)
  dsimp only
  rw [if_pos (by decide)]
  obtain ⟨v0, v1, vr, rfl⟩ : ∃ v0 v1 vr, vs = v0 :: v1 :: vr := by
    have := hb.length
    match vs, this with
    | [], e => simp at e; omega
    | [_], e => simp at e; omega
    | a :: b :: r, _ => exact ⟨a, b, r, rfl⟩
  refine wpAny_bind ?_
  rw [Std.Legacy.Range.forIn_eq_forIn_range']
  simp only [Std.Legacy.Range.size, Nat.sub_zero, Nat.add_sub_cancel, Nat.div_one]
  refine wpAny_forIn_list _ (fun rest b s' => ∃ i, s' = s ∧ rest = List.range' i (bs.length - i) ∧ i ≤ bs.length ∧ b.1 = ((bs.take i).map List.toArray).toArray ∧ (b.2.any fun x => x.1.onHeap) = false ∧ ∀ p ∈ b.2, p.2 = none) _ ?_ ?_ _ _ ⟨0, rfl, ?_, Nat.zero_le _, by simp, rfl, fun p hp => nomatch hp⟩
  · rintro x rest ⟨pt, tk⟩ s' ⟨i, rfl, hr, hi, hp, hany, hnone⟩
    dsimp only at hp hany hnone
    have hlt : i < bs.length := by
      rcases Nat.lt_or_ge i bs.length with h | h
      · exact h
      · rw [Nat.sub_eq_zero_of_le h] at hr; simp at hr
    obtain ⟨rfl, hrest⟩ : x = i ∧ rest = List.range' (i + 1) (bs.length - (i + 1)) := by
      have e : bs.length - i = (bs.length - (i + 1)) + 1 := by omega
      rw [e, List.range'_succ] at hr
      injection hr with h1 h2
      exact ⟨h1, h2⟩
    obtain ⟨ti, hv⟩ := hb.at hlt
    have hv' : (v0 :: v1 :: vr).toArray.getD x Value.none = .bytes (bs.getD x []).toArray ti := by
      rw [← hv]; simp
    refine wpAny_bind (seq_at ho ?_)
    dsimp only
    rw [if_neg (by rw [hany]; decide), hv']
    refine wpAny_bind (wpAny_holding (take_bytes ?_))
    dsimp only
    refine wpAny_bind (seq_at ho ?_)
    dsimp only
    rw [if_neg (by simp)]
    refine wpAny_pure ⟨x + 1, rfl, hrest, hlt, ?_, ?_, ?_⟩
    · subst hp
      dsimp only
      rw [List.push_toArray, List.take_succ, List.map_append, List.getElem?_eq_getElem hlt, List.getD_eq_getElem?_getD, List.getElem?_eq_getElem hlt]
      rfl
    · dsimp only; rw [List.any_append, hany]; rfl
    · intro p hp'
      rcases List.mem_append.mp hp' with h | h
      · exact hnone p h
      · rw [List.mem_singleton.mp h]
  · rintro ⟨pt, tk⟩ s' ⟨i, rfl, hr, hi, hp, hany, hnone⟩
    dsimp only at hp hany hnone ⊢
    obtain rfl : i = bs.length := by
      have := congrArg List.length hr
      simp at this
      omega
    rw [List.take_length] at hp
    subst hp
    refine wpAny_bind (wpAny_of_eq (a := (#[] : Array UInt8)) rfl ?_)
    have hsz : Array.foldl (fun x1 x2 => x1 + x2.size) ((#[] : Array UInt8).size * ((List.map List.toArray bs).toArray.size - 1)) (List.map List.toArray bs).toArray = bs.flatten.length := by
      rw [List.foldl_toArray, sizes_flat]; simp
    rw [hsz, if_neg (by unfold Builtin.Bytes.tooLong; rw [decide_eq_true_eq, sizeLine_eq]; omega)]
    have hj : Builtin.Bytes.joined #[] (List.map List.toArray bs).toArray.toList = bs.flatten.toArray := by
      unfold Builtin.Bytes.joined
      rw [List.toList_toArray]
      have := joined_flat bs 0 #[]
      rw [this]; simp
    rw [hj]
    refine wpAny_bind (show wpAny _ _ (mkBytes bs.flatten.toArray) _ _ _ from wpAny_mkBytes ?_ (by rw [List.size_toArray, sizeLine_eq]; omega))
    refine wpAny_bind (wpAny_holding (wpAny_point ?_))
    refine wpAny_bind (let_go ?_ tk hnone)
    exact wpAny_pure ⟨_, rfl, h _ _⟩
  · have := hb.length
    rw [List.size_toArray, this]; rfl
theorem get_join {b : Array UInt8} {t : Tok} {pl : Sem Bool} {Q : Value × List Value → Shared → Prop} (h : Q (.builtin "bytes.join", [.bytes b t]) s) : wpAny (model prog w) A (getMethod (.bytes b t) "join" pl) Q E s :=
  getMethod_builtin (PySem.W.typeIs_bytes _ _ _) FB.plainAttrs_bytes slot_join type_join (fun _ e => nomatch e) h
theorem bys_of {n : Nat} : ∀ {ys : List Value}, (∀ (i : Nat) (y : Value), ys[i]? = some y → ∃ (b : List UInt8) (t : Tok), y = .bytes b.toArray t ∧ b.length = n) → ∃ bs, BysAre ys bs ∧ bs.length = ys.length ∧ ∀ b ∈ bs, b.length = n
  | [], _ => ⟨[], trivial, rfl, fun _ h => nomatch h⟩
  | y :: ys, h => by
    obtain ⟨b, t, rfl, hb⟩ := h 0 y rfl
    obtain ⟨bs, h1, h2, h3⟩ := bys_of (ys := ys) fun i y hy => h (i + 1) y (by simpa using hy)
    refine ⟨b :: bs, ⟨⟨t, rfl⟩, h1⟩, by rw [List.length_cons, List.length_cons, h2], fun c hc => ?_⟩
    rcases List.mem_cons.mp hc with rfl | hc
    · exact hb
    · exact h3 c hc
theorem flat_len {n : Nat} : ∀ {bs : List (List UInt8)}, (∀ b ∈ bs, b.length = n) → bs.flatten.length = bs.length * n
  | [], _ => by simp
  | b :: bs, h => by
    rw [List.flatten_cons, List.length_append, flat_len fun c hc => h c (.tail _ hc), h b (.head _), List.length_cons, Nat.succ_mul, Nat.add_comm]
theorem call_join {D : Addr} {vs : List Value} {bs : List (List UInt8)} {t : Tok} {n : Nat} {Q : Value → Shared → Prop} (ho : s.heap.get? D = some (listOf vs.toArray n)) (hb : BysAre vs bs) (h2 : 2 ≤ bs.length) (hz : bs.flatten.length ≤ 1000000)
    (h : ∀ t' k, Q (.bytes bs.flatten.toArray t') { s with toks := k }) : wpAny (model prog w) A (call (.builtin "bytes.join") [.bytes #[] t, .ref D]) Q E s := by
  exact wpAny_call_entry slot_join (PySem.W.typeIs_bytes _ _ _) entry_join (join_bytes ho hb h2 hz h) (args_join _ _)
end
end Mine
set_option maxRecDepth 100000
set_option Elab.async false
open PySem PySem.W PySem.Calls PyProof.Rows
namespace Mine
/-! ## a loop over a range whose name lies in a cell -/
def TurnEndC {σ : Type} (s : Shared) (h₀ : Heap) (L cc I : Addr) (it : Obj) (Inv : σ → Prop) (mp : σ → Str → Option Value) (led : σ → List (Addr × Obj)) (Q : Flow → Shared → Prop) (f : Flow) (s' : Shared) : Prop :=
  match f with
  | .ret v => Q (.ret v) s'
  | .brk => Q .next s'
  | _ => ∃ c m' oc v h' tk, s' = { s with heap := h', toks := tk } ∧ Inv c ∧ Fr h₀ L h' m' ∧ oc.data = .cell v ∧ News h₀ L h' ((I, it) :: (cc, oc) :: led c) ∧ (∀ p ∈ led c, p.1 ≠ I ∧ p.1 ≠ cc) ∧ ∀ z, m' z = mp c z
theorem TurnEndC.next {σ : Type} {s : Shared} {h₀ : Heap} {L cc I : Addr} {it : Obj} {Inv : σ → Prop} {mp : σ → Str → Option Value} {led : σ → List (Addr × Obj)} {Q : Flow → Shared → Prop} {h' : Heap} {tk : Nat} {m' : Str → Option Value} {oc : Obj} {v : Option Value}
    (c : σ) (F : Fr h₀ L h' m') (hoc : oc.data = .cell v) (N : News h₀ L h' ((I, it) :: (cc, oc) :: led c)) (hI : ∀ p ∈ led c, p.1 ≠ I ∧ p.1 ≠ cc) (hm : ∀ z, m' z = mp c z) (hc : Inv c) : TurnEndC s h₀ L cc I it Inv mp led Q .next { s with heap := h', toks := tk } :=
  ⟨c, m', oc, v, h', tk, rfl, hc, F, hoc, N, hI, hm⟩
section
variable {prog : Program} {w : World} {A : Around} {E : Value → Shared → Prop} {s : Shared} {env : Env} {h₀ : Heap} {x : Str} {px : Pos} {body : List Stmt} {Q : Flow → Shared → Prop}
theorem forRangeC {σ : Type} {r cc : Addr} {a₀ b₀ c : Int} {t₀ u₀ v₀ : Tok} {n : Nat} {m₀ : Str → Option Value} {o₀ : Obj} {w₀ : Option Value} (hh : A.handled = none) (hr : IsRange s.heap r a₀ b₀ c t₀ u₀ v₀) (hsmall : Builtin.Range.small a₀ b₀ c = true) (hn : Builtin.Range.rangeSize a₀ b₀ c = (n : Int))
    (hkf : env.scope.kind = .function) (hx : env.kindOf x = some .cell) (hcc : env.cells.lookup x = some cc)
    (Inv : Nat → σ → Prop) (mp : σ → Str → Option Value) (led : σ → List (Addr × Obj)) (c₀ : σ) (F : Fr h₀ env.locals s.heap m₀) (ho₀ : o₀.data = .cell w₀) (N : News h₀ env.locals s.heap ((cc, o₀) :: led c₀)) (hoc₀ : ∀ p ∈ led c₀, p.1 ≠ cc) (hm : ∀ z, m₀ z = mp c₀ z) (h0 : Inv 0 c₀)
    (turn : ∀ i k I it oc t h tk, i < n → Inv i k → (∀ p ∈ led k, p.1 ≠ I ∧ p.1 ≠ cc) → cc ≠ I → Fr h₀ env.locals h (mp k) → oc.data = .cell (some (.int (a₀ + (i : Int) * c) t)) → News h₀ env.locals h ((I, it) :: (cc, oc) :: led k) →
      wpS (model prog w) A (execs body env) (TurnEndC { s with heap := h, toks := tk } h₀ env.locals cc I it (Inv (i + 1)) mp led Q) (fun _ _ => False) { s with heap := h, toks := tk })
    (done : ∀ k oc v h tk, Inv n k → Fr h₀ env.locals h (mp k) → oc.data = .cell v → News h₀ env.locals h ((cc, oc) :: led k) → (∀ p ∈ led k, p.1 ≠ cc) → Q .next { s with heap := h, toks := tk }) :
    wpAny (model prog w) A (pyIter (.ref r)) (fun it s₂ => codeS (model prog w) A (.forLoop (.Name x px) it body [] env) (fun r s' => match r with | .ok f => Q f s' | .error _ => False) s₂) E s := by
  refine wpAny_pyIter_range hr hsmall ?_
  rw [hn]
  have W := Walks.range (prog := prog) (w := w) hh s.heap.objs.size a₀ c n
  have hnew : h₀.get? s.heap.objs.size = none := next_is_new F
  have hLI : env.locals ≠ s.heap.objs.size := Nat.ne_of_lt F.ns.lt
  have hCI : cc ≠ s.heap.objs.size := Nat.ne_of_lt (Heap.lt_size (N _ (.head _)).1)
  have hCL : cc ≠ env.locals := (N _ (.head _)).2.1
  have hC0 : h₀.get? cc = none := (N _ (.head _)).2.2
  refine codeS_forLoop (R := fun r s' => match r with | .ok f => Q f s' | .error _ => False)
    (fun k s' => ∃ h' tk oc v d i, s' = { s with heap := h', toks := tk } ∧ IsRangeIter h' s.heap.objs.size (a₀ + (i : Nat) * c) ((n : Int) - (i : Nat)) c ∧ Fr h₀ env.locals h' (mp d) ∧ oc.data = .cell v ∧ News h₀ env.locals h' ((cc, oc) :: led d) ∧ (∀ p ∈ led d, p.1 ≠ s.heap.objs.size ∧ p.1 ≠ cc) ∧ Inv i d ∧ i ≤ n ∧ k = n + 1 - i) ?_ (n + 1) ?_
  · rintro k s' ⟨h', tk, oc, v, d, i, rfl, hst, F', hoc, N', hoff, hI, hi, rfl⟩
    have next : ∀ h₁ : Heap, (∀ b o, b ∉ [s.heap.objs.size] → h'.get? b = some o → h₁.get? b = some o) → Fr h₀ env.locals h₁ (mp d) ∧ News h₀ env.locals h₁ ((cc, oc) :: led d) := fun h₁ hk₁ =>
      ⟨⟨F'.ns.at' fun o e => hk₁ _ o (fun q => hLI (List.mem_singleton.mp q)) e, fun b o e => hk₁ b o (fun q => by rw [List.mem_singleton.mp q, hnew] at e; cases e) (F'.keep b o e), F'.above⟩,
       fun p hp => ⟨hk₁ _ _ (fun q => by
         rcases List.mem_cons.mp hp with rfl | hp
         · exact hCI (List.mem_singleton.mp q)
         · exact (hoff p hp).1 (List.mem_singleton.mp q)) (N' p hp).1, (N' p hp).2⟩⟩
    by_cases hlt : i < n
    · refine W.item i _ _ _ hlt hst fun v₁ h₁ tk₁ hP hst₁ hk₁ => ?_
      obtain ⟨F₁, N₁⟩ := next h₁ hk₁
      obtain ⟨t, rfl⟩ := hP
      refine wpAny_assign_Name (wpAny_storeName_cell hkf hx hcc ⟨oc, (N₁ _ (.head _)).1, hoc⟩ fun h₂ hn₂ hs₂ => ?_)
      obtain ⟨oc₂, hg₂, hd₂⟩ := hn₂
      have F₂ : Fr h₀ env.locals h₂ (mp d) := F₁.change hs₂ hCL hC0
      have hit : h₂.get? s.heap.objs.size = some { cls := .type "range_iterator", data := .fields #[rawInt (a₀ + ((i + 1 : Nat) : Int) * c), rawInt ((n : Int) - ((i + 1 : Nat) : Int)), rawInt c] } :=
        (hs₂.2 _ (Ne.symm hCI)).trans hst₁
      have N₂ : News h₀ env.locals h₂ ((s.heap.objs.size, { cls := .type "range_iterator", data := .fields #[rawInt (a₀ + ((i + 1 : Nat) : Int) * c), rawInt ((n : Int) - ((i + 1 : Nat) : Int)), rawInt c] }) :: (cc, oc₂) :: led d) := fun p hp => by
        rcases List.mem_cons.mp hp with rfl | hp
        · exact ⟨hit, Ne.symm hLI, hnew⟩
        · rcases List.mem_cons.mp hp with rfl | hp
          · exact ⟨hg₂, hCL, hC0⟩
          · exact ⟨hs₂.extBut _ _ (hoff p hp).2 (N₁ p (.tail _ hp)).1, (N₁ p (.tail _ hp)).2⟩
      refine wpS_mono (turn i d s.heap.objs.size _ oc₂ t h₂ _ hlt hI hoff hCI F₂ hd₂ N₂) (fun f s₃ h₃ => ?_) fun _ _ e => e
      have fin : (∃ c' m'' oc' v' h'' tk'', s₃ = { s with heap := h'', toks := tk'' } ∧ Inv (i + 1) c' ∧ Fr h₀ env.locals h'' m'' ∧ oc'.data = .cell v' ∧ News h₀ env.locals h'' ((s.heap.objs.size, { cls := .type "range_iterator", data := .fields #[rawInt (a₀ + ((i + 1 : Nat) : Int) * c), rawInt ((n : Int) - ((i + 1 : Nat) : Int)), rawInt c] }) :: (cc, oc') :: led c') ∧ (∀ p ∈ led c', p.1 ≠ s.heap.objs.size ∧ p.1 ≠ cc) ∧ ∀ z, m'' z = mp c' z) →
          ∃ m, m < n + 1 - i ∧ ∃ h' tk oc v d i, s₃ = { s with heap := h', toks := tk } ∧ IsRangeIter h' s.heap.objs.size (a₀ + (i : Nat) * c) ((n : Int) - (i : Nat)) c ∧ Fr h₀ env.locals h' (mp d) ∧ oc.data = .cell v ∧ News h₀ env.locals h' ((cc, oc) :: led d) ∧ (∀ p ∈ led d, p.1 ≠ s.heap.objs.size ∧ p.1 ≠ cc) ∧ Inv i d ∧ i ≤ n ∧ m = n + 1 - i := by
        rintro ⟨c', m'', oc', v', h'', tk'', e, hc', F₃, hoc', N₃, ho, hz⟩
        obtain rfl : m'' = mp c' := funext hz
        exact ⟨n + 1 - (i + 1), by omega, h'', tk'', oc', v', c', i + 1, e, (N₃ _ (List.mem_cons_self ..)).1, F₃, hoc', fun p hp => N₃ p (List.mem_cons_of_mem _ hp), ho, hc', hlt, rfl⟩
      cases f with
      | ret v => exact h₃
      | brk => exact h₃
      | next => exact fin h₃
      | cont => exact fin h₃
    · have hin : i = n := by omega
      subst hin
      refine W.done _ _ _ hst fun h₁ tk₁ hk₁ => ?_
      obtain ⟨F₁, N₁⟩ := next h₁ hk₁
      exact done d oc v h₁ tk₁ hI F₁ hoc N₁ fun p hp => (hoff p hp).2
  · obtain rfl : m₀ = mp c₀ := funext hm
    refine ⟨_, s.toks, o₀, w₀, c₀, 0, rfl, ?_, F.push _, ho₀, fun p hp => ⟨Heap.get?_push_of_some _ (N p hp).1, (N p hp).2⟩, fun p hp => ⟨Nat.ne_of_lt (Heap.lt_size (N p (.tail _ hp)).1), hoc₀ p hp⟩, h0, Nat.zero_le _, rfl⟩
    show IsRangeIter _ _ _ _ _
    simpa using Heap.get?_push_size _ rfl
end
end Mine
set_option maxRecDepth 100000
set_option Elab.async false
open PySem PySem.W PySem.Calls PyProof.Rows
namespace Mine
/-! ## two lists of the same bytes are the same -/
section
variable {prog : Program} {w : World} {A : Around} {E : Value → Shared → Prop} {s : Shared}
theorem eqAt_bytes (b : List UInt8) (t u : Tok) : SeqAt.EqAt A s (.bytes b.toArray t) (.bytes b.toArray u) true := by
  intro prog w E Q h
  unfold eqBool
  refine wpAny_holding ?_
  refine wpAny_ite_split (fun hab => ?_) (fun hab => ?_)
  · exact wpAny_bind (wpAny_rule (wpAny_pure h))
  · refine wpAny_bind (richCompare_gives (PySem.W.typeIs_bytes s b.toArray t) (PySem.W.typeIs_bytes s b.toArray u) FB.slot_bytes_eq FB.entry_bytes_eq (FB.args_bytes_eq_2 _ _) (gives_bytes_eq b.toArray b.toArray t u) (by simp [Made.takes]) (wpAny_truthy_bool ?_))
    simpa using h
theorem ne_bys {l b : Addr} {xs ys : List Value} {bs : List (List UInt8)} {Q : Value → Shared → Prop} (hl : s.heap.IsList l xs.toArray) (hb : s.heap.IsList b ys.toArray) (hx : BysAre xs bs) (hy : BysAre ys bs) (hu : A.units < cLine) (h : Q (.bool false) s) :
    wpAny (model prog w) A (compareOp .NotEq (.ref l) (.ref b)) Q E s := by
  have hsz : xs.toArray.size = ys.toArray.size := by rw [List.size_toArray, List.size_toArray, hx.length, hy.length]
  refine SeqAt.RcNeAt.lists (e := fun _ => true) hl hb hsz hu (fun j h1 h2 => ?_) prog w E Q ?_
  · rw [List.size_toArray] at h1 h2
    have hj : j < bs.length := by rw [← hx.length]; exact h1
    obtain ⟨t, e1⟩ := hx.at hj
    obtain ⟨u, e2⟩ := hy.at hj
    rw [List.getD_eq_getElem?_getD, List.getElem?_eq_getElem h1] at e1
    rw [List.getD_eq_getElem?_getD, List.getElem?_eq_getElem h2] at e2
    simp only [Option.getD_some] at e1 e2
    simp only [List.getElem_toArray]
    rw [e1, e2]
    exact eqAt_bytes _ _ _
  · have : ((List.range xs.toArray.size).all fun _ => true) = true := by simp
    rw [this]; exact h
end
/-! ## a test that is one comparison -/
theorem wpS_isTrue_Compare1 {M : Model} {A : Around} {E : Value → Shared → Prop} {s : Shared} {env : Env} {l op r pos whole} {Q : Bool → Shared → Prop}
    (h : wpS M A (eval l env) (fun a s₁ => wpS M A (eval r env) (fun b s₂ => wpS M A (compareOp op a b)
      (fun c s₃ => wpS M A (truthy c) Q E s₃) E s₂) E s₁) E s)
    (hm : behindInMarks op r = false := by with_unfolding_all rfl) : wpS M A (isTrue (.Compare l [op] [r] pos) env whole) Q E s := fun Γ p hΓ hc => by
  simp only [isTrue_Compare1, markedBehindIn_of_false hm, Sem.wp_bind', Sem.wp_holding, Sem.wp_cmd_standAt, Sem.wp_operate]
  exact Sem.wp_mono M Γ _ (fun a p₁ s₁ h₁ => Sem.wp_mono M Γ _ (fun b _ s₂ h₂ => Sem.wp_mono M Γ _ (fun c p₃ s₃ h₃ => h₃ Γ p₃ hΓ hc)
    (fun _ _ _ h' => h') _ _ (h₂ Γ _ hΓ hc)) (fun _ _ _ h' => h') _ _ (h₁ Γ p₁ hΓ hc)) (fun _ _ _ h' => h') _ _ (h Γ p hΓ hc)
theorem wpS_cutS {α : Type} {M : Model} {A : Around} {t : Sem α} {Q : α → Shared → Prop} {E : Value → Shared → Prop} {s : Shared} (P : α → Heap → Prop)
    (h1 : wpS M A t (CutEnd s P) (fun _ _ => False) s) (h2 : ∀ v h' tk', P v h' → Q v { s with heap := h', toks := tk' }) : wpS M A t Q E s :=
  wpS_mono h1 (fun v _ ⟨h', tk', e, p⟩ => e ▸ h2 v h' tk' p) fun _ _ x => x.elim
theorem bys_fun : ∀ {ys : List Value} {bs : List (List UInt8)}, ys.length = bs.length → (∀ (j : Nat) (y : Value), ys[j]? = some y → ∃ t, y = .bytes (bs.getD j []).toArray t) → BysAre ys bs
  | [], [], _, _ => trivial
  | y :: ys, b :: bs, hl, h => ⟨h 0 y rfl, bys_fun (by simpa using hl) fun j z hz => h (j + 1) z (by simpa using hz)⟩
  | [], _ :: _, hl, _ => by simp at hl
  | _ :: _, [], hl, _ => by simp at hl
/-- what the claim's caller makes of the call -/
theorem enter_callS {M : Model} {A : Around} {s : Shared} {f : Value} {pos : List Value} {kw : List (Str × Value)} {c : ClaimW} {cl : Str → Option Addr} {mean : ExcName → Option Value} {args : List WData} {s₁ : Shared}
    (h : codeS M A (.call f ⟨pos, kw⟩) (GoodW c cl mean args s₁) s) : wpS M A (PySem.call f pos kw) (fun v s' => GoodWG c cl mean args s₁ (.ok (.ret v)) s') (fun e s' => GoodWG c cl mean args s₁ (.error e) s') s :=
  wpS_call (codeS_mono h fun res s' g => by rcases g.1 with ⟨v, _, _, rfl, _⟩ | ⟨e, _, _, rfl, _⟩ <;> exact g.toG)
end Mine
set_option maxRecDepth 100000
set_option Elab.async false
open PySem PySem.W PySem.Calls PyProof.Rows
namespace Mine
/-! ## a loop over a list that stays as it is -/
section
variable {prog : Program} {w : World} {A : Around} {E : Value → Shared → Prop} {s : Shared} {env : Env} {h₀ : Heap} {x : Str} {px : Pos} {body : List Stmt} {Q : Flow → Shared → Prop}
theorem forListS {σ : Type} {l : Addr} {items : List Value} {kl : Nat} {m₀ : Str → Option Value} (hh : A.handled = none)
    (hx : env.kindOf x = some .local) (hp : (env.scope.kind == .class || (env.scope.kind == .module && env.locals != env.globals)) = false)
    (Inv : Nat → σ → Prop) (mp : σ → Str → Option Value) (led : σ → List (Addr × Obj)) (hsrc : ∀ c, (l, listOf (List.toArray items) kl) ∈ led c) (c₀ : σ) (F : Fr h₀ env.locals s.heap m₀) (N : News h₀ env.locals s.heap (led c₀)) (hm : ∀ z, z ≠ x → m₀ z = mp c₀ z) (h0 : Inv 0 c₀)
    (turn : ∀ i v k I it h tk, items[i]? = some v → Inv i k → (∀ p ∈ led k, p.1 ≠ I) → Fr h₀ env.locals h (fun y => if y = x then some v else mp k y) → News h₀ env.locals h ((I, it) :: led k) →
      wpS (model prog w) A (execs body env) (TurnEnd { s with heap := h, toks := tk } h₀ env.locals x I it (Inv (i + 1)) mp led Q) (fun _ _ => False) { s with heap := h, toks := tk })
    (done : ∀ k m' h tk, Inv items.length k → Fr h₀ env.locals h m' → (∀ z, z ≠ x → m' z = mp k z) → News h₀ env.locals h (led k) → Q .next { s with heap := h, toks := tk }) :
    wpAny (model prog w) A (pyIter (.ref l)) (fun it s₂ => codeS (model prog w) A (.forLoop (.Name x px) it body [] env) (fun r s' => match r with | .ok f => Q f s' | .error _ => False) s₂) E s := by
  refine wpAny_pyIter_list (News.isList N (hsrc c₀)) ?_
  have hnew : h₀.get? s.heap.objs.size = none := next_is_new F
  have hLI : env.locals ≠ s.heap.objs.size := Nat.ne_of_lt F.ns.lt
  refine codeS_forLoop (R := fun r s' => match r with | .ok f => Q f s' | .error _ => False)
    (fun k s' => ∃ h' tk m' d i, s' = { s with heap := h', toks := tk } ∧ h'.IsListIter s.heap.objs.size l i ∧ Fr h₀ env.locals h' m' ∧ News h₀ env.locals h' (led d) ∧ (∀ p ∈ led d, p.1 ≠ s.heap.objs.size) ∧ (∀ z, z ≠ x → m' z = mp d z) ∧ Inv i d ∧ i ≤ items.length ∧ k = items.length + 1 - i) ?_ (items.length + 1) ?_
  · rintro k s' ⟨h', tk, m', d, i, rfl, hst, F', N', hoff, hm', hI, hi, rfl⟩
    have hlist : h'.IsList l (List.toArray items) := News.isList N' (hsrc d)
    have next : ∀ h₁ : Heap, (∀ b o, b ≠ s.heap.objs.size → h'.get? b = some o → h₁.get? b = some o) → Fr h₀ env.locals h₁ m' ∧ News h₀ env.locals h₁ (led d) := fun h₁ hk₁ =>
      ⟨⟨F'.ns.at' fun o e => hk₁ _ o (fun q => hLI q) e, fun b o e => hk₁ b o (fun q => by rw [q, hnew] at e; cases e) (F'.keep b o e), F'.above⟩,
       fun p hp => ⟨hk₁ _ _ (fun q => hoff p hp q) (N' p hp).1, (N' p hp).2⟩⟩
    by_cases hlt : i < items.length
    · refine wpAny_pyNext_list_item (x := items[i]) hst hlist (by simp [hlt]) fun h₁ hst₁ hs₁ => ?_
      obtain ⟨F₁, N₁⟩ := next h₁ fun b o hb e => hs₁.extBut b o hb e
      refine wpAny_assign_Name (wpAny_storeName_local hx F₁.ns (fun h₂ hn₂ hs₂ => ?_) hp)
      have F₂ := F₁.set hn₂ hs₂
      have e : (fun y => if y = x then some items[i] else m' y) = fun y => if y = x then some items[i] else mp d y := by
        funext y; by_cases h : y = x
        · rw [if_pos h, if_pos h]
        · rw [if_neg h, if_neg h, hm' y h]
      rw [e] at F₂
      have hst₂ : h₂.IsListIter s.heap.objs.size l (i + 1) := hst₁.at fun o e => (hs₂.2 _ (Ne.symm hLI)).trans e
      obtain ⟨it, hit, hit2⟩ := hst₂
      have N₂ : News h₀ env.locals h₂ ((s.heap.objs.size, it) :: led d) := fun p hp => by
        rcases List.mem_cons.mp hp with rfl | hp
        · exact ⟨hit, Ne.symm hLI, hnew⟩
        · exact (N₁.set hs₂) p hp
      refine wpS_mono (turn i items[i] d s.heap.objs.size _ h₂ _ (List.getElem?_eq_getElem hlt) hI hoff F₂ N₂) (fun f s₃ h₃ => ?_) fun _ _ e => e
      have fin : (∃ c' m'' h'' tk'', s₃ = { s with heap := h'', toks := tk'' } ∧ Inv (i + 1) c' ∧ Fr h₀ env.locals h'' m'' ∧ News h₀ env.locals h'' ((s.heap.objs.size, it) :: led c') ∧ (∀ p ∈ led c', p.1 ≠ s.heap.objs.size) ∧ ∀ z, z ≠ x → m'' z = mp c' z) →
          ∃ m, m < items.length + 1 - i ∧ ∃ h' tk m' d i, s₃ = { s with heap := h', toks := tk } ∧ h'.IsListIter s.heap.objs.size l i ∧ Fr h₀ env.locals h' m' ∧ News h₀ env.locals h' (led d) ∧ (∀ p ∈ led d, p.1 ≠ s.heap.objs.size) ∧ (∀ z, z ≠ x → m' z = mp d z) ∧ Inv i d ∧ i ≤ items.length ∧ m = items.length + 1 - i := by
        rintro ⟨c', m'', h'', tk'', e, hc', F₃, N₃, ho, hz⟩
        exact ⟨items.length + 1 - (i + 1), by omega, h'', tk'', m'', c', i + 1, e, ⟨it, (N₃ _ (List.mem_cons_self ..)).1, hit2⟩, F₃, fun p hp => N₃ p (List.mem_cons_of_mem _ hp), ho, hz, hc', hlt, rfl⟩
      cases f with
      | ret v => exact h₃
      | brk => exact h₃
      | next => exact fin h₃
      | cont => exact fin h₃
    · have hin : i = items.length := by omega
      subst hin
      refine wpAny_pyNext_list_end hh hst hlist (by simp) fun h₁ he₁ => ?_
      obtain ⟨F₁, N₁⟩ := next h₁ fun b o hb e => he₁ b o hb e
      exact done d m' h₁ _ hI F₁ hm' N₁
  · refine ⟨_, s.toks, m₀, c₀, 0, rfl, ?_, F.push _, fun p hp => ⟨Heap.get?_push_of_some _ (N p hp).1, (N p hp).2⟩, fun p hp => Nat.ne_of_lt (Heap.lt_size (N p hp).1), hm, h0, Nat.zero_le _, rfl⟩
    exact ⟨_, Heap.get?_push_size _ rfl, rfl, rfl⟩
end
theorem fr_eqv {h₀ h : Heap} {L : Addr} {m m' : Str → Option Value} (F : Fr h₀ L h m) (e : ∀ y, m y = m' y) : Fr h₀ L h m' := by
  obtain rfl : m = m' := funext e
  exact F
theorem look1 {y k : Str} {v : Value} {r : List (Str × Value)} : List.lookup y ((k, v) :: r) = if y = k then some v else List.lookup y r := by
  by_cases h : y = k
  · subst h; rw [if_pos rfl]; simp [List.lookup]
  · have h' : (y == k) = false := by simpa using h
    rw [if_neg h]; simp only [List.lookup, h']
section
variable {prog : Program} {w : World} {A A₀ : Around} {s : Shared} {K : Frag} {L : Addr} {h₀ base : Heap} {m mg mb : Str → Option Value} {news : List (Addr × Obj)} {p : Program} {loose : List Str} {mean : ExcName → Option Value}
/-- a call of a def some of whose names live in cells, on any stack -/
theorem code_defCA {env : Env} {outer : List Env} {R : Result → Shared → Prop} {name qual : Str} {params : Arguments} {body : List Stmt} {scope : Scope} {dV kV doc pm cdv ct oc : Value} {an od : Option Addr} {osl : Array (Option Value)} {f : Addr} {args : Args} {binds : List (Str × Value)} (cls : Addr → List (Str × Addr))
    (B : Below A₀ base outer h₀) (F : Fr h₀ L s.heap m) (X₀ : K.In h₀) (N : News h₀ L s.heap news) (T : Top p loose mean mg mb h₀) (hA : A.frames = some (env :: outer)) (hf : env.frame = some L) (hke : env.scope.kind = .function)
    (ho : K.lookup f = some ⟨oc, od, .func (fnOf name qual params body scope dV kV doc pm an cdv ct), osl⟩) (hcd : codeIn K cdv qual = true) (hroom : A.depth < recursionLimit)
    (hbind : BindsTo s (fnOf name qual params body scope dV kV doc pm an cdv ct) args binds) (hkind : (binds.all fun y => scope.names.lookup y.1 == some .local || scope.names.lookup y.1 == some .cell) = true)
    (hnd : ((cellsFrom 0 scope.names []).map (·.1)).Nodup)
    (hcls : ∀ n, cellsFrom (n + 1) scope.names [] = cls n)
    (h : ∀ g L' h₁ tk cells, Fr h₀ L g m → Fr g L' h₁ (bindL (envOfC qual scope L' f cdv).kindOf binds fun _ => none) → News g L' h₁ (cells ++ news) →
      CellsAre (bindC (envOfC qual scope L' f cdv).kindOf binds fun _ => none) (cls L') cells → Below A base (env :: outer) g → K.In g → Top p loose mean mg mb g → (∀ p ∈ news, p.1 < L') →
      wpAny (model prog w) (A.deeper (envX qual scope L' f cdv (cls L'))) (execs body (envX qual scope L' f cdv (cls L')))
        (fun fl s' => LeaveK h₀ L m g R (match fl with | .ret v => v | _ => .none) s') (fun _ _ => False)
        { s with heap := h₁, toks := tk })
    (hco : scope.isCoroutine = false) (hgen : scope.isGenerator = false) (hk : scope.kind = .function) : codeAny (model prog w) A (.call (.ref f) args) R s := by
  refine code_defC B F X₀ N T hA hf hke ho hcd hroom hbind hkind hnd (fun g L' h₁ tk cells FG F' N' Y B' X' T' hlt => ?_) hco hgen hk
  have e : envOfC qual scope L' f cdv = envX qual scope L' f cdv (cls L') := by
    show envX qual scope L' f cdv (cellsFrom (L' + 1) scope.names []) = _
    rw [hcls]
  rw [hcls] at Y
  have hb := h g L' h₁ tk cells FG F' N' Y B' X' T' hlt
  rw [← e] at hb
  exact wpAny_mono hb (fun _ _ x => x) fun _ _ x => x.elim
end
end Mine
set_option maxRecDepth 100000
set_option Elab.async false
open PySem PySem.W PySem.Calls PyProof.Rows
namespace Mine
/-! ## a comprehension over a list of ints that takes some of them -/
section
variable {prog : Program} {w : World} {A : Around} {s : Shared} {env : Env} {h₀ : Heap} {L : Addr} {m : Str → Option Value} {news : List (Addr × Obj)}
def TestEnd (h₀ : Heap) (L : Addr) (m : Str → Option Value) (all : List (Addr × Obj)) (s : Shared) (g : Bool) (ok : Bool) (s' : Shared) : Prop :=
  ok = g ∧ ∃ h' tk', s' = { s with heap := h', toks := tk' } ∧ Fr h₀ L h' m ∧ News h₀ L h' all
theorem TestEnd.mk {all al' : List (Addr × Obj)} {g ok : Bool} {h' : Heap} {tk' : Nat} (e : ok = g) (F : Fr h₀ L h' m) (N : News h₀ L h' al') (sub : ∀ p ∈ all, p ∈ al') : TestEnd h₀ L m all s g ok { s with heap := h', toks := tk' } :=
  ⟨e, h', tk', rfl, F, fun p hp => N p (sub p hp)⟩
theorem comp_tests {ct : Expr} {x : Str} {px : Pos} {scope : Scope} {cl : List (Str × Addr)} {S : List (Addr × Obj) → Prop} {Fin : List Value → List (Addr × Obj) → Prop} {its : List Value} {ns : List Int} (f : Int → Bool) (hi : IntsAre its ns) (hS : S news)
    (tests : ∀ (i : Nat) (z : Int) (t : Tok) I oI C oC D m₂ h tk (E' : Value → Shared → Prop) ys, ns[i]? = some z → LCg.NsObj oC m₂ → m₂ x = some (.int z t) → Fr h₀ L h m → News h₀ L h ((I, oI) :: (C, oC) :: (D, LCg.lst ys) :: news) → LCg.Off3 I C D news → ((@Ne Nat I C) ∧ (@Ne Nat I D) ∧ (@Ne Nat C D)) →
      wpAny (model prog w) A (isTrue ct (compEnvC scope cl C env) (eval ct (compEnvC scope cl C env))) (TestEnd h₀ L m ((I, oI) :: (C, oC) :: (D, LCg.lst ys) :: news) { s with heap := h, toks := tk } (f z)) E' { s with heap := h, toks := tk })
    (fin : ∀ ys : List Value, IntsAre ys (ns.filter f) → Fin ys news)
    (hk : ∀ C, (compEnvC scope cl C env).scope.kind = .function := by intro _; rfl) (hl : ∀ C, (compEnvC scope cl C env).kindOf x = some .local := by intro _; rfl) (hd : (x == ("__debug__" : Str)) = false := by decide) :
    LCt.CompRestT prog w A h₀ L m env ct (.Name x px) x scope cl s S (fun i v => its.toArray[i]? = some v) Fin its.toArray.size 0 [] news := by
  have key : ∀ k i (ys : List Value), i + k = its.length → IntsAre ys ((ns.take i).filter f) → LCt.CompRestT prog w A h₀ L m env ct (.Name x px) x scope cl s S (fun i v => its.toArray[i]? = some v) Fin k i ys news := by
    intro k
    induction k with
    | zero =>
      intro i ys hk hy
      rw [Nat.add_zero] at hk
      rw [hk, hi.length, List.take_length] at hy
      exact fin ys hy
    | succ k ih =>
      intro i ys hik hy v I oI C oC D m₂ h tk E' hP hC hx F N off ne
      have hil : i < ns.length := by rw [← hi.length]; omega
      obtain ⟨t, rfl⟩ := hi.int_at i v (by simpa using hP)
      have hz : ns[i]? = some (ns.getD i 0) := by rw [List.getD_eq_getElem?_getD, List.getElem?_eq_getElem hil]; rfl
      have htake : (ns.take (i + 1)).filter f = (ns.take i).filter f ++ [ns.getD i 0].filter f := by
        rw [List.take_succ, hz, List.filter_append]; rfl
      refine wpAny_mono (tests i (ns.getD i 0) t I oI C oC D m₂ h tk E' ys hz hC hx F N off ne) (fun ok s' hy' => ?_) fun _ _ e => e
      obtain ⟨e, h', tk', rfl, F', N'⟩ := hy'
      by_cases hf : f (ns.getD i 0) = true
      · rw [hf] at e
        rw [if_pos e]
        refine LCgL.ld_own (s := ⟨h', _, _, _, _⟩) N' (.tail _ (.head _)) hC hx ?_ (hk C) (hl C) hd
        refine ⟨h', tk', news, rfl, F', N', off, hS, ih (i + 1) (ys ++ [.int (ns.getD i 0) t]) (by omega) ?_⟩
        rw [htake, List.filter_cons_of_pos hf, List.filter_nil]
        exact hy.append (.cons _ _ .nil)
      · rw [e, if_neg hf]
        refine ⟨h', tk', news, rfl, F', N', off, hS, ih (i + 1) ys (by omega) ?_⟩
        rw [htake, List.filter_cons_of_neg hf, List.filter_nil, List.append_nil]
        exact hy
  have := key its.length 0 [] (by omega) .nil
  simpa using this
end
end Mine
set_option maxRecDepth 100000
set_option Elab.async false
open PySem PySem.W PySem.Calls PyProof.Rows
namespace Mine
/-! ## zip, when the first tuple that it gave is still held -/
abbrev IsZipH (h : Heap) (z TI TO T0 : Addr) (b : Bool) : Prop :=
  h.get? z = some { cls := .type "zip", dict := none, data := .fields #[rawInt T0, .bool b, .bool false, .ref TI, .ref TO], slots := #[] }
section
variable {prog : Program} {w : World} {A : Around} {E : Value → Shared → Prop} {s : Shared}
theorem owned_held {z TI TO T0 : Addr} {b : Bool} {o0 : Obj} {Q : Bool → Shared → Prop} (hz : IsZipH s.heap z TI TO T0 b) (h0 : s.heap.get? T0 = some o0)
    (hQ : ∀ h', IsZipH h' z TI TO T0 true → Heap.SameBut z s.heap h' → Q false { s with heap := h' }) : wpAny (model prog w) A (Builtin.SmallTypes.ownedTupleIsFree (.ref z)) Q E s := by
  unfold Builtin.SmallTypes.ownedTupleIsFree
  refine wpAny_bind (wpAny_field hz rfl (x := rawInt T0) rfl ?_)
  show wpAny _ _ (loadIfAlive (T0 : Int).toNat >>= _) _ _ _
  have hlook : wpAny (model prog w) A (loadIfAlive (T0 : Int).toNat) (fun r s' => r = some o0 ∧ s' = s) E s := fun Γ p hΓ => by
    show Sem.wp _ Γ (Sem.loadIfAlive (T0 : Int).toNat .pure) _ _ p s
    rw [Sem.wp_loadIfAlive, Int.toNat_natCast, h0]
    exact ⟨rfl, rfl⟩
  refine wpAny_bind (wpAny_mono hlook (fun r s' hr => ?_) fun _ _ e => e)
  obtain ⟨rfl, rfl⟩ := hr
  show wpAny _ _ (field (.ref z) 1 >>= _) _ _ _
  refine wpAny_bind (wpAny_field hz rfl (x := .bool b) rfl ?_)
  cases b with
  | true => exact wpAny_bind (wpAny_pure (wpAny_pure (hQ _ hz ⟨rfl, fun _ _ => rfl⟩)))
  | false =>
    refine wpAny_bind (wpAny_setField_rec hz (by simp) fun h₁ hz₁ hs₁ => ?_)
    exact wpAny_pure (hQ _ hz₁ hs₁)
theorem zip_held_item {z TI TO T0 i1 i2 l1 l2 : Addr} {bb : Bool} {o0 : Obj} {k1 k2 : Nat} {xs ys : Array Value} {x y : Value} {Q : Value → Shared → Prop} (D : ZipApart z TI TO i1 i2 l1 l2)
    (hz : IsZipH s.heap z TI TO T0 bb) (h0 : s.heap.get? T0 = some o0) (hTI : IsPair s.heap TI (.ref i1) (.ref i2))
    (h1 : s.heap.IsListIter i1 l1 k1) (h2 : s.heap.IsListIter i2 l2 k2) (hl1 : s.heap.IsList l1 xs) (hl2 : s.heap.IsList l2 ys) (hx : xs[k1]? = some x) (hy : ys[k2]? = some y)
    (hQ : ∀ h', IsZipH h' z TI TO T0 true → h'.IsListIter i1 l1 (k1 + 1) → h'.IsListIter i2 l2 (k2 + 1) → IsPair h' s.heap.objs.size x y → h'.objs.size = s.heap.objs.size + 1 →
      (∀ c o, c ≠ z → c ≠ i1 → c ≠ i2 → s.heap.get? c = some o → h'.get? c = some o) → Q (.ref s.heap.objs.size) { s with heap := h' }) :
    wpAny (model prog w) A (Builtin.«zip.__next__» ⟨[.ref z], []⟩) (fun fin s' => ∃ v, fin = .done (.ret v) ∧ Q v s') E s := by
  show wpAny _ _ (field (.ref z) 2 >>= _) _ _ _
  refine wpAny_bind (wpAny_field hz rfl (x := .bool false) rfl ?_)
  show wpAny _ _ (field (.ref z) 3 >>= _) _ _ _
  refine wpAny_bind (wpAny_field hz rfl (x := .ref TI) rfl ?_)
  refine wpAny_bind (wpAny_seqItems hTI rfl ?_)
  show wpAny _ _ (Builtin.SmallTypes.ownedTupleIsFree (.ref z) >>= _) _ _ _
  refine wpAny_bind (owned_held hz h0 fun h₁ hz₁ hs₁ => ?_)
  simp only [Bool.false_eq_true, if_false]
  refine wpAny_bind ?_
  rw [← Array.forIn_toList]
  simp only [List.forIn_cons, List.forIn_nil]
  refine wpAny_bind (wpAny_bind (wpAny_holding ?_))
  show wpAny _ _ (Builtin.SmallTypes.nextOf (.ref i1) >>= _) _ _ _
  refine wpAny_bind (wpAny_nextOf_list_item (h1.extBut hs₁.extBut D.i1z) (hl1.extBut hs₁.extBut D.l1z) hx fun h₂ h1₂ hs₂ => wpAny_pure ?_)
  refine wpAny_pure ?_
  refine wpAny_bind (wpAny_bind (wpAny_holding ?_))
  show wpAny _ _ (Builtin.SmallTypes.nextOf (.ref i2) >>= _) _ _ _
  refine wpAny_bind (wpAny_nextOf_list_item ((h2.extBut hs₁.extBut D.i2z).extBut hs₂.extBut D.i12.symm) ((hl2.extBut hs₁.extBut D.l2z).extBut hs₂.extBut D.l2i1) hy fun h₃ h2₃ hs₃ => wpAny_pure ?_)
  refine wpAny_pure ?_
  refine wpAny_pure ?_
  show wpAny _ _ (newTuple [x, y] >>= _) _ _ _
  refine wpAny_bind (wpAny_newTuple ?_)
  refine wpAny_pure ⟨_, rfl, ?_⟩
  have hsz : h₃.objs.size = s.heap.objs.size := by rw [hs₃.1, hs₂.1, hs₁.1]
  have hzlt : z < h₃.objs.size := by rw [hsz]; exact Heap.lt_size hz
  show Q (.ref h₃.objs.size) _
  rw [hsz]
  have up : ∀ c o, c ≠ z → c ≠ i1 → c ≠ i2 → s.heap.get? c = some o → h₃.get? c = some o := fun c o c1 c2 c3 e => hs₃.extBut _ _ c3 (hs₂.extBut _ _ c2 (hs₁.extBut _ _ c1 e))
  refine hQ _ (Heap.get?_push_of_some _ (hs₃.extBut _ _ D.i2z.symm (hs₂.extBut _ _ D.i1z.symm hz₁))) ?_ ?_ ?_ (by rw [Heap.size_push, hsz]) fun c o c1 c2 c3 e => Heap.get?_push_of_some _ (up c o c1 c2 c3 e)
  · exact (h1₂.extBut hs₃.extBut D.i12).at fun o e => Heap.get?_push_of_some _ e
  · exact h2₃.at fun o e => Heap.get?_push_of_some _ e
  · rw [← hsz]; exact Heap.get?_push_size _ rfl
theorem zip_held_end {z TI TO T0 i1 i2 l1 l2 : Addr} {bb : Bool} {o0 : Obj} {k1 : Nat} {xs : Array Value} {Q : PySem.Fin → Shared → Prop} (hh : A.handled = none) (D : ZipApart z TI TO i1 i2 l1 l2)
    (hz : IsZipH s.heap z TI TO T0 bb) (h0 : s.heap.get? T0 = some o0) (hTI : IsPair s.heap TI (.ref i1) (.ref i2))
    (h1 : s.heap.IsListIter i1 l1 k1) (hl1 : s.heap.IsList l1 xs) (hx : xs[k1]? = none)
    (hE : ∀ h' e, (∀ c o, c ≠ z → c ≠ i1 → s.heap.get? c = some o → h'.get? c = some o) → (∃ o, h'.get? e = some o ∧ o.cls = .type "StopIteration") → E (.ref e) { s with heap := h' }) :
    wpAny (model prog w) A (Builtin.«zip.__next__» ⟨[.ref z], []⟩) Q E s := by
  show wpAny _ _ (field (.ref z) 2 >>= _) _ _ _
  refine wpAny_bind (wpAny_field hz rfl (x := .bool false) rfl ?_)
  show wpAny _ _ (field (.ref z) 3 >>= _) _ _ _
  refine wpAny_bind (wpAny_field hz rfl (x := .ref TI) rfl ?_)
  refine wpAny_bind (wpAny_seqItems hTI rfl ?_)
  show wpAny _ _ (Builtin.SmallTypes.ownedTupleIsFree (.ref z) >>= _) _ _ _
  refine wpAny_bind (owned_held hz h0 fun h₁ hz₁ hs₁ => ?_)
  simp only [Bool.false_eq_true, if_false]
  refine wpAny_bind ?_
  rw [← Array.forIn_toList]
  simp only [List.forIn_cons, List.forIn_nil]
  refine wpAny_bind (wpAny_bind (wpAny_holding ?_))
  show wpAny _ _ (Builtin.SmallTypes.nextOf (.ref i1) >>= _) _ _ _
  refine wpAny_bind (wpAny_nextOf_list_end hh (h1.extBut hs₁.extBut D.i1z) (hl1.extBut hs₁.extBut D.l1z) hx fun h₂ e he ho => ?_)
  exact hE h₂ e (fun c o c1 c2 ec => he _ _ c2 (hs₁.extBut _ _ c1 ec)) ho
theorem next_held_item {z TI TO T0 i1 i2 l1 l2 : Addr} {bb : Bool} {o0 : Obj} {k1 k2 : Nat} {xs ys : Array Value} {x y : Value} {Q : Option Value → Shared → Prop} (D : ZipApart z TI TO i1 i2 l1 l2)
    (hz : IsZipH s.heap z TI TO T0 bb) (h0 : s.heap.get? T0 = some o0) (hTI : IsPair s.heap TI (.ref i1) (.ref i2))
    (h1 : s.heap.IsListIter i1 l1 k1) (h2 : s.heap.IsListIter i2 l2 k2) (hl1 : s.heap.IsList l1 xs) (hl2 : s.heap.IsList l2 ys) (hx : xs[k1]? = some x) (hy : ys[k2]? = some y)
    (hQ : ∀ h', IsZipH h' z TI TO T0 true → h'.IsListIter i1 l1 (k1 + 1) → h'.IsListIter i2 l2 (k2 + 1) → IsPair h' s.heap.objs.size x y → h'.objs.size = s.heap.objs.size + 1 →
      (∀ c o, c ≠ z → c ≠ i1 → c ≠ i2 → s.heap.get? c = some o → h'.get? c = some o) → Q (some (.ref s.heap.objs.size)) { s with heap := h' }) :
    wpAny (model prog w) A (pyNext (.ref z)) Q E s := by
  have hT : s.TypeIs (.ref z) "zip" := ⟨_, hz, rfl⟩
  unfold pyNext
  exact wpAny_bind (wpAny_attempt (wpAny_callSpecial?_slot (name := Str.ofString "__next__") hT F.slot_zip_next
    (wpAny_call_entry F.slot_zip_next hT F.entry_zip_next
      (zip_held_item D hz h0 hTI h1 h2 hl1 hl2 hx hy fun h' a1 a2 a3 a4 a5 a6 => wpAny_pure (hQ h' a1 a2 a3 a4 a5 a6)) (F.args_zip_next_1 _))))
theorem next_held_end {z TI TO T0 i1 i2 l1 l2 : Addr} {bb : Bool} {o0 : Obj} {k1 : Nat} {xs : Array Value} {Q : Option Value → Shared → Prop} (hh : A.handled = none) (D : ZipApart z TI TO i1 i2 l1 l2)
    (hz : IsZipH s.heap z TI TO T0 bb) (h0 : s.heap.get? T0 = some o0) (hTI : IsPair s.heap TI (.ref i1) (.ref i2))
    (h1 : s.heap.IsListIter i1 l1 k1) (hl1 : s.heap.IsList l1 xs) (hx : xs[k1]? = none)
    (hQ : ∀ h', (∀ c o, c ≠ z → c ≠ i1 → s.heap.get? c = some o → h'.get? c = some o) → Q none { s with heap := h' }) : wpAny (model prog w) A (pyNext (.ref z)) Q E s := by
  have hT : s.TypeIs (.ref z) "zip" := ⟨_, hz, rfl⟩
  unfold pyNext
  refine wpAny_bind (wpAny_attempt (wpAny_callSpecial?_slot (name := Str.ofString "__next__") hT F.slot_zip_next
    (wpAny_call_entry F.slot_zip_next hT F.entry_zip_next (zip_held_end hh D hz h0 hTI h1 hl1 hx fun h' e hk he => ?_) (F.args_zip_next_1 _))))
  obtain ⟨o, ho, hc⟩ := he
  refine wpAny_bind (wpAny_isInstance (T := "StopIteration") (b := true) ⟨o, ho, hc⟩ isSubtype_stop ?_)
  exact wpAny_pure (hQ _ hk)
end
end Mine
set_option maxRecDepth 100000
set_option Elab.async false
open PySem PySem.W PySem.Calls PyProof.Rows
namespace Mine
/-! ## [p for q in zip(..) for p in q] -/
abbrev nestE (p q : Str) (p1 p2 p3 p4 : Pos) (it0 : Expr) (scope : Scope) (pos : Pos) : Expr := .ListComp (.Name p p1) [⟨.Name q p2, it0, [], 0⟩, ⟨.Name p p3, .Name q p4, [], 0⟩] scope pos
theorem inner_eq (p q : Str) (p1 p2 p3 p4 : Pos) (it0 : Expr) (scope : Scope) (pos : Pos) (it acc : Value) (env : Env) :
    compTurn (nestE p q p1 p2 p3 p4 it0 scope pos) 1 it acc env = (standAt (Expr.Name q p4).pos >>= fun _ => pyNext it >>= fun r => match r with
      | none => pure (.done .next)
      | some v => letOwnedTupleGo (.Name p p3) it v >>= fun _ => assign (.Name p p3) env v >>= fun _ =>
        (eval (.Name p p1) env >>= fun x => call (.builtin "list.append") [acc, x] >>= fun _ => pure ()) >>= fun _ =>
          again (.compLoop (nestE p q p1 p2 p3 p4 it0 scope pos) 1 it acc env)) := by rfl
theorem outer_eq (p q : Str) (p1 p2 p3 p4 : Pos) (it0 : Expr) (scope : Scope) (pos : Pos) (it acc : Value) (env : Env) :
    compTurn (nestE p q p1 p2 p3 p4 it0 scope pos) 0 it acc env = (standAt it0.pos >>= fun _ => pyNext it >>= fun r => match r with
      | none => pure (.done .next)
      | some v => letOwnedTupleGo (.Name q p2) it v >>= fun _ => assign (.Name q p2) env v >>= fun _ =>
        (eval (.Name q p4) env >>= fun x => standAt (Expr.Name q p4).pos >>= fun _ => foldedSetIterable (.Name q p4) env x >>= fun x =>
          holding [x] (pyIter x) >>= fun j => runOwn (.compStart (nestE p q p1 p2 p3 p4 it0 scope pos) 1 j acc env) env >>= fun _ =>
          again (.compLoop (nestE p q p1 p2 p3 p4 it0 scope pos) 0 it acc env))) := by rfl
section
variable {prog : Program} {w : World} {A : Around} {s : Shared} {env : Env} {R : Result → Shared → Prop} {p q : Str} {p1 p2 p3 p4 : Pos} {it0 : Expr} {scope : Scope} {pos : Pos}
theorem inner_loop {J T D : Addr} {its : Array Value} {ys : List Value} {m' : Str → Option Value} (hh : A.handled = none)
    (hkf : env.scope.kind = .function) (hpl : env.kindOf p = some .local) (hpc : (env.scope.kind == .class || (env.scope.kind == .module && env.locals != env.globals)) = false) (hdb : (p == ("__debug__" : Str)) = false)
    (hJ : s.heap.IsTupleIter J T 0) (hT : s.heap.IsTuple T its) (hD : s.heap.get? D = some (LCg.lst ys)) (hN : s.heap.Ns env.locals m')
    (JT : T ≠ J) (TC : T ≠ env.locals) (TD : T ≠ D) (JC : J ≠ env.locals) (JD : J ≠ D) (CD : env.locals ≠ D) (hz : ys.length + its.size ≤ sizeLine)
    (h : ∀ h' tk m'', (∀ c o, c ≠ J → c ≠ env.locals → c ≠ D → s.heap.get? c = some o → h'.get? c = some o) → h'.Ns env.locals m'' → h'.get? D = some (LCg.lst (ys ++ its.toList)) → R (.ok .next) { s with heap := h', toks := tk }) :
    codeAny (model prog w) A (.compLoop (nestE p q p1 p2 p3 p4 it0 scope pos) 1 (.ref J) (.ref D) env) R s := by
  refine codeAny_loop rfl (fun k s' => ∃ h' tk i m'', s' = { s with heap := h', toks := tk } ∧ i ≤ its.size ∧ k = its.size + 1 - i ∧ h'.IsTupleIter J T i ∧ h'.get? D = some (LCg.lst (ys ++ its.toList.take i)) ∧ h'.Ns env.locals m'' ∧
    (∀ c o, c ≠ J → c ≠ env.locals → c ≠ D → s.heap.get? c = some o → h'.get? c = some o)) ?_ (its.size + 1) ⟨s.heap, s.toks, 0, m', rfl, Nat.zero_le _, rfl, hJ, by simpa using hD, hN, fun _ _ _ _ _ e => e⟩
  rintro k s' ⟨h', tk, i, m'', rfl, hi, rfl, hJ', hD', hN', hk'⟩
  show wpAny _ _ ((compTurn (nestE p q p1 p2 p3 p4 it0 scope pos) 1 (.ref J) (.ref D) env).onRaise (fun x => do noteFrame x env; theTreesLotGoes x)) _ _ _
  refine wpAny_onRaise (wpAny_mono (E := fun _ _ => False) ?_ (fun _ _ h' => h') fun _ _ h' => h'.elim)
  rw [inner_eq]
  refine wpAny_bind (wpAny_standAt (wpAny_bind ?_))
  have hT' : h'.IsTuple T its := by
    obtain ⟨o, ho, r⟩ := hT
    exact ⟨o, hk' T o JT TC TD ho, r⟩
  by_cases hlt : i < its.size
  · refine wpAny_pyNext_tuple_item (x := its[i]) hJ' hT' (by simp [hlt]) fun h₁ hJ₁ hs₁ => ?_
    refine wpAny_bind (wpAny_pure ?_)
    refine wpAny_bind (wpAny_assign_Name (wpAny_storeName_local hpl (hN'.sameBut hs₁ (Ne.symm JC)) (fun h₂ hn₂ hs₂ => ?_) hpc))
    refine wpAny_bind (wpAny_bind (wpAny_Name (wpAny_loadName_local hkf hpl hn₂ (if_pos rfl) ?_) hdb))
    have hD₂ : h₂.get? D = some (LCg.lst (ys ++ its.toList.take i)) := hs₂.extBut _ _ (Ne.symm CD) (hs₁.extBut _ _ (Ne.symm JD) hD')
    refine wpAny_bind (append_at hD₂ (fun h₃ hs₃ hD₃ => ?_) (by show (List.toArray _).size ≤ _; rw [List.size_toArray, List.length_append, List.length_take]; omega))
    refine wpAny_pure (wpAny_pure ⟨rfl, its.size + 1 - (i + 1), by omega, h₃, _, i + 1, _, rfl, hlt, rfl, (hJ₁.extBut hs₂.extBut JC).extBut hs₃.extBut JD, ?_, hn₂.sameBut hs₃ CD, fun c o c1 c2 c3 e => hs₃.extBut _ _ c3 (hs₂.extBut _ _ c2 (hs₁.extBut _ _ c1 (hk' c o c1 c2 c3 e)))⟩)
    rw [hD₃, LCg.lst_snoc, List.append_assoc, List.take_add_one]
    simp [hlt]
  · obtain rfl : i = its.size := by omega
    refine wpAny_pyNext_tuple_end hh hJ' hT' (by simp) fun h₁ he₁ => ?_
    refine wpAny_pure (h h₁ _ m'' (fun c o c1 c2 c3 e => he₁ _ _ c1 (hk' c o c1 c2 c3 e)) (hN'.extBut he₁ (Ne.symm JC)) ?_)
    rw [he₁ _ _ (Ne.symm JD) hD', List.take_of_length_le (by simp)]
/-- the start of the inner turns -/
theorem inner_start {J T D : Addr} (hJ : s.heap.IsTupleIter J T 0)
    (h0 : codeAny (model prog w) A (.compLoop (nestE p q p1 p2 p3 p4 it0 scope pos) 1 (.ref J) (.ref D) env) R s) :
    codeAny (model prog w) A (.compStart (nestE p q p1 p2 p3 p4 it0 scope pos) 1 (.ref J) (.ref D) env) R s := by
  refine codeAny_of_tree ?_
  show wpAny _ _ ((compStart (nestE p q p1 p2 p3 p4 it0 scope pos) 1 (.ref J) (.ref D) env).onRaise (fun x => do noteFrame x env; standAt theWindowsPlace)) _ _ s
  refine wpAny_onRaise (wpAny_mono (E := fun _ _ => False) ?_ (fun _ _ h' => h') fun _ _ h' => h'.elim)
  unfold compStart
  show wpAny _ _ (ask >>= _) _ _ s
  refine wpAny_bind (wpAny_askSetting (wpAny_ite ?_))
  have hself : ∀ {Q : Value → Shared → Prop} {E : Value → Shared → Prop}, Q (.ref J) s → wpAny (model prog w) A (pyIter (.ref J)) Q E s := fun {Q E} hq => by
    refine wpAny_pyIter_slot hJ.typeIs F.slot_tuple_iterator_iter (wpAny_call_entry F.slot_tuple_iterator_iter hJ.typeIs F.entry_tuple_iterator_iter ?_ (F.args_tuple_iterator_iter_1 _))
    show wpAny _ _ (ret (.ref J)) _ _ s
    exact wpAny_pure ⟨_, rfl, "tuple_iterator", _, hJ.typeIs, F.slot_tuple_iterator_next.lookup, hq⟩
  split
  · first
      | exact wpAny_bind (wpAny_pure (wpAny_pure (And.intro rfl h0)))
      | exact wpAny_pure (And.intro rfl h0)
  · refine wpAny_bind (wpAny_rule ?_)
    show wpAny _ _ (standAt (Expr.Name q p4).pos >>= _) _ _ s
    exact wpAny_bind (wpAny_standAt (wpAny_bind (hself (wpAny_pure (And.intro rfl h0)))))
/-- what a list of ints looks like where some places of it are taken -/
theorem ints_pick {vs : List Value} {ns : List Int} (hi : IntsAre vs ns) : ∀ idx : List Nat, IntsAre (idx.filterMap (vs.toArray[·]?)) (idx.filterMap (ns[·]?))
  | [] => .nil
  | j :: idx => by
    have ih := ints_pick hi idx
    by_cases hj : j < ns.length
    · have hv : j < vs.length := by rw [hi.length]; exact hj
      obtain ⟨t, ht⟩ := hi.int_at j vs[j] (List.getElem?_eq_getElem hv)
      rw [List.getD_eq_getElem?_getD, List.getElem?_eq_getElem hj] at ht
      rw [List.filterMap_cons, List.filterMap_cons, List.getElem?_eq_getElem hj]
      simp only [List.getElem?_toArray, List.getElem?_eq_getElem hv]
      rw [ht]
      exact .cons _ _ (by simpa using ih)
    · have hv : ¬ j < vs.length := by rw [hi.length]; exact hj
      rw [List.filterMap_cons, List.filterMap_cons, List.getElem?_eq_none (by omega)]
      simp only [List.getElem?_toArray, List.getElem?_eq_none (Nat.le_of_not_lt hv)]
      simpa using ih
def pickI (ns : List Int) (lo hi st : Option Int) : List Int := (sliceRange (sliceBounds lo hi st ns.length).1 (sliceBounds lo hi st ns.length).2.1 (sliceBounds lo hi st ns.length).2.2).filterMap (ns[·]?)
theorem ints_slice {vs : List Value} {ns : List Int} (hi : IntsAre vs ns) (lo hi' st : Option Int) : IntsAre (slicePick vs.toArray lo hi' st).toList (pickI ns lo hi' st) := by
  unfold slicePick pickI
  rw [List.size_toArray, hi.length]
  exact ints_pick hi _
def interI (xs ys : List Int) : List Int := (xs.zip ys).flatMap fun r => [r.1, r.2]
def inter (xs ys : List Value) : List Value := (xs.zip ys).flatMap fun r => [r.1, r.2]
theorem inter_snoc {xs ys : List Value} {x y : Value} (h : xs.length = ys.length) : inter (xs ++ [x]) (ys ++ [y]) = inter xs ys ++ [x, y] := by
  unfold inter
  rw [List.zip_append h, List.flatMap_append]; rfl
theorem ints_inter {xs ys : List Value} {as bs : List Int} (ha : IntsAre xs as) (hb : IntsAre ys bs) : IntsAre (inter xs ys) (interI as bs) := by
  induction ha generalizing ys bs with
  | nil => exact .nil
  | cons a t _ ih =>
    cases hb with
    | nil => exact .nil
    | cons b u hb => exact .cons _ _ (.cons _ _ (ih hb))
theorem inter_len : ∀ (xs ys : List Value), (inter xs ys).length ≤ 2 * xs.length
  | [], _ => by simp [inter]
  | _ :: _, [] => by simp [inter]
  | x :: xs, y :: ys => by
    have := inter_len xs ys
    simp only [inter, List.zip_cons_cons, List.flatMap_cons, List.length_append, List.length_cons, List.length_nil] at this ⊢
    omega
def ZipSt (n : Nat) (h : Heap) (z TI TO : Addr) : Prop := (IsZip h z TI TO .none ∧ ∃ a b, IsPair h TO a b) ∨ ∃ T0 b o0, IsZipH h z TI TO T0 b ∧ h.get? T0 = some o0 ∧ n ≤ T0
theorem outer_loop {z TI TO i1 i2 l1 l2 D : Addr} {xs ys : List Value} {a b : Value} {m' : Str → Option Value} (hh : A.handled = none) (hlen : xs.length = ys.length) (hsz : xs.length ≤ 1000)
    (hkf : env.scope.kind = .function) (hpl : env.kindOf p = some .local) (hql : env.kindOf q = some .local) (hpc : (env.scope.kind == .class || (env.scope.kind == .module && env.locals != env.globals)) = false) (hdp : (p == ("__debug__" : Str)) = false) (hdq : (q == ("__debug__" : Str)) = false)
    (Z : ZipApart z TI TO i1 i2 l1 l2) (hz : IsZip s.heap z TI TO .none) (hTI : IsPair s.heap TI (.ref i1) (.ref i2)) (hTO : IsPair s.heap TO a b) (h1 : s.heap.IsListIter i1 l1 0) (h2 : s.heap.IsListIter i2 l2 0)
    (hl1 : s.heap.IsList l1 xs.toArray) (hl2 : s.heap.IsList l2 ys.toArray) (hD : s.heap.get? D = some (LCg.lst [])) (hN : s.heap.Ns env.locals m')
    (offC : ∀ c ∈ [z, TI, TO, i1, i2, l1, l2, D], c ≠ env.locals) (offD : ∀ c ∈ [z, TI, TO, i1, i2, l1, l2], c ≠ D)
    (h : ∀ h' tk m'', (∀ c o, c ∉ [z, TO, i1, i2, env.locals, D] → s.heap.get? c = some o → h'.get? c = some o) → h'.Ns env.locals m'' → h'.get? D = some (LCg.lst (inter xs ys)) → R (.ok .next) { s with heap := h', toks := tk }) :
    codeAny (model prog w) A (.compLoop (nestE p q p1 p2 p3 p4 it0 scope pos) 0 (.ref z) (.ref D) env) R s := by
  have hzlt : z < s.heap.objs.size := Heap.lt_size hz
  have hTIlt : TI < s.heap.objs.size := Heap.lt_size hTI
  have hTOlt : TO < s.heap.objs.size := Heap.lt_size hTO
  have hi1lt : i1 < s.heap.objs.size := by obtain ⟨_, e, _⟩ := h1; exact Heap.lt_size e
  have hi2lt : i2 < s.heap.objs.size := by obtain ⟨_, e, _⟩ := h2; exact Heap.lt_size e
  have hDlt : D < s.heap.objs.size := Heap.lt_size hD
  have hClt : env.locals < s.heap.objs.size := hN.lt
  have cz := offC z (by simp)
  have cTI := offC TI (by simp)
  have cTO := offC TO (by simp)
  have ci1 := offC i1 (by simp)
  have ci2 := offC i2 (by simp)
  have cl1 := offC l1 (by simp)
  have cl2 := offC l2 (by simp)
  have cD := offC D (by simp)
  have dz := offD z (by simp)
  have dTI := offD TI (by simp)
  have dTO := offD TO (by simp)
  have di1 := offD i1 (by simp)
  have di2 := offD i2 (by simp)
  have dl1 := offD l1 (by simp)
  have dl2 := offD l2 (by simp)
  refine codeAny_loop rfl (fun k s' => ∃ h' tk i m'', s' = { s with heap := h', toks := tk } ∧ i ≤ xs.length ∧ k = xs.length + 1 - i ∧ ZipSt s.heap.objs.size h' z TI TO ∧ h'.IsListIter i1 l1 i ∧ h'.IsListIter i2 l2 i ∧
    h'.get? D = some (LCg.lst (inter (xs.take i) (ys.take i))) ∧ h'.Ns env.locals m'' ∧ (∀ c o, c ∉ [z, TO, i1, i2, env.locals, D] → s.heap.get? c = some o → h'.get? c = some o) ∧ s.heap.objs.size ≤ h'.objs.size) ?_ (xs.length + 1)
    ⟨s.heap, s.toks, 0, m', rfl, Nat.zero_le _, rfl, .inl ⟨hz, a, b, hTO⟩, h1, h2, by simpa [inter] using hD, hN, fun _ _ _ e => e, Nat.le_refl _⟩
  rintro k s' ⟨h', tk, i, m'', rfl, hi, rfl, hZ', h1', h2', hD', hN', hk', hsz'⟩
  show wpAny _ _ ((compTurn (nestE p q p1 p2 p3 p4 it0 scope pos) 0 (.ref z) (.ref D) env).onRaise (fun x => do noteFrame x env; theTreesLotGoes x)) _ _ _
  refine wpAny_onRaise (wpAny_mono (E := fun _ _ => False) ?_ (fun _ _ h' => h') fun _ _ h' => h'.elim)
  rw [outer_eq]
  refine wpAny_bind (wpAny_standAt (wpAny_bind ?_))
  have hTI' : IsPair h' TI (.ref i1) (.ref i2) := hk' _ _ (by simp only [List.mem_cons, List.not_mem_nil, or_false, not_or]; exact ⟨Z.TIz, Z.TITO, Z.TIi1, Z.TIi2, cTI, dTI⟩) hTI
  have hl1' : h'.IsList l1 xs.toArray := hl1.at fun o e => hk' _ _ (by simp only [List.mem_cons, List.not_mem_nil, or_false, not_or]; exact ⟨Z.l1z, Z.l1TO, Z.l1i1, Z.l1i2, cl1, dl1⟩) e
  have hl2' : h'.IsList l2 ys.toArray := hl2.at fun o e => hk' _ _ (by simp only [List.mem_cons, List.not_mem_nil, or_false, not_or]; exact ⟨Z.l2z, Z.l2TO, Z.l2i1, Z.l2i2, cl2, dl2⟩) e
  by_cases hlt : i < xs.length
  · have hlt2 : i < ys.length := by omega
    have hx : xs.toArray[i]? = some xs[i] := by simp [hlt]
    have hy : ys.toArray[i]? = some ys[i] := by simp [hlt2]
    -- what the next pair leaves
    have go : ∀ h₁, h₁.IsListIter i1 l1 (i + 1) → h₁.IsListIter i2 l2 (i + 1) → IsPair h₁ h'.objs.size xs[i] ys[i] → h₁.objs.size = h'.objs.size + 1 → (∃ T0 b o0, IsZipH h₁ z TI TO T0 b ∧ h₁.get? T0 = some o0 ∧ s.heap.objs.size ≤ T0) →
        (∀ c o, c ≠ z → c ≠ TO → c ≠ i1 → c ≠ i2 → h'.get? c = some o → h₁.get? c = some o) →
        wpAny (model prog w) A (letOwnedTupleGo (.Name q p2) (.ref z) (.ref h'.objs.size) >>= fun _ => assign (.Name q p2) env (.ref h'.objs.size) >>= fun _ =>
          (eval (.Name q p4) env >>= fun x => standAt (Expr.Name q p4).pos >>= fun _ => foldedSetIterable (.Name q p4) env x >>= fun x =>
          holding [x] (pyIter x) >>= fun j => runOwn (.compStart (nestE p q p1 p2 p3 p4 it0 scope pos) 1 j (.ref D) env) env >>= fun _ =>
          again (.compLoop (nestE p q p1 p2 p3 p4 it0 scope pos) 0 (.ref z) (.ref D) env)))
          (fun (fin : PySem.Fin) (s' : Shared) => match fin with | .done f => R (.ok f) s' | .again c' => c' = Code.compLoop (nestE p q p1 p2 p3 p4 it0 scope pos) 0 (.ref z) (.ref D) env ∧ ∃ m, m < xs.length + 1 - i ∧ ∃ h' tk i m'', s' = { s with heap := h', toks := tk } ∧ i ≤ xs.length ∧ m = xs.length + 1 - i ∧ ZipSt s.heap.objs.size h' z TI TO ∧ h'.IsListIter i1 l1 i ∧ h'.IsListIter i2 l2 i ∧ h'.get? D = some (LCg.lst (inter (xs.take i) (ys.take i))) ∧ h'.Ns env.locals m'' ∧ (∀ c o, c ∉ [z, TO, i1, i2, env.locals, D] → s.heap.get? c = some o → h'.get? c = some o) ∧ s.heap.objs.size ≤ h'.objs.size) (fun _ _ => False) { s with heap := h₁, toks := tk } := by
      intro h₁ a1 a2 a3 a4 ⟨T0, bz, o0, a5, a6, a7⟩ a8
      have hD₁ : h₁.get? D = some (LCg.lst (inter (xs.take i) (ys.take i))) := a8 _ _ (Ne.symm dz) (Ne.symm dTO) (Ne.symm di1) (Ne.symm di2) hD'
      have hN₁ : h₁.Ns env.locals m'' := hN'.at' fun o e => a8 _ _ (Ne.symm cz) (Ne.symm cTO) (Ne.symm ci1) (Ne.symm ci2) e
      have hT0lt : T0 < h₁.objs.size := Heap.lt_size a6
      refine wpAny_bind (wpAny_pure ?_)
      refine wpAny_bind (wpAny_assign_Name (wpAny_storeName_local hql hN₁ (fun h₂ hn₂ hs₂ => ?_) hpc))
      refine wpAny_bind (wpAny_Name (wpAny_loadName_local hkf hql hn₂ (if_pos rfl) ?_) hdq)
      refine wpAny_bind (wpAny_standAt (wpAny_bind (wpAny_pure ?_)))
      have hTne : h'.objs.size ≠ env.locals := Nat.ne_of_gt (Nat.lt_of_lt_of_le hClt hsz')
      have hT₂ : IsPair h₂ h'.objs.size xs[i] ys[i] := hs₂.extBut _ _ hTne a3
      refine wpAny_bind (wpAny_holding (wpAny_pyIter_tuple (items := #[xs[i], ys[i]]) ⟨_, hT₂, rfl, _, rfl⟩ ?_))
      have hsz₂ : h₂.objs.size = h'.objs.size + 1 := by rw [hs₂.1]; exact a4
      refine wpAny_bind (wpAny_runOwn ?_)
      have hJT : h'.objs.size ≠ h₂.objs.size := by rw [hsz₂]; exact Nat.ne_of_lt (Nat.lt_succ_self _)
      have hJb : ∀ c, c < s.heap.objs.size → c ≠ h₂.objs.size := fun c hc => Nat.ne_of_lt (by rw [hsz₂]; exact Nat.lt_succ_of_lt (Nat.lt_of_lt_of_le hc hsz'))
      have hTb : ∀ c, c < s.heap.objs.size → c ≠ h'.objs.size := fun c hc => Nat.ne_of_lt (Nat.lt_of_lt_of_le hc hsz')
      refine inner_start (T := h'.objs.size) ⟨_, Heap.get?_push_size _ rfl, rfl, rfl⟩ ?_
      refine inner_loop (its := #[xs[i], ys[i]]) (T := h'.objs.size) (ys := inter (xs.take i) (ys.take i)) hh hkf hpl hpc hdp ⟨_, Heap.get?_push_size _ rfl, rfl, rfl⟩ ⟨_, Heap.get?_push_of_some _ hT₂, rfl, _, rfl⟩ (Heap.get?_push_of_some _ (hs₂.extBut _ _ cD hD₁)) (hn₂.push _) hJT hTne (Ne.symm (hTb D hDlt)) (Ne.symm (hJb _ hClt)) (Ne.symm (hJb D hDlt)) (Ne.symm cD) ?_ ?_
      · have := inter_len (xs.take i) (ys.take i)
        rw [List.length_take] at this
        rw [sizeLine_eq]; show _ + 2 ≤ _; omega
      · intro h₄ tk₄ m₄ hk₄ hN₄ hD₄
        have up : ∀ c o, c < h₂.objs.size → c ≠ env.locals → c ≠ D → h₁.get? c = some o → h₄.get? c = some o := fun c o hc c1 c2 e => hk₄ _ _ (Nat.ne_of_lt hc) c1 c2 (Heap.get?_push_of_some _ (hs₂.extBut _ _ c1 e))
        have lt₂ : ∀ c, c < s.heap.objs.size → c < h₂.objs.size := fun c hc => by rw [hsz₂]; exact Nat.lt_succ_of_lt (Nat.lt_of_lt_of_le hc hsz')
        refine wpAny_pure ⟨rfl, xs.length + 1 - (i + 1), by omega, h₄, tk₄, i + 1, m₄, rfl, hlt, rfl, .inr ⟨T0, bz, o0, up _ _ (lt₂ z hzlt) cz dz a5, up _ _ ?_ ?_ ?_ a6, a7⟩, a1.at fun o e => up _ _ (lt₂ i1 hi1lt) ci1 di1 e, a2.at fun o e => up _ _ (lt₂ i2 hi2lt) ci2 di2 e, ?_, hN₄, ?_, ?_⟩
        · rw [hs₂.1]; exact hT0lt
        · exact Nat.ne_of_gt (Nat.lt_of_lt_of_le hClt a7)
        · exact Nat.ne_of_gt (Nat.lt_of_lt_of_le hDlt a7)
        · rw [hD₄, List.take_add_one, List.take_add_one, List.getElem?_eq_getElem hlt, List.getElem?_eq_getElem hlt2]
          show _ = some (LCg.lst (inter (xs.take i ++ [xs[i]]) (ys.take i ++ [ys[i]])))
          rw [inter_snoc (by rw [List.length_take, List.length_take]; omega)]
        · intro c o hc e
          have hcl := Heap.lt_size e
          simp only [List.mem_cons, List.not_mem_nil, or_false, not_or] at hc
          exact up _ _ (lt₂ c hcl) hc.2.2.2.2.1 hc.2.2.2.2.2 (a8 _ _ hc.1 hc.2.1 hc.2.2.1 hc.2.2.2.1 (hk' c o (by simp only [List.mem_cons, List.not_mem_nil, or_false, not_or]; exact hc) e))
        · have hm := hD₄
          have hlast : h₄.get? h'.objs.size = some _ := up _ _ (by rw [hsz₂]; exact Nat.lt_succ_self _) hTne (Ne.symm (hTb D hDlt)) a3
          exact Nat.le_trans hsz' (Nat.le_of_lt (Heap.lt_size hlast))
    rcases hZ' with ⟨z1, a', b', z2⟩ | ⟨T0, bz, o0, z1, z2, z3⟩
    · refine wpAny_pyNext_zip_item Z z1 hTI' z2 h1' h2' hl1' hl2' hx hy fun h₁ b1 b2 b3 b4 b5 b6 b7 => ?_
      refine go h₁ b3 b4 b5 b6 ⟨h'.objs.size, false, _, b1, b5, hsz'⟩ fun c o c1 c2 c3 c4 e => b7 c o c1 c2 c3 c4 e
    · refine next_held_item Z z1 z2 hTI' h1' h2' hl1' hl2' hx hy fun h₁ b1 b2 b3 b4 b5 b6 => ?_
      refine go h₁ b2 b3 b4 b5 ⟨T0, true, o0, b1, b6 _ _ ?_ ?_ ?_ z2, z3⟩ fun c o c1 c2 c3 c4 e => b6 c o c1 c3 c4 e
      · exact Nat.ne_of_gt (Nat.lt_of_lt_of_le hzlt z3)
      · exact Nat.ne_of_gt (Nat.lt_of_lt_of_le hi1lt z3)
      · exact Nat.ne_of_gt (Nat.lt_of_lt_of_le hi2lt z3)
  · obtain rfl : i = xs.length := by omega
    have hend : xs.toArray[xs.length]? = none := by simp
    have fin : ∀ h₁, (∀ c o, c ≠ z → c ≠ TO → c ≠ i1 → c ≠ i2 → h'.get? c = some o → h₁.get? c = some o) → R (.ok .next) { s with heap := h₁, toks := tk } := fun h₁ hk₁ => by
      refine h h₁ tk m'' (fun c o hc e => ?_) (hN'.at' fun o e => hk₁ _ _ (Ne.symm cz) (Ne.symm cTO) (Ne.symm ci1) (Ne.symm ci2) e) ?_
      · have hc' := hc
        simp only [List.mem_cons, List.not_mem_nil, or_false, not_or] at hc'
        exact hk₁ _ _ hc'.1 hc'.2.1 hc'.2.2.1 hc'.2.2.2.1 (hk' c o hc e)
      · rw [hk₁ _ _ (Ne.symm dz) (Ne.symm dTO) (Ne.symm di1) (Ne.symm di2) hD', List.take_length, hlen, List.take_length]
    rcases hZ' with ⟨z1, a', b', z2⟩ | ⟨T0, bz, o0, z1, z2, z3⟩
    · exact wpAny_pyNext_zip_end hh Z z1 hTI' z2 h1' h2' hl1' hl2' (.inl hend) fun h₁ hk₁ => wpAny_pure (fin h₁ hk₁)
    · exact next_held_end hh Z z1 z2 hTI' h1' hl1' hend fun h₁ hk₁ => wpAny_pure (fin h₁ fun c o c1 _ c3 _ e => hk₁ c o c1 c3 e)
end
section
variable {prog : Program} {w : World} {A : Around} {E : Value → Shared → Prop} {s : Shared} {env : Env} {p q : Str} {p1 p2 p3 p4 : Pos} {it0 : Expr} {scope : Scope} {pos : Pos} {h₀ : Heap} {L : Addr} {m : Str → Option Value}
def NestSrc (A : Around) (h₀ : Heap) (L : Addr) (m : Str → Option Value) (y : Str) (Q : Flow → Shared → Prop) (xv : Value) (s₁ : Shared) : Prop :=
  ∃ z TI TO i1 i2 l1 l2 xs ys a b news, xv = .ref z ∧ A.handled = none ∧ Fr h₀ L s₁.heap m ∧ News h₀ L s₁.heap news ∧ ZipApart z TI TO i1 i2 l1 l2 ∧ IsZip s₁.heap z TI TO .none ∧ IsPair s₁.heap TI (.ref i1) (.ref i2) ∧ IsPair s₁.heap TO a b ∧
    s₁.heap.IsListIter i1 l1 0 ∧ s₁.heap.IsListIter i2 l2 0 ∧ s₁.heap.IsList l1 (List.toArray xs) ∧ s₁.heap.IsList l2 (List.toArray ys) ∧ xs.length = ys.length ∧ xs.length ≤ 1000 ∧ (∀ c ∈ [z, TO, i1, i2], c ≠ L ∧ h₀.get? c = none ∧ ∀ r ∈ news, r.1 ≠ c) ∧
    ∀ D h tk, Fr h₀ L h (fun v => if v = y then some (.ref D) else m v) → News h₀ L h ((D, LCg.lst (inter xs ys)) :: news) → (∀ r ∈ news, r.1 ≠ D) → Q .next { s₁ with heap := h, toks := tk }
theorem nest_assign {y : Str} {py spos : Pos} {cl : List (Str × Addr)} {Q : Flow → Shared → Prop} (_F₀ : Fr h₀ L s.heap m) (hLe : env.locals = L)
    (hsw : swapsWith (nestE p q p1 p2 p3 p4 it0 scope pos) (some (.Name y py)) spos.line env = pure true)
    (hclos : closureFor scope env = pure cl) (hcell : ∀ z ∈ scope.names, z.2 ≠ .cell) (hkind : scope.kind = .function)
    (hnames : ∀ z ∈ scope.names, z.2 = .local → scope.names.lookup z.1 = some .local) (hpx : scope.names.lookup p = some .local) (hqx : scope.names.lookup q = some .local)
    (hdp : (p == ("__debug__" : Str)) = false) (hdq : (q == ("__debug__" : Str)) = false)
    (hy : env.kindOf y = some .local) (hp : (env.scope.kind == .class || (env.scope.kind == .module && env.locals != env.globals)) = false)
    (h : wpAny (model prog w) A (eval it0 env) (NestSrc A h₀ L m y Q) E s)
    (hs : ∀ x, foldedSetIterable it0 env x = pure x := by intro _; rfl) :
    wpAny (model prog w) A (exec (.Assign [.Name y py] (nestE p q p1 p2 p3 p4 it0 scope pos) spos) env) Q E s := by
  subst hLe
  rw [exec_Assign_Name_used _ _ _ _ hsw]
  refine wpAny_bind (wpAny_standAt (wpAny_bind ?_))
  show wpAny _ A (do let _ ← comprehension (nestE p q p1 p2 p3 p4 it0 scope pos) scope env _ (newList []) false (eval it0 env) (some (assign (.Name y py) env))) _ _ s
  refine wpAny_bind (wpAny_mono (wpAny_comprehension_free (use := some (assign (.Name y py) env)) (Q := fun _ s' => Q .next s') rfl hs hclos hkind hnames
    (wpAny_mono h (fun xv s₁ h₁ => ?_) fun _ _ e => e)) (fun _ s' hq => wpAny_pure (wpAny_pure hq)) fun _ _ e => e)
  obtain ⟨z, TI, TO, i1, i2, l1, l2, xs, ys, a, b, news, rfl, hh, F, N, Z, hz, hTI, hTO, hi1, hi2, hl1, hl2, hlen, hsz, hoff, fin⟩ := h₁
  refine wpAny_pyIter_zip hz ?_
  refine wpAny_newObj_type (wpAny_newFunctionEnv hcell (by intro y hy; simp at hy) (fun h₁ hns₁ hsb₁ => ?_) hkind)
  dsimp only at hns₁ hsb₁ ⊢
  generalize hH2 : s₁.heap.push { cls := .type "list", dict := none, data := .seq ([] : List Value).toArray } = H2 at hns₁ hsb₁ ⊢
  have hC : H2.objs.size = s₁.heap.objs.size + 1 := by rw [← hH2, Heap.size_push]
  have hDC : s₁.heap.objs.size ≠ H2.objs.size := by rw [hC]; exact Nat.ne_of_lt (Nat.lt_succ_self _)
  have below : ∀ b, b < s₁.heap.objs.size → b ≠ H2.objs.size ∧ b ≠ s₁.heap.objs.size := fun b hb => ⟨by rw [hC]; exact Nat.ne_of_lt (Nat.lt_succ_of_lt hb), Nat.ne_of_lt hb⟩
  have old : ∀ b o, s₁.heap.get? b = some o → h₁.get? b = some o := fun b o e => hsb₁.extBut b o (below b (Heap.lt_size e)).1 (Heap.get?_push_of_some _ (hH2 ▸ Heap.get?_push_of_some _ e))
  have hacc : h₁.get? s₁.heap.objs.size = some (LCg.lst []) := hsb₁.extBut _ _ hDC (Heap.get?_push_of_some _ (hH2 ▸ Heap.get?_push_size _ rfl))
  have fresh : ∀ a, s₁.heap.objs.size ≤ a → s₁.heap.get? a = none := fun a ha => by
    cases e : s₁.heap.get? a with
    | none => rfl
    | some o' => exact absurd (Heap.lt_size e) (Nat.not_lt.mpr ha)
  have fresh₀ : ∀ a, s₁.heap.objs.size ≤ a → h₀.get? a = none := fun a ha => by
    cases e : h₀.get? a with
    | none => rfl
    | some o' => have := F.keep a o' e; rw [fresh a ha] at this; cases this
  have hD₀ : h₀.get? s₁.heap.objs.size = none := fresh₀ _ (Nat.le_refl _)
  have hC₀ : h₀.get? H2.objs.size = none := fresh₀ _ (by rw [hC]; exact Nat.le_succ _)
  have hLlt : env.locals < s₁.heap.objs.size := F.ns.lt
  have hDL : s₁.heap.objs.size ≠ env.locals := Ne.symm (below env.locals hLlt).2
  have hCL : H2.objs.size ≠ env.locals := Ne.symm (below env.locals hLlt).1
  have blw : ∀ c ∈ [z, TI, TO, i1, i2, l1, l2], c < s₁.heap.objs.size := fun c hc => by
    simp only [List.mem_cons, List.not_mem_nil, or_false] at hc
    rcases hc with rfl | rfl | rfl | rfl | rfl | rfl | rfl
    · exact Heap.lt_size hz
    · exact Heap.lt_size hTI
    · exact Heap.lt_size hTO
    · obtain ⟨_, e, _⟩ := hi1; exact Heap.lt_size e
    · obtain ⟨_, e, _⟩ := hi2; exact Heap.lt_size e
    · obtain ⟨_, e, _⟩ := hl1; exact Heap.lt_size e
    · obtain ⟨_, e, _⟩ := hl2; exact Heap.lt_size e
  have loop : codeAny (model prog w) A (.compLoop (nestE p q p1 p2 p3 p4 it0 scope pos) 0 (.ref z) (.ref s₁.heap.objs.size) (compEnvC scope cl H2.objs.size env)) (compPost (model prog w) A E (some (assign (.Name y py) env)) (fun _ s' => Q .next s') (.ref s₁.heap.objs.size) H2.objs.size) { s₁ with heap := h₁, toks := s₁.toks + ([] : List (Str × Value)).length } := by
    refine outer_loop (D := s₁.heap.objs.size) (xs := xs) (ys := ys) hh hlen hsz hkind (lookup_relabel_local hpx) (lookup_relabel_local hqx) (by simp [compEnvC, relabel, hkind]) hdp hdq Z (old _ _ hz) (old _ _ hTI) (old _ _ hTO) (hi1.at fun o e => old _ o e) (hi2.at fun o e => old _ o e) (hl1.at fun o e => old _ o e) (hl2.at fun o e => old _ o e) hacc hns₁ ?_ ?_ ?_
    · intro c hc
      show c ≠ H2.objs.size
      simp only [List.mem_cons, List.not_mem_nil, or_false] at hc
      rcases hc with h | h | h | h | h | h | h | h
      · exact (below c (blw c (by simp [h]))).1
      · exact (below c (blw c (by simp [h]))).1
      · exact (below c (blw c (by simp [h]))).1
      · exact (below c (blw c (by simp [h]))).1
      · exact (below c (blw c (by simp [h]))).1
      · exact (below c (blw c (by simp [h]))).1
      · exact (below c (blw c (by simp [h]))).1
      · rw [h]; exact hDC
    · intro c hc; exact (below c (blw c hc)).2
    · intro h' tk m'' hk' hN' hD'
      change ∀ c o, c ∉ [z, TO, i1, i2, H2.objs.size, s₁.heap.objs.size] → h₁.get? c = some o → h'.get? c = some o at hk'
      have F' : Fr h₀ env.locals h' m := by
        have hnL : env.locals ∉ [z, TO, i1, i2, H2.objs.size, s₁.heap.objs.size] := by
          simp only [List.mem_cons, List.not_mem_nil, or_false, not_or]
          exact ⟨Ne.symm (hoff z (by simp)).1, Ne.symm (hoff TO (by simp)).1, Ne.symm (hoff i1 (by simp)).1, Ne.symm (hoff i2 (by simp)).1, Ne.symm hCL, Ne.symm hDL⟩
        refine ⟨F.ns.at' fun o e => hk' _ _ hnL (old _ _ e), fun b o e => hk' _ _ ?_ (old _ _ (F.keep b o e)), F.above⟩
        simp only [List.mem_cons, List.not_mem_nil, or_false, not_or]
        refine ⟨?_, ?_, ?_, ?_, ?_, ?_⟩ <;> rintro rfl
        · rw [(hoff b (by simp)).2.1] at e; cases e
        · rw [(hoff b (by simp)).2.1] at e; cases e
        · rw [(hoff b (by simp)).2.1] at e; cases e
        · rw [(hoff b (by simp)).2.1] at e; cases e
        · rw [hC₀] at e; cases e
        · rw [hD₀] at e; cases e
      have N' : News h₀ env.locals h' ((s₁.heap.objs.size, LCg.lst (inter xs ys)) :: news) := fun r hr => by
        rcases List.mem_cons.mp hr with rfl | hr
        · exact ⟨hD', hDL, hD₀⟩
        · have hrlt := Heap.lt_size (N r hr).1
          refine ⟨hk' _ _ ?_ (old _ _ (N r hr).1), (N r hr).2⟩
          simp only [List.mem_cons, List.not_mem_nil, or_false, not_or]
          exact ⟨(hoff z (by simp)).2.2 r hr, (hoff TO (by simp)).2.2 r hr, (hoff i1 (by simp)).2.2 r hr, (hoff i2 (by simp)).2.2 r hr, (below _ hrlt).1, (below _ hrlt).2⟩
      show wpAny _ A (assign (.Name y py) env (.ref s₁.heap.objs.size)) _ _ _
      refine wpAny_assign_Name (wpAny_storeName_local hy F'.ns (fun h₂ hn₂ hs₂ => ?_) hp)
      have F₂ := F'.set hn₂ hs₂
      have N₂ := N'.set hs₂
      refine ⟨m'', hN'.sameBut hs₂ hCL, fun h'' hs'' => fin s₁.heap.objs.size h'' _ (F₂.change hs'' hCL hC₀) (fun r hr => ?_) fun r hr => Nat.ne_of_lt (Heap.lt_size (N r hr).1)⟩
      refine ⟨hs''.extBut _ _ ?_ (N₂ r hr).1, (N₂ r hr).2⟩
      rcases List.mem_cons.mp hr with rfl | hr
      · exact hDC
      · exact (below _ (Heap.lt_size (N r hr).1)).1
  exact codeAny_compStart_list loop (wpAny_pyIter_zip (old _ _ hz) loop)
theorem zip_src {y : Str} {Q : Flow → Shared → Prop} {l1 l2 : Addr} {xs ys : List Value} {k1 k2 : Nat} {news : List (Addr × Obj)} (hh : A.handled = none) (F : Fr h₀ L s.heap m) (N : News h₀ L s.heap news) (hm1 : (l1, listOf (List.toArray xs) k1) ∈ news) (hm2 : (l2, listOf (List.toArray ys) k2) ∈ news)
    (hlen : xs.length = ys.length) (hsz : xs.length ≤ 1000)
    (fin : ∀ D h tk, Fr h₀ L h (fun v => if v = y then some (.ref D) else m v) → News h₀ L h ((D, LCg.lst (inter xs ys)) :: news) → (∀ r ∈ news, r.1 ≠ D) → Q .next { s with heap := h, toks := tk }) :
    wpAny (model prog w) A (call (.type "zip") [.ref l1, .ref l2]) (NestSrc A h₀ L m y Q) E s := by
  have hl1 := News.isList N hm1
  have hl2 := News.isList N hm2
  have hlt1 : l1 < s.heap.objs.size := Heap.lt_size (N _ hm1).1
  have hlt2 : l2 < s.heap.objs.size := Heap.lt_size (N _ hm2).1
  have hLs : L < s.heap.objs.size := F.ns.lt
  refine call_zip_2 hl1 hl2 fun h' hz hTI hTO hi1 hi2 hsz' hk => ?_
  refine ⟨s.heap.objs.size + 4, s.heap.objs.size + 2, s.heap.objs.size + 3, s.heap.objs.size, s.heap.objs.size + 1, l1, l2, xs, ys, _, _, news, rfl, hh, F.keeps hk, N.grown hk, ktu_apart _ _ _ hlt1 hlt2, hz, hTI, hTO, hi1, hi2, hl1.at fun o e => hk _ _ e, hl2.at fun o e => hk _ _ e, hlen, hsz, ?_, fin⟩
  have hc : ∀ c, s.heap.objs.size ≤ c → c ≠ L ∧ h₀.get? c = none ∧ ∀ r ∈ news, r.1 ≠ c := fun c hc => by
    refine ⟨Nat.ne_of_gt (Nat.lt_of_lt_of_le hLs hc), ?_, fun r hr => Nat.ne_of_lt (Nat.lt_of_lt_of_le (Heap.lt_size (N r hr).1) hc)⟩
    cases e : h₀.get? c with
    | none => rfl
    | some o' => exact absurd (Heap.lt_size (F.keep c o' e)) (Nat.not_lt.mpr hc)
  intro c hcm
  simp only [List.mem_cons, List.not_mem_nil, or_false] at hcm
  rcases hcm with rfl | rfl | rfl | rfl
  · exact hc _ (Nat.le_add_right _ _)
  · exact hc _ (Nat.le_add_right _ _)
  · exact hc _ (Nat.le_refl _)
  · exact hc _ (Nat.le_add_right _ _)
end
end Mine
set_option maxRecDepth 100000
set_option Elab.async false
open PySem PySem.W PySem.Calls PyProof.Rows
namespace Mine

/-! ## the head, for a call that is shown in calm contexts alone -/
def look {α : Type} (good bad : Sem α) : Sem α := .stack fun st => if st.all (fun x => calmCode x.1) = true then good else bad

theorem look_any {α : Type} {M : Model} {A : Around} {Q : α → Shared → Prop} {E : Value → Shared → Prop} {s : Shared} {good bad : Sem α}
    (h : wpS M A good Q E s) (hb : wpAny M A bad Q E s) : wpAny M A (look good bad) Q E s := fun Γ p hΓ => by
  show Sem.wp M Γ (if ((Γ.code, p) :: Γ.below).all (fun x => calmCode x.1) = true then good else bad) _ _ p s
  split
  · rename_i hc
    rw [List.all_cons, Bool.and_eq_true] at hc
    exact h Γ p hΓ ⟨hc.1, fun x hx => List.all_eq_true.mp hc.2 x hx⟩
  · exact hb Γ p hΓ
theorem look_any' {α β : Type} {M : Model} {A : Around} {Q : α → Shared → Prop} {Q' : β → Shared → Prop} {E : Value → Shared → Prop} {s : Shared} {good bad : Sem α} {good' bad' : Sem β}
    (h : wpAny M A (look good bad) Q E s) (hg : ∀ Γ p, Sem.wp M Γ good (fun a _ s' => Q a s') (fun e _ s' => E e s') p s → Sem.wp M Γ good' (fun a _ s' => Q' a s') (fun e _ s' => E e s') p s)
    (hb : ∀ Γ p, Sem.wp M Γ bad (fun a _ s' => Q a s') (fun e _ s' => E e s') p s → Sem.wp M Γ bad' (fun a _ s' => Q' a s') (fun e _ s' => E e s') p s) : wpAny M A (look good' bad') Q' E s := fun Γ p hΓ => by
  have h1 : Sem.wp M Γ (if ((Γ.code, p) :: Γ.below).all (fun x => calmCode x.1) = true then good else bad) (fun a _ s' => Q a s') (fun e _ s' => E e s') p s := h Γ p hΓ
  show Sem.wp M Γ (if ((Γ.code, p) :: Γ.below).all (fun x => calmCode x.1) = true then good' else bad') _ _ p s
  split at h1
  · rename_i hc; rw [if_pos hc]; exact hg Γ p h1
  · rename_i hc; rw [if_neg hc]; exact hb Γ p h1

theorem sched_unlook {prog : Program} {w : World} {t bad : Sem Fin} {s s' : Shared} {n : Nat} {o : Outcome} (hz : s.asleep)
    (h : schedN (denote table) prog w n (.single s ⟨look t bad, .builtin "claim.caller" {}, default, []⟩) = .halted o s') :
    ∃ k, schedN (denote table) prog w k (.single s ⟨t, .builtin "claim.caller" {}, default, []⟩) = .halted o s' := by
  cases n with
  | zero => cases h
  | succ n =>
    refine ⟨n, ?_⟩
    have st : step (denote table) prog w s ⟨look t bad, .builtin "claim.caller" {}, default, []⟩ = .go s ⟨t, .builtin "claim.caller" {}, default, []⟩ := by
      show Step.go s ⟨if ([(Code.builtin "claim.caller" {}, (default : Pos))].all (fun x => calmCode x.1)) = true then t else bad, _, _, _⟩ = _
      rw [if_pos (by decide +kernel)]
    have hc : (⟨look t bad, .builtin "claim.caller" {}, default, []⟩ : Thread).calm = true := by
      have e : (⟨look t bad, .builtin "claim.caller" {}, default, []⟩ : Thread).calm = (⟨.stack fun _ => .pure default, .builtin "claim.caller" {}, default, []⟩ : Thread).calm := rfl
      rw [e]; decide +kernel
    rcases sstep_single (denote table) prog w s ⟨look t bad, .builtin "claim.caller" {}, default, []⟩ hc hz with e | e
    · rw [st] at e
      simp only [schedN, e, Step.lift] at h
      exact h
    · rw [st] at e; cases e

theorem holds_unlook {c : ClaimW} {tree : List Value → Sem Fin} {bad : Sem Fin} {defs keeps : List Str} {writes : Bool}
    (h : c.HoldsOpenBy (fun vs => ⟨look (tree vs) bad, .builtin "claim.caller" {}, default, []⟩) defs keeps writes) :
    c.HoldsOpenBy (fun vs => ⟨tree vs, .builtin "claim.caller" {}, default, []⟩) defs keeps writes := by
  obtain ⟨h1, h2, h3⟩ := h
  refine ⟨h1, h2, fun w => ⟨(h3 w).1, fun s hs => ?_⟩⟩
  obtain ⟨s₀, hf, hg, s₁, hT, a, b, d, hc⟩ := (h3 w).2 s hs
  refine ⟨s₀, hf, hg, s₁, hT, a, b, d, fun args hpre hlay ord hord => ?_⟩
  obtain ⟨vs, s₂, hlaid, n, o, s', hrun, rest⟩ := hc args hpre hlay ord hord
  have hs' : AfterImport (opening c.prog) w s := hs
  have z₂ : s₂.asleep := Shared.asleep_of_life ((layAllW_rest _ _ _ hlaid).2.2.2.trans (hT.2.1.trans (fence_lifeW hf))) hs'.life
  obtain ⟨k, hk⟩ := sched_unlook z₂ hrun
  exact ⟨vs, s₂, hlaid, k, o, s', hk, rest⟩

abbrev WalkS (q : Program) (loose : List Str) (XP : (Str → Option Value) → Heap → Prop) (YP : World → Heap → Prop) (r : RowW) (d : DefRec) (kwd : List (Str × Expr)) : Prop :=
  ∀ (w : World) (s₀ s₁ : Shared) (mg mb : Str → Option Value), Ground q loose r.records XP w s₀ mg mb s₁.heap → YP w s₁.heap → ∀ (a : Addr) (o : Obj) (pm cd doc dV kV : Value), s₁.heap.get? a = some o →
    o.data = .func { docDef d.name d.params d.body d.scope pm cd doc with defaults := dV, kwdefaults := kV } → s₁.heap.CodeRec cd d.name → Dflts mg s₁.heap d.params kwd dV kV → mg d.name = some (.ref a) → s₁.gens = #[] →
    ∀ (args : List WData) (vals : List Value) (as : List Addr), r.claim.pre args = true → WData.layableAll args = true → ReadsAllW r.records (classAt s₀.heap) s₁.heap vals args as → WellAll w.params s₁.heap vals args → (∀ a ∈ as, (a == sysModules) = false) →
      GoodWG r.claim (classAt s₀.heap) (ExcName.means s₀.heap) args s₁ (.ok (.ret (.bool true))) s₁ ∧
      wpS (model r.prog w) callerA (PySem.call (.ref a) vals) (fun v s' => GoodWG r.claim (classAt s₀.heap) (ExcName.means s₀.heap) args s₁ (.ok (.ret v)) s')
        (fun e s' => GoodWG r.claim (classAt s₀.heap) (ExcName.means s₀.heap) args s₁ (.error e) s') s₁

end Mine
open Mine
/-- the head's last step: named as the library's, in a namespace of its own, for the head's line to find it there -/
theorem MineH.PySem.W.holds_open {r : OpenRow} {q : Program} {loose : List Str} {Xt : Shared → Bool} {XP : (Str → Option Value) → Heap → Prop} {α : Type} {Yf : Shared → α} {Ya : World → α} {YP : World → Heap → Prop} {d : DefRec} {kwd : List (Str × Expr)} {N : Nat}
    (left : LeftO r.prog q loose Xt Yf Ya N) (hY : ∀ w s, Yf s = Ya w → YP w s.heap) (hYk : ∀ w h h', YP w h → (∀ b o, h.get? b = some o → h'.get? b = some o) → YP w h')
    (hX : ∀ s, Xt s = true → XP (s.heap.nsMap mainGlobals) s.heap) (hXk : ∀ mg h h', XP mg h → (∀ b o, h.get? b = some o → h'.get? b = some o) → XP mg h')
    (hdef : defOf q r.name = some (d, kwd)) (hp : r.prog.theDef r.name = some (d.params, d.body, d.scope)) (hk : kwWritten? d.params.kwonlyargs d.params.kw_defaults = some kwd) (hRf : ∀ s, Xt s = true → RecFacts r.records s.heap) (hwr : (!r.writes || r.records.isEmpty) = true)
    (k1 : r.wellSaid = true) (ok : (chainsOk q && opensWell r.prog && (frees r.toRowW && r.within.isEmpty)) = true) (hb : r.prog.bare) (hw : r.toRowW.promised)
    (call : WalkS q loose XP YP r.toRowW d kwd) : r.Holds := by
  refine ⟨k1, hw, holds_unlook (bad := ret (.bool true)) (open_anyG (r := r.toRowW) (run := fun f vs => look (PySem.call f vs) (pure (.bool true)))
    (tree := fun vs => look (do match ← nsGet mainNs r.name with
      | some f => do ret (← PySem.call f vs)
      | none => unsupported "claim.caller:no-such-global") (ret (.bool true))) left hY hYk hX hXk hRf hwr ok hb hw
    (fun vs w s mg f Q E hg hf h => look_any' h (fun Γ p h' => ?_) fun Γ p h' => h')
    (fun w s hg G n hn => ?_) fun w s₀ s₁ mg mb G Y args vs as hpre hlay L low => ?_)⟩
  · rw [Sem.wp_bind']
    show Sem.wp _ Γ (nsGet mainGlobals r.name) _ _ p s
    rw [Sem.wp_nsGet _ Γ _ p s hg, hf]
    show Sem.wp _ Γ (PySem.call f vs >>= fun v => ret v) _ _ p s
    rw [Sem.wp_bind']
    exact Sem.wp_mono _ Γ _ (fun _ _ _ x => x) (fun _ _ _ x => x) p s h'
  · obtain rfl : n = r.name := by split at hn <;> simp_all
    exact pinned_of_view hg G hdef hp hk
  · obtain ⟨a, o, pm, cd, doc, dV, kV, h1, h2, h3, h4, h5⟩ := G.fn hdef
    obtain ⟨t, c⟩ := call w s₀ s₁ mg mb G Y a o pm cd doc dV kV h2 h3 h4 h5 (defOf_name hdef ▸ h1) L.gens args vs as hpre hlay L.reads L.well (L.low low)
    exact ⟨.ref a, h1, look_any c (wpAny_pure t)⟩
open PySem PySem.W PyProof.Rows
set_option Elab.async false
set_option maxRecDepth 100000
namespace MineH
set_option maxHeartbeats 8000000 in
open_top hd for PySem.Challenge.rw_ny0470_04
end MineH
set_option maxRecDepth 100000
set_option Elab.async false
open PySem PySem.W PySem.Calls PyProof.Rows
namespace Mine

local macro_rules | `(tactic| walk_at "S") => `(tactic| repeat' (first | (k_unfold; (try dsimp only)) | walk1 | (dsimp only; walk1)))
local macro_rules | `(tactic| walk_at "subscriptTail") => `(tactic| (k_here; (with_reducible show wpAny _ _ (subscriptTail _ _ (Value.bytes (List.toArray _) _) (Value.int _ _)) _ _ _); refine bytes_item (by omega) (by omega) (by omega) ?_))

theorem rangeSize_step {n : Nat} {k q : Nat} (hn : 1 ≤ n) (h : k = q * n) : Builtin.Range.rangeSize 0 (k : Int) (n : Int) = (q : Int) := by
  unfold Builtin.Range.rangeSize
  rw [if_pos (by omega)]
  subst h
  cases q with
  | zero => simp
  | succ q =>
    have hpos : 0 < (q + 1) * n := Nat.mul_pos (Nat.succ_pos q) hn
    rw [if_pos (by omega)]
    have e : (((q + 1) * n : Nat) : Int) - 0 - 1 = (n : Int) * q + (n - 1 : Nat) := by
      rw [Nat.succ_mul]; push_cast [hn]; rw [Int.mul_comm]; omega
    rw [e, Int.mul_add_ediv_left _ _ (by omega), Int.ediv_eq_zero_of_lt (by omega) (by omega)]
    omega
theorem rangeSize_one {n : Nat} : Builtin.Range.rangeSize 0 (n : Int) 1 = (n : Int) := by
  unfold Builtin.Range.rangeSize
  rw [if_pos (by omega)]
  cases n with
  | zero => simp
  | succ n => rw [if_pos (by omega)]; omega

theorem small_of {a b c : Int} {n : Nat} (h : Builtin.Range.rangeSize a b c = (n : Int)) (ha : -1000000000 ≤ a) (ha' : a ≤ 1000000000) (hb : -1000000000 ≤ b) (hb' : b ≤ 1000000000) (hc : -1000000000 ≤ c) (hc' : c ≤ 1000000000) (hn : n ≤ 1000000000) :
    Builtin.Range.small a b c = true := by
  unfold Builtin.Range.small Builtin.Range.rangeFitsLong
  rw [h]
  simp only [Bool.and_eq_true, Bool.or_eq_true, decide_eq_true_eq]
  refine ⟨⟨⟨⟨?_, ?_⟩, ?_⟩, ?_⟩, .inr ?_⟩
  · omega
  · omega
  · omega
  · omega
  · split <;> simp only [Bool.and_eq_true, decide_eq_true_eq] <;> omega

set_option maxHeartbeats 4000000 in
theorem byteswap_S {prog : Program} {w : World} {p : Program} {loose : List Str} {mean : ExcName → Option Value} {mg mb : Str → Option Value}
    {dp un : Nat} {gd : Option (List Code)} {cn : Str} {cs : Scope} {a : Addr} {ccd : Value} {cl : List (Str × Addr)} {outer : List Env} {A₀ : Around} {base h₀ : Heap} {L : Addr} {m : Str → Option Value} {news : List (Addr × Obj)} {s : Shared}
    {b : List UInt8} {n : Nat} {t₁ t₂ : Tok} {Q E : Value → Shared → Prop}
    (B : Below A₀ base outer h₀) (F : Fr h₀ L s.heap m) (X : (MineH.hd.heap_39 w.params).In h₀) (N : News h₀ L s.heap news) (T : Top p loose mean mg mb h₀) (hk : cs.kind = .function) (hd : dp < recursionLimit)
    (hn : 1 ≤ n) (hdiv : n ∣ b.length) (hz : b.length ≤ 1000) (hn' : n ≤ 1000)
    (hret : ∀ t h' tk', Fr h₀ L h' m → News h₀ L h' news → Q (.bytes (swapL b n).toArray t) { s with heap := h', toks := tk' }) :
    wpS (model prog w) (ktrTop dp un gd cn cs L a ccd cl outer) (call (.ref 21) [.bytes b.toArray t₁, .int n t₂]) Q E s := by
  w_top off
  have hfill : PySem.Challenge.rw_ny0470_04 = PySem.Challenge.rw_ny0470_04 ∧ MineH.hd.heap_39 = MineH.hd.heap_39 := by k_fill; exact ⟨rfl, rfl⟩
  clear hfill
  refine wpS_call ?_
  k_dflt (refine' code_defS (binds := [(Str.ofString "data", .bytes b.toArray t₁), (Str.ofString "width", .int n t₂)]) ?k1 ?k2 ?k3 ?k4 ?k5 ?kA ?kF ?kK ?k6 ?k7 ?k8 ?k9 ?kB ?_ ?c2 ?c3 ?c4 ?c5; (case kA => exact rfl); (case kF => exact rfl); (case kK => assumption); (case k1 => k_asm); (case k2 => k_asm); (case k3 => k_asm); (case k4 => k_asm); (case k5 => k_asm); (case k6 => k_is); (case k7 => k_is); (case k8 => exact hd); (case k9 => exact BindsTo.of_eq rfl); (case c5 => decide); (case kB => exact locs rfl); (case c2 => exact rfl); (case c3 => exact rfl); (case c4 => exact rfl))
  intro g L' h₁ FG F' N' B' X' T' hlt
  clear B F X N T
  obtain ⟨q, hq⟩ := hdiv
  rw [Nat.mul_comm] at hq
  have hfit : b.length ≤ 1099511627776 := by omega
  refine wpS_execs_cons (wpS_Assign_Name (wpS_Call_type (T := "bytearray") ?_))
  k_fold
  walk_at "S"
  refine wpS_any ?_
  k_fold
  walk_at "S"
  refine call_bytearray_K (by k_asm) (by k_asm) (by omega) (by simp only [List.size_toArray, Int.toNat_natCast, sizeLine]; omega) ?_
  intro ab h₂ tk₂ F₂ N₂ hl₂
  k_sweep
  k_fold
  walk_at "S"
  refine wpS_execs_cons (wpS_For (wpS_any ?_))
  k_fold
  walk_at "S"
  rename Fr _ _ _ _ => F₃
  rename News _ _ _ _ => N₃
  rename IsRange _ _ _ _ _ _ _ _ => hr₃
  trace_state
  refine forRangeS (σ := List UInt8 × Option Value) (n := q) rfl hr₃ ?small ?size rfl rfl (fun i c => c.1 = swapTo b n i 0)
    (fun c y => if y = Str.ofString "j" then c.2 else if y = Str.ofString "swapped_data" then some (.ref ab) else List.lookup y [(Str.ofString "data", Value.bytes b.toArray t₁), (Str.ofString "width", Value.int n t₂)].reverse)
    (fun c => (ab, baObj c.1.toArray) :: news) (List.replicate b.length 0, none) F₃ ?led ?mp ?i0 ?turn ?done
  case small => rw [List.size_toArray]; exact small_of (rangeSize_step hn hq) (by omega) (by omega) (by omega) (by omega) (by omega) (by omega) (by have := Nat.le_mul_of_pos_right q hn; omega)
  case size => rw [List.size_toArray]; exact rangeSize_step hn hq
  case led =>
    have e : (List.replicate b.length (0 : UInt8)).toArray = Array.replicate ((b.toArray.size : Nat) : Int).toNat 0 := by simp
    show News g L' _ ((ab, baObj (List.replicate b.length (0 : UInt8)).toArray) :: news)
    rw [e]; exact N₃
  case mp =>
    intro z hz
    by_cases h : z = Str.ofString "j"
    · subst h; rfl
    · rw [if_neg h]
  case i0 => exact (swapTo_zero b n).symm
  case turn =>
    rintro i ⟨cb, jv⟩ I it t h tk hi hc hoff F₄ N₄
    dsimp only at hc
    subst hc
    change Fr g L' _ _ at F₄
    change News g L' _ _ at N₄
    have hin : i * n + n ≤ b.length := by
      rw [hq, ← Nat.succ_mul]; exact Nat.mul_le_mul_right n hi
    have hoff1 : ab ≠ I := hoff _ (List.mem_cons_self ..)
    have hoff2 : ∀ p ∈ news, p.1 ≠ I := fun p hp => hoff p (List.mem_cons_of_mem _ hp)
    have hoff3 : ∀ p ∈ news, p.1 ≠ ab := fun p hp => Nat.ne_of_lt (hl₂ p hp)
    refine wpS_execs_cons (wpS_For (wpS_any ?_))
    k_fold
    walk_at "S"
    rename Fr _ _ _ _ => F₅
    rename News _ _ _ _ => N₅
    rename IsRange _ _ _ _ _ _ _ _ => hr₅
    refine forRangeS (σ := List UInt8) (n := n) rfl hr₅ (small_of rangeSize_one (by omega) (by omega) (by omega) (by omega) (by omega) (by omega) (by omega)) rangeSize_one rfl rfl (fun j c => c = swapTo b n i j)
      (fun c y => if y = Str.ofString "i" then some (.int (0 + (i : Int) * n) t) else if y = Str.ofString "swapped_data" then some (.ref ab) else List.lookup y [(Str.ofString "data", Value.bytes b.toArray t₁), (Str.ofString "width", Value.int n t₂)].reverse)
      (fun c => (I, it) :: (ab, baObj c.toArray) :: news) (swapTo b n i 0) F₅ N₅ ?mp2 ?i02 ?turn2 ?done2
    case mp2 =>
      intro z hz
      by_cases h : z = Str.ofString "i"
      · subst h; rfl
      · rw [if_neg h, if_neg h, if_neg hz]
    case i02 => rfl
    case turn2 =>
      rintro j cb I₂ it₂ tj h₆ tk₆ hj rfl hoff' F₆ N₆
      change Fr g L' _ _ at F₆
      change News g L' _ _ at N₆
      have hoffA : I ≠ I₂ := hoff' _ (List.mem_cons_self ..)
      have hoffB : ab ≠ I₂ := hoff' _ (List.mem_cons_of_mem _ (List.mem_cons_self ..))
      have hjn : ((i * n + j : Nat) : Int) = (i : Int) * n + j := by push_cast; rfl
      have hin' : i * n + j < b.length := by omega
      refine wpS_execs_cons (wpS_any ?_)
      k_fold
      walk_at "S"
      refine ba_set_K (by k_asm) (by k_asm) (.tail (Ne.symm hoffB) (.tail (Ne.symm hoff1) (.head hoff3))) ?_ ?_ ?_ ?_ ?_ ?_
      · omega
      · rw [swapTo_length]; omega
      · rw [swapTo_length]; omega
      · omega
      · have := UInt8.toNat_lt (b.getD (0 + (i : Int) * n + (0 + (j : Int) * 1)).toNat 0); omega
      intro h₈ F₈ N₈
      have e1 : (0 + (i : Int) * n + n - 1 - (0 + (j : Int) * 1)).toNat = i * n + n - 1 - j := by omega
      have e2 : (0 + (i : Int) * n + (0 + (j : Int) * 1)).toNat = i * n + j := by omega
      rw [e1, e2] at N₈
      have e3 : ∀ x : UInt8, ((x.toNat : Nat) : Int).toNat.toUInt8 = x := fun x => by rw [Int.toNat_natCast]; exact UInt8.ofNat_toNat
      rw [e3, swapTo_set b n i j hn hj hin] at N₈
      dsimp only
      refine wpS_execs_nil ?_
      refine TurnEnd.next (swapTo b n i (j + 1)) F₈ N₈ ?_ ?_ rfl
      · intro p hp
        rcases List.mem_cons.mp hp with rfl | hp
        · exact hoffA
        · rcases List.mem_cons.mp hp with rfl | hp
          · exact hoffB
          · exact hoff' p (List.mem_cons_of_mem _ (List.mem_cons_of_mem _ hp))
      intro z hz
      rw [if_neg hz]
    case done2 =>
      rintro cb m₇ h₇ tk₇ rfl F₇ hm₇ N₇
      dsimp only
      refine wpS_execs_nil ?_
      refine TurnEnd.next (swapTo b n (i + 1) 0, m₇ (Str.ofString "j")) F₇ ?_ ?_ ?_ rfl
      · rw [← swapTo_next]; exact N₇
      · intro p hp
        rcases List.mem_cons.mp hp with rfl | hp
        · exact hoff1
        · exact hoff2 p hp
      · intro z hz
        dsimp only
        by_cases h : z = Str.ofString "j"
        · rw [if_pos h, h]
        · rw [if_neg h, hm₇ z h, if_neg hz]
  case done =>
    rintro ⟨cb, jv⟩ m₇ h₇ tk₇ hc F₇ hm₇ N₇
    dsimp only at hc
    subst hc
    rw [swapTo_all b n q hq] at N₇
    change Fr g L' _ _ at F₇
    change News g L' _ _ at N₇
    have e0 : (fun y => if y = Str.ofString "i" then m₇ (Str.ofString "i") else if y = Str.ofString "j" then jv else if y = Str.ofString "swapped_data" then some (Value.ref ab) else List.lookup y [(Str.ofString "data", Value.bytes b.toArray t₁), (Str.ofString "width", Value.int n t₂)].reverse) = m₇ := by
      funext y
      by_cases h : y = Str.ofString "i"
      · rw [if_pos h, h]
      · rw [if_neg h, hm₇ y h]
    rw [← e0] at F₇
    dsimp only
    refine wpS_execs_cons (wpS_Return (wpS_any ?_))
    k_fold
    walk_at "S"
    refine ba_bytes (b := (swapL b n).toArray) (N₇ _ (List.mem_cons_self ..)).1 (by rw [List.size_toArray, swapL_length]; simp only [sizeLine]; omega) fun t k => ?_
    walk_at "S"
    refine leaveK_ (m' := _) (news' := news) F₇ (fun p hp => N₇ p (List.mem_cons_of_mem _ hp)) fun Fb Nb => ?_
    exact hret _ _ _ Fb Nb
end Mine
set_option maxRecDepth 100000
set_option Elab.async false
open PySem PySem.W PySem.Calls PyProof.Rows
namespace Mine
local macro_rules | `(tactic| walk_at "S") => `(tactic| repeat' (first | (k_unfold; (try dsimp only)) | walk1 | (dsimp only; walk1)))
local macro_rules | `(tactic| walk_at "mp") => `(tactic| (intro z; (try intro hz); (try dsimp only); (repeat' split) <;> first | rfl | contradiction | (exfalso; subst_vars; (rename (_ : Str) = _ => hq9); exact absurd hq9 (by decide)) | (subst_vars; rfl) | (simp_all; done)))
local macro_rules | `(tactic| walk_at "subscriptTail") => `(tactic| (k_here; (with_reducible show wpAny _ _ (subscriptTail _ _ (Value.bytes (List.toArray _) _) (Value.int _ _)) _ _ _); refine bytes_item (by omega) (by omega) (by omega) ?_))
local macro_rules | `(tactic| walk_at "subscriptTail") => `(tactic| (k_here; (with_reducible show wpAny _ _ (subscriptTail _ (Expr.Slice _ _ none _) (Value.bytes (List.toArray _) _) (Value.ref _)) _ _ _); (with_reducible rename Fr _ _ _ _ => F'); (with_reducible rename News _ _ _ _ => N'); (refine bytes_cut (s := ⟨_, _, _, _, _⟩) F' N' (by constructor) (by constructor) (by omega) ?_); intro _ _ _ _ _; (try k_sweep)))
local macro_rules | `(tactic| walk_at "binaryOp Add bytes bytes") => `(tactic| (k_here; (with_reducible show wpAny _ _ (binaryOp Operator.Add (Value.bytes (List.toArray _) _) (Value.bytes (List.toArray _) _)) _ _ _); refine bytes_add_K (by (simp only [List.size_toArray, List.length_reverse, List.length_take, List.length_append, List.length_cons, List.length_nil]; omega)) rfl ?_; intro _ _))
local macro_rules | `(tactic| walk_at "subscriptTail List cons Slice ref ref") => `(tactic| (k_here; k_dflt (refine kba_turn (value' := PySem.Expr.Name (PySem.Str.ofString "_") ⟨0, 0, 0, 0⟩) (fun _ => rfl) ?_); k_dflt (refine' kmk_slice_ints ?F ?N ?l ?p ?q ?i ?m ?c ?_ ?s ?t ?z; (case F => k_asm); (case N => k_asm); (case l => kmk_list); (case p => kmk_part); (case q => kmk_part); (case i => l_ints); (case m => exact kmk_from (by l_ints) (by kmk_sign)); (case c => exact List.length_drop ..); (case s => with_unfolding_all rfl); (case t => kmk_pure); (case z => kmk_size)); intro D' ws' h' F' N' l1 hI' hC' hL'; (try k_lt l1); (try k_sweep)))
local macro_rules | `(tactic| walk_at "binaryOp Add ref ref") => `(tactic| (k_here; (with_reducible show wpAny _ _ (binaryOp _ (Value.ref _) (Value.ref _)) _ _ _); k_dflt (refine' kmk_add_ints ?F ?N ?a ?b ?i ?j ?_ ?z; (case F => k_asm); (case N => k_asm); (case a => kmk_list); (case b => kmk_list); (case i => l_ints); (case j => l_ints); (case z => kmk_sum)); intro D' ws' h' F' N' l1 hI'; (try k_lt l1); (try k_sweep)))
local macro_rules | `(tactic| k_all) => `(tactic| assumption)
local macro_rules | `(tactic| k_ne) => `(tactic| first | assumption | exact Ne.symm (by assumption))
def Halt (P : Prop) : Prop := P
theorem halt {P : Prop} (h : Halt P) : P := h
local macro_rules | `(tactic| walk_at "subscriptTail Name Slice ref ref") => `(tactic| (k_here; (with_reducible show wpAny _ _ (subscriptTail _ (PySem.Expr.Slice _ _ (some (PySem.Expr.Constant _ _ _)) _) (Value.ref _) (Value.ref _)) _ _ _); refine halt ?_))
local macro_rules | `(tactic| walk_at "subscriptTail Name Slice ref ref") => `(tactic| (k_here; (with_reducible show wpAny _ _ (subscriptTail _ (PySem.Expr.Slice (some _) none none _) (Value.ref _) (Value.ref _)) _ _ _); refine halt ?_))
local macro_rules | `(tactic| walk_at "subscriptTail Name Subscript ref int") => `(tactic| (k_here; refine halt ?_))
local macro_rules | `(tactic| walk_at "subscriptTail") => `(tactic| (k_here; (with_reducible show wpAny _ _ (subscriptTail (PySem.Expr.Name _ _) (PySem.Expr.Subscript _ _ _) (Value.ref _) (Value.int _ _)) _ _ _); refine halt ?_))
local macro_rules | `(tactic| walk_at "call type:zip") => `(tactic| (k_here; refine halt ?_))
theorem allLt_mem {d : Addr} : ∀ {l : List (Addr × Obj)}, AllLt d l → ∀ p ∈ l, p.1 < d
  | [], _, _, h => nomatch h
  | _ :: _, x, p, h => by
    rcases List.mem_cons.mp h with rfl | h
    · exact x.1
    · exact allLt_mem x.2 p h
def twosL (h : Nat) : List Int := interI (pickI (rangeKs 0 (2 * h)) (some 1) none (some 2)) (pickI (rangeKs 0 (2 * h)) none none (some 2))
theorem twos_len {h : Nat} (hh : h = 1 ∨ h = 3 ∨ h = 7 ∨ h = 11) : (twosL h).length = 2 * h := by
  rcases hh with rfl | rfl | rfl | rfl <;> decide +kernel
def halvesL (h : Nat) : List Int := ((rangeKs 0 (2 * h)).take h).reverse ++ ((rangeKs 0 (2 * h)).drop h).reverse
def pathTo (h : Nat) : Nat → List Int
  | 0 => [Int.fdiv (h : Int) 2]
  | i + 1 => pathTo h i ++ [if i % 2 = 0 then (twosL h).getD ((pathTo h i).getD i 0).toNat 0 else (halvesL h).getD ((pathTo h i).getD i 0).toNat 0]
theorem path_len (h : Nat) : ∀ i, (pathTo h i).length = i + 1
  | 0 => rfl
  | i + 1 => by rw [pathTo, List.length_append, path_len h i]; rfl
def pathInB (h : Nat) : Bool := (List.range (2 * h)).all fun i => decide (0 ≤ (pathTo h i).getD i 0) && decide ((pathTo h i).getD i 0 < 2 * (h : Int))
theorem pathIn_all {h : Nat} (hh : h = 1 ∨ h = 3 ∨ h = 7 ∨ h = 11) : pathInB h = true := by
  rcases hh with rfl | rfl | rfl | rfl <;> decide +kernel
theorem path_in {h : Nat} (hh : h = 1 ∨ h = 3 ∨ h = 7 ∨ h = 11) {i : Nat} (hi : i < 2 * h) : 0 ≤ (pathTo h i).getD i 0 ∧ (pathTo h i).getD i 0 < 2 * (h : Int) := by
  have := List.all_eq_true.mp (pathIn_all hh) i (List.mem_range.mpr hi)
  rwa [Bool.and_eq_true, decide_eq_true_eq, decide_eq_true_eq] at this
theorem pick_len {h : Nat} (hh : h = 1 ∨ h = 3 ∨ h = 7 ∨ h = 11) : (pickI (rangeKs 0 (2 * h)) (some 1) none (some 2)).length = h ∧ (pickI (rangeKs 0 (2 * h)) none none (some 2)).length = h := by
  rcases hh with rfl | rfl | rfl | rfl <;> decide +kernel
section
variable {prog : Program} {w : World} {p : Program} {loose : List Str} {mean : ExcName → Option Value} {mg mb : Str → Option Value}
  {dp un : Nat} {gd : Option (List Code)} {cn : Str} {cs : Scope} {a : Addr} {ccd : Value} {cl : List (Str × Addr)} {outer : List Env} {A₀ : Around} {base h₀ : Heap} {L : Addr} {m : Str → Option Value} {news : List (Addr × Obj)} {s : Shared} {Q E : Value → Shared → Prop}
  (B : Below A₀ base outer h₀) (F : Fr h₀ L s.heap m) (X : (MineH.hd.heap_39 w.params).In h₀) (N : News h₀ L s.heap news) (T : Top p loose mean mg mb h₀) (hk : cs.kind = .function)
include B F X N T hk
set_option maxHeartbeats 1000000 in
theorem path_S {h : Nat} {t₁ : Tok} (hd : dp < recursionLimit) (hun : un ≤ 1000) (hh : h = 1 ∨ h = 3 ∨ h = 7 ∨ h = 11)
    (hret : ∀ ad ws k' h' tk', IntsAre ws (pathTo h (2 * h - 1)) → Fr h₀ L h' m → News h₀ L h' ((ad, listOf (List.toArray ws) k') :: news) → (∀ q ∈ news, q.1 < ad) → Q (.ref ad) { s with heap := h', toks := tk' }) :
    wpS (model prog w) (ktrTop dp un gd cn cs L a ccd cl outer) (call (.ref 26) [.int h t₁]) Q E s := by
  w_top off
  have hfill : PySem.Challenge.rw_ny0470_04 = PySem.Challenge.rw_ny0470_04 ∧ MineH.hd.heap_39 = MineH.hd.heap_39 := by k_fill; exact ⟨rfl, rfl⟩
  clear hfill
  refine wpS_call ?_
  k_dflt (refine' code_defS (binds := [(Str.ofString "half", .int h t₁)]) ?k1 ?k2 ?k3 ?k4 ?k5 ?kA ?kF ?kK ?k6 ?k7 ?k8 ?k9 ?kB ?_ ?c2 ?c3 ?c4 ?c5; (case kA => exact rfl); (case kF => exact rfl); (case kK => assumption); (case k1 => k_asm); (case k2 => k_asm); (case k3 => k_asm); (case k4 => k_asm); (case k5 => k_asm); (case k6 => k_is); (case k7 => k_is); (case k8 => (exact hd)); (case k9 => exact BindsTo.of_eq rfl); (case c5 => decide); (case kB => exact locs rfl); (case c2 => exact rfl); (case c3 => exact rfl); (case c4 => exact rfl))
  intro g L' h₁ FG F' N' B' X' T' hlt
  clear B F X N T
  have hb : 1 ≤ h ∧ h ≤ 11 := by omega
  refine wpS_execs_cons (wpS_any ?_)
  k_fold
  walk_at "S"
  all_goals (try clear qk ek)
  rename Fr _ _ _ _ => F₂
  rename News _ _ _ _ => N₂
  rename IntsAre _ (rangeKs _ _) => hpl
  rename_i rt1 rt2 rt3 rgx rga pl pv pk hh4 hh4b lpl hh5
  rw [show (2 * (h : Int) - 0).toNat = 2 * h by omega] at hpl
  have hpvl : pv.length = 2 * h := by rw [hpl.length, rangeKs_length]
  refine wpS_tk (s := s) (h' := hh5) fun tk₂ => ?_
  clear rgx rga
  refine wpS_execs_cons (wpS_any (nest_assign F₂ rfl (by with_unfolding_all rfl) rfl (by decide) rfl (by decide) rfl rfl (by decide) (by decide) rfl rfl ?_))
  k_fold
  walk_at "S"
  all_goals (try clear qk ek)
  refine kmk_slice3_lit (s := ⟨hh5, _, _, _, _⟩) F₂ N₂ (News.isList N₂ (.head _)) (.int _ _) .none (.int _ _) (by decide) rfl ?_ (by with_unfolding_all rfl) (by intro _; with_unfolding_all rfl) (by rw [List.size_toArray, sizeLine_eq]; omega)
  intro l1 h₂ F₃ N₃ lt1
  walk_at "S"
  refine kmk_slice3_lit (s := ⟨h₂, _, _, _, _⟩) F₃ N₃ (News.isList N₃ (.tail _ (.head _))) .none .none (.int _ _) (by decide) rfl ?_ (by with_unfolding_all rfl) (by intro _; with_unfolding_all rfl) (by rw [List.size_toArray, sizeLine_eq]; omega)
  intro l2 h₃ F₄ N₄ lt2
  have hx1 := ints_slice hpl (some 1) none (some 2)
  have hx2 := ints_slice hpl none none (some 2)
  walk_at "S"
  have hpk := pick_len hh
  have hxl1 := hx1.length
  have hxl2 := hx2.length
  refine zip_src (s := ⟨h₃, _, _, _, _⟩) rfl F₄ N₄ (.tail _ (.head _)) (.head _) (by omega) (by omega) ?_
  intro tw h₄ tk₄ F₅ N₅ lt3
  have htw := ints_inter hx1 hx2
  clear F₂ N₂ F₃ N₃ F₄ N₄
  generalize inter (slicePick pv.toArray (some 1) none (some 2)).toList (slicePick pv.toArray none none (some 2)).toList = tv at *
  show wpS _ _ _ _ _ _
  refine wpS_tk (s := s) (h' := h₄) fun tk₅ => ?_
  have N₆ : News g L' h₄ ((tw, LCg.lst tv) :: (pl, listOf (List.toArray pv) pk) :: news) := fun p hp => N₅ p (by
    rcases List.mem_cons.mp hp with rfl | hp
    · exact .head _
    · exact .tail _ (.tail _ (.tail _ hp)))
  have o1 : pl ≠ tw := lt3 (pl, listOf (List.toArray pv) pk) (.tail _ (.tail _ (.head _)))
  have o2 : ∀ r ∈ news, r.1 ≠ tw := fun r hr => lt3 r (.tail _ (.tail _ (.tail _ hr)))
  clear N₅ lt3 lt1 lt2 hx1 hx2 hxl1 hxl2
  generalize htI : interI (pickI (rangeKs 0 (2 * h)) (some 1) none (some 2)) (pickI (rangeKs 0 (2 * h)) none none (some 2)) = tI at *
  have hrl : (rangeKs 0 (2 * h)).length = 2 * h := rangeKs_length _ _
  generalize hrk : rangeKs 0 (2 * h) = rk at *
  refine wpS_execs_cons (wpS_any ?_)
  k_fold
  walk_at "S"
  all_goals (try clear qk ek)
  rename Fr _ _ _ _ => F₇
  rename News _ _ _ _ => N₇
  rename_i D₆ ws₆ hh6 hI₆ hC₆ hL₆ lt₆ D₇ ws₇ hh7 hI₇ hC₇ lt₇
  refine kmk_slice_ints (s := ⟨hh7, _, _, _, _⟩) F₇ N₇ (News.isList N₇ (.tail _ (.tail _ (.tail _ (.head _))))) (.int _ _) .none hpl (kmk_from hpl (by omega)) (List.length_drop ..) ?_ (by with_unfolding_all rfl) (by intro _; with_unfolding_all rfl) (by rw [List.size_toArray, sizeLine_eq]; omega)
  intro D₈ ws₈ h₈ F₈ N₈ l₈ hI₈ hC₈ hL₈
  clear F₇ N₇
  rw [Int.toNat_natCast] at hI₆ hI₇ hI₈
  have hl7 : ws₇.length ≤ 22 := by rw [hI₇.length, List.length_reverse, List.length_take]; omega
  have hl8 : ws₈.length ≤ 22 := by rw [hI₈.length, List.length_drop]; omega
  walk_at "S"
  all_goals (try clear qk ek)
  rename Fr _ _ _ _ => F₉
  rename News _ _ _ _ => N₉
  rename IntsAre _ (_ ++ _) => hI₉
  rename_i D₁₀ ws₁₀ hh10 hI₁₀ hC₁₀ lt₁₀ ha hav hh11 lt₁₁ hh12
  have N₁₀ : News g L' hh12 ((ha, listOf (List.toArray hav) 0) :: (tw, LCg.lst tv) :: news) := fun p hp => N₉ p (by
    rcases List.mem_cons.mp hp with rfl | hp
    · exact .head _
    · rcases List.mem_cons.mp hp with rfl | hp
      · exact .tail _ (.tail _ (.tail _ (.tail _ (.tail _ (.head _)))))
      · exact .tail _ (.tail _ (.tail _ (.tail _ (.tail _ (.tail _ (.tail _ hp)))))))
  have o3 : tw < ha := lt₁₁.2.2.2.2.1
  have o4 : ∀ r ∈ news, r.1 < ha := allLt_mem lt₁₁.2.2.2.2.2.2
  clear N₉ lt₁₁ lt₁₀ l₈ lt₇ lt₆ hI₁₀ hC₁₀ hI₈ hC₈ hL₈ hI₇ hC₇ hI₆ hC₆ hL₆ hl7 hl8
  have htIl : tI.length = 2 * h := by rw [← htI, ← hrk]; exact twos_len hh
  have hhl : ((rk.take h).reverse ++ (rk.drop h).reverse).length = 2 * h := by rw [List.length_append, List.length_reverse, List.length_reverse, List.length_take, List.length_drop]; omega
  generalize hhI : (rk.take h).reverse ++ (rk.drop h).reverse = hI at *
  have F₁₀ : Fr g L' hh12 (fun y => if y = Str.ofString "halves" then some (.ref ha) else if y = Str.ofString "twos" then some (.ref tw) else if y = Str.ofString "places" then some (.ref pl) else if y = Str.ofString "half" then some (.int h t₁) else none) :=
    fr_eqv F₉ fun y => by simp only [List.reverse_cons, List.reverse_nil, List.nil_append, look1]; rfl
  clear F₉
  refine wpS_tk (s := s) (h' := hh12) fun tk₆ => ?_
  refine wpS_execs_cons (wpS_any ?_)
  k_fold
  walk_at "S"
  all_goals (try clear qk ek)
  rename Fr _ _ _ _ => F₁₁
  rename News _ _ _ _ => N₁₁
  rename_i pa hh13 lpa hh14
  refine wpS_tk (s := s) (h' := hh14) fun tk₇ => ?_
  refine wpS_execs_cons (wpS_For ?_)
  refine wpS_any ?_
  k_fold
  walk_at "S"
  all_goals (try clear qk ek)
  rename Fr _ _ _ _ => F₁₂
  rename News _ _ _ _ => N₁₂
  rename IsRange _ _ _ _ _ _ _ _ => hr₁₂
  rw [show 2 * (h : Int) - 1 = ((2 * h - 1 : Nat) : Int) by omega] at hr₁₂
  have et : twosL h = tI := by rw [← htI, ← hrk]; rfl
  have eh : halvesL h = hI := by rw [← hhI, ← hrk]; rfl
  have op : ∀ r ∈ (ha, listOf (List.toArray hav) 0) :: (tw, LCg.lst tv) :: news, r.1 ≠ pa := fun r hr => Nat.ne_of_lt (allLt_mem (l := (ha, listOf (List.toArray hav) 0) :: (tw, LCg.lst tv) :: news) lpa r hr)
  refine forRangeS (σ := List Value × Nat) (n := 2 * h - 1) rfl hr₁₂ (small_of rangeSize_one (by omega) (by omega) (by omega) (by omega) (by omega) (by omega) (by omega)) rangeSize_one rfl rfl
    (fun i c => IntsAre c.1 (pathTo h i))
    (fun c y => if y = Str.ofString "path" then some (.ref pa) else if y = Str.ofString "halves" then some (.ref ha) else if y = Str.ofString "twos" then some (.ref tw) else if y = Str.ofString "places" then some (.ref pl) else if y = Str.ofString "half" then some (.int h t₁) else none)
    (fun c => (pa, listOf (List.toArray c.1) c.2) :: (ha, listOf (List.toArray hav) 0) :: (tw, LCg.lst tv) :: news) ([.int (Int.fdiv (h : Int) 2) (tk₆ + 1)], 0) F₁₂ N₁₂ (fun z hz => rfl) (.cons _ _ .nil) ?turn ?done
  case turn =>
    rintro i ⟨qv, kq⟩ I it t hp tk₈ hi hqv hoff F₁₃ N₁₃
    change Fr g L' _ _ at F₁₃
    change News g L' _ _ at N₁₃
    dsimp only at hqv hoff F₁₃ N₁₃
    clear F₁₂ N₁₂ hr₁₂
    have hql : (pathTo h i).length = i + 1 := path_len h i
    have hqv' : qv.length = i + 1 := by rw [hqv.length]; exact hql
    have hbd := path_in hh (i := i) (by omega)
    have hnext : pathTo h (i + 1) = pathTo h i ++ [if i % 2 = 0 then tI.getD ((pathTo h i).getD i 0).toNat 0 else hI.getD ((pathTo h i).getD i 0).toNat 0] := by rw [pathTo, et, eh]
    generalize pathTo h i = qs at *
    have oI : pa ≠ I := hoff _ (.head _)
    have hmod : (0 + (i : Int) * 1).fmod 2 = ((i % 2 : Nat) : Int) := by rw [Int.fmod_eq_emod_of_nonneg _ (by omega)]; omega
    refine wpS_any ?_
    k_fold
    walk_at "S"
    all_goals (try clear qk ek)
    · rename_i hc tz
      have hie : (-1 + ((qs.length : Nat) : Int)).toNat = i := by omega
      rw [hie]
      refine item_list_ints (News.isList N₁₃ (.tail _ (.tail _ (.tail _ (.head _))))) htw hbd.1 (by omega) (by omega) fun tw' => ?_
      walk_at "S"
      all_goals (try clear qk ek)
      rename Fr _ _ _ _ => F₁₄
      rename News _ _ _ _ => N₁₄
      rw [List.push_toArray] at N₁₄
      refine TurnEnd.next (qv ++ [Value.int (tI.getD (qs.getD i 0).toNat 0) tw'], kq + 1) F₁₄ N₁₄ (fun p hp => ?_) ?_ ?_
      · rcases List.mem_cons.mp hp with rfl | hp
        · exact oI
        · exact hoff p (.tail _ hp)
      · intro z hz
        simp only [if_neg hz]
      · show IntsAre (qv ++ [_]) (pathTo h (i + 1))
        rw [hmod] at hc
        rw [hnext, if_pos (by omega)]
        exact hqv.append (.cons _ _ .nil)
    · rename_i hc tz
      have hie : (-1 + ((qs.length : Nat) : Int)).toNat = i := by omega
      rw [hie]
      refine item_list_ints (News.isList N₁₃ (.tail _ (.tail _ (.head _)))) hI₉ hbd.1 (by omega) (by omega) fun tw' => ?_
      walk_at "S"
      all_goals (try clear qk ek)
      rename Fr _ _ _ _ => F₁₄
      rename News _ _ _ _ => N₁₄
      rw [List.push_toArray] at N₁₄
      refine TurnEnd.next (qv ++ [Value.int (hI.getD (qs.getD i 0).toNat 0) tw'], kq + 1) F₁₄ N₁₄ (fun p hp => ?_) ?_ ?_
      · rcases List.mem_cons.mp hp with rfl | hp
        · exact oI
        · exact hoff p (.tail _ hp)
      · intro z hz
        simp only [if_neg hz]
      · show IntsAre (qv ++ [_]) (pathTo h (i + 1))
        rw [hmod] at hc
        rw [hnext, if_neg (by omega)]
        exact hqv.append (.cons _ _ .nil)
  case done =>
    rintro ⟨qv, kq⟩ m' hp tk₈ hqv F₁₃ hm N₁₃
    change Fr g L' _ _ at F₁₃
    change News g L' _ _ at N₁₃
    dsimp only at hqv hm N₁₃
    show wpS _ _ _ _ _ _
    refine wpS_execs_cons (wpS_Return (wpS_any (wpAny_Name (wpAny_loadName_local rfl rfl F₁₃.ns (by rw [hm _ (by decide)]; rfl) ?_))))
    refine leaveK_ F₁₃ N₁₃ fun Fb Nb => ?_
    refine hret pa qv kq _ _ hqv Fb (fun p hp => Nb p ?_) fun r hr => allLt_mem lpa.2.2 r hr
    rcases List.mem_cons.mp hp with rfl | hp
    · exact .head _
    · exact .tail _ (.tail _ (.tail _ hp))
end
end Mine
set_option maxRecDepth 100000
open PySem PySem.W PySem.Calls PyProof.Rows
namespace Mine
def kgo {α : Type} (c ok : Nat → Nat → Bool) : KasT α → Option α
  | .ret a => some a
  | .ask i j k => if ok i j = true then kgo c ok (k (c i j)) else none
theorem kgo_wp {α : Type} {c ok : Nat → Nat → Bool} {cmp : Nat → Nat → (Bool → Shared → Prop) → Shared → Prop} {Q : α → Shared → Prop} {s : Shared} {a : α} (hask : ∀ i j, ok i j = true → ∀ C : Bool → Shared → Prop, C (c i j) s → cmp i j C s) (hQ : Q a s) :
    ∀ t : KasT α, kgo c ok t = some a → t.kasWp cmp Q s
  | .ret b, h => by
    have : b = a := by simpa [kgo] using h
    subst this; exact hQ
  | .ask i j k, h => by
    unfold kgo at h
    split at h
    · rename_i ho
      exact hask i j ho _ (kgo_wp hask hQ (k (c i j)) h)
    · cases h
def thereN (k c h f : Nat) : Nat :=
  let r := ((if k % 2 = f then k else 4 * h - 1 - k) + c) % (4 * h)
  if r < 2 * h then r else 4 * h - 1 - r
def pathL (h : Nat) : List Nat := (pathTo h (2 * h - 1)).map Int.toNat
def keysL (h f c : Nat) : List Nat := (List.range (2 * h)).map fun k => (pathL h).getD (thereN k c h f) 0
def sortP (h : Nat) (keys : List Nat) : Option (List Nat) := (kgo (fun i j => decide (keys.getD i 0 < keys.getD j 0)) (fun i j => decide (i < 2 * h) && decide (j < 2 * h) && decide (keys.getD i 0 ≠ keys.getD j 0)) (kas_sort (2 * h))).map Array.toList
def swIdx (n x : Nat) : Nat := x / n * n + (n - 1 - x % n)
def srcL (h f : Nat) : Nat → List Nat
  | 0 => List.range (2 * h)
  | c + 1 => (List.range (2 * h)).map fun x => (srcL h f c).getD (swIdx (if (c + 1 + f) % 2 = 1 then 2 else h) x) 0
def dueAt (h f c : Nat) : Bool := match sortP h (keysL h f (c + 1)) with
  | some p => decide (p.map (fun k => (pathL h).getD k 0) = srcL h f (c + 1)) && p.all fun k => decide (k < 2 * h)
  | none => false
def dueB (h : Nat) : Bool := (List.range 2).all fun f => (List.range (2 * h)).all fun c => dueAt h f c
def endB (h : Nat) : Bool := (List.range 2).all fun f => decide ((List.range (2 * h)).map (fun x => (srcL h f (2 * h)).getD (swIdx (2 * h) x) 0) = List.range (2 * h))
set_option maxHeartbeats 4000000
theorem due1 : dueB 1 = true := by decide +kernel
theorem due3 : dueB 3 = true := by decide +kernel
theorem due7 : dueB 7 = true := by decide +kernel
theorem path11 : pathL 11 = [5, 4, 6, 7, 3, 2, 8, 9, 1, 0, 10, 11, 21, 20, 12, 13, 19, 18, 14, 15, 17, 16] := by decide +kernel
theorem src11_0_0 : srcL 11 0 0 = [0, 1, 2, 3, 4, 5, 6, 7, 8, 9, 10, 11, 12, 13, 14, 15, 16, 17, 18, 19, 20, 21] := by decide +kernel
theorem keys11_0_1 : keysL 11 0 1 = [4, 5, 7, 6, 2, 3, 9, 8, 0, 1, 11, 10, 20, 21, 13, 12, 18, 19, 15, 14, 16, 17] := by unfold keysL; rw [path11]; decide +kernel
theorem sort11_0_1 : sortP 11 [4, 5, 7, 6, 2, 3, 9, 8, 0, 1, 11, 10, 20, 21, 13, 12, 18, 19, 15, 14, 16, 17] = some [8, 9, 4, 5, 0, 1, 3, 2, 7, 6, 11, 10, 15, 14, 19, 18, 20, 21, 16, 17, 12, 13] := by decide +kernel
theorem src11_0_1 : srcL 11 0 1 = [1, 0, 3, 2, 5, 4, 7, 6, 9, 8, 11, 10, 13, 12, 15, 14, 17, 16, 19, 18, 21, 20] := by rw [srcL, src11_0_0]; decide +kernel
theorem d11_0_0 : dueAt 11 0 0 = true := by unfold dueAt; rw [keys11_0_1, sort11_0_1, path11, src11_0_1]; decide +kernel
theorem keys11_0_2 : keysL 11 0 2 = [6, 5, 3, 4, 8, 7, 1, 2, 10, 9, 21, 0, 12, 11, 19, 20, 14, 13, 17, 18, 16, 15] := by unfold keysL; rw [path11]; decide +kernel
theorem sort11_0_2 : sortP 11 [6, 5, 3, 4, 8, 7, 1, 2, 10, 9, 21, 0, 12, 11, 19, 20, 14, 13, 17, 18, 16, 15] = some [11, 6, 7, 2, 3, 1, 0, 5, 4, 9, 8, 13, 12, 17, 16, 21, 20, 18, 19, 14, 15, 10] := by decide +kernel
theorem src11_0_2 : srcL 11 0 2 = [11, 8, 9, 6, 7, 4, 5, 2, 3, 0, 1, 20, 21, 18, 19, 16, 17, 14, 15, 12, 13, 10] := by rw [srcL, src11_0_1]; decide +kernel
theorem d11_0_1 : dueAt 11 0 1 = true := by unfold dueAt; rw [keys11_0_2, sort11_0_2, path11, src11_0_2]; decide +kernel
theorem keys11_0_3 : keysL 11 0 3 = [7, 4, 2, 5, 9, 6, 0, 3, 11, 8, 20, 1, 13, 10, 18, 21, 15, 12, 16, 19, 17, 14] := by unfold keysL; rw [path11]; decide +kernel
theorem sort11_0_3 : sortP 11 [7, 4, 2, 5, 9, 6, 0, 3, 11, 8, 20, 1, 13, 10, 18, 21, 15, 12, 16, 19, 17, 14] = some [6, 11, 2, 7, 1, 3, 5, 0, 9, 4, 13, 8, 17, 12, 21, 16, 18, 20, 14, 19, 10, 15] := by decide +kernel
theorem src11_0_3 : srcL 11 0 3 = [8, 11, 6, 9, 4, 7, 2, 5, 0, 3, 20, 1, 18, 21, 16, 19, 14, 17, 12, 15, 10, 13] := by rw [srcL, src11_0_2]; decide +kernel
theorem d11_0_2 : dueAt 11 0 2 = true := by unfold dueAt; rw [keys11_0_3, sort11_0_3, path11, src11_0_3]; decide +kernel
theorem keys11_0_4 : keysL 11 0 4 = [3, 6, 8, 5, 1, 4, 10, 7, 21, 2, 12, 9, 19, 0, 14, 11, 17, 20, 16, 13, 15, 18] := by unfold keysL; rw [path11]; decide +kernel
theorem sort11_0_4 : sortP 11 [3, 6, 8, 5, 1, 4, 10, 7, 21, 2, 12, 9, 19, 0, 14, 11, 17, 20, 16, 13, 15, 18] = some [13, 4, 9, 0, 5, 3, 1, 7, 2, 11, 6, 15, 10, 19, 14, 20, 18, 16, 21, 12, 17, 8] := by decide +kernel
theorem src11_0_4 : srcL 11 0 4 = [20, 3, 0, 5, 2, 7, 4, 9, 6, 11, 8, 13, 10, 15, 12, 17, 14, 19, 16, 21, 18, 1] := by rw [srcL, src11_0_3]; decide +kernel
theorem d11_0_3 : dueAt 11 0 3 = true := by unfold dueAt; rw [keys11_0_4, sort11_0_4, path11, src11_0_4]; decide +kernel
theorem keys11_0_5 : keysL 11 0 5 = [2, 7, 9, 4, 0, 5, 11, 6, 20, 3, 13, 8, 18, 1, 15, 10, 16, 21, 17, 12, 14, 19] := by unfold keysL; rw [path11]; decide +kernel
theorem sort11_0_5 : sortP 11 [2, 7, 9, 4, 0, 5, 11, 6, 20, 3, 13, 8, 18, 1, 15, 10, 16, 21, 17, 12, 14, 19] = some [4, 13, 0, 9, 3, 5, 7, 1, 11, 2, 15, 6, 19, 10, 20, 14, 16, 18, 12, 21, 8, 17] := by decide +kernel
theorem src11_0_5 : srcL 11 0 5 = [3, 20, 5, 0, 7, 2, 9, 4, 11, 6, 13, 8, 15, 10, 17, 12, 19, 14, 21, 16, 1, 18] := by rw [srcL, src11_0_4]; decide +kernel
theorem d11_0_4 : dueAt 11 0 4 = true := by unfold dueAt; rw [keys11_0_5, sort11_0_5, path11, src11_0_5]; decide +kernel
theorem keys11_0_6 : keysL 11 0 6 = [8, 3, 1, 6, 10, 5, 21, 4, 12, 7, 19, 2, 14, 9, 17, 0, 16, 11, 15, 20, 18, 13] := by unfold keysL; rw [path11]; decide +kernel
theorem sort11_0_6 : sortP 11 [8, 3, 1, 6, 10, 5, 21, 4, 12, 7, 19, 2, 14, 9, 17, 0, 16, 11, 15, 20, 18, 13] = some [15, 2, 11, 1, 7, 5, 3, 9, 0, 13, 4, 17, 8, 21, 12, 18, 16, 14, 20, 10, 19, 6] := by decide +kernel
theorem src11_0_6 : srcL 11 0 6 = [13, 6, 11, 4, 9, 2, 7, 0, 5, 20, 3, 18, 1, 16, 21, 14, 19, 12, 17, 10, 15, 8] := by rw [srcL, src11_0_5]; decide +kernel
theorem d11_0_5 : dueAt 11 0 5 = true := by unfold dueAt; rw [keys11_0_6, sort11_0_6, path11, src11_0_6]; decide +kernel
theorem keys11_0_7 : keysL 11 0 7 = [9, 2, 0, 7, 11, 4, 20, 5, 13, 6, 18, 3, 15, 8, 16, 1, 17, 10, 14, 21, 19, 12] := by unfold keysL; rw [path11]; decide +kernel
theorem sort11_0_7 : sortP 11 [9, 2, 0, 7, 11, 4, 20, 5, 13, 6, 18, 3, 15, 8, 16, 1, 17, 10, 14, 21, 19, 12] = some [2, 15, 1, 11, 5, 7, 9, 3, 13, 0, 17, 4, 21, 8, 18, 12, 14, 16, 10, 20, 6, 19] := by decide +kernel
theorem src11_0_7 : srcL 11 0 7 = [6, 13, 4, 11, 2, 9, 0, 7, 20, 5, 18, 3, 16, 1, 14, 21, 12, 19, 10, 17, 8, 15] := by rw [srcL, src11_0_6]; decide +kernel
theorem d11_0_6 : dueAt 11 0 6 = true := by unfold dueAt; rw [keys11_0_7, sort11_0_7, path11, src11_0_7]; decide +kernel
theorem keys11_0_8 : keysL 11 0 8 = [1, 8, 10, 3, 21, 6, 12, 5, 19, 4, 14, 7, 17, 2, 16, 9, 15, 0, 18, 11, 13, 20] := by unfold keysL; rw [path11]; decide +kernel
theorem sort11_0_8 : sortP 11 [1, 8, 10, 3, 21, 6, 12, 5, 19, 4, 14, 7, 17, 2, 16, 9, 15, 0, 18, 11, 13, 20] = some [17, 0, 13, 3, 9, 7, 5, 11, 1, 15, 2, 19, 6, 20, 10, 16, 14, 12, 18, 8, 21, 4] := by decide +kernel
theorem src11_0_8 : srcL 11 0 8 = [18, 5, 20, 7, 0, 9, 2, 11, 4, 13, 6, 15, 8, 17, 10, 19, 12, 21, 14, 1, 16, 3] := by rw [srcL, src11_0_7]; decide +kernel
theorem d11_0_7 : dueAt 11 0 7 = true := by unfold dueAt; rw [keys11_0_8, sort11_0_8, path11, src11_0_8]; decide +kernel
theorem keys11_0_9 : keysL 11 0 9 = [0, 9, 11, 2, 20, 7, 13, 4, 18, 5, 15, 6, 16, 3, 17, 8, 14, 1, 19, 10, 12, 21] := by unfold keysL; rw [path11]; decide +kernel
theorem sort11_0_9 : sortP 11 [0, 9, 11, 2, 20, 7, 13, 4, 18, 5, 15, 6, 16, 3, 17, 8, 14, 1, 19, 10, 12, 21] = some [0, 17, 3, 13, 7, 9, 11, 5, 15, 1, 19, 2, 20, 6, 16, 10, 12, 14, 8, 18, 4, 21] := by decide +kernel
theorem src11_0_9 : srcL 11 0 9 = [5, 18, 7, 20, 9, 0, 11, 2, 13, 4, 15, 6, 17, 8, 19, 10, 21, 12, 1, 14, 3, 16] := by rw [srcL, src11_0_8]; decide +kernel
theorem d11_0_8 : dueAt 11 0 8 = true := by unfold dueAt; rw [keys11_0_9, sort11_0_9, path11, src11_0_9]; decide +kernel
theorem keys11_0_10 : keysL 11 0 10 = [10, 1, 21, 8, 12, 3, 19, 6, 14, 5, 17, 4, 16, 7, 15, 2, 18, 9, 13, 0, 20, 11] := by unfold keysL; rw [path11]; decide +kernel
theorem sort11_0_10 : sortP 11 [10, 1, 21, 8, 12, 3, 19, 6, 14, 5, 17, 4, 16, 7, 15, 2, 18, 9, 13, 0, 20, 11] = some [19, 1, 15, 5, 11, 9, 7, 13, 3, 17, 0, 21, 4, 18, 8, 14, 12, 10, 16, 6, 20, 2] := by decide +kernel
theorem src11_0_10 : srcL 11 0 10 = [15, 4, 13, 2, 11, 0, 9, 20, 7, 18, 5, 16, 3, 14, 1, 12, 21, 10, 19, 8, 17, 6] := by rw [srcL, src11_0_9]; decide +kernel
theorem d11_0_9 : dueAt 11 0 9 = true := by unfold dueAt; rw [keys11_0_10, sort11_0_10, path11, src11_0_10]; decide +kernel
theorem keys11_0_11 : keysL 11 0 11 = [11, 0, 20, 9, 13, 2, 18, 7, 15, 4, 16, 5, 17, 6, 14, 3, 19, 8, 12, 1, 21, 10] := by unfold keysL; rw [path11]; decide +kernel
theorem sort11_0_11 : sortP 11 [11, 0, 20, 9, 13, 2, 18, 7, 15, 4, 16, 5, 17, 6, 14, 3, 19, 8, 12, 1, 21, 10] = some [1, 19, 5, 15, 9, 11, 13, 7, 17, 3, 21, 0, 18, 4, 14, 8, 10, 12, 6, 16, 2, 20] := by decide +kernel
theorem src11_0_11 : srcL 11 0 11 = [4, 15, 2, 13, 0, 11, 20, 9, 18, 7, 16, 5, 14, 3, 12, 1, 10, 21, 8, 19, 6, 17] := by rw [srcL, src11_0_10]; decide +kernel
theorem d11_0_10 : dueAt 11 0 10 = true := by unfold dueAt; rw [keys11_0_11, sort11_0_11, path11, src11_0_11]; decide +kernel
theorem keys11_0_12 : keysL 11 0 12 = [21, 10, 12, 1, 19, 8, 14, 3, 17, 6, 16, 5, 15, 4, 18, 7, 13, 2, 20, 9, 11, 0] := by unfold keysL; rw [path11]; decide +kernel
theorem sort11_0_12 : sortP 11 [21, 10, 12, 1, 19, 8, 14, 3, 17, 6, 16, 5, 15, 4, 18, 7, 13, 2, 20, 9, 11, 0] = some [21, 3, 17, 7, 13, 11, 9, 15, 5, 19, 1, 20, 2, 16, 6, 12, 10, 8, 14, 4, 18, 0] := by decide +kernel
theorem src11_0_12 : srcL 11 0 12 = [16, 7, 18, 9, 20, 11, 0, 13, 2, 15, 4, 17, 6, 19, 8, 21, 10, 1, 12, 3, 14, 5] := by rw [srcL, src11_0_11]; decide +kernel
theorem d11_0_11 : dueAt 11 0 11 = true := by unfold dueAt; rw [keys11_0_12, sort11_0_12, path11, src11_0_12]; decide +kernel
theorem keys11_0_13 : keysL 11 0 13 = [20, 11, 13, 0, 18, 9, 15, 2, 16, 7, 17, 4, 14, 5, 19, 6, 12, 3, 21, 8, 10, 1] := by unfold keysL; rw [path11]; decide +kernel
theorem sort11_0_13 : sortP 11 [20, 11, 13, 0, 18, 9, 15, 2, 16, 7, 17, 4, 14, 5, 19, 6, 12, 3, 21, 8, 10, 1] = some [3, 21, 7, 17, 11, 13, 15, 9, 19, 5, 20, 1, 16, 2, 12, 6, 8, 10, 4, 14, 0, 18] := by decide +kernel
theorem src11_0_13 : srcL 11 0 13 = [7, 16, 9, 18, 11, 20, 13, 0, 15, 2, 17, 4, 19, 6, 21, 8, 1, 10, 3, 12, 5, 14] := by rw [srcL, src11_0_12]; decide +kernel
theorem d11_0_12 : dueAt 11 0 12 = true := by unfold dueAt; rw [keys11_0_13, sort11_0_13, path11, src11_0_13]; decide +kernel
theorem keys11_0_14 : keysL 11 0 14 = [12, 21, 19, 10, 14, 1, 17, 8, 16, 3, 15, 6, 18, 5, 13, 4, 20, 7, 11, 2, 0, 9] := by unfold keysL; rw [path11]; decide +kernel
theorem sort11_0_14 : sortP 11 [12, 21, 19, 10, 14, 1, 17, 8, 16, 3, 15, 6, 18, 5, 13, 4, 20, 7, 11, 2, 0, 9] = some [20, 5, 19, 9, 15, 13, 11, 17, 7, 21, 3, 18, 0, 14, 4, 10, 8, 6, 12, 2, 16, 1] := by decide +kernel
theorem src11_0_14 : srcL 11 0 14 = [17, 2, 15, 0, 13, 20, 11, 18, 9, 16, 7, 14, 5, 12, 3, 10, 1, 8, 21, 6, 19, 4] := by rw [srcL, src11_0_13]; decide +kernel
theorem d11_0_13 : dueAt 11 0 13 = true := by unfold dueAt; rw [keys11_0_14, sort11_0_14, path11, src11_0_14]; decide +kernel
theorem keys11_0_15 : keysL 11 0 15 = [13, 20, 18, 11, 15, 0, 16, 9, 17, 2, 14, 7, 19, 4, 12, 5, 21, 6, 10, 3, 1, 8] := by unfold keysL; rw [path11]; decide +kernel
theorem sort11_0_15 : sortP 11 [13, 20, 18, 11, 15, 0, 16, 9, 17, 2, 14, 7, 19, 4, 12, 5, 21, 6, 10, 3, 1, 8] = some [5, 20, 9, 19, 13, 15, 17, 11, 21, 7, 18, 3, 14, 0, 10, 4, 6, 8, 2, 12, 1, 16] := by decide +kernel
theorem src11_0_15 : srcL 11 0 15 = [2, 17, 0, 15, 20, 13, 18, 11, 16, 9, 14, 7, 12, 5, 10, 3, 8, 1, 6, 21, 4, 19] := by rw [srcL, src11_0_14]; decide +kernel
theorem d11_0_14 : dueAt 11 0 14 = true := by unfold dueAt; rw [keys11_0_15, sort11_0_15, path11, src11_0_15]; decide +kernel
theorem keys11_0_16 : keysL 11 0 16 = [19, 12, 14, 21, 17, 10, 16, 1, 15, 8, 18, 3, 13, 6, 20, 5, 11, 4, 0, 7, 9, 2] := by unfold keysL; rw [path11]; decide +kernel
theorem sort11_0_16 : sortP 11 [19, 12, 14, 21, 17, 10, 16, 1, 15, 8, 18, 3, 13, 6, 20, 5, 11, 4, 0, 7, 9, 2] = some [18, 7, 21, 11, 17, 15, 13, 19, 9, 20, 5, 16, 1, 12, 2, 8, 6, 4, 10, 0, 14, 3] := by decide +kernel
theorem src11_0_16 : srcL 11 0 16 = [14, 9, 16, 11, 18, 13, 20, 15, 0, 17, 2, 19, 4, 21, 6, 1, 8, 3, 10, 5, 12, 7] := by rw [srcL, src11_0_15]; decide +kernel
theorem d11_0_15 : dueAt 11 0 15 = true := by unfold dueAt; rw [keys11_0_16, sort11_0_16, path11, src11_0_16]; decide +kernel
theorem keys11_0_17 : keysL 11 0 17 = [18, 13, 15, 20, 16, 11, 17, 0, 14, 9, 19, 2, 12, 7, 21, 4, 10, 5, 1, 6, 8, 3] := by unfold keysL; rw [path11]; decide +kernel
theorem sort11_0_17 : sortP 11 [18, 13, 15, 20, 16, 11, 17, 0, 14, 9, 19, 2, 12, 7, 21, 4, 10, 5, 1, 6, 8, 3] = some [7, 18, 11, 21, 15, 17, 19, 13, 20, 9, 16, 5, 12, 1, 8, 2, 4, 6, 0, 10, 3, 14] := by decide +kernel
theorem src11_0_17 : srcL 11 0 17 = [9, 14, 11, 16, 13, 18, 15, 20, 17, 0, 19, 2, 21, 4, 1, 6, 3, 8, 5, 10, 7, 12] := by rw [srcL, src11_0_16]; decide +kernel
theorem d11_0_16 : dueAt 11 0 16 = true := by unfold dueAt; rw [keys11_0_17, sort11_0_17, path11, src11_0_17]; decide +kernel
theorem keys11_0_18 : keysL 11 0 18 = [14, 19, 17, 12, 16, 21, 15, 10, 18, 1, 13, 8, 20, 3, 11, 6, 0, 5, 9, 4, 2, 7] := by unfold keysL; rw [path11]; decide +kernel
theorem sort11_0_18 : sortP 11 [14, 19, 17, 12, 16, 21, 15, 10, 18, 1, 13, 8, 20, 3, 11, 6, 0, 5, 9, 4, 2, 7] = some [16, 9, 20, 13, 19, 17, 15, 21, 11, 18, 7, 14, 3, 10, 0, 6, 4, 2, 8, 1, 12, 5] := by decide +kernel
theorem src11_0_18 : srcL 11 0 18 = [19, 0, 17, 20, 15, 18, 13, 16, 11, 14, 9, 12, 7, 10, 5, 8, 3, 6, 1, 4, 21, 2] := by rw [srcL, src11_0_17]; decide +kernel
theorem d11_0_17 : dueAt 11 0 17 = true := by unfold dueAt; rw [keys11_0_18, sort11_0_18, path11, src11_0_18]; decide +kernel
theorem keys11_0_19 : keysL 11 0 19 = [15, 18, 16, 13, 17, 20, 14, 11, 19, 0, 12, 9, 21, 2, 10, 7, 1, 4, 8, 5, 3, 6] := by unfold keysL; rw [path11]; decide +kernel
theorem sort11_0_19 : sortP 11 [15, 18, 16, 13, 17, 20, 14, 11, 19, 0, 12, 9, 21, 2, 10, 7, 1, 4, 8, 5, 3, 6] = some [9, 16, 13, 20, 17, 19, 21, 15, 18, 11, 14, 7, 10, 3, 6, 0, 2, 4, 1, 8, 5, 12] := by decide +kernel
theorem src11_0_19 : srcL 11 0 19 = [0, 19, 20, 17, 18, 15, 16, 13, 14, 11, 12, 9, 10, 7, 8, 5, 6, 3, 4, 1, 2, 21] := by rw [srcL, src11_0_18]; decide +kernel
theorem d11_0_18 : dueAt 11 0 18 = true := by unfold dueAt; rw [keys11_0_19, sort11_0_19, path11, src11_0_19]; decide +kernel
theorem keys11_0_20 : keysL 11 0 20 = [17, 14, 16, 19, 15, 12, 18, 21, 13, 10, 20, 1, 11, 8, 0, 3, 9, 6, 2, 5, 7, 4] := by unfold keysL; rw [path11]; decide +kernel
theorem sort11_0_20 : sortP 11 [17, 14, 16, 19, 15, 12, 18, 21, 13, 10, 20, 1, 11, 8, 0, 3, 9, 6, 2, 5, 7, 4] = some [14, 11, 18, 15, 21, 19, 17, 20, 13, 16, 9, 12, 5, 8, 1, 4, 2, 0, 6, 3, 10, 7] := by decide +kernel
theorem src11_0_20 : srcL 11 0 20 = [12, 11, 14, 13, 16, 15, 18, 17, 20, 19, 0, 21, 2, 1, 4, 3, 6, 5, 8, 7, 10, 9] := by rw [srcL, src11_0_19]; decide +kernel
theorem d11_0_19 : dueAt 11 0 19 = true := by unfold dueAt; rw [keys11_0_20, sort11_0_20, path11, src11_0_20]; decide +kernel
theorem keys11_0_21 : keysL 11 0 21 = [16, 15, 17, 18, 14, 13, 19, 20, 12, 11, 21, 0, 10, 9, 1, 2, 8, 7, 3, 4, 6, 5] := by unfold keysL; rw [path11]; decide +kernel
theorem sort11_0_21 : sortP 11 [16, 15, 17, 18, 14, 13, 19, 20, 12, 11, 21, 0, 10, 9, 1, 2, 8, 7, 3, 4, 6, 5] = some [11, 14, 15, 18, 19, 21, 20, 17, 16, 13, 12, 9, 8, 5, 4, 1, 0, 2, 3, 6, 7, 10] := by decide +kernel
theorem src11_0_21 : srcL 11 0 21 = [11, 12, 13, 14, 15, 16, 17, 18, 19, 20, 21, 0, 1, 2, 3, 4, 5, 6, 7, 8, 9, 10] := by rw [srcL, src11_0_20]; decide +kernel
theorem d11_0_20 : dueAt 11 0 20 = true := by unfold dueAt; rw [keys11_0_21, sort11_0_21, path11, src11_0_21]; decide +kernel
theorem keys11_0_22 : keysL 11 0 22 = [16, 17, 15, 14, 18, 19, 13, 12, 20, 21, 11, 10, 0, 1, 9, 8, 2, 3, 7, 6, 4, 5] := by unfold keysL; rw [path11]; decide +kernel
theorem sort11_0_22 : sortP 11 [16, 17, 15, 14, 18, 19, 13, 12, 20, 21, 11, 10, 0, 1, 9, 8, 2, 3, 7, 6, 4, 5] = some [12, 13, 16, 17, 20, 21, 19, 18, 15, 14, 11, 10, 7, 6, 3, 2, 0, 1, 4, 5, 8, 9] := by decide +kernel
theorem src11_0_22 : srcL 11 0 22 = [21, 20, 19, 18, 17, 16, 15, 14, 13, 12, 11, 10, 9, 8, 7, 6, 5, 4, 3, 2, 1, 0] := by rw [srcL, src11_0_21]; decide +kernel
theorem d11_0_21 : dueAt 11 0 21 = true := by unfold dueAt; rw [keys11_0_22, sort11_0_22, path11, src11_0_22]; decide +kernel
theorem src11_1_0 : srcL 11 1 0 = [0, 1, 2, 3, 4, 5, 6, 7, 8, 9, 10, 11, 12, 13, 14, 15, 16, 17, 18, 19, 20, 21] := by decide +kernel
theorem keys11_1_1 : keysL 11 1 1 = [5, 6, 4, 3, 7, 8, 2, 1, 9, 10, 0, 21, 11, 12, 20, 19, 13, 14, 18, 17, 15, 16] := by unfold keysL; rw [path11]; decide +kernel
theorem sort11_1_1 : sortP 11 [5, 6, 4, 3, 7, 8, 2, 1, 9, 10, 0, 21, 11, 12, 20, 19, 13, 14, 18, 17, 15, 16] = some [10, 7, 6, 3, 2, 0, 1, 4, 5, 8, 9, 12, 13, 16, 17, 20, 21, 19, 18, 15, 14, 11] := by decide +kernel
theorem src11_1_1 : srcL 11 1 1 = [10, 9, 8, 7, 6, 5, 4, 3, 2, 1, 0, 21, 20, 19, 18, 17, 16, 15, 14, 13, 12, 11] := by rw [srcL, src11_1_0]; decide +kernel
theorem d11_1_0 : dueAt 11 1 0 = true := by unfold dueAt; rw [keys11_1_1, sort11_1_1, path11, src11_1_1]; decide +kernel
theorem keys11_1_2 : keysL 11 1 2 = [4, 7, 5, 2, 6, 9, 3, 0, 8, 11, 1, 20, 10, 13, 21, 18, 12, 15, 19, 16, 14, 17] := by unfold keysL; rw [path11]; decide +kernel
theorem sort11_1_2 : sortP 11 [4, 7, 5, 2, 6, 9, 3, 0, 8, 11, 1, 20, 10, 13, 21, 18, 12, 15, 19, 16, 14, 17] = some [7, 10, 3, 6, 0, 2, 4, 1, 8, 5, 12, 9, 16, 13, 20, 17, 19, 21, 15, 18, 11, 14] := by decide +kernel
theorem src11_1_2 : srcL 11 1 2 = [9, 10, 7, 8, 5, 6, 3, 4, 1, 2, 21, 0, 19, 20, 17, 18, 15, 16, 13, 14, 11, 12] := by rw [srcL, src11_1_1]; decide +kernel
theorem d11_1_1 : dueAt 11 1 1 = true := by unfold dueAt; rw [keys11_1_2, sort11_1_2, path11, src11_1_2]; decide +kernel
theorem keys11_1_3 : keysL 11 1 3 = [6, 3, 5, 8, 4, 1, 7, 10, 2, 21, 9, 12, 0, 19, 11, 14, 20, 17, 13, 16, 18, 15] := by unfold keysL; rw [path11]; decide +kernel
theorem sort11_1_3 : sortP 11 [6, 3, 5, 8, 4, 1, 7, 10, 2, 21, 9, 12, 0, 19, 11, 14, 20, 17, 13, 16, 18, 15] = some [12, 5, 8, 1, 4, 2, 0, 6, 3, 10, 7, 14, 11, 18, 15, 21, 19, 17, 20, 13, 16, 9] := by decide +kernel
theorem src11_1_3 : srcL 11 1 3 = [21, 2, 1, 4, 3, 6, 5, 8, 7, 10, 9, 12, 11, 14, 13, 16, 15, 18, 17, 20, 19, 0] := by rw [srcL, src11_1_2]; decide +kernel
theorem d11_1_2 : dueAt 11 1 2 = true := by unfold dueAt; rw [keys11_1_3, sort11_1_3, path11, src11_1_3]; decide +kernel
theorem keys11_1_4 : keysL 11 1 4 = [7, 2, 4, 9, 5, 0, 6, 11, 3, 20, 8, 13, 1, 18, 10, 15, 21, 16, 12, 17, 19, 14] := by unfold keysL; rw [path11]; decide +kernel
theorem sort11_1_4 : sortP 11 [7, 2, 4, 9, 5, 0, 6, 11, 3, 20, 8, 13, 1, 18, 10, 15, 21, 16, 12, 17, 19, 14] = some [5, 12, 1, 8, 2, 4, 6, 0, 10, 3, 14, 7, 18, 11, 21, 15, 17, 19, 13, 20, 9, 16] := by decide +kernel
theorem src11_1_4 : srcL 11 1 4 = [2, 21, 4, 1, 6, 3, 8, 5, 10, 7, 12, 9, 14, 11, 16, 13, 18, 15, 20, 17, 0, 19] := by rw [srcL, src11_1_3]; decide +kernel
theorem d11_1_3 : dueAt 11 1 3 = true := by unfold dueAt; rw [keys11_1_4, sort11_1_4, path11, src11_1_4]; decide +kernel
theorem keys11_1_5 : keysL 11 1 5 = [3, 8, 6, 1, 5, 10, 4, 21, 7, 12, 2, 19, 9, 14, 0, 17, 11, 16, 20, 15, 13, 18] := by unfold keysL; rw [path11]; decide +kernel
theorem sort11_1_5 : sortP 11 [3, 8, 6, 1, 5, 10, 4, 21, 7, 12, 2, 19, 9, 14, 0, 17, 11, 16, 20, 15, 13, 18] = some [14, 3, 10, 0, 6, 4, 2, 8, 1, 12, 5, 16, 9, 20, 13, 19, 17, 15, 21, 11, 18, 7] := by decide +kernel
theorem src11_1_5 : srcL 11 1 5 = [12, 7, 10, 5, 8, 3, 6, 1, 4, 21, 2, 19, 0, 17, 20, 15, 18, 13, 16, 11, 14, 9] := by rw [srcL, src11_1_4]; decide +kernel
theorem d11_1_4 : dueAt 11 1 4 = true := by unfold dueAt; rw [keys11_1_5, sort11_1_5, path11, src11_1_5]; decide +kernel
theorem keys11_1_6 : keysL 11 1 6 = [2, 9, 7, 0, 4, 11, 5, 20, 6, 13, 3, 18, 8, 15, 1, 16, 10, 17, 21, 14, 12, 19] := by unfold keysL; rw [path11]; decide +kernel
theorem sort11_1_6 : sortP 11 [2, 9, 7, 0, 4, 11, 5, 20, 6, 13, 3, 18, 8, 15, 1, 16, 10, 17, 21, 14, 12, 19] = some [3, 14, 0, 10, 4, 6, 8, 2, 12, 1, 16, 5, 20, 9, 19, 13, 15, 17, 11, 21, 7, 18] := by decide +kernel
theorem src11_1_6 : srcL 11 1 6 = [7, 12, 5, 10, 3, 8, 1, 6, 21, 4, 19, 2, 17, 0, 15, 20, 13, 18, 11, 16, 9, 14] := by rw [srcL, src11_1_5]; decide +kernel
theorem d11_1_5 : dueAt 11 1 5 = true := by unfold dueAt; rw [keys11_1_6, sort11_1_6, path11, src11_1_6]; decide +kernel
theorem keys11_1_7 : keysL 11 1 7 = [8, 1, 3, 10, 6, 21, 5, 12, 4, 19, 7, 14, 2, 17, 9, 16, 0, 15, 11, 18, 20, 13] := by unfold keysL; rw [path11]; decide +kernel
theorem sort11_1_7 : sortP 11 [8, 1, 3, 10, 6, 21, 5, 12, 4, 19, 7, 14, 2, 17, 9, 16, 0, 15, 11, 18, 20, 13] = some [16, 1, 12, 2, 8, 6, 4, 10, 0, 14, 3, 18, 7, 21, 11, 17, 15, 13, 19, 9, 20, 5] := by decide +kernel
theorem src11_1_7 : srcL 11 1 7 = [19, 4, 21, 6, 1, 8, 3, 10, 5, 12, 7, 14, 9, 16, 11, 18, 13, 20, 15, 0, 17, 2] := by rw [srcL, src11_1_6]; decide +kernel
theorem d11_1_6 : dueAt 11 1 6 = true := by unfold dueAt; rw [keys11_1_7, sort11_1_7, path11, src11_1_7]; decide +kernel
theorem keys11_1_8 : keysL 11 1 8 = [9, 0, 2, 11, 7, 20, 4, 13, 5, 18, 6, 15, 3, 16, 8, 17, 1, 14, 10, 19, 21, 12] := by unfold keysL; rw [path11]; decide +kernel
theorem sort11_1_8 : sortP 11 [9, 0, 2, 11, 7, 20, 4, 13, 5, 18, 6, 15, 3, 16, 8, 17, 1, 14, 10, 19, 21, 12] = some [1, 16, 2, 12, 6, 8, 10, 4, 14, 0, 18, 3, 21, 7, 17, 11, 13, 15, 9, 19, 5, 20] := by decide +kernel
theorem src11_1_8 : srcL 11 1 8 = [4, 19, 6, 21, 8, 1, 10, 3, 12, 5, 14, 7, 16, 9, 18, 11, 20, 13, 0, 15, 2, 17] := by rw [srcL, src11_1_7]; decide +kernel
theorem d11_1_7 : dueAt 11 1 7 = true := by unfold dueAt; rw [keys11_1_8, sort11_1_8, path11, src11_1_8]; decide +kernel
theorem keys11_1_9 : keysL 11 1 9 = [1, 10, 8, 21, 3, 12, 6, 19, 5, 14, 4, 17, 7, 16, 2, 15, 9, 18, 0, 13, 11, 20] := by unfold keysL; rw [path11]; decide +kernel
theorem sort11_1_9 : sortP 11 [1, 10, 8, 21, 3, 12, 6, 19, 5, 14, 4, 17, 7, 16, 2, 15, 9, 18, 0, 13, 11, 20] = some [18, 0, 14, 4, 10, 8, 6, 12, 2, 16, 1, 20, 5, 19, 9, 15, 13, 11, 17, 7, 21, 3] := by decide +kernel
theorem src11_1_9 : srcL 11 1 9 = [14, 5, 12, 3, 10, 1, 8, 21, 6, 19, 4, 17, 2, 15, 0, 13, 20, 11, 18, 9, 16, 7] := by rw [srcL, src11_1_8]; decide +kernel
theorem d11_1_8 : dueAt 11 1 8 = true := by unfold dueAt; rw [keys11_1_9, sort11_1_9, path11, src11_1_9]; decide +kernel
theorem keys11_1_10 : keysL 11 1 10 = [0, 11, 9, 20, 2, 13, 7, 18, 4, 15, 5, 16, 6, 17, 3, 14, 8, 19, 1, 12, 10, 21] := by unfold keysL; rw [path11]; decide +kernel
theorem sort11_1_10 : sortP 11 [0, 11, 9, 20, 2, 13, 7, 18, 4, 15, 5, 16, 6, 17, 3, 14, 8, 19, 1, 12, 10, 21] = some [0, 18, 4, 14, 8, 10, 12, 6, 16, 2, 20, 1, 19, 5, 15, 9, 11, 13, 7, 17, 3, 21] := by decide +kernel
theorem src11_1_10 : srcL 11 1 10 = [5, 14, 3, 12, 1, 10, 21, 8, 19, 6, 17, 4, 15, 2, 13, 0, 11, 20, 9, 18, 7, 16] := by rw [srcL, src11_1_9]; decide +kernel
theorem d11_1_9 : dueAt 11 1 9 = true := by unfold dueAt; rw [keys11_1_10, sort11_1_10, path11, src11_1_10]; decide +kernel
theorem keys11_1_11 : keysL 11 1 11 = [10, 21, 1, 12, 8, 19, 3, 14, 6, 17, 5, 16, 4, 15, 7, 18, 2, 13, 9, 20, 0, 11] := by unfold keysL; rw [path11]; decide +kernel
theorem sort11_1_11 : sortP 11 [10, 21, 1, 12, 8, 19, 3, 14, 6, 17, 5, 16, 4, 15, 7, 18, 2, 13, 9, 20, 0, 11] = some [20, 2, 16, 6, 12, 10, 8, 14, 4, 18, 0, 21, 3, 17, 7, 13, 11, 9, 15, 5, 19, 1] := by decide +kernel
theorem src11_1_11 : srcL 11 1 11 = [17, 6, 19, 8, 21, 10, 1, 12, 3, 14, 5, 16, 7, 18, 9, 20, 11, 0, 13, 2, 15, 4] := by rw [srcL, src11_1_10]; decide +kernel
theorem d11_1_10 : dueAt 11 1 10 = true := by unfold dueAt; rw [keys11_1_11, sort11_1_11, path11, src11_1_11]; decide +kernel
theorem keys11_1_12 : keysL 11 1 12 = [11, 20, 0, 13, 9, 18, 2, 15, 7, 16, 4, 17, 5, 14, 6, 19, 3, 12, 8, 21, 1, 10] := by unfold keysL; rw [path11]; decide +kernel
theorem sort11_1_12 : sortP 11 [11, 20, 0, 13, 9, 18, 2, 15, 7, 16, 4, 17, 5, 14, 6, 19, 3, 12, 8, 21, 1, 10] = some [2, 20, 6, 16, 10, 12, 14, 8, 18, 4, 21, 0, 17, 3, 13, 7, 9, 11, 5, 15, 1, 19] := by decide +kernel
theorem src11_1_12 : srcL 11 1 12 = [6, 17, 8, 19, 10, 21, 12, 1, 14, 3, 16, 5, 18, 7, 20, 9, 0, 11, 2, 13, 4, 15] := by rw [srcL, src11_1_11]; decide +kernel
theorem d11_1_11 : dueAt 11 1 11 = true := by unfold dueAt; rw [keys11_1_12, sort11_1_12, path11, src11_1_12]; decide +kernel
theorem keys11_1_13 : keysL 11 1 13 = [21, 12, 10, 19, 1, 14, 8, 17, 3, 16, 6, 15, 5, 18, 4, 13, 7, 20, 2, 11, 9, 0] := by unfold keysL; rw [path11]; decide +kernel
theorem sort11_1_13 : sortP 11 [21, 12, 10, 19, 1, 14, 8, 17, 3, 16, 6, 15, 5, 18, 4, 13, 7, 20, 2, 11, 9, 0] = some [21, 4, 18, 8, 14, 12, 10, 16, 6, 20, 2, 19, 1, 15, 5, 11, 9, 7, 13, 3, 17, 0] := by decide +kernel
theorem src11_1_13 : srcL 11 1 13 = [16, 3, 14, 1, 12, 21, 10, 19, 8, 17, 6, 15, 4, 13, 2, 11, 0, 9, 20, 7, 18, 5] := by rw [srcL, src11_1_12]; decide +kernel
theorem d11_1_12 : dueAt 11 1 12 = true := by unfold dueAt; rw [keys11_1_13, sort11_1_13, path11, src11_1_13]; decide +kernel
theorem keys11_1_14 : keysL 11 1 14 = [20, 13, 11, 18, 0, 15, 9, 16, 2, 17, 7, 14, 4, 19, 5, 12, 6, 21, 3, 10, 8, 1] := by unfold keysL; rw [path11]; decide +kernel
theorem sort11_1_14 : sortP 11 [20, 13, 11, 18, 0, 15, 9, 16, 2, 17, 7, 14, 4, 19, 5, 12, 6, 21, 3, 10, 8, 1] = some [4, 21, 8, 18, 12, 14, 16, 10, 20, 6, 19, 2, 15, 1, 11, 5, 7, 9, 3, 13, 0, 17] := by decide +kernel
theorem src11_1_14 : srcL 11 1 14 = [3, 16, 1, 14, 21, 12, 19, 10, 17, 8, 15, 6, 13, 4, 11, 2, 9, 0, 7, 20, 5, 18] := by rw [srcL, src11_1_13]; decide +kernel
theorem d11_1_13 : dueAt 11 1 13 = true := by unfold dueAt; rw [keys11_1_14, sort11_1_14, path11, src11_1_14]; decide +kernel
theorem keys11_1_15 : keysL 11 1 15 = [12, 19, 21, 14, 10, 17, 1, 16, 8, 15, 3, 18, 6, 13, 5, 20, 4, 11, 7, 0, 2, 9] := by unfold keysL; rw [path11]; decide +kernel
theorem sort11_1_15 : sortP 11 [12, 19, 21, 14, 10, 17, 1, 16, 8, 15, 3, 18, 6, 13, 5, 20, 4, 11, 7, 0, 2, 9] = some [19, 6, 20, 10, 16, 14, 12, 18, 8, 21, 4, 17, 0, 13, 3, 9, 7, 5, 11, 1, 15, 2] := by decide +kernel
theorem src11_1_15 : srcL 11 1 15 = [15, 8, 17, 10, 19, 12, 21, 14, 1, 16, 3, 18, 5, 20, 7, 0, 9, 2, 11, 4, 13, 6] := by rw [srcL, src11_1_14]; decide +kernel
theorem d11_1_14 : dueAt 11 1 14 = true := by unfold dueAt; rw [keys11_1_15, sort11_1_15, path11, src11_1_15]; decide +kernel
theorem keys11_1_16 : keysL 11 1 16 = [13, 18, 20, 15, 11, 16, 0, 17, 9, 14, 2, 19, 7, 12, 4, 21, 5, 10, 6, 1, 3, 8] := by unfold keysL; rw [path11]; decide +kernel
theorem sort11_1_16 : sortP 11 [13, 18, 20, 15, 11, 16, 0, 17, 9, 14, 2, 19, 7, 12, 4, 21, 5, 10, 6, 1, 3, 8] = some [6, 19, 10, 20, 14, 16, 18, 12, 21, 8, 17, 4, 13, 0, 9, 3, 5, 7, 1, 11, 2, 15] := by decide +kernel
theorem src11_1_16 : srcL 11 1 16 = [8, 15, 10, 17, 12, 19, 14, 21, 16, 1, 18, 3, 20, 5, 0, 7, 2, 9, 4, 11, 6, 13] := by rw [srcL, src11_1_15]; decide +kernel
theorem d11_1_15 : dueAt 11 1 15 = true := by unfold dueAt; rw [keys11_1_16, sort11_1_16, path11, src11_1_16]; decide +kernel
theorem keys11_1_17 : keysL 11 1 17 = [19, 14, 12, 17, 21, 16, 10, 15, 1, 18, 8, 13, 3, 20, 6, 11, 5, 0, 4, 9, 7, 2] := by unfold keysL; rw [path11]; decide +kernel
theorem sort11_1_17 : sortP 11 [19, 14, 12, 17, 21, 16, 10, 15, 1, 18, 8, 13, 3, 20, 6, 11, 5, 0, 4, 9, 7, 2] = some [17, 8, 21, 12, 18, 16, 14, 20, 10, 19, 6, 15, 2, 11, 1, 7, 5, 3, 9, 0, 13, 4] := by decide +kernel
theorem src11_1_17 : srcL 11 1 17 = [18, 1, 16, 21, 14, 19, 12, 17, 10, 15, 8, 13, 6, 11, 4, 9, 2, 7, 0, 5, 20, 3] := by rw [srcL, src11_1_16]; decide +kernel
theorem d11_1_16 : dueAt 11 1 16 = true := by unfold dueAt; rw [keys11_1_17, sort11_1_17, path11, src11_1_17]; decide +kernel
theorem keys11_1_18 : keysL 11 1 18 = [18, 15, 13, 16, 20, 17, 11, 14, 0, 19, 9, 12, 2, 21, 7, 10, 4, 1, 5, 8, 6, 3] := by unfold keysL; rw [path11]; decide +kernel
theorem sort11_1_18 : sortP 11 [18, 15, 13, 16, 20, 17, 11, 14, 0, 19, 9, 12, 2, 21, 7, 10, 4, 1, 5, 8, 6, 3] = some [8, 17, 12, 21, 16, 18, 20, 14, 19, 10, 15, 6, 11, 2, 7, 1, 3, 5, 0, 9, 4, 13] := by decide +kernel
theorem src11_1_18 : srcL 11 1 18 = [1, 18, 21, 16, 19, 14, 17, 12, 15, 10, 13, 8, 11, 6, 9, 4, 7, 2, 5, 0, 3, 20] := by rw [srcL, src11_1_17]; decide +kernel
theorem d11_1_17 : dueAt 11 1 17 = true := by unfold dueAt; rw [keys11_1_18, sort11_1_18, path11, src11_1_18]; decide +kernel
theorem keys11_1_19 : keysL 11 1 19 = [14, 17, 19, 16, 12, 15, 21, 18, 10, 13, 1, 20, 8, 11, 3, 0, 6, 9, 5, 2, 4, 7] := by unfold keysL; rw [path11]; decide +kernel
theorem sort11_1_19 : sortP 11 [14, 17, 19, 16, 12, 15, 21, 18, 10, 13, 1, 20, 8, 11, 3, 0, 6, 9, 5, 2, 4, 7] = some [15, 10, 19, 14, 20, 18, 16, 21, 12, 17, 8, 13, 4, 9, 0, 5, 3, 1, 7, 2, 11, 6] := by decide +kernel
theorem src11_1_19 : srcL 11 1 19 = [13, 10, 15, 12, 17, 14, 19, 16, 21, 18, 1, 20, 3, 0, 5, 2, 7, 4, 9, 6, 11, 8] := by rw [srcL, src11_1_18]; decide +kernel
theorem d11_1_18 : dueAt 11 1 18 = true := by unfold dueAt; rw [keys11_1_19, sort11_1_19, path11, src11_1_19]; decide +kernel
theorem keys11_1_20 : keysL 11 1 20 = [15, 16, 18, 17, 13, 14, 20, 19, 11, 12, 0, 21, 9, 10, 2, 1, 7, 8, 4, 3, 5, 6] := by unfold keysL; rw [path11]; decide +kernel
theorem sort11_1_20 : sortP 11 [15, 16, 18, 17, 13, 14, 20, 19, 11, 12, 0, 21, 9, 10, 2, 1, 7, 8, 4, 3, 5, 6] = some [10, 15, 14, 19, 18, 20, 21, 16, 17, 12, 13, 8, 9, 4, 5, 0, 1, 3, 2, 7, 6, 11] := by decide +kernel
theorem src11_1_20 : srcL 11 1 20 = [10, 13, 12, 15, 14, 17, 16, 19, 18, 21, 20, 1, 0, 3, 2, 5, 4, 7, 6, 9, 8, 11] := by rw [srcL, src11_1_19]; decide +kernel
theorem d11_1_19 : dueAt 11 1 19 = true := by unfold dueAt; rw [keys11_1_20, sort11_1_20, path11, src11_1_20]; decide +kernel
theorem keys11_1_21 : keysL 11 1 21 = [17, 16, 14, 15, 19, 18, 12, 13, 21, 20, 10, 11, 1, 0, 8, 9, 3, 2, 6, 7, 5, 4] := by unfold keysL; rw [path11]; decide +kernel
theorem sort11_1_21 : sortP 11 [17, 16, 14, 15, 19, 18, 12, 13, 21, 20, 10, 11, 1, 0, 8, 9, 3, 2, 6, 7, 5, 4] = some [13, 12, 17, 16, 21, 20, 18, 19, 14, 15, 10, 11, 6, 7, 2, 3, 1, 0, 5, 4, 9, 8] := by decide +kernel
theorem src11_1_21 : srcL 11 1 21 = [20, 21, 18, 19, 16, 17, 14, 15, 12, 13, 10, 11, 8, 9, 6, 7, 4, 5, 2, 3, 0, 1] := by rw [srcL, src11_1_20]; decide +kernel
theorem d11_1_20 : dueAt 11 1 20 = true := by unfold dueAt; rw [keys11_1_21, sort11_1_21, path11, src11_1_21]; decide +kernel
theorem keys11_1_22 : keysL 11 1 22 = [16, 17, 15, 14, 18, 19, 13, 12, 20, 21, 11, 10, 0, 1, 9, 8, 2, 3, 7, 6, 4, 5] := by unfold keysL; rw [path11]; decide +kernel
theorem sort11_1_22 : sortP 11 [16, 17, 15, 14, 18, 19, 13, 12, 20, 21, 11, 10, 0, 1, 9, 8, 2, 3, 7, 6, 4, 5] = some [12, 13, 16, 17, 20, 21, 19, 18, 15, 14, 11, 10, 7, 6, 3, 2, 0, 1, 4, 5, 8, 9] := by decide +kernel
theorem src11_1_22 : srcL 11 1 22 = [21, 20, 19, 18, 17, 16, 15, 14, 13, 12, 11, 10, 9, 8, 7, 6, 5, 4, 3, 2, 1, 0] := by rw [srcL, src11_1_21]; decide +kernel
theorem d11_1_21 : dueAt 11 1 21 = true := by unfold dueAt; rw [keys11_1_22, sort11_1_22, path11, src11_1_22]; decide +kernel
theorem due11 : dueB 11 = true := by
  unfold dueB
  rw [List.all_eq_true]; intro f hf; rw [List.all_eq_true]; intro c hc; rw [List.mem_range] at hf hc
  match f, c, hf, hc with
  | 0, 0, _, _ => exact d11_0_0
  | 0, 1, _, _ => exact d11_0_1
  | 0, 2, _, _ => exact d11_0_2
  | 0, 3, _, _ => exact d11_0_3
  | 0, 4, _, _ => exact d11_0_4
  | 0, 5, _, _ => exact d11_0_5
  | 0, 6, _, _ => exact d11_0_6
  | 0, 7, _, _ => exact d11_0_7
  | 0, 8, _, _ => exact d11_0_8
  | 0, 9, _, _ => exact d11_0_9
  | 0, 10, _, _ => exact d11_0_10
  | 0, 11, _, _ => exact d11_0_11
  | 0, 12, _, _ => exact d11_0_12
  | 0, 13, _, _ => exact d11_0_13
  | 0, 14, _, _ => exact d11_0_14
  | 0, 15, _, _ => exact d11_0_15
  | 0, 16, _, _ => exact d11_0_16
  | 0, 17, _, _ => exact d11_0_17
  | 0, 18, _, _ => exact d11_0_18
  | 0, 19, _, _ => exact d11_0_19
  | 0, 20, _, _ => exact d11_0_20
  | 0, 21, _, _ => exact d11_0_21
  | 1, 0, _, _ => exact d11_1_0
  | 1, 1, _, _ => exact d11_1_1
  | 1, 2, _, _ => exact d11_1_2
  | 1, 3, _, _ => exact d11_1_3
  | 1, 4, _, _ => exact d11_1_4
  | 1, 5, _, _ => exact d11_1_5
  | 1, 6, _, _ => exact d11_1_6
  | 1, 7, _, _ => exact d11_1_7
  | 1, 8, _, _ => exact d11_1_8
  | 1, 9, _, _ => exact d11_1_9
  | 1, 10, _, _ => exact d11_1_10
  | 1, 11, _, _ => exact d11_1_11
  | 1, 12, _, _ => exact d11_1_12
  | 1, 13, _, _ => exact d11_1_13
  | 1, 14, _, _ => exact d11_1_14
  | 1, 15, _, _ => exact d11_1_15
  | 1, 16, _, _ => exact d11_1_16
  | 1, 17, _, _ => exact d11_1_17
  | 1, 18, _, _ => exact d11_1_18
  | 1, 19, _, _ => exact d11_1_19
  | 1, 20, _, _ => exact d11_1_20
  | 1, 21, _, _ => exact d11_1_21
  | f + 2, _, hf, _ => exact absurd hf (by omega)
  | 0, c + 22, _, hc => exact absurd hc (by omega)
  | 1, c + 22, _, hc => exact absurd hc (by omega)
theorem end1 : endB 1 = true := by decide +kernel
theorem end3 : endB 3 = true := by decide +kernel
theorem end7 : endB 7 = true := by decide +kernel
theorem end11 : endB 11 = true := by decide +kernel
end Mine
namespace Mine
theorem sw_lt {h w x : Nat} (hw : w = 2 ∨ w = h ∨ w = 2 * h) (hh : h = 1 ∨ h = 3 ∨ h = 7 ∨ h = 11) (hx : x < 2 * h) : swIdx w x < 2 * h := by
  unfold swIdx
  rcases hh with rfl | rfl | rfl | rfl <;> rcases hw with rfl | rfl | rfl <;> omega
theorem src_len' {h f : Nat} : ∀ c, (srcL h f c).length = 2 * h
  | 0 => by rw [srcL, List.length_range]
  | c + 1 => by rw [srcL, List.length_map, List.length_range]
theorem swap_map {b : List UInt8} {h w : Nat} {is : List Nat} (hl : is.length = 2 * h) (hw : w = 2 ∨ w = h ∨ w = 2 * h) (hh : h = 1 ∨ h = 3 ∨ h = 7 ∨ h = 11) :
    swapL (is.map fun i => b.getD i 0) w = ((List.range (2 * h)).map fun x => is.getD (swIdx w x) 0).map fun i => b.getD i 0 := by
  unfold swapL
  rw [List.length_map, hl, List.map_map]
  apply List.map_congr_left
  intro x hx
  have hs := sw_lt hw hh (List.mem_range.mp hx)
  show swapAt _ w x = _
  unfold swapAt
  show (is.map fun i => b.getD i 0).getD (swIdx w x) 0 = b.getD (is.getD (swIdx w x) 0) 0
  rw [List.getD_eq_getElem?_getD, List.getElem?_map, List.getD_eq_getElem?_getD (l := is), List.getElem?_eq_getElem (by omega)]
  rfl
theorem src_next {b : List UInt8} {h f c : Nat} (hh : h = 1 ∨ h = 3 ∨ h = 7 ∨ h = 11) : swapL ((srcL h f c).map fun i => b.getD i 0) (if (c + 1 + f) % 2 = 1 then 2 else h) = (srcL h f (c + 1)).map fun i => b.getD i 0 := by
  rw [swap_map (src_len' c) (by split <;> simp) hh]; rfl
theorem src_zero {b : List UInt8} {h f : Nat} (hb : b.length = 2 * h) : (srcL h f 0).map (fun i => b.getD i 0) = b := by
  rw [srcL, ← hb]
  apply List.ext_getElem
  · simp
  · intro x h1 h2
    simp only [List.getElem_map, List.getElem_range]
    rw [List.getD_eq_getElem?_getD, List.getElem?_eq_getElem h2]; rfl
theorem end_all {h : Nat} (hh : h = 1 ∨ h = 3 ∨ h = 7 ∨ h = 11) : endB h = true := by
  rcases hh with rfl | rfl | rfl | rfl
  · exact end1
  · exact end3
  · exact end7
  · exact end11
theorem src_end {b : List UInt8} {h f : Nat} (hh : h = 1 ∨ h = 3 ∨ h = 7 ∨ h = 11) (hf : f < 2) (hb : b.length = 2 * h) : swapL ((srcL h f (2 * h)).map fun i => b.getD i 0) (2 * h) = b := by
  rw [swap_map (src_len' _) (.inr (.inr rfl)) hh, of_decide_eq_true (List.all_eq_true.mp (end_all hh) f (List.mem_range.mpr hf))]
  exact src_zero (f := f) hb
end Mine
set_option maxRecDepth 100000
set_option Elab.async false
open PySem PySem.W PySem.Calls PyProof.Rows
namespace Mine
/-! ## a comprehension over a range whose elements are new objects -/
section
variable {prog : Program} {w : World} {A : Around} {s : Shared} {env : Env} {h₀ : Heap} {L : Addr} {m : Str → Option Value} {news : List (Addr × Obj)}
def GrowEnd (h₀ : Heap) (L : Addr) (m : Str → Option Value) (all : List (Addr × Obj)) (s : Shared) (G : Obj → Prop) (y : Value) (s' : Shared) : Prop :=
  ∃ h' tk' a o, s' = { s with heap := h', toks := tk' } ∧ y = .ref a ∧ Fr h₀ L h' m ∧ News h₀ L h' ((a, o) :: all) ∧ (∀ p ∈ all, p.1 ≠ a) ∧ G o
theorem comp_grow {elt : Expr} {x : Str} {scope : Scope} {cl : List (Str × Addr)} {P : Nat → Value → Prop} {Fin : List Value → List (Addr × Obj) → Prop} {n : Nat} (G : Nat → Obj → Prop)
    (elts : ∀ i v I oI C oC D m₂ h tk (E' : Value → Shared → Prop) ys tups, i < n → P i v → LCg.NsObj oC m₂ → m₂ x = some v → Fr h₀ L h m → News h₀ L h ((I, oI) :: (C, oC) :: (D, LCg.lst ys) :: (news ++ tups)) → LCg.Off3 I C D (news ++ tups) → ((@Ne Nat I C) ∧ (@Ne Nat I D) ∧ (@Ne Nat C D)) →
      wpAny (model prog w) A (eval elt (compEnvC scope cl C env)) (GrowEnd h₀ L m ((I, oI) :: (C, oC) :: (D, LCg.lst ys) :: (news ++ tups)) { s with heap := h, toks := tk } (G i)) E' { s with heap := h, toks := tk })
    (fin : ∀ tups : List (Addr × Obj), tups.length = n → (∀ i r, tups[i]? = some r → G i r.2) → Fin (tups.map fun r => Value.ref r.1) (news ++ tups)) :
    LCg.CompRest prog w A h₀ L m env elt x scope cl s (fun _ => True) P Fin n 0 [] news := by
  have key : ∀ k i (tups : List (Addr × Obj)), i + k = n → tups.length = i → (∀ j r, tups[j]? = some r → G j r.2) → LCg.CompRest prog w A h₀ L m env elt x scope cl s (fun _ => True) P Fin k i (tups.map fun r => Value.ref r.1) (news ++ tups) := by
    intro k
    induction k with
    | zero => intro i tups hk hl hg; exact fin tups (by omega) hg
    | succ k ih =>
      intro i tups hk hl hg v I oI C oC D m₂ h tk E' hP hC hx F N off ne
      refine wpAny_mono (elts i v I oI C oC D m₂ h tk E' _ tups (by omega) hP hC hx F N off ne) (fun y s' hy => ?_) fun _ _ e => e
      obtain ⟨h', tk', a, o, rfl, rfl, F', N', hne, g⟩ := hy
      have ih' := ih (i + 1) (tups ++ [(a, o)]) (by omega) (by rw [List.length_append]; simp; omega) fun j r hj => by
        by_cases hlt : j < tups.length
        · rw [List.getElem?_append_left hlt] at hj; exact hg j r hj
        · rw [List.getElem?_append_right (by omega)] at hj
          have : j = i := by
            cases e : j - tups.length with
            | zero => omega
            | succ q => rw [e] at hj; simp at hj
          subst this
          rw [hl, Nat.sub_self] at hj
          simp at hj
          exact hj ▸ g
      rw [List.map_append] at ih'
      refine ⟨h', tk', news ++ (tups ++ [(a, o)]), rfl, F', fun p hp => ?_, ?_, trivial, ih'⟩
      · rcases List.mem_cons.mp hp with rfl | hp
        · exact N' _ (.tail _ (.head _))
        · rcases List.mem_cons.mp hp with rfl | hp
          · exact N' _ (.tail _ (.tail _ (.head _)))
          · rcases List.mem_cons.mp hp with rfl | hp
            · exact N' _ (.tail _ (.tail _ (.tail _ (.head _))))
            · rw [← List.append_assoc] at hp
              rcases List.mem_append.mp hp with hp | hp
              · exact N' _ (.tail _ (.tail _ (.tail _ (.tail _ hp))))
              · rw [List.mem_singleton.mp hp]; exact N' _ (.head _)
      · refine LCg.Off3.of fun p hp => ?_
        rw [← List.append_assoc] at hp
        rcases List.mem_append.mp hp with hp | hp
        · exact off.mem p hp
        · rw [List.mem_singleton.mp hp]
          exact ⟨Ne.symm (hne (I, oI) (.head _)), Ne.symm (hne (C, oC) (.tail _ (.head _))), Ne.symm (hne (D, LCg.lst _) (.tail _ (.tail _ (.head _))))⟩
  have := key n 0 [] (by omega) rfl (fun j y hj => by simp at hj)
  rwa [List.append_nil] at this
/-! ## a list of pairs, sorted by the firsts -/
def IsTwo (o : Obj) (z : Int) (v : Value) : Prop := ∃ t n, o.cls = .type "tuple" ∧ o.data = .seq #[.int z t, v] n
theorem tups_kat {h : Heap} {keys : List Nat} : ∀ {tups : List (Addr × Obj)} {r : Nat}, (∀ p ∈ tups, h.get? p.1 = some p.2) → (∀ i q, tups[i]? = some q → ∃ v, IsTwo q.2 (keys.getD (r + i) 0 : Nat) v) → ∃ fs, KatTups h (tups.map fun p => Value.ref p.1) fs ∧ fs.length = tups.length ∧ ∀ f ∈ fs, ∃ z t, f = .int z t
  | [], _, _, _ => ⟨[], trivial, rfl, fun _ hf => nomatch hf⟩
  | q :: tups, r, hh, ht => by
    obtain ⟨v, t, n, hc, hd⟩ := ht 0 q rfl
    obtain ⟨fs, h1, h2, h3⟩ := tups_kat (tups := tups) (r := r + 1) (fun p hp => hh p (.tail _ hp)) fun i p hp => by
      have := ht (i + 1) p (by simpa using hp)
      rwa [show r + (i + 1) = r + 1 + i by omega] at this
    refine ⟨.int _ t :: fs, KatTups.cons (hh q (.head _)) hc hd rfl h1, by rw [List.length_cons, List.length_cons, h2], fun f hf => ?_⟩
    rcases List.mem_cons.mp hf with rfl | hf
    · exact ⟨_, _, rfl⟩
    · exact h3 f hf
theorem sorted_tups {l : Addr} {tups : List (Addr × Obj)} {keys : List Nat} {hf : Nat} {p : List Nat} {Q : Value → Shared → Prop} {E : Value → Shared → Prop} (F : Fr h₀ L s.heap m) (N : News h₀ L s.heap news) (hl : s.heap.IsList l (List.toArray (tups.map fun p => Value.ref p.1)))
    (hn : tups.length = 2 * hf) (h1 : 1 ≤ hf) (h11 : hf ≤ 11) (hin : ∀ p ∈ tups, p ∈ news) (ht : ∀ i q, tups[i]? = some q → ∃ v, IsTwo q.2 (keys.getD i 0 : Nat) v) (hs : sortP hf keys = some p)
    (h : ∀ D c h', Fr h₀ L h' m → News h₀ L h' ((D, listOf (List.toArray (p.map fun i => (tups.map fun p => Value.ref p.1).getD i Value.none)) c) :: news) → (∀ q ∈ news, q.1 < D) → Q (.ref D) { s with heap := h' }) :
    wpAny (model prog w) A (call (.builtin "sorted") [.ref l]) Q E s := by
  refine kat_sorted F N hl (by rw [List.length_map]; omega) (by rw [List.length_map]; omega) fun D e1 h' F' N' hlt => ?_
  have hget : ∀ p ∈ tups, h'.get? p.1 = some p.2 := fun p hp => (N' p (.tail _ (hin p hp))).1
  obtain ⟨fs, hk, hfl, hfi⟩ := tups_kat (r := 0) (keys := keys) hget fun i q hq => by rw [Nat.zero_add]; exact ht i q hq
  refine kat_kind (s := ⟨h', _, _, _, _⟩) (T := .type "int") hk (by omega) (fun v hv => ?_) (by decide) ?_
  · obtain ⟨z, t, rfl⟩ := hfi v hv
    exact Looks.of_pure rfl
  rw [List.length_map, hn]
  obtain ⟨pa, hpa, rfl⟩ : ∃ pa : Array Nat, kgo (fun i j => decide (keys.getD i 0 < keys.getD j 0)) (fun i j => decide (i < 2 * hf) && decide (j < 2 * hf) && decide (keys.getD i 0 ≠ keys.getD j 0)) (kas_sort (2 * hf)) = some pa ∧ pa.toList = p := by
    unfold sortP at hs
    cases e : kgo (fun i j => decide (keys.getD i 0 < keys.getD j 0)) (fun i j => decide (i < 2 * hf) && decide (j < 2 * hf) && decide (keys.getD i 0 ≠ keys.getD j 0)) (kas_sort (2 * hf)) with
    | none => rw [e] at hs; cases hs
    | some pa => rw [e] at hs; exact ⟨pa, rfl, by simpa using hs⟩
  refine kgo_wp (fun i j ho C hC => ?_) ?_ _ hpa
  · rw [Bool.and_eq_true, Bool.and_eq_true, decide_eq_true_eq, decide_eq_true_eq, decide_eq_true_eq] at ho
    obtain ⟨⟨hi, hj⟩, hne⟩ := ho
    have hi' : i < tups.length := by omega
    have hj' : j < tups.length := by omega
    obtain ⟨vi, ti, ni, ci, di⟩ := ht i tups[i] (List.getElem?_eq_getElem hi')
    obtain ⟨vj, tj, nj, cj, dj⟩ := ht j tups[j] (List.getElem?_eq_getElem hj')
    unfold kas_ask
    have ei : (tups.map fun p => Value.ref p.1).getD i Value.none = .ref tups[i].1 := by rw [List.getD_eq_getElem?_getD, List.getElem?_map, List.getElem?_eq_getElem hi']; rfl
    have ej : (tups.map fun p => Value.ref p.1).getD j Value.none = .ref tups[j].1 := by rw [List.getD_eq_getElem?_getD, List.getElem?_map, List.getElem?_eq_getElem hj']; rfl
    rw [ei, ej]
    refine kat_lt (s := ⟨h', _, _, _, _⟩) (hget _ (List.getElem_mem hi')) di (hget _ (List.getElem_mem hj')) dj ?_
    refine kat_cons (wpAny_eqBool_int ?_)
    rw [show (((keys.getD i 0 : Nat) : Int) == ((keys.getD j 0 : Nat) : Int)) = false from beq_eq_false_iff_ne.mpr fun e => hne (by omega)]
    refine kat_no ?_
    refine oneLt_int ?_
    rw [show decide (((keys.getD i 0 : Nat) : Int) < ((keys.getD j 0 : Nat) : Int)) = decide (keys.getD i 0 < keys.getD j 0) from decide_eq_decide.mpr (by omega)]
    exact hC
  · refine KasFin.intro F' N' (.head fun p hp => Nat.ne_of_lt (hlt p hp)) fun h'' c F'' N'' => ?_
    exact h D c h'' F'' N'' hlt
/-! ## the seconds of a list of pairs -/
theorem comp_seconds {x x₂ : Str} {px : Pos} {scope : Scope} {cl : List (Str × Addr)} {S : List (Addr × Obj) → Prop} {Fin : List Value → List (Addr × Obj) → Prop} {its : Array Value} {ns : List Int} (hn : its.size = ns.length) (hS : S news)
    (ht : ∀ i v, its[i]? = some v → ∃ (t : Addr) (ot : Obj) (v₁ : Value) (u : Tok) (nt : Nat), v = .ref t ∧ (t, ot) ∈ news ∧ ot.cls = .type "tuple" ∧ ot.data = .seq #[v₁, .int (ns.getD i 0) u] nt)
    (fin : ∀ ys : List Value, IntsAre ys ns → Fin ys news)
    (hk : ∀ C, (compEnvC scope cl C env).scope.kind = .function := by intro _; rfl) (hl : ∀ C, (compEnvC scope cl C env).kindOf x₂ = some .local := by intro _; rfl) (hd : (x₂ == ("__debug__" : Str)) = false := by decide) :
    LCp.CompRestP prog w A h₀ L m env (.Name x₂ px) x x₂ scope cl s S (fun i v => its[i]? = some v) Fin its.size 0 [] news := by
  have key : ∀ k i (ys : List Value), i + k = its.size → IntsAre ys (ns.take i) → LCp.CompRestP prog w A h₀ L m env (.Name x₂ px) x x₂ scope cl s S (fun i v => its[i]? = some v) Fin k i ys news := by
    intro k
    induction k with
    | zero =>
      intro i ys hk hy
      rw [Nat.add_zero] at hk
      rw [hk, hn, List.take_length] at hy
      exact fin ys hy
    | succ k ih =>
      intro i ys hik hy v hv
      obtain ⟨t, ot, v₁, u, nt, rfl, hm, hc, hdt⟩ := ht i v hv
      refine ⟨t, ot, v₁, _, nt, rfl, hm, hc, hdt, fun I oI C oC D m₂ h tk E' hC hx hx₂ F N off ne => ?_⟩
      refine LCgL.ld_own (s := ⟨h, _, _, _, _⟩) N (.tail _ (.head _)) hC hx₂ ?_ (hk C) (hl C) hd
      have hil : i < ns.length := by omega
      refine ⟨h, tk, news, rfl, F, N, off, hS, ih (i + 1) (ys ++ [.int (ns.getD i 0) u]) (by omega) ?_⟩
      rw [List.take_add_one, List.getElem?_eq_getElem hil, List.getD_eq_getElem?_getD, List.getElem?_eq_getElem hil]
      exact hy.append (.cons _ _ .nil)
  exact key its.size 0 [] (by omega) .nil
end
end Mine
set_option maxRecDepth 100000
set_option Elab.async false
open PySem PySem.W PySem.Calls PyProof.Rows
namespace Mine
local macro_rules | `(tactic| walk_at "S") => `(tactic| repeat' (first | (k_unfold; (try dsimp only)) | walk1 | (dsimp only; walk1)))
local macro_rules | `(tactic| walk_at "mp") => `(tactic| (intro z; (try intro hz); (try dsimp only); (repeat' split) <;> first | rfl | contradiction | (exfalso; subst_vars; (rename (_ : Str) = _ => hq9); exact absurd hq9 (by decide)) | (subst_vars; rfl) | (simp_all; done)))
local macro_rules | `(tactic| walk_at "subscriptTail") => `(tactic| (k_here; (with_reducible show wpAny _ _ (subscriptTail _ _ (Value.bytes (List.toArray _) _) (Value.int _ _)) _ _ _); refine bytes_item (by omega) (by omega) (by omega) ?_))
local macro_rules | `(tactic| walk_at "subscriptTail") => `(tactic| (k_here; (with_reducible show wpAny _ _ (subscriptTail _ (Expr.Slice _ _ none _) (Value.bytes (List.toArray _) _) (Value.ref _)) _ _ _); (with_reducible rename Fr _ _ _ _ => F'); (with_reducible rename News _ _ _ _ => N'); (refine bytes_cut (s := ⟨_, _, _, _, _⟩) F' N' (by constructor) (by constructor) (by omega) ?_); intro _ _ _ _ _; (try k_sweep)))
local macro_rules | `(tactic| walk_at "binaryOp Add bytes bytes") => `(tactic| (k_here; (with_reducible show wpAny _ _ (binaryOp Operator.Add (Value.bytes (List.toArray _) _) (Value.bytes (List.toArray _) _)) _ _ _); refine bytes_add_K (by (simp only [List.size_toArray, List.length_reverse, List.length_take, List.length_append, List.length_cons, List.length_nil]; omega)) rfl ?_; intro _ _))
local macro_rules | `(tactic| walk_at "subscriptTail List cons Slice ref ref") => `(tactic| (k_here; k_dflt (refine kba_turn (value' := PySem.Expr.Name (PySem.Str.ofString "_") ⟨0, 0, 0, 0⟩) (fun _ => rfl) ?_); k_dflt (refine' kmk_slice_ints ?F ?N ?l ?p ?q ?i ?m ?c ?_ ?s ?t ?z; (case F => k_asm); (case N => k_asm); (case l => kmk_list); (case p => kmk_part); (case q => kmk_part); (case i => l_ints); (case m => exact kmk_from (by l_ints) (by kmk_sign)); (case c => exact List.length_drop ..); (case s => with_unfolding_all rfl); (case t => kmk_pure); (case z => kmk_size)); intro D' ws' h' F' N' l1 hI' hC' hL'; (try k_lt l1); (try k_sweep)))
local macro_rules | `(tactic| walk_at "binaryOp Add ref ref") => `(tactic| (k_here; (with_reducible show wpAny _ _ (binaryOp _ (Value.ref _) (Value.ref _)) _ _ _); k_dflt (refine' kmk_add_ints ?F ?N ?a ?b ?i ?j ?_ ?z; (case F => k_asm); (case N => k_asm); (case a => kmk_list); (case b => kmk_list); (case i => l_ints); (case j => l_ints); (case z => kmk_sum)); intro D' ws' h' F' N' l1 hI'; (try k_lt l1); (try k_sweep)))
local macro_rules | `(tactic| k_all) => `(tactic| assumption)
local macro_rules | `(tactic| k_ne) => `(tactic| first | assumption | exact Ne.symm (by assumption))
section
variable {prog : Program} {w : World} {A A₀ : Around} {s : Shared} {K : Frag} {L : Addr} {h₀ base : Heap} {m mg mb : Str → Option Value} {news : List (Addr × Obj)} {p : Program} {loose : List Str} {mean : ExcName → Option Value}
/-- a call of a def without cells, on any stack -/
theorem code_defA {env : Env} {outer : List Env} {R : Result → Shared → Prop} {name qual : Str} {params : Arguments} {body : List Stmt} {scope : Scope} {dV kV doc pm cdv ct oc : Value} {an od : Option Addr} {osl : Array (Option Value)} {f : Addr} {args : Args} {binds : List (Str × Value)}
    (B : Below A₀ base outer h₀) (F : Fr h₀ L s.heap m) (X₀ : K.In h₀) (N : News h₀ L s.heap news) (T : Top p loose mean mg mb h₀) (hA : A.frames = some (env :: outer)) (hf : env.frame = some L) (hke : env.scope.kind = .function)
    (ho : K.lookup f = some ⟨oc, od, .func (fnOf name qual params body scope dV kV doc pm an cdv ct), osl⟩) (hcd : codeIn K cdv qual = true) (hroom : A.depth < recursionLimit)
    (hbind : BindsTo s (fnOf name qual params body scope dV kV doc pm an cdv ct) args binds) (hloc : ∀ y ∈ binds, scope.names.lookup y.1 = some .local)
    (h : ∀ g L' h₁, Fr h₀ L g m → Fr g L' h₁ (fun y => binds.reverse.lookup y) → News g L' h₁ news → Below A base (env :: outer) g → K.In g → Top p loose mean mg mb g →
      wpAny (model prog w) (A.deeper (envOf qual scope L' f cdv)) (execs body (envOf qual scope L' f cdv))
        (fun fl s' => LeaveK h₀ L m g R (match fl with | .ret v => v | _ => .none) s') (fun _ _ => False)
        { s with heap := h₁, toks := s.toks + binds.length })
    (hco : scope.isCoroutine = false) (hgen : scope.isGenerator = false) (hk : scope.kind = .function)
    (hcell : ∀ x ∈ scope.names, x.2 ≠ .cell) : codeAny (model prog w) A (.call (.ref f) args) R s :=
  code_def B F X₀ N T hA hf hke ho hcd hroom hbind hloc (fun g L' h₁ FG F' N' B' X' T' => wpAny_mono (h g L' h₁ FG F' N' B' X' T') (fun _ _ x => x) fun _ _ x => x.elim) hco hgen hk hcell
end
section
variable {prog : Program} {w : World} {p : Program} {loose : List Str} {mean : ExcName → Option Value} {mg mb : Str → Option Value}
  {dp un : Nat} {gd : Option (List Code)} {cn : Str} {cs : Scope} {a : Addr} {ccd : Value} {cl : List (Str × Addr)} {outer : List Env} {A₀ : Around} {base h₀ : Heap} {L : Addr} {m : Str → Option Value} {news : List (Addr × Obj)} {s : Shared} {Q E : Value → Shared → Prop}
  (B : Below A₀ base outer h₀) (F : Fr h₀ L s.heap m) (X : (MineH.hd.heap_39 w.params).In h₀) (N : News h₀ L s.heap news) (T : Top p loose mean mg mb h₀) (hk : cs.kind = .function)
include B F X N T hk
set_option maxHeartbeats 1000000 in
theorem there_S {k c h f : Nat} {t₁ t₂ t₃ t₄ : Tok} (hd : dp < recursionLimit) (hh : 1 ≤ h) (hk2 : k < 2 * h) (hf : f < 2) (hc : c ≤ 100) (hh' : h ≤ 11)
    (hret : ∀ t h' tk', Fr h₀ L h' m → News h₀ L h' news → Q (.int (thereN k c h f : Nat) t) { s with heap := h', toks := tk' }) :
    wpAny (model prog w) (ktrTop dp un gd cn cs L a ccd cl outer) (call (.ref 33) [.int k t₁, .int c t₂, .int h t₃, .int f t₄]) Q E s := by
  w_top off
  have hfill : PySem.Challenge.rw_ny0470_04 = PySem.Challenge.rw_ny0470_04 ∧ MineH.hd.heap_39 = MineH.hd.heap_39 := by k_fill; exact ⟨rfl, rfl⟩
  clear hfill
  refine wpAny_call ?_
  k_dflt (refine' code_defA (binds := [(Str.ofString "number", .int k t₁), (Str.ofString "turnings", .int c t₂), (Str.ofString "half", .int h t₃), (Str.ofString "first", .int f t₄)]) ?k1 ?k2 ?k3 ?k4 ?k5 ?kA ?kF ?kK ?k6 ?k7 ?k8 ?k9 ?kB ?_ ?c2 ?c3 ?c4 ?c5; (case kA => exact rfl); (case kF => exact rfl); (case kK => assumption); (case k1 => k_asm); (case k2 => k_asm); (case k3 => k_asm); (case k4 => k_asm); (case k5 => k_asm); (case k6 => k_is); (case k7 => k_is); (case k8 => exact hd); (case k9 => exact BindsTo.of_eq rfl); (case c5 => decide); (case kB => exact locs rfl); (case c2 => exact rfl); (case c3 => exact rfl); (case c4 => exact rfl))
  intro g L' h₁ FG F' N' B' X' T'
  clear B F X N T
  have h40 : 4 * (h : Int) ≠ 0 := by omega
  show wpAny _ _ _ _ _ _
  have fm : ∀ x : Nat, Int.fmod ((x : Nat) : Int) (4 * (h : Int)) = ((x % (4 * h) : Nat) : Int) := fun x => by
    rw [Int.fmod_eq_emod_of_nonneg _ (by omega)]; push_cast; rfl
  have f2 : Int.fmod (k : Int) 2 = ((k % 2 : Nat) : Int) := by rw [Int.fmod_eq_emod_of_nonneg _ (by omega)]; rfl
  have e1 : (k : Int) + (c : Int) = ((k + c : Nat) : Int) := by omega
  have e2 : 4 * (h : Int) - 1 - (k : Int) + (c : Int) = ((4 * h - 1 - k + c : Nat) : Int) := by omega
  have m1 : (k + c) % (4 * h) < 4 * h := Nat.mod_lt _ (by omega)
  have m2 : (4 * h - 1 - k + c) % (4 * h) < 4 * h := Nat.mod_lt _ (by omega)
  have fin : ∀ (v : Int) t h' tk', v = ((thereN k c h f : Nat) : Int) → Fr h₀ L h' m → News h₀ L h' news → Q (.int v t) { s with heap := h', toks := tk' } := by
    rintro v t h' tk' rfl F N; exact hret _ _ _ F N
  show wpAny _ _ _ _ _ _
  k_fold
  walk_at "S"
  all_goals (try clear qk ek)
  all_goals (rename Fr _ _ _ _ => F₃; rename News _ _ _ _ => N₃; show LeaveK _ _ _ _ _ _ _; refine leaveK_ F₃ N₃ fun Fb Nb => ?_; simp only [e1, e2, fm, f2] at *)
  all_goals (refine fin _ _ _ _ ?_ Fb Nb; unfold thereN; dsimp only; split <;> split <;> omega)
end
end Mine
set_option maxRecDepth 100000
set_option Elab.async false
open PySem PySem.W PySem.Calls PyProof.Rows
namespace Mine
local macro_rules | `(tactic| walk_at "S") => `(tactic| repeat' (first | (k_unfold; (try dsimp only)) | walk1 | (dsimp only; walk1)))
local macro_rules | `(tactic| walk_at "mp") => `(tactic| (intro z; (try intro hz); (try dsimp only); (repeat' split) <;> first | rfl | contradiction | (exfalso; subst_vars; (rename (_ : Str) = _ => hq9); exact absurd hq9 (by decide)) | (subst_vars; rfl) | (simp_all; done)))
local macro_rules | `(tactic| walk_at "subscriptTail") => `(tactic| (k_here; (with_reducible show wpAny _ _ (subscriptTail _ _ (Value.bytes (List.toArray _) _) (Value.int _ _)) _ _ _); refine bytes_item (by omega) (by omega) (by omega) ?_))
local macro_rules | `(tactic| walk_at "subscriptTail") => `(tactic| (k_here; (with_reducible show wpAny _ _ (subscriptTail _ (Expr.Slice _ _ none _) (Value.bytes (List.toArray _) _) (Value.ref _)) _ _ _); (with_reducible rename Fr _ _ _ _ => F'); (with_reducible rename News _ _ _ _ => N'); (refine bytes_cut (s := ⟨_, _, _, _, _⟩) F' N' (by constructor) (by constructor) (by omega) ?_); intro _ _ _ _ _; (try k_sweep)))
local macro_rules | `(tactic| walk_at "binaryOp Add bytes bytes") => `(tactic| (k_here; (with_reducible show wpAny _ _ (binaryOp Operator.Add (Value.bytes (List.toArray _) _) (Value.bytes (List.toArray _) _)) _ _ _); refine bytes_add_K (by (simp only [List.size_toArray, List.length_reverse, List.length_take, List.length_append, List.length_cons, List.length_nil]; omega)) rfl ?_; intro _ _))
local macro_rules | `(tactic| walk_at "subscriptTail List cons Slice ref ref") => `(tactic| (k_here; k_dflt (refine kba_turn (value' := PySem.Expr.Name (PySem.Str.ofString "_") ⟨0, 0, 0, 0⟩) (fun _ => rfl) ?_); k_dflt (refine' kmk_slice_ints ?F ?N ?l ?p ?q ?i ?m ?c ?_ ?s ?t ?z; (case F => k_asm); (case N => k_asm); (case l => kmk_list); (case p => kmk_part); (case q => kmk_part); (case i => l_ints); (case m => exact kmk_from (by l_ints) (by kmk_sign)); (case c => exact List.length_drop ..); (case s => with_unfolding_all rfl); (case t => kmk_pure); (case z => kmk_size)); intro D' ws' h' F' N' l1 hI' hC' hL'; (try k_lt l1); (try k_sweep)))
local macro_rules | `(tactic| walk_at "binaryOp Add ref ref") => `(tactic| (k_here; (with_reducible show wpAny _ _ (binaryOp _ (Value.ref _) (Value.ref _)) _ _ _); k_dflt (refine' kmk_add_ints ?F ?N ?a ?b ?i ?j ?_ ?z; (case F => k_asm); (case N => k_asm); (case a => kmk_list); (case b => kmk_list); (case i => l_ints); (case j => l_ints); (case z => kmk_sum)); intro D' ws' h' F' N' l1 hI'; (try k_lt l1); (try k_sweep)))
local macro_rules | `(tactic| k_all) => `(tactic| assumption)
local macro_rules | `(tactic| k_ne) => `(tactic| first | assumption | exact Ne.symm (by assumption))
local macro_rules | `(tactic| walk_at "call ref") => `(tactic| (k_here; (with_reducible show wpAny _ _ (call (Value.ref 33) _) _ _ _); refine halt ?_))
local macro_rules | `(tactic| walk_at "CompSrc") => `(tactic| (k_here; (with_reducible show LCg.CompSrc _ _ _ _ _ _ _ (Expr.Tuple _ _ _) _ _ _ _ _ _); refine halt ?_))
local macro_rules | `(tactic| walk_at "newTuple") => `(tactic| (k_here; refine halt ?_))
local macro_rules | `(tactic| walk_at "subscriptTail Name Call ref int") => `(tactic| (k_here; refine halt ?_))
local macro_rules | `(tactic| walk_at "subscriptTail Name Name ref int") => `(tactic| (k_here; refine halt ?_))
local macro_rules | `(tactic| walk_at "eval ListComp") => `(tactic| (k_here; (with_reducible show wpAny _ _ (eval (Expr.ListComp (Expr.Name _ _) _ _ _) _) _ _ _); refine halt ?_))
local macro_rules | `(tactic| walk_at "call builtin:sorted") => `(tactic| (k_here; refine halt ?_))
theorem keys_at {h f c k : Nat} (hk : k < 2 * h) : (keysL h f c).getD k 0 = (pathL h).getD (thereN k c h f) 0 := by
  unfold keysL
  rw [List.getD_eq_getElem?_getD, List.getElem?_map, List.getElem?_range hk]; rfl
theorem due_all {h : Nat} (hh : h = 1 ∨ h = 3 ∨ h = 7 ∨ h = 11) : dueB h = true := by
  rcases hh with rfl | rfl | rfl | rfl
  · exact due1
  · exact due3
  · exact due7
  · exact due11
theorem due_at {h f c : Nat} (hh : h = 1 ∨ h = 3 ∨ h = 7 ∨ h = 11) (hf : f < 2) (hc1 : 1 ≤ c) (hc2 : c ≤ 2 * h) : ∃ p, sortP h (keysL h f c) = some p ∧ p.map (fun k => (pathL h).getD k 0) = srcL h f c ∧ ∀ k ∈ p, k < 2 * h := by
  have := List.all_eq_true.mp (List.all_eq_true.mp (due_all hh) f (List.mem_range.mpr hf)) (c - 1) (List.mem_range.mpr (by omega))
  unfold dueAt at this
  rw [show c - 1 + 1 = c by omega] at this
  split at this
  · rename_i p e
    rw [Bool.and_eq_true] at this
    exact ⟨p, e, of_decide_eq_true this.1, fun k hk => of_decide_eq_true (List.all_eq_true.mp this.2 k hk)⟩
  · cases this
theorem src_len {h f c : Nat} (hc : 1 ≤ c) : (srcL h f c).length = 2 * h := by
  obtain ⟨d, rfl⟩ : ∃ d, c = d + 1 := ⟨c - 1, by omega⟩
  rw [srcL, List.length_map, List.length_range]
theorem CellsAre5 {cm : Str → Option Value} {n₁ n₂ n₃ n₄ n₅ : Str} {c₁ c₂ c₃ c₄ c₅ : Addr} {cells : List (Addr × Obj)} (x : CellsAre cm [(n₁, c₁), (n₂, c₂), (n₃, c₃), (n₄, c₄), (n₅, c₅)] cells) :
    ∃ o₁ o₂ o₃ o₄ o₅, cells = [(c₁, o₁), (c₂, o₂), (c₃, o₃), (c₄, o₄), (c₅, o₅)] ∧ o₁.data = .cell (cm n₁) ∧ o₂.data = .cell (cm n₂) ∧ o₃.data = .cell (cm n₃) ∧ o₄.data = .cell (cm n₄) ∧ o₅.data = .cell (cm n₅) := by
  cases x with | cons h r => obtain ⟨o₂, o₃, o₄, o₅, rfl, h₂, h₃, h₄, h₅⟩ := r.four; exact ⟨_, o₂, o₃, o₄, o₅, rfl, h, h₂, h₃, h₄, h₅⟩
theorem there_lt {k c h f : Nat} (hh : 1 ≤ h) : thereN k c h f < 2 * h := by
  unfold thereN
  dsimp only
  generalize (if k % 2 = f then k else 4 * h - 1 - k) + c = r
  have := Nat.mod_lt r (show 0 < 4 * h by omega)
  generalize r % (4 * h) = q at *
  split <;> omega
def pathAtB (h : Nat) : Bool := (List.range (2 * h)).all fun k => decide ((pathTo h (2 * h - 1)).getD k 0 = (((pathL h).getD k 0 : Nat) : Int)) && decide ((pathL h).getD k 0 < 2 * h)
theorem pathAt_all {h : Nat} (hh : h = 1 ∨ h = 3 ∨ h = 7 ∨ h = 11) : pathAtB h = true := by
  rcases hh with rfl | rfl | rfl | rfl <;> decide +kernel
theorem path_at {h : Nat} (hh : h = 1 ∨ h = 3 ∨ h = 7 ∨ h = 11) {k : Nat} (hk : k < 2 * h) : (pathTo h (2 * h - 1)).getD k 0 = (((pathL h).getD k 0 : Nat) : Int) ∧ (pathL h).getD k 0 < 2 * h := by
  have := List.all_eq_true.mp (pathAt_all hh) k (List.mem_range.mpr hk)
  rwa [Bool.and_eq_true, decide_eq_true_eq, decide_eq_true_eq] at this
section
variable {prog : Program} {w : World} {p : Program} {loose : List Str} {mean : ExcName → Option Value} {mg mb : Str → Option Value}
  {dp un : Nat} {gd : Option (List Code)} {cn : Str} {cs : Scope} {a : Addr} {ccd : Value} {cl : List (Str × Addr)} {outer : List Env} {A₀ : Around} {base h₀ : Heap} {L : Addr} {m : Str → Option Value} {news : List (Addr × Obj)} {s : Shared} {Q E : Value → Shared → Prop}
  {l : Addr} {pv : List Value} {kp : Nat}
  (B : Below A₀ base outer h₀) (F : Fr h₀ L s.heap m) (X : (MineH.hd.heap_39 w.params).In h₀) (N : News h₀ L s.heap ((l, listOf (List.toArray pv) kp) :: news)) (T : Top p loose mean mg mb h₀) (hk : cs.kind = .function)
include B F X N T hk
set_option maxHeartbeats 1000000 in
theorem due_S {b : List UInt8} {c h f : Nat} {t₁ t₂ t₃ t₄ : Tok} (hd0 : dp < recursionLimit) (hd : dp + 1 < recursionLimit) (hh : h = 1 ∨ h = 3 ∨ h = 7 ∨ h = 11) (hf : f < 2) (hc1 : 1 ≤ c) (hc2 : c ≤ 2 * h) (hb : b.length = 2 * h) (hp : IntsAre pv (pathTo h (2 * h - 1)))
    (hret : ∀ t h' tk', Fr h₀ L h' m → News h₀ L h' ((l, listOf (List.toArray pv) kp) :: news) → Q (.bytes ((srcL h f c).map fun i => b.getD i 0).toArray t) { s with heap := h', toks := tk' }) :
    wpAny (model prog w) (ktrTop dp un gd cn cs L a ccd cl outer) (call (.ref 38) [.bytes b.toArray t₁, .ref l, .int c t₂, .int h t₃, .int f t₄]) Q E s := by
  w_top off
  have hfill : PySem.Challenge.rw_ny0470_04 = PySem.Challenge.rw_ny0470_04 ∧ MineH.hd.heap_39 = MineH.hd.heap_39 := by k_fill; exact ⟨rfl, rfl⟩
  clear hfill
  refine wpAny_call ?_
  k_dflt (refine' code_defCA (binds := [(Str.ofString "row", .bytes b.toArray t₁), (Str.ofString "path", .ref l), (Str.ofString "turnings", .int c t₂), (Str.ofString "half", .int h t₃), (Str.ofString "first", .int f t₄)]) (fun n => [(Str.ofString "first", n + 1 + 1 + 1 + 1 + 1), (Str.ofString "half", n + 1 + 1 + 1 + 1), (Str.ofString "turnings", n + 1 + 1 + 1), (Str.ofString "path", n + 1 + 1), (Str.ofString "row", n + 1)]) ?k1 ?k2 ?k3 ?k4 ?k5 ?kA ?kF ?kK ?k6 ?k7 ?k8 ?k9 ?kB ?kD ?kC ?_ ?c2 ?c3 ?c4; (case kA => exact rfl); (case kF => exact rfl); (case kK => assumption); (case k1 => k_asm); (case k2 => k_asm); (case k3 => k_asm); (case k4 => k_asm); (case k5 => k_asm); (case k6 => k_is); (case k7 => k_is); (case k8 => exact hd0); (case k9 => exact BindsTo.of_eq rfl); (case kB => exact rfl); (case kD => decide +kernel); (case kC => exact fun _ => rfl); (case c2 => exact rfl); (case c3 => exact rfl); (case c4 => exact rfl))
  intro g L' h₁ tk₁ cells FG F' N' Y' B' X' T' hlt
  clear B F X N T
  obtain ⟨o5, o4, o3, o2, o1, hE', d5, d4, d3, d2, d1⟩ := CellsAre5 Y'
  subst hE'
  clear Y'
  change Fr g L' h₁ (fun _ => none) at F'
  change News g L' h₁ ((L' + 1 + 1 + 1 + 1 + 1, o5) :: (L' + 1 + 1 + 1 + 1, o4) :: (L' + 1 + 1 + 1, o3) :: (L' + 1 + 1, o2) :: (L' + 1, o1) :: (l, listOf (List.toArray pv) kp) :: news) at N'
  change o1.data = .cell (some (.bytes b.toArray t₁)) at d1
  change o2.data = .cell (some (.ref l)) at d2
  change o3.data = .cell (some (.int c t₂)) at d3
  change o4.data = .cell (some (.int h t₃)) at d4
  change o5.data = .cell (some (.int f t₄)) at d5
  have hb11 : 1 ≤ h ∧ h ≤ 11 := by omega
  have hpl : (pathTo h (2 * h - 1)).length = 2 * h := by rw [path_len]; omega
  show wpAny _ _ _ _ _ _
  refine wpAny_execs_cons (LCg.Assign_ListComp_U F' rfl (by with_unfolding_all rfl) rfl (by decide) rfl (by decide) rfl rfl rfl ?_)
  k_fold
  walk_at "S"
  all_goals (try clear qk ek)
  show LCg.CompSrc _ _ _ _ _ _ _ _ _ _ _ _ _ _
  rename Fr _ _ _ _ => F₂
  rename News _ _ _ _ => N₂
  rename IsRange _ _ _ _ _ _ _ _ => hr₂
  rw [show 2 * (h : Int) = ((2 * h : Nat) : Int) by omega] at hr₂
  refine LCg.CompSrc.range (n := 2 * h) rfl F₂ N₂ hr₂ (small_of rangeSize_one (by omega) (by omega) (by omega) (by omega) (by omega) (by omega) (by omega)) rangeSize_one (by rw [sizeLine_eq]; omega) fun g₂ => ?_
  refine comp_grow (fun k o => ∃ t u n, o.cls = .type "tuple" ∧ o.data = .seq #[.int (((keysL h f c).getD k 0 : Nat) : Int) t, .int ((b.getD ((pathL h).getD k 0) 0).toNat : Int) u] n) ?_ ?_
  · rintro k v I oI C oC D m₂ h₃ tk₃ E' ys tups hk2 ⟨tk, rfl⟩ hC hx F₃ N₃ off ne
    clear F₂ N₂ hr₂
    rw [Int.zero_add] at hx
    rw [List.cons_append, List.cons_append, List.cons_append, List.cons_append, List.cons_append, List.cons_append] at N₃
    have hkp := path_at hh (k := k) hk2
    have hth : thereN k c h f < 2 * h := there_lt hb11.1
    have htp := path_at hh (k := thereN k c h f) hth
    show wpAny _ _ _ _ _ _
    k_fold
    walk_at "S"
    all_goals (try clear qk ek)
    refine there_S B' F₃ X' N₃ T' rfl hd hb11.1 hk2 hf (by omega) hb11.2 fun t₅ h₄ tk₄ F₄ N₄ => ?_
    clear F₃ N₃
    k_sweep
    show wpAny _ _ _ _ _ _
    walk_at "S"
    refine item_list_ints (ns := pathTo h (2 * h - 1)) (News.isList N₄ (.tail _ (.tail _ (.tail _ (.tail _ (.tail _ (.tail _ (.tail _ (.tail _ (.head _)))))))))) hp (by omega) (by omega) (by omega) fun t₆ => ?_
    walk_at "S"
    refine item_list_ints (ns := pathTo h (2 * h - 1)) (News.isList N₄ (.tail _ (.tail _ (.tail _ (.tail _ (.tail _ (.tail _ (.tail _ (.tail _ (.head _)))))))))) hp (by omega) (by omega) (by omega) fun t₇ => ?_
    rw [Int.toNat_natCast, Int.toNat_natCast, hkp.1, htp.1]
    have hkp2 := hkp.2
    generalize hpk : (pathL h).getD k 0 = pk at *
    have hblen : ((pk : Nat) : Int) < b.length := by omega
    walk_at "S"
    refine kup_newTuple (s := ⟨h₄, _, _, _, _⟩) F₄ N₄ ?_ (show 2 ≤ sizeLine by decide)
    intro D₅ h₅ F₅ N₅ lt₅
    refine ⟨h₅, _, D₅, _, rfl, rfl, F₅, N₅, fun p hp => Nat.ne_of_lt (lt₅ p hp), t₆, tk₄, 0, rfl, ?_⟩
    rw [keys_at hk2, hpk, Int.toNat_natCast]
  · intro tups htl htu D₆ h₆ tk₆ F₆ N₆ off₆
    clear F₂ N₂ hr₂
    obtain ⟨ps, hps, hsrc, hpin⟩ := due_at hh hf hc1 hc2
    show wpAny _ _ _ _ _ _
    k_fold
    walk_at "S"
    all_goals (try clear qk ek)
    show wpAny _ _ _ _ _ _
    refine LCp.ListComp_P F₆ rfl (by decide) rfl (by decide) rfl rfl (by decide) ?_
    walk_at "S"
    have hpsl : ps.length ≤ 22 := by
      have := congrArg List.length hsrc
      rw [List.length_map, src_len hc1] at this
      omega
    refine sorted_tups (tups := tups) F₆ N₆ (News.isList N₆ (.head _)) htl hb11.1 hb11.2 (fun p hp => .tail _ (List.mem_append.mpr (.inr hp))) (fun i q hq => ?_) hps ?_
    · obtain ⟨t, u, n, h1, h2⟩ := htu i q hq
      exact ⟨_, t, n, h1, h2⟩
    intro D₇ c₇ h₇ F₇ N₇ lt₇
    clear F₆ N₆
    show LCp.SrcLP _ _ _ _ _ _ _ _ _ _ _ _ _ _ _
    refine LCp.SrcLP.ledger rfl F₇ N₇ (.head _) (by rw [List.size_toArray, List.length_map, sizeLine_eq]; omega) fun g₇ => ?_
    refine comp_seconds (ns := ps.map fun k => ((b.getD ((pathL h).getD k 0) 0).toNat : Int)) (by simp) (.inr ⟨_, .head _, rfl, _, rfl⟩) ?_ ?_
    · intro i v hv
      rw [List.getElem?_toArray, List.getElem?_map] at hv
      cases hpi : ps[i]? with
      | none => rw [hpi] at hv; cases hv
      | some k =>
        rw [hpi] at hv
        have hkm : k ∈ ps := List.mem_of_getElem? hpi
        have hkl : k < tups.length := by rw [htl]; exact hpin k hkm
        obtain ⟨t, u, n, h1, h2⟩ := htu k tups[k] (List.getElem?_eq_getElem hkl)
        have hvv : v = .ref tups[k].1 := by
          have e : (tups.map fun p => Value.ref p.1).getD k Value.none = .ref tups[k].1 := by rw [List.getD_eq_getElem?_getD, List.getElem?_map, List.getElem?_eq_getElem hkl]; rfl
          rw [← e]; simpa using hv.symm
        refine ⟨tups[k].1, tups[k].2, .int (((keysL h f c).getD k 0 : Nat) : Int) t, u, n, hvv, .tail _ (.tail _ (List.mem_append.mpr (.inr (List.getElem_mem hkl)))), h1, ?_⟩
        rw [h2, List.getD_eq_getElem?_getD (l := List.map _ _), List.getElem?_map, hpi]; rfl
    · intro ys hys D₈ h₈ tk₈ F₈ N₈ off₈
      clear F₇ N₇
      have hoct : ∀ z ∈ ps.map (fun k => ((b.getD ((pathL h).getD k 0) 0).toNat : Int)), 0 ≤ z ∧ z < 256 := fun z hz => by
        obtain ⟨k, _, rfl⟩ := List.mem_map.mp hz
        have := (b.getD ((pathL h).getD k 0) 0).toNat_lt
        omega
      have hbytes : byteArr (ps.map fun k => ((b.getD ((pathL h).getD k 0) 0).toNat : Int)) = ((srcL h f c).map fun i => b.getD i 0).toArray := by
        unfold byteArr
        rw [← hsrc, List.map_map, List.map_map]
        congr 1
        apply List.map_congr_left
        intro k _
        simp [Function.comp]
      have hysl : ys.length ≤ 22 := by rw [hys.length, List.length_map]; exact hpsl
      generalize ps.map (fun k => ((b.getD ((pathL h).getD k 0) 0).toNat : Int)) = ns₈ at *
      walk_at "S"
      rename Fr _ _ _ _ => F₉
      rename News _ _ _ _ => N₉
      show LeaveK _ _ _ _ _ _ _
      refine leaveK_ F₉ N₉ fun Fb Nb => ?_
      rw [hbytes]
      exact hret _ _ _ Fb fun p hp => Nb p (.tail _ (.tail _ (.tail _ (List.mem_append.mpr (.inl (.tail _ (.tail _ (.tail _ (.tail _ (.tail _ hp)))))))))) 
end
end Mine
set_option maxRecDepth 100000
set_option Elab.async false
open PySem PySem.W PySem.Calls PyProof.Rows
namespace Mine
local macro_rules | `(tactic| walk_at "S") => `(tactic| repeat' (first | (k_unfold; (try dsimp only)) | walk1 | (dsimp only; walk1)))
local macro_rules | `(tactic| walk_at "mp") => `(tactic| (intro z; (try intro hz); (try dsimp only); (repeat' split) <;> first | rfl | contradiction | (exfalso; subst_vars; (rename (_ : Str) = _ => hq9); exact absurd hq9 (by decide)) | (subst_vars; rfl) | (simp_all; done)))
local macro_rules | `(tactic| walk_at "subscriptTail") => `(tactic| (k_here; (with_reducible show wpAny _ _ (subscriptTail _ _ (Value.bytes (List.toArray _) _) (Value.int _ _)) _ _ _); refine bytes_item (by omega) (by omega) (by omega) ?_))
local macro_rules | `(tactic| walk_at "subscriptTail") => `(tactic| (k_here; (with_reducible show wpAny _ _ (subscriptTail _ (Expr.Slice _ _ none _) (Value.bytes (List.toArray _) _) (Value.ref _)) _ _ _); (with_reducible rename Fr _ _ _ _ => F'); (with_reducible rename News _ _ _ _ => N'); (refine bytes_cut (s := ⟨_, _, _, _, _⟩) F' N' (by constructor) (by constructor) (by omega) ?_); intro _ _ _ _ _; (try k_sweep)))
local macro_rules | `(tactic| walk_at "binaryOp Add bytes bytes") => `(tactic| (k_here; (with_reducible show wpAny _ _ (binaryOp Operator.Add (Value.bytes (List.toArray _) _) (Value.bytes (List.toArray _) _)) _ _ _); refine bytes_add_K (by (simp only [List.size_toArray, List.length_reverse, List.length_take, List.length_append, List.length_cons, List.length_nil]; omega)) rfl ?_; intro _ _))
local macro_rules | `(tactic| walk_at "subscriptTail List cons Slice ref ref") => `(tactic| (k_here; k_dflt (refine kba_turn (value' := PySem.Expr.Name (PySem.Str.ofString "_") ⟨0, 0, 0, 0⟩) (fun _ => rfl) ?_); k_dflt (refine' kmk_slice_ints ?F ?N ?l ?p ?q ?i ?m ?c ?_ ?s ?t ?z; (case F => k_asm); (case N => k_asm); (case l => kmk_list); (case p => kmk_part); (case q => kmk_part); (case i => l_ints); (case m => exact kmk_from (by l_ints) (by kmk_sign)); (case c => exact List.length_drop ..); (case s => with_unfolding_all rfl); (case t => kmk_pure); (case z => kmk_size)); intro D' ws' h' F' N' l1 hI' hC' hL'; (try k_lt l1); (try k_sweep)))
local macro_rules | `(tactic| walk_at "binaryOp Add ref ref") => `(tactic| (k_here; (with_reducible show wpAny _ _ (binaryOp _ (Value.ref _) (Value.ref _)) _ _ _); k_dflt (refine' kmk_add_ints ?F ?N ?a ?b ?i ?j ?_ ?z; (case F => k_asm); (case N => k_asm); (case a => kmk_list); (case b => kmk_list); (case i => l_ints); (case j => l_ints); (case z => kmk_sum)); intro D' ws' h' F' N' l1 hI'; (try k_lt l1); (try k_sweep)))
local macro_rules | `(tactic| k_all) => `(tactic| assumption)
local macro_rules | `(tactic| k_ne) => `(tactic| first | assumption | exact Ne.symm (by assumption))
local macro_rules | `(tactic| walk_at "call ref") => `(tactic| (k_here; (with_reducible show wpAny _ _ (call (Value.ref 38) _) _ _ _); refine halt ?_))
local macro_rules | `(tactic| walk_at "call type:list") => `(tactic| (k_here; refine halt ?_))
section
variable {prog : Program} {w : World} {p : Program} {loose : List Str} {mean : ExcName → Option Value} {mg mb : Str → Option Value} {s : Shared} {R : Result → Shared → Prop}
set_option maxHeartbeats 4000000 in
theorem law_S {l : Addr} {vs : List Value} {ns : List Int} (X : (MineH.hd.heap_39 w.params).In s.heap) (T : Top p loose mean mg mb s.heap) (hl : s.heap.IsList l vs.toArray) (hi : IntsAre vs ns) (hz : ns.length ≤ 63)
    (hret : ∀ h' tk' L m, Fr s.heap L h' m → R (.ok (.ret (.bool true))) { s with heap := h', toks := tk' }) :
    codeS (model prog w) callerA (.call (.ref 43) ⟨[.ref l], []⟩) R s := by
  w_top off
  have hfill : PySem.Challenge.rw_ny0470_04 = PySem.Challenge.rw_ny0470_04 ∧ MineH.hd.heap_39 = MineH.hd.heap_39 := by k_fill; exact ⟨rfl, rfl⟩
  clear hfill
  have B := below_caller s.heap
  k_dflt (refine' code_topS (binds := [(Str.ofString "script", .ref l)]) X T ?k6 ?k7 ?k8 ?k9 ?kB ?_ ?c2 ?c3 ?c4 ?c5; (case k6 => k_is); (case k7 => k_is); (case k8 => decide); (case k9 => exact BindsTo.of_eq rfl); (case kB => exact locs rfl); (case c2 => exact rfl); (case c3 => exact rfl); (case c4 => exact rfl); (case c5 => decide))
  intro L' h₁ hL' F'
  have N' : News s.heap L' h₁ [] := News.nil
  have hvl : vs.length = ns.length := hi.length
  have F₁ : Fr s.heap L' h₁ (fun y => if y = Str.ofString "script" then some (.ref l) else none) :=
    fr_eqv F' fun y => by simp only [List.reverse_cons, List.reverse_nil, List.nil_append, look1]; rfl
  clear F'
  refine wpS_execs_cons (wpS_cut (fun fl h' => fl = Flow.next ∧ ∃ (h : Nat) (t : Tok), (h = 1 ∨ h = 3 ∨ h = 7 ∨ h = 11) ∧ Fr s.heap L' h' (fun y => if y = Str.ofString "middle" then some (.int h t) else if y = Str.ofString "script" then some (.ref l) else none)) ?_ ?_)
  · k_fold
    walk_at "S"
    all_goals (try clear qk ek)
    all_goals (rename Fr _ _ _ _ => F₂)
    · exact CutEnd.mk ⟨rfl, 3, _, by simp, F₂⟩
    · exact CutEnd.mk ⟨rfl, 7, _, by simp, F₂⟩
    · exact CutEnd.mk ⟨rfl, 11, _, by simp, F₂⟩
    · exact CutEnd.mk ⟨rfl, 1, _, by simp, F₂⟩
  rintro fl h₂ tk₂ ⟨rfl, h, th, hh, F₂⟩
  clear F₁ N'
  have N₂ : News s.heap L' h₂ [] := News.nil
  show wpS _ _ _ _ _ _
  have hb11 : 1 ≤ h ∧ h ≤ 11 := by omega
  refine wpS_tk (s := s) (h' := h₂) fun tk₃ => ?_
  refine wpS_execs_cons (wpS_any ?_)
  k_fold
  walk_at "S"
  all_goals (try clear qk ek)
  rename Fr _ _ _ _ => F₃
  rename News _ _ _ _ => N₃
  rename IsRange _ _ _ _ _ _ _ _ => hr₃
  refine kll_range (n := 22) rfl F₃ N₃ hr₃ (by decide) (by decide) (by decide) ?_
  intro D₄ c₄ vs₄ h₄ tk₄ F₄ N₄ hI₄ lt₄
  walk_at "S"
  all_goals (try clear qk ek)
  rename Fr _ _ _ _ => F₅a
  rename News _ _ _ _ => N₅a
  rename_i hh5
  clear N₅a
  obtain ⟨b, tb, hbl, F₅⟩ : ∃ (b : List UInt8) (tb : Tok), b.length = 2 * h ∧ Fr s.heap L' hh5 (fun y => if y = Str.ofString "start" then some (.bytes b.toArray tb) else if y = Str.ofString "middle" then some (.int h th) else if y = Str.ofString "script" then some (.ref l) else none) :=
    ⟨_, _, by simp only [List.length_map, filter_tt, List.length_take, List.length_append, rangeKs_length]; omega, F₅a⟩
  clear F₅a
  have N₅ : News s.heap L' hh5 [] := News.nil
  refine wpS_tk (s := s) (h' := hh5) fun tk₅ => ?_
  refine wpS_execs_cons (wpS_Assign_Name (wpS_Call_K (K := MineH.hd.heap_39 w.params) (f := .ref 26) (by k_is) ?_))
  k_fold
  walk_at "S"
  all_goals (try clear qk ek)
  refine wpS_any ?_
  k_fold
  walk_at "S"
  all_goals (try clear qk ek)
  refine path_S B F₅ X N₅ T rfl (by decide) (by decide) hh fun pa pv kp h₆ tk₆ hI₆ F₆ N₆ lt₆ => ?_
  clear F₅ N₅
  k_sweep
  show wpAny _ _ _ _ _ _
  k_fold
  walk_at "S"
  all_goals (try clear qk ek)
  refine wpS_execs_cons (wpS_any ?_)
  k_fold
  walk_at "S"
  all_goals (try clear qk ek)
  refine wpS_execs_cons (wpS_any ?_)
  k_fold
  walk_at "S"
  all_goals (try clear qk ek)
  rename Fr _ _ _ _ => F₇a
  rename News _ _ _ _ => N₇
  rename_i hh7
  obtain ⟨f, hf2, hf⟩ : ∃ f : Nat, f < 2 ∧ ns.sum.fmod 2 = (f : Int) := by
    have h0 := Int.fmod_nonneg_of_pos ns.sum (b := 2) (by decide)
    have h1 := Int.fmod_lt_of_pos ns.sum (b := 2) (by decide)
    exact ⟨(ns.sum.fmod 2).toNat, by omega, by omega⟩
  rw [hf] at F₇a
  obtain ⟨tf, F₇⟩ : ∃ tf, Fr s.heap L' hh7 (fun y => if y = Str.ofString "text" then some (.bytes b.toArray tb) else if y = Str.ofString "late" then some (.int f tf) else if y = Str.ofString "line" then some (.ref pa) else if y = Str.ofString "start" then some (.bytes b.toArray tb) else if y = Str.ofString "middle" then some (.int h th) else if y = Str.ofString "script" then some (.ref l) else none) := ⟨_, F₇a⟩
  clear F₇a hf
  refine wpS_tk (s := s) (h' := hh7) fun tk₇ => ?_
  refine wpS_execs_cons (wpS_For ?_)
  refine wpS_any ?_
  k_fold
  walk_at "S"
  all_goals (try clear qk ek)
  rename Fr _ _ _ _ => F₈
  rename News _ _ _ _ => N₈
  rename IsRange _ _ _ _ _ _ _ _ => hr₈
  have hrs : Builtin.Range.rangeSize 1 (2 * (h : Int) + 1) 1 = ((2 * h : Nat) : Int) := by
    unfold Builtin.Range.rangeSize
    rw [if_pos (by omega), if_pos (by omega)]; omega
  refine forRangeS (σ := List UInt8 × Tok) (n := 2 * h) rfl hr₈ (small_of hrs (by omega) (by omega) (by omega) (by omega) (by omega) (by omega) (by omega)) hrs rfl rfl
    (fun i c => c.1 = (srcL h f i).map fun j => b.getD j 0)
    (fun c y => if y = Str.ofString "text" then some (.bytes c.1.toArray c.2) else if y = Str.ofString "late" then some (.int f tf) else if y = Str.ofString "line" then some (.ref pa) else if y = Str.ofString "start" then some (.bytes b.toArray tb) else if y = Str.ofString "middle" then some (.int h th) else if y = Str.ofString "script" then some (.ref l) else none)
    (fun _ => [(pa, listOf (List.toArray pv) kp)]) (b, tb) F₈ N₈ (fun z hz => rfl) (src_zero hbl).symm ?turn ?done
  case turn =>
    rintro i ⟨tx, tt⟩ I it t hp tk₈ hi hc hoff F₉ N₉
    change Fr s.heap L' _ _ at F₉
    change News s.heap L' _ _ at N₉
    dsimp only at hc hoff F₉ N₉
    clear F₈ N₈ hr₈
    have htl : tx.length = 2 * h := by rw [hc, List.length_map, src_len']
    have oI : pa ≠ I := hoff _ (.head _)
    refine wpS_execs_cons (wpS_Assign_Name (wpS_Call_K (K := MineH.hd.heap_39 w.params) (f := .ref 21) (by k_is) ?_))
    k_fold
    walk_at "S"
    all_goals (try clear qk ek)
    have hmod : Int.fmod (1 + (i : Int) * 1 + (f : Int)) 2 = (((i + 1 + f) % 2 : Nat) : Int) := by rw [Int.fmod_eq_emod_of_nonneg _ (by omega)]; omega
    refine wpS_cut (fun vs h' => ∃ tw, vs = [.bytes tx.toArray tt, .int (((if (i + 1 + f) % 2 = 1 then 2 else h : Nat)) : Int) tw] ∧ Fr s.heap L' h' (fun y => if y = Str.ofString "count" then some (.int (1 + (i : Int) * 1) t) else if y = Str.ofString "text" then some (.bytes tx.toArray tt) else if y = Str.ofString "late" then some (.int f tf) else if y = Str.ofString "line" then some (.ref pa) else if y = Str.ofString "start" then some (.bytes b.toArray tb) else if y = Str.ofString "middle" then some (.int h th) else if y = Str.ofString "script" then some (.ref l) else none)
      ∧ News s.heap L' h' [(I, it), (pa, listOf (List.toArray pv) kp)]) ?_ ?_
    · k_fold
      walk_at "S"
      all_goals (try clear qk ek)
      · rename (_ : Int) = 1 => hq
        rw [hmod] at hq
        rw [if_pos (by omega)]
        exact CutEnd.mk ⟨_, rfl, F₉, N₉⟩
      · rename (_ : Int) ≠ 1 => hq
        rw [hmod] at hq
        rw [if_neg (by omega)]
        exact CutEnd.mk ⟨_, rfl, F₉, N₉⟩
    rintro vs' h₁₀ tk₁₀ ⟨tw, rfl, F₁₀, N₁₀⟩
    clear F₉ N₉
    refine ⟨X.keeps F₁₀.keep, ?_⟩
    refine byteswap_S B F₁₀ X N₁₀ T rfl (by decide) (by split <;> omega) ?_ (by omega) (by split <;> omega) fun t₁₁ h₁₁ tk₁₁ F₁₁ N₁₁ => ?_
    · rw [htl]; split
      · exact ⟨h, rfl⟩
      · exact ⟨2, Nat.mul_comm _ _⟩
    clear F₁₀ N₁₀
    rw [hc, src_next hh]
    k_sweep
    show wpAny _ _ _ _ _ _
    k_fold
    walk_at "S"
    all_goals (try clear qk ek)
    rename Fr _ _ _ _ => F₁₂
    rename News _ _ _ _ => N₁₂
    generalize htx : (srcL h f (i + 1)).map (fun j => b.getD j 0) = ty at *
    refine wpS_execs_cons (wpS_If (wpS_any ?_))
    k_fold
    walk_at "S"
    have N₁₃ : News s.heap L' _ [(pa, listOf (List.toArray pv) kp), (I, it)] := fun p hp => N₁₂ p (by
      simp only [List.mem_cons, List.not_mem_nil, or_false] at hp ⊢
      rcases hp with h | h <;> simp [h])
    show wpAny _ _ (call (.ref 38) [_, _, .int (1 + (i : Int) * 1) t, _, _]) _ _ _
    rw [show (1 + (i : Int) * 1) = ((i + 1 : Nat) : Int) by omega]
    refine due_S B F₁₂ X N₁₃ T rfl (by decide) (by decide) hh hf2 (by omega) (by omega) hbl hI₆ fun t₁₄ h₁₄ tk₁₄ F₁₄ N₁₄ => ?_
    rw [htx]
    clear F₁₂ N₁₂ N₁₃
    walk_at "S"
    · rename (_ != _) = true => hbad
      exact absurd hbad (by simp)
    · refine wpS_execs_nil ?_
      show wpS _ _ _ _ _ _
      refine wpS_execs_nil ?_
      refine TurnEnd.next (ty, t₁₁) F₁₄ (fun p hp => N₁₄ p ?_) hoff ?_ rfl
      · simp only [List.mem_cons, List.not_mem_nil, or_false] at hp ⊢
        rcases hp with h | h <;> simp [h]
      · intro z hz
        by_cases h1 : z = Str.ofString "text"
        · subst h1; rfl
        · simp only [if_neg h1, if_neg hz]
  case done =>
    rintro ⟨tx, tt⟩ m' hp tk₈ hc F₉ hm N₉
    show wpS _ _ _ _ _ _
    change Fr s.heap L' _ _ at F₉
    change News s.heap L' _ _ at N₉
    dsimp only at hc hm N₉
    clear F₈ N₈ hr₈
    have htl : tx.length = 2 * h := by rw [hc, List.length_map, src_len']
    have F₁₀ : Fr s.heap L' hp (fun y => if y = Str.ofString "count" then m' y else if y = Str.ofString "text" then some (.bytes tx.toArray tt) else if y = Str.ofString "late" then some (.int f tf) else if y = Str.ofString "line" then some (.ref pa) else if y = Str.ofString "start" then some (.bytes b.toArray tb) else if y = Str.ofString "middle" then some (.int h th) else if y = Str.ofString "script" then some (.ref l) else none) :=
      fr_eqv F₉ fun y => by
        by_cases h1 : y = Str.ofString "count"
        · rw [if_pos h1]
        · rw [if_neg h1, hm y h1]
    clear F₉
    refine wpS_execs_cons (wpS_Assign_Name (wpS_Call_K (K := MineH.hd.heap_39 w.params) (f := .ref 21) (by k_is) ?_))
    k_fold
    walk_at "S"
    all_goals (try clear qk ek)
    refine wpS_any ?_
    k_fold
    walk_at "S"
    all_goals (try clear qk ek)
    refine wpS_eq (t' := call (.ref 21) [.bytes tx.toArray tt, .int ((2 * h : Nat) : Int) _]) (by rw [show ((2 * h : Nat) : Int) = 2 * (h : Int) by omega]) ?_
    refine byteswap_S B F₁₀ X N₉ T rfl (by decide) (by omega) (by rw [htl]; exact Nat.dvd_refl _) (by omega) (by omega) fun t₁₁ h₁₁ tk₁₁ F₁₁ N₁₁ => ?_
    rw [hc, src_end hh hf2 hbl]
    clear F₁₀ N₉
    k_sweep
    show wpAny _ _ _ _ _ _
    k_fold
    walk_at "S"
    all_goals (try clear qk ek)
    refine wpS_execs_cons (wpS_Return ?_)
    refine wpS_any ?_
    k_fold
    walk_at "S"
    all_goals (try clear qk ek)
    rename Fr _ _ _ _ => F₁₂
    rw [beq_self_eq_true]
    exact hret _ _ _ _ F₁₂
end
end Mine
set_option maxRecDepth 100000
set_option Elab.async false
open PySem PySem.W PySem.Calls PyProof.Rows Mine
set_option maxHeartbeats 8000000 in
theorem PySem.Challenge.cw_ny0470_04_holds : PySem.Challenge.rw_ny0470_04.Holds := by
  w_on
  refine MineH.hd ?_
  k_fill
  intro w s₀ s₁ mg mb G Y fa o pm cd doc dV kV ho hd hcd hD hmg hg args vals as hpre hlay hrd hwl hlo
  have KX := kIn_of Y
  refine Ground.open G ?_
  intro T B D TE TW
  wrow_args hpre hlay hrd hwl hlo
  rename_i ns _ _ _ _ _ _ _ l vs _ hl _ _ _ hi _ hcond _
  have hfa : mg (Str.ofString "law") = some (.ref 43) := mg_of KX T.g (by k_is)
  obtain rfl : fa = 43 := by
    have e : some (Value.ref 43) = some (Value.ref fa) := hfa.symm.trans hmg
    injection e with e
    injection e with e
    exact e.symm
  have hz : ns.length ≤ 63 := by omega
  have hn : ∀ cls, PySem.Challenge.rw_ny0470_04.row.claim.raises [ofPy (PyData.list (List.map PyData.int ns))] cls = false := raisesW_false (by wrow_none_raised)
  have hp : PySem.Challenge.rw_ny0470_04.row.claim.post [ofPy (PyData.list (List.map PyData.int ns))] (.bool true) [ofPy (PyData.list (List.map PyData.int ns))] = true := by wrow_post
  refine ⟨⟨.inl ⟨_, .bool true, [], rfl, hn, .bool true, hp, unshared_nil⟩, .of_keep fun _ _ e => e, rfl, .of_eq hg⟩, ?_⟩
  refine enter_callS ?_
  refine law_S KX T hl hi hz fun h' tk' L m F => ?_
  exact goodW_bool F hg hn hp
