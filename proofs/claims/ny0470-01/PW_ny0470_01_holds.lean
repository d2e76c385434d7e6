import PyProof.Rows.All
import Wide.All
import OpenK.AllK
import Wide.FinOn
import PySem.Challenge.RW_ny0470_01
set_option maxRecDepth 100000
set_option Elab.async false
open PySem PySem.W PySem.Calls PyProof.Rows
namespace Mine

/-! ## contexts without a built-in that may hold a bytearray's memory -/

def badIds : List String := Builtin.Bytes.decodersThatHold ++ ["bytearray.__contains__", "bytearray.__mod__", "bytearray.__rmod__", "_struct.pack_into.held", "bytearray.find.held"]
def calmCode : Code → Bool
  | .builtin id _ => !badIds.contains id
  | _ => true
def CalmC (Γ : Ctx) : Prop := calmCode Γ.code = true ∧ ∀ x ∈ Γ.below, calmCode x.1 = true

def wpS {α : Type} (M : Model) (A : Around) (t : Sem α) (Q : α → Shared → Prop) (E : Value → Shared → Prop) (s : Shared) : Prop :=
  ∀ Γ p, Γ.In A → CalmC Γ → Sem.wp M Γ t (fun a _ s' => Q a s') (fun e _ s' => E e s') p s
def codeS (M : Model) (A : Around) (c : Code) (R : Result → Shared → Prop) (s : Shared) : Prop :=
  ∀ Γ p, Γ.code = c → Γ.Below A → CalmC Γ → wpCode M Γ R p s

theorem CalmC.enter {Γ : Ctx} (h : CalmC Γ) {c : Code} (hc : calmCode c = true) (hd : Option Value) (p : Pos) : CalmC (Γ.enter c hd p) :=
  ⟨hc, fun x hx => by rcases List.mem_cons.mp hx with rfl | hx; exact h.1; exact h.2 x hx⟩
theorem CalmC.goto {Γ : Ctx} (h : CalmC Γ) {c : Code} (hc : calmCode c = true) : CalmC (Γ.goto c) := ⟨hc, h.2⟩

section
variable {α β : Type} {M : Model} {A : Around} {E : Value → Shared → Prop} {s : Shared}

theorem wpS_any {t : Sem α} {Q : α → Shared → Prop} (h : wpAny M A t Q E s) : wpS M A t Q E s := fun Γ p hΓ _ => h Γ p hΓ
theorem codeS_any {c : Code} {R : Result → Shared → Prop} (h : codeAny M A c R s) : codeS M A c R s := fun Γ p hc hΓ _ => h Γ p hc hΓ
theorem wpS_pure {a : α} {Q : α → Shared → Prop} (h : Q a s) : wpS M A (pure a) Q E s := fun _ _ _ _ => h
theorem wpS_mono {t : Sem α} {Q Q' : α → Shared → Prop} {E' : Value → Shared → Prop} (h : wpS M A t Q E s)
    (hQ : ∀ a s, Q a s → Q' a s) (hE : ∀ e s, E e s → E' e s) : wpS M A t Q' E' s :=
  fun Γ p hΓ hc => Sem.wp_mono M Γ t (fun a _ s => hQ a s) (fun e _ s => hE e s) p s (h Γ p hΓ hc)
theorem wpS_bind {m : Sem α} {f : α → Sem β} {Q : β → Shared → Prop} (h : wpS M A m (fun a s' => wpS M A (f a) Q E s') E s) :
    wpS M A (m >>= f) Q E s := fun Γ p hΓ hc => by
  rw [Sem.wp_bind']
  exact Sem.wp_mono M Γ m (fun a p' s' h' => h' Γ p' hΓ hc) (fun _ _ _ h' => h') p s (h Γ p hΓ hc)
theorem wpS_holding {vs : List Value} {m : Sem α} {Q : α → Shared → Prop} (h : wpS M A m Q E s) : wpS M A (holding vs m) Q E s :=
  fun Γ p hΓ hc => by rw [Sem.wp_holding]; exact h Γ p hΓ hc
theorem wpS_keep {vs : List Value} {m : Sem α} {Q : α → Shared → Prop} (h : wpS M A m Q E s) : wpS M A (m.keep vs) Q E s :=
  fun Γ p hΓ hc => by rw [Sem.wp_keep]; exact h Γ p hΓ hc
theorem wpS_onRaise {m : Sem α} {k : Value → Sem Unit} {Q : α → Shared → Prop}
    (h : wpS M A m Q (fun e s' => wpS M A (k e) (fun _ s'' => E e s'') E s') s) : wpS M A (m.onRaise k) Q E s := fun Γ p hΓ hc => by
  rw [Sem.wp_onRaise]
  exact Sem.wp_mono M Γ m (fun _ _ _ h' => h') (fun e p' s' h' => h' Γ p' hΓ hc) p s (h Γ p hΓ hc)
theorem wpS_attempt {m : Sem α} {Q : Except Value α → Shared → Prop} (h : wpS M A m (fun a => Q (.ok a)) (fun e => Q (.error e)) s) :
    wpS M A m.attempt Q E s := fun Γ p hΓ hc => by rw [Sem.wp_attempt]; exact h Γ p hΓ hc
theorem wpS_standAt {pos : Pos} {Q : Unit → Shared → Prop} (h : Q () s) : wpS M A (standAt pos) Q E s := fun _ _ _ _ => h
theorem wpS_eq {t t' : Sem α} {Q : α → Shared → Prop} (e : t = t') (h : wpS M A t' Q E s) : wpS M A t Q E s := e ▸ h

theorem wpS_run {c : Code} {h : Option Value} {Q : Flow → Shared → Prop} (hcc : calmCode c = true)
    (hc : codeS M (A.mark h) c (fun r s' => match r with | .ok f => Q f s' | .error e => E e s') s) (hnb : h ≠ some byPass := by intro x; cases x) :
    wpS M A (run c h) Q E s :=
  fun Γ p hΓ hq => by rw [Sem.wp_run]; exact hc _ p rfl (hΓ.enter c h p hnb) (hq.enter hcc h p)
theorem wpS_runValue {c : Code} {Q : Value → Shared → Prop} (hcc : calmCode c = true)
    (hc : codeS M A c (fun r s' => match r with | .ok (.ret v) => Q v s' | .ok _ => False | .error e => E e s') s) :
    wpS M A (runValue c) Q E s := fun Γ p hΓ hq => by
  rw [Sem.wp_runValue]; exact hc _ p rfl (hΓ.enter c none p (by intro x; cases x)) (hq.enter hcc none p)
theorem wpS_call {f : Value} {pos : List Value} {kw : List (Str × Value)} {Q : Value → Shared → Prop}
    (hc : codeS M A (.call f ⟨pos, kw⟩) (fun r s' => match r with | .ok (.ret v) => Q v s' | .ok _ => False | .error e => E e s') s) :
    wpS M A (call f pos kw) Q E s := wpS_runValue rfl hc
theorem codeS_mono {c : Code} {R R' : Result → Shared → Prop} (h : codeS M A c R s) (hR : ∀ r s, R r s → R' r s) : codeS M A c R' s :=
  fun Γ p hc hΓ hq => wpCode_mono hR (h Γ p hc hΓ hq)
theorem codeS_of_tree {c : Code} {R : Result → Shared → Prop}
    (h : wpS M (A.under c) (M.den c) (fun fin s' => match fin with | .done f => R (.ok f) s' | .again c' => c'.quiet = true ∧ calmCode c' = true ∧ codeS M A c' R s')
      (fun e s' => R (.error e) s') s) : codeS M A c R s := fun Γ p hc hΓ hq => by
  rw [wpCode_iff_wp, hc]
  refine Sem.wp_mono M Γ _ (fun fin p' s' h' => ?_) (fun _ _ _ h' => h') p s (h Γ p (hc ▸ hΓ.in) hq)
  cases fin with
  | done f => exact h'
  | again c' => exact ⟨h'.1, h'.2.2 (Γ.goto c') p' rfl (hΓ.goto c') (hq.goto h'.2.1)⟩
theorem codeS_loop {c : Code} {R : Result → Shared → Prop} (hq : c.quiet = true) (hcc : calmCode c = true) (I : Nat → Shared → Prop)
    (turn : ∀ n s, I n s → wpS M (A.under c) (M.den c)
      (fun fin s' => match fin with | .done f => R (.ok f) s' | .again c' => c' = c ∧ ∃ m, m < n ∧ I m s') (fun e s' => R (.error e) s') s)
    (n : Nat) (h : I n s) : codeS M A c R s := by
  induction n using Nat.strongRecOn generalizing s with
  | ind n ih =>
    refine codeS_of_tree (wpS_mono (turn n s h) (fun fin s' hf => ?_) fun _ _ h' => h')
    cases fin with
    | done f => exact hf
    | again c' => obtain ⟨rfl, m, hm, hI⟩ := hf; exact ⟨hq, hcc, ih m hm hI⟩
end

/-! ## statements and expressions -/
section
variable {M : Model} {A : Around} {E : Value → Shared → Prop} {s : Shared} {env : Env}

theorem wpS_execs_nil {Q : Flow → Shared → Prop} (h : Q .next s) : wpS M A (execs [] env) Q E s := fun _ _ _ _ => h
theorem wpS_execs_cons {st rest} {Q : Flow → Shared → Prop}
    (h : wpS M A (exec st env) (fun f s' => match f with | .next => wpS M A (execs rest env) Q E s' | f => Q f s') E s) :
    wpS M A (execs (st :: rest) env) Q E s := by
  rw [execs_cons]
  refine wpS_bind (wpS_mono h (fun f s' h' => ?_) fun _ _ x => x)
  cases f <;> first | exact h' | exact wpS_pure h'
theorem wpS_Assign_Name {x pos' value pos} {Q : Flow → Shared → Prop}
    (h : wpS M A (eval value env) (fun v s₁ => wpAny M A (storeName env x v) (fun _ => Q .next) E s₁) E s)
    (hs : swapsWith value (some (.Name x pos')) pos.line env = pure false := by rfl) :
    wpS M A (exec (.Assign [.Name x pos'] value pos) env) Q E s := fun Γ p hΓ hc => by
  simp only [exec_Assign_Name env x pos' value pos hs, Sem.wp_bind', Sem.wp_cmd_standAt, Sem.wp_bindName, Sem.wp_pure']
  exact Sem.wp_mono M Γ _ (fun v _ s₁ h₁ => h₁ Γ _ hΓ) (fun _ _ _ h' => h') _ _ (h Γ _ hΓ hc)
theorem wpS_If {test body orelse pos} {Q : Flow → Shared → Prop}
    (h : wpS M A (isTrue test env (eval test env))
      (fun b s₂ => if b then wpS M A (execs body env) Q E s₂ else wpS M A (execs orelse env) Q E s₂) E s) :
    wpS M A (exec (.If test body orelse pos) env) Q E s := fun Γ p hΓ hc => by
  simp only [exec_If, Sem.wp_bind', Sem.wp_cmd_standAt]
  refine Sem.wp_mono M Γ _ (fun b p₂ s₂ h₂ => ?_) (fun _ _ _ h' => h') _ _ (h Γ _ hΓ hc)
  cases b <;> exact h₂ Γ p₂ hΓ hc
theorem wpS_Return {e pos} {Q : Flow → Shared → Prop} (h : wpS M A (eval e env) (fun v => Q (.ret v)) E s) :
    wpS M A (exec (.Return (some e) pos) env) Q E s := fun Γ p hΓ hc => by
  simp only [exec_Return_some, Sem.wp_bind', Sem.wp_cmd_standAt, Sem.wp_pure']; exact h Γ _ hΓ hc
theorem wpS_BinOp {l op r pos} {Q : Value → Shared → Prop}
    (h : wpS M A (eval l env) (fun a s₁ => wpS M A (eval r env) (fun b s₂ => wpS M A (binaryOp op a b) Q E s₂) E s₁) E s) :
    wpS M A (eval (.BinOp l op r pos) env) Q E s := fun Γ p hΓ hc => by
  simp only [eval_BinOp, Sem.wp_bind', Sem.wp_holding, Sem.wp_cmd_standAt, Sem.wp_operate]
  exact Sem.wp_mono M Γ _ (fun a p₁ s₁ h₁ => Sem.wp_mono M Γ _ (fun b _ s₂ h₂ => h₂ Γ _ hΓ hc) (fun _ _ _ h' => h') _ _ (h₁ Γ p₁ hΓ hc))
    (fun _ _ _ h' => h') _ _ (h Γ p hΓ hc)
theorem wpS_Compare1 {l op r pos} {Q : Value → Shared → Prop}
    (h : wpS M A (eval l env) (fun a s₁ => wpS M A (eval r env) (fun b s₂ => wpS M A (compareOp op a b) Q E s₂) E s₁) E s)
    (hm : behindInMarks op r = false := by with_unfolding_all rfl) :
    wpS M A (eval (.Compare l [op] [r] pos) env) Q E s := fun Γ p hΓ hc => by
  simp only [eval_Compare1, markedBehindIn_of_false hm, Sem.wp_bind', Sem.wp_holding, Sem.wp_cmd_standAt, Sem.wp_operate]
  exact Sem.wp_mono M Γ _ (fun a p₁ s₁ h₁ => Sem.wp_mono M Γ _ (fun b _ s₂ h₂ => h₂ Γ _ hΓ hc) (fun _ _ _ h' => h') _ _ (h₁ Γ p₁ hΓ hc))
    (fun _ _ _ h' => h') _ _ (h Γ p hΓ hc)
theorem wpS_isTrue_plain {e : Expr} {whole : Sem Value} {Q : Bool → Shared → Prop} (h : wpS M A whole (fun v s₁ => wpAny M A (truthy v) Q E s₁) E s)
    (he : isTrue e env whole = (do let v ← whole; standAt e.pos; holding [v] (truthy v)) := by rfl) : wpS M A (isTrue e env whole) Q E s := by
  rw [he]
  exact wpS_bind (wpS_mono h (fun v s₁ h₁ => wpS_bind (wpS_standAt (wpS_holding (wpS_any h₁)))) fun _ _ x => x)
theorem wpS_isTrue_not {x pos whole} {Q : Bool → Shared → Prop} (h : wpS M A (isTrue x env (eval x env)) (fun c s' => Q (!c) s') E s) :
    wpS M A (isTrue (.UnaryOp .Not x pos) env whole) Q E s := by
  show wpS M A (do return !(← isTrue x env (eval x env))) Q E s
  exact wpS_bind (wpS_mono h (fun c s' h' => wpS_pure h') fun _ _ x => x)
theorem wpS_And2 {x y pos} {Q : Value → Shared → Prop}
    (h : wpS M A (eval x env) (fun v s₁ => wpAny M A (truthy v) (fun b s₂ => if b then wpS M A (eval y env) Q E s₂ else Q v s₂) E s₁) E s) :
    wpS M A (eval (.BoolOp .And [x, y] pos) env) Q E s := by
  show wpS M A (do
    let v ← eval x env
    standAt pos
    let t ← holding [v] (truthy v)
    match BoolOp.And, t with
    | .And, false | .Or, true => pure v
    | _, _ => eval y env) Q E s
  refine wpS_bind (wpS_mono h (fun v s₁ h₁ => wpS_bind (wpS_standAt (wpS_bind (wpS_holding (wpS_mono (wpS_any h₁) (fun b s₂ h₂ => ?_) fun _ _ x => x))))) fun _ _ x => x)
  cases b
  · exact wpS_pure h₂
  · exact h₂

theorem wpS_callWith {P : Heap → Prop} {pos : Pos} {f : Value} {first : List Value} {Q : Value → Shared → Prop} {args : List (Bool × Sem Value)} {keywords : List (Option Str × Sem Value)} (hplain : (args.any (·.1) || keywords.any (·.1.isNone)) = false)
    (hk : ∀ h, P h → ∃ k, (k = Keeper.frame ∨ k = Keeper.machine ∨ k = Keeper.boundFrame) ∧ Looks M h (keeperOf f) k)
    (h : wpS M A (evalArgs f true args keywords) (fun a s₁ => P s₁.heap ∧ wpS M A (call f (first ++ a.pos) a.kw) Q E s₁) E s) : wpS M A (callWith pos f first args keywords) Q E s := by
  unfold callWith
  refine wpS_bind (wpS_holding (wpS_mono h (fun a s₁ h₁ => wpS_bind (wpS_standAt ?_)) fun _ _ x => x))
  obtain ⟨k, hk', L⟩ := hk _ h₁.1
  simp only [hplain]
  refine wpS_bind (wpS_any (L.here ?_))
  have tail : ∀ {t : Sem Value}, wpS M A t Q E s₁ → wpS M A (t >>= fun r => holding [r] point >>= fun _ => pure r) Q E s₁ :=
    fun ht => wpS_bind (wpS_mono ht (fun r s₂ hr => wpS_bind (wpS_holding (wpS_any (wpAny_point (wpS_pure hr))))) fun _ _ x => x)
  have marked (mk : Value) : wpS M A (callMarked mk f (first ++ a.pos) a.kw) Q E s₁ := by unfold callMarked; exact wpS_keep h₁.2
  rcases hk' with rfl | rfl | rfl <;> dsimp only <;> first | exact tail h₁.2 | (split <;> first | exact tail h₁.2 | exact tail (marked _))
theorem wpS_evalArgs {f : Value} {x : Sem Value} {rest : List (Bool × Sem Value)} {Q : Args → Shared → Prop}
    (h : wpS M A (spliced ((false, x) :: rest)) (fun vs s' => Q ⟨vs, []⟩ s') E s) : wpS M A (evalArgs f true ((false, x) :: rest) []) Q E s := by
  unfold evalArgs
  show wpS M A (spliced ((false, x) :: rest) >>= _) Q E s
  refine wpS_bind (wpS_mono h (fun vs s' h' => ?_) fun _ _ x => x)
  refine wpS_holding ?_
  exact wpS_bind (wpS_pure (wpS_bind (wpS_pure (wpS_pure h'))))
theorem wpS_spliced_nil {Q : List Value → Shared → Prop} (h : Q [] s) : wpS M A (spliced []) Q E s := fun _ _ _ _ => h
theorem wpS_spliced_cons {x : Sem Value} {rest : List (Bool × Sem Value)} {Q : List Value → Shared → Prop}
    (h : wpS M A x (fun v s₁ => wpS M A (spliced rest) (fun vs s₂ => Q (v :: vs) s₂) E s₁) E s) : wpS M A (spliced ((false, x) :: rest)) Q E s := by
  show wpS M A (x >>= fun v => pure [v] >>= fun here => holding here (spliced rest) >>= fun r => pure (here ++ r)) Q E s
  exact wpS_bind (wpS_mono h (fun v s₁ h₁ => wpS_bind (wpS_pure (wpS_bind (wpS_holding (wpS_mono h₁ (fun vs s₂ h₂ => wpS_pure h₂) fun _ _ x => x))))) fun _ _ x => x)
theorem wpS_Call_type {fn : Expr} {e : Expr} {rest : List Expr} {pos : Pos} {T : String} {Q : Value → Shared → Prop}
    (hf : wpAny M A (eval fn env) (fun v s₁ => v = .type T ∧ wpS M A (spliced (backTo pos (starEach (e :: rest) env))) (fun vs s₂ => wpS M A (call (.type T) vs) Q E s₂) E s₁) E s)
    (hc : eval (.Call fn (e :: rest) [] pos) env = (do callWith pos (← eval fn env) [] (backTo pos (starEach (e :: rest) env)) (backToKw pos (keywordEach [] env))) := by rfl)
    (he : starEach (e :: rest) env = (false, eval e env) :: starEach rest env := by rfl) (hplain : (backTo pos (starEach rest env)).any (·.1) = false := by rfl) :
    wpS M A (eval (.Call fn (e :: rest) [] pos) env) Q E s := by
  rw [hc]
  refine wpS_bind (wpS_mono (wpS_any hf) (fun v s₁ h₁ => ?_) fun _ _ x => x)
  obtain ⟨rfl, h₁⟩ := h₁
  rw [he] at h₁ ⊢
  refine wpS_callWith (P := fun _ => True) (by show ((false || (backTo pos (starEach rest env)).any (·.1)) || false) = false; rw [hplain]; rfl) (fun h _ => ⟨.machine, .inr (.inl rfl), Looks.of_pure rfl⟩) ?_
  exact wpS_evalArgs (wpS_mono h₁ (fun _ _ x => ⟨trivial, x⟩) fun _ _ x => x)
/-- a call whose callee is a def of the written part: the arguments, then the call -/
theorem wpS_Call_K {K : Frag} {fn : Expr} {e : Expr} {rest : List Expr} {pos : Pos} {f : Value} {Q : Value → Shared → Prop} (hk : keepIn K f = true)
    (hf : wpAny M A (eval fn env) (fun v s₁ => v = f ∧ wpS M A (spliced (backTo pos (starEach (e :: rest) env))) (fun vs s₂ => K.In s₂.heap ∧ wpS M A (call f vs) Q E s₂) E s₁) E s)
    (hc : eval (.Call fn (e :: rest) [] pos) env = (do callWith pos (← eval fn env) [] (backTo pos (starEach (e :: rest) env)) (backToKw pos (keywordEach [] env))) := by rfl)
    (he : starEach (e :: rest) env = (false, eval e env) :: starEach rest env := by rfl) (hplain : (backTo pos (starEach rest env)).any (·.1) = false := by rfl) :
    wpS M A (eval (.Call fn (e :: rest) [] pos) env) Q E s := by
  rw [hc]
  refine wpS_bind (wpS_mono (wpS_any hf) (fun v s₁ h₁ => ?_) fun _ _ x => x)
  obtain ⟨rfl, h₁⟩ := h₁
  rw [he] at h₁ ⊢
  refine wpS_callWith (P := fun h => K.In h) (by show ((false || (backTo pos (starEach rest env)).any (·.1)) || false) = false; rw [hplain]; rfl) (keeps_K hk) ?_
  exact wpS_evalArgs h₁
end

/-! ## calls of defs -/
section
variable {prog : Program} {w : World} {A : Around} {s : Shared} {R : Result → Shared → Prop}
theorem codeS_func {body env}
    (h : wpS (model prog w) (A.deeper env) (execs body env) (fun f s' => R (.ok (.ret (match f with | .ret v => v | _ => .none))) s') (fun _ _ => False) s) :
    codeS (model prog w) A (.func body env) R s := by
  refine codeS_of_tree ?_
  show wpS _ (A.deeper env) (do point; match ← (execs body env).onRaise (leaving env) with | .ret v => ret v | _ => ret .none) _ _ s
  refine wpS_bind (wpS_any (wpAny_point (wpS_bind (wpS_onRaise (wpS_mono h (fun f s' h' => ?_) fun _ _ h' => h'.elim)))))
  cases f <;> exact wpS_pure h'
theorem codeS_call_function {a : Addr} {args : Args} {o : Obj} {fd : FuncData} {body : List Stmt} (hroom : A.depth < recursionLimit)
    (ho : s.heap.get? a = some o)
    (hd' : o.data = .func fd) (hco : fd.scope.isCoroutine = false) (hgen : fd.scope.isGenerator = false) (hbody : fd.body = .stmts body) (hcd : s.heap.CodeRec fd.code fd.qualname)
    (h : wpAny (model prog w) A.in1 (bindArgs fd args) (fun binds s₁ =>
      wpAny (model prog w) A.in1 (newFunctionEnv fd.scope fd.globals fd.closure binds (fd.qualname ++ ".<locals>.") (some a) fd.code none fd.builtins)
        (fun env s₂ => s₂.heap.NoLimit ∧ codeS (model prog w) A (.func body env) R s₂) (fun e s' => R (.error e) s') s₁) (fun e s' => R (.error e) s') s) :
    codeS (model prog w) A (.call (.ref a) args) R s := by
  refine codeS_of_tree ?_
  show wpS _ A.in1 (callAny (.ref a) args) _ _ s
  simp only [callAny]
  refine wpS_any (wpAny_bind (wpAny_load ho ?_))
  obtain ⟨c, oc, vs, tq, hc, hoc, hdc, hq⟩ := hcd
  simp only [hd', callFunction, hco, hgen, hbody, hc]
  rw [hc] at h
  refine wpAny_bind (m := field (.ref c) 1) (wpAny_field hoc hdc hq (wpAny_bind (wpAny_pure ?_)))
  exact wpAny_bind (wpAny_mono h (fun binds s₁ h₁ => wpAny_bind (wpAny_mono h₁ (fun env s₂ h₂ => wpAny_bind (wpAny_enterFrame h₂.1 hroom
    (wpAny_pure ⟨rfl, rfl, h₂.2⟩))) fun _ _ h' => h')) fun _ _ h' => h')
theorem codeS_call_def {a : Addr} {o : Obj} {fd : FuncData} {body : List Stmt} {args : Args} {binds : List (Str × Value)}
    (hroom : A.depth < recursionLimit) (ho : s.heap.get? a = some o) (hdata : o.data = .func fd) (hlim : s.heap.NoLimit) (hcd : s.heap.CodeRec fd.code fd.qualname)
    (hbody : fd.body = .stmts body) (hbind : BindsTo s fd args binds)
    (hcell : ∀ x ∈ fd.scope.names, x.2 ≠ .cell) (hloc : ∀ x ∈ binds, fd.scope.names.lookup x.1 = some .local)
    (h : ∀ h₀, h₀.Ns s.heap.objs.size (fun x => binds.reverse.lookup x) → (∀ b o, s.heap.get? b = some o → h₀.get? b = some o) →
      wpS (model prog w) (A.deeper (callEnv fd s.heap.objs.size a)) (execs body (callEnv fd s.heap.objs.size a)) (fun f s' => R (.ok (.ret (match f with | .ret v => v | _ => .none))) s')
        (fun _ _ => False) { s with heap := h₀, toks := s.toks + binds.length })
    (hco : fd.scope.isCoroutine = false := by rfl) (hgen : fd.scope.isGenerator = false := by rfl) (hk : fd.scope.kind = .function := by rfl) :
    codeS (model prog w) A (.call (.ref a) args) R s := by
  refine codeS_call_function hroom ho hdata hco hgen hbody hcd (hbind _ _ _ _ ?_)
  refine wpAny_newFunctionEnv hcell hloc (fun h₀ hns₀ hsb₀ => ⟨hlim.fresh _ hsb₀, codeS_func (h h₀ hns₀ fun b o e => ?_)⟩) hk
  exact hsb₀.extBut b o (Nat.ne_of_lt (Heap.lt_size e)) (Heap.get?_push_of_some _ e)
theorem call_fullS {name : Str} {params : Arguments} {body : List Stmt} {scope : Scope}
    {dV kV pm cd doc : Value} {a : Addr} {o : Obj} {args : Args} {binds : List (Str × Value)}
    (hroom : A.depth < recursionLimit) (ho : s.heap.get? a = some o) (hdata : o.data = .func { docDef name params body scope pm cd doc with defaults := dV, kwdefaults := kV }) (hlim : s.heap.NoLimit) (hcd : s.heap.CodeRec cd name)
    (hbind : BindsTo s { docDef name params body scope pm cd doc with defaults := dV, kwdefaults := kV } args binds)
    (hloc : ∀ x ∈ binds, scope.names.lookup x.1 = some .local)
    (h : ∀ h₁, Fr s.heap s.heap.objs.size h₁ (fun x => binds.reverse.lookup x) →
      wpS (model prog w) (A.deeper (envOf name scope s.heap.objs.size a cd)) (execs body (envOf name scope s.heap.objs.size a cd))
        (fun f s' => R (.ok (.ret (match f with | .ret v => v | _ => .none))) s') (fun _ _ => False)
        { s with heap := h₁, toks := s.toks + binds.length })
    (hco : scope.isCoroutine = false := by rfl) (hgen : scope.isGenerator = false := by rfl) (hk : scope.kind = .function := by rfl)
    (hcell : ∀ x ∈ scope.names, x.2 ≠ .cell := by decide) :
    codeS (model prog w) A (.call (.ref a) args) R s :=
  codeS_call_def hroom ho hdata hlim hcd rfl hbind hcell hloc (fun h₁ hns hkeep => h h₁ ⟨hns, hkeep, Nat.le_refl _⟩) hco hgen hk
end

section
variable {prog : Program} {w : World} {A A₀ : Around} {s : Shared} {K : Frag} {L : Addr} {h₀ base : Heap} {m mg mb : Str → Option Value} {news : List (Addr × Obj)} {p : Program} {loose : List Str} {mean : ExcName → Option Value}
/-- a call of a def of the written part, in calm contexts: its body is run in a frame of its own -/
theorem code_defS {env : Env} {outer : List Env} {R : Result → Shared → Prop} {name qual : Str} {params : Arguments} {body : List Stmt} {scope : Scope} {dV kV doc pm cdv ct oc : Value} {an od : Option Addr} {osl : Array (Option Value)} {f : Addr} {args : Args} {binds : List (Str × Value)}
    (B : Below A₀ base outer h₀) (F : Fr h₀ L s.heap m) (X₀ : K.In h₀) (N : News h₀ L s.heap news) (T : Top p loose mean mg mb h₀) (hA : A.frames = some (env :: outer)) (hf : env.frame = some L) (hke : env.scope.kind = .function)
    (ho : K.lookup f = some ⟨oc, od, .func (fnOf name qual params body scope dV kV doc pm an cdv ct), osl⟩) (hcd : codeIn K cdv qual = true) (hroom : A.depth < recursionLimit)
    (hbind : BindsTo s (fnOf name qual params body scope dV kV doc pm an cdv ct) args binds) (hloc : ∀ y ∈ binds, scope.names.lookup y.1 = some .local)
    (h : ∀ g L' h₁, Fr h₀ L g m → Fr g L' h₁ (fun y => binds.reverse.lookup y) → News g L' h₁ news → Below A base (env :: outer) g → K.In g → Top p loose mean mg mb g → (∀ p ∈ news, p.1 < L') →
      wpS (model prog w) (A.deeper (envOf qual scope L' f cdv)) (execs body (envOf qual scope L' f cdv))
        (fun fl s' => LeaveK h₀ L m g R (match fl with | .ret v => v | _ => .none) s') (fun _ _ => False)
        { s with heap := h₁, toks := s.toks + binds.length })
    (hco : scope.isCoroutine = false) (hgen : scope.isGenerator = false) (hk : scope.kind = .function)
    (hcell : ∀ x ∈ scope.names, x.2 ≠ .cell) : codeS (model prog w) A (.call (.ref f) args) R s := by
  obtain ⟨FG, BG, st, lv⟩ := groundX (R := R) B F N hA hf hke
  have X := X₀.keeps F.keep
  refine codeS_call_def (fd := fnOf name qual params body scope dV kV doc pm an cdv ct) (body := body) (binds := binds) hroom (X _ _ ho) rfl (T.nolimit.keeps F.keep) (codeRec_of X hcd) rfl hbind hcell hloc (fun h₁ hns hk₁ => ?_) hco hgen hk
  exact wpS_mono (h _ s.heap.objs.size h₁ FG ⟨hns, fun b o e => hk₁ b o (of_hideAll _ e), Nat.le_of_eq (hideAll_size _ _)⟩
    (fun p hp => ⟨hk₁ _ _ (N p hp).1, Nat.ne_of_lt (Heap.lt_size (N p hp).1), hideAll_none _ (List.mem_map_of_mem hp)⟩) BG (X₀.keeps st) (T.keeps st) (fun p hp => Heap.lt_size (N p hp).1)) (fun fl s' hl => lv _ _ hl) fun _ _ y => y
end

section
variable {prog : Program} {w : World} {A A₀ : Around} {s : Shared} {K : Frag} {L : Addr} {h₀ base : Heap} {m mg mb : Str → Option Value} {news : List (Addr × Obj)} {p : Program} {loose : List Str} {mean : ExcName → Option Value}
/-- the same for a def some of whose names live in cells -/
theorem code_defCS {env : Env} {outer : List Env} {R : Result → Shared → Prop} {name qual : Str} {params : Arguments} {body : List Stmt} {scope : Scope} {dV kV doc pm cdv ct oc : Value} {an od : Option Addr} {osl : Array (Option Value)} {f : Addr} {args : Args} {binds : List (Str × Value)} (cls : Addr → List (Str × Addr))
    (B : Below A₀ base outer h₀) (F : Fr h₀ L s.heap m) (X₀ : K.In h₀) (N : News h₀ L s.heap news) (T : Top p loose mean mg mb h₀) (hA : A.frames = some (env :: outer)) (hf : env.frame = some L) (hke : env.scope.kind = .function)
    (ho : K.lookup f = some ⟨oc, od, .func (fnOf name qual params body scope dV kV doc pm an cdv ct), osl⟩) (hcd : codeIn K cdv qual = true) (hroom : A.depth < recursionLimit)
    (hbind : BindsTo s (fnOf name qual params body scope dV kV doc pm an cdv ct) args binds) (hkind : (binds.all fun y => scope.names.lookup y.1 == some .local || scope.names.lookup y.1 == some .cell) = true)
    (hnd : ((cellsFrom 0 scope.names []).map (·.1)).Nodup)
    (hcls : ∀ n, cellsFrom (n + 1) scope.names [] = cls n)
    (h : ∀ g L' h₁ tk cells, Fr h₀ L g m → Fr g L' h₁ (bindL (envOfC qual scope L' f cdv).kindOf binds fun _ => none) → News g L' h₁ (cells ++ news) →
      CellsAre (bindC (envOfC qual scope L' f cdv).kindOf binds fun _ => none) (cls L') cells → Below A base (env :: outer) g → K.In g → Top p loose mean mg mb g → (∀ p ∈ news, p.1 < L') →
      wpS (model prog w) (A.deeper (envX qual scope L' f cdv (cls L'))) (execs body (envX qual scope L' f cdv (cls L')))
        (fun fl s' => LeaveK h₀ L m g R (match fl with | .ret v => v | _ => .none) s') (fun _ _ => False)
        { s with heap := h₁, toks := tk })
    (hco : scope.isCoroutine = false) (hgen : scope.isGenerator = false) (hk : scope.kind = .function) : codeS (model prog w) A (.call (.ref f) args) R s := by
  obtain ⟨FG, BG, st, lv⟩ := groundX (R := R) B F N hA hf hke
  have X := X₀.keeps F.keep
  refine codeS_call_function hroom (X _ _ ho) rfl hco hgen rfl (codeRec_of X hcd) (hbind _ _ _ _ ?_)
  refine wpAny_newFunctionEnv_cells hk (kindsX hkind _) fun env' he s' x => ?_
  subst he
  refine ⟨(T.nolimit.keeps F.keep).keeps x.toInCall.keep, codeS_func ?_⟩
  obtain ⟨h₁, tk, rfl, _⟩ := x.done
  have hk₁ := x.toInCall.keep
  obtain ⟨cells, NC, Y⟩ := Cl.news (h₀ := s.heap) (Nat.le_refl _) fun n c hm => ⟨x.cell n c (lookup_of_mem_nodup (cellsFrom_names scope.names 0 (s.heap.objs.size + 1) [] [] rfl ▸ hnd) hm), x.above n c hm⟩
  rw [hcls] at Y
  have e : envOfC qual scope s.heap.objs.size f cdv = envX qual scope s.heap.objs.size f cdv (cls s.heap.objs.size) := by
    show envX qual scope s.heap.objs.size f cdv (cellsFrom (s.heap.objs.size + 1) scope.names []) = _
    rw [hcls]
  have hb := h _ s.heap.objs.size h₁ tk cells FG ⟨x.toInCall.ns, fun b o e => hk₁ b o (of_hideAll _ e), Nat.le_of_eq (hideAll_size _ _)⟩ (fun p hp => ?_) Y BG (X₀.keeps st) (T.keeps st) (fun p hp => Heap.lt_size (N p hp).1)
  · rw [← e] at hb
    exact wpS_mono hb (fun fl s' hl => lv _ _ hl) fun _ _ y => y
  rcases List.mem_append.mp hp with hp | hp
  · refine ⟨(NC p hp).1, (NC p hp).2.1, ?_⟩
    cases q : (hideAll s.heap (news.map (·.1))).get? p.1 with
    | none => rfl
    | some o => have := of_hideAll _ q; rw [(NC p hp).2.2] at this; cases this
  · exact ⟨hk₁ _ _ (N p hp).1, Nat.ne_of_lt (Heap.lt_size (N p hp).1), hideAll_none _ (List.mem_map_of_mem hp)⟩
/-- the first call, from the claim's caller -/
theorem code_topS {R : Result → Shared → Prop} {name qual : Str} {params : Arguments} {body : List Stmt} {scope : Scope} {dV kV doc pm cdv ct oc : Value} {an od : Option Addr} {osl : Array (Option Value)} {f : Addr} {args : Args} {binds : List (Str × Value)}
    (X : K.In s.heap) (T : Top p loose mean mg mb s.heap)
    (ho : K.lookup f = some ⟨oc, od, .func (fnOf name qual params body scope dV kV doc pm an cdv ct), osl⟩) (hcd : codeIn K cdv qual = true) (hroom : A.depth < recursionLimit)
    (hbind : BindsTo s (fnOf name qual params body scope dV kV doc pm an cdv ct) args binds) (hloc : ∀ y ∈ binds, scope.names.lookup y.1 = some .local)
    (h : ∀ L' h₁, s.heap.objs.size = L' → Fr s.heap L' h₁ (fun y => binds.reverse.lookup y) →
      wpS (model prog w) (A.deeper (envOf qual scope L' f cdv)) (execs body (envOf qual scope L' f cdv))
        (fun fl s' => R (.ok (.ret (match fl with | .ret v => v | _ => .none))) s') (fun _ _ => False)
        { s with heap := h₁, toks := s.toks + binds.length })
    (hco : scope.isCoroutine = false) (hgen : scope.isGenerator = false) (hk : scope.kind = .function)
    (hcell : ∀ x ∈ scope.names, x.2 ≠ .cell) : codeS (model prog w) A (.call (.ref f) args) R s :=
  codeS_call_def (fd := fnOf name qual params body scope dV kV doc pm an cdv ct) (body := body) (binds := binds) hroom (X _ _ ho) rfl T.nolimit (codeRec_of X hcd) rfl hbind hcell hloc
    (fun h₁ hns hk₁ => h _ h₁ rfl ⟨hns, hk₁, Nat.le_refl _⟩) hco hgen hk
theorem code_topCS {R : Result → Shared → Prop} {name qual : Str} {params : Arguments} {body : List Stmt} {scope : Scope} {dV kV doc pm cdv ct oc : Value} {an od : Option Addr} {osl : Array (Option Value)} {f : Addr} {args : Args} {binds : List (Str × Value)} (cls : Addr → List (Str × Addr))
    (X : K.In s.heap) (T : Top p loose mean mg mb s.heap)
    (ho : K.lookup f = some ⟨oc, od, .func (fnOf name qual params body scope dV kV doc pm an cdv ct), osl⟩) (hcd : codeIn K cdv qual = true) (hroom : A.depth < recursionLimit)
    (hbind : BindsTo s (fnOf name qual params body scope dV kV doc pm an cdv ct) args binds) (hkind : (binds.all fun y => scope.names.lookup y.1 == some .local || scope.names.lookup y.1 == some .cell) = true)
    (hnd : ((cellsFrom 0 scope.names []).map (·.1)).Nodup)
    (hcls : ∀ n, cellsFrom (n + 1) scope.names [] = cls n)
    (h : ∀ L' h₁ tk cells, s.heap.objs.size = L' → Fr s.heap L' h₁ (bindL (envOfC qual scope L' f cdv).kindOf binds fun _ => none) → News s.heap L' h₁ cells →
      CellsAre (bindC (envOfC qual scope L' f cdv).kindOf binds fun _ => none) (cls L') cells →
      wpS (model prog w) (A.deeper (envX qual scope L' f cdv (cls L'))) (execs body (envX qual scope L' f cdv (cls L')))
        (fun fl s' => R (.ok (.ret (match fl with | .ret v => v | _ => .none))) s') (fun _ _ => False)
        { s with heap := h₁, toks := tk })
    (hco : scope.isCoroutine = false) (hgen : scope.isGenerator = false) (hk : scope.kind = .function) : codeS (model prog w) A (.call (.ref f) args) R s := by
  refine codeS_call_function hroom (X _ _ ho) rfl hco hgen rfl (codeRec_of X hcd) (hbind _ _ _ _ ?_)
  refine wpAny_newFunctionEnv_cells hk (kindsX hkind _) fun env' he s' x => ?_
  subst he
  refine ⟨T.nolimit.keeps x.toInCall.keep, codeS_func ?_⟩
  obtain ⟨h₁, tk, rfl, _⟩ := x.done
  obtain ⟨cells, NC, Y⟩ := Cl.news (h₀ := s.heap) (Nat.le_refl _) fun n c hm => ⟨x.cell n c (lookup_of_mem_nodup (cellsFrom_names scope.names 0 (s.heap.objs.size + 1) [] [] rfl ▸ hnd) hm), x.above n c hm⟩
  rw [hcls] at Y
  have e : envOfC qual scope s.heap.objs.size f cdv = envX qual scope s.heap.objs.size f cdv (cls s.heap.objs.size) := by
    show envX qual scope s.heap.objs.size f cdv (cellsFrom (s.heap.objs.size + 1) scope.names []) = _
    rw [hcls]
  have := h _ h₁ tk cells rfl ⟨x.toInCall.ns, x.toInCall.keep, Nat.le_refl _⟩ NC Y
  rw [← e] at this
  exact this
end

/-! ## loops -/
section
variable {M : Model} {A : Around} {E : Value → Shared → Prop} {s : Shared} {env : Env}
theorem wpS_runOwn {c : Code} {Q : Flow → Shared → Prop} (hcc : calmCode c = true)
    (hc : codeS M A c (fun r s' => match r with | .ok f => Q f s' | .error _ => False) s) : wpS M A (runOwn c env) Q E s := by
  unfold runOwn
  refine wpS_onRaise (wpS_run hcc (codeS_mono hc fun r s' h' => ?_))
  cases r with
  | ok f => exact h'
  | error e => exact h'.elim
theorem wpS_While {test body orelse pos} {Q : Flow → Shared → Prop}
    (h : codeS M A (.whileLoop test body orelse env) (fun r s' => match r with | .ok f => Q f s' | .error _ => False) s) :
    wpS M A (exec (.While test body orelse pos) env) Q E s := by
  rw [exec_While]; exact wpS_bind (wpS_standAt (wpS_runOwn rfl h))
theorem wpS_For {target iter body orelse pos} {Q : Flow → Shared → Prop}
    (h : wpS M A (eval iter env) (fun x s₁ => wpAny M A (pyIter x) (fun it s₂ =>
      codeS M A (.forLoop target it body orelse env) (fun r s' => match r with | .ok f => Q f s' | .error _ => False) s₂) E s₁) E s)
    (hs : ∀ x, foldedSetIterable iter env x = pure x := by intro _; rfl) :
    wpS M A (exec (.For target iter body orelse pos) env) Q E s := by
  rw [exec_For]
  exact wpS_bind (wpS_standAt (wpS_bind (wpS_mono h (fun x s₁ h₁ => wpS_bind (wpS_eq (hs x) (wpS_pure (wpS_bind (wpS_standAt (wpS_bind (wpS_holding
    (wpS_mono (wpS_any h₁) (fun it s₂ h₂ => wpS_runOwn rfl h₂) fun _ _ h' => h')))))))) fun _ _ h' => h')))
end

/-! ### the turns -/
section
variable {prog : Program} {w : World} {A : Around} {s : Shared} {R : Result → Shared → Prop}
theorem codeS_block {env : Env} (h : R (.ok .next) s) : codeS (model prog w) A (.block [] env) R s := by
  refine codeS_of_tree ?_
  show wpS _ (A.under (.block [] env)) (do return PySem.Fin.done (← (execs [] env).onRaise (fun x => do noteFrame x env; theTreesLotGoes x))) _ _ s
  exact wpS_bind (wpS_onRaise (wpS_execs_nil (wpS_pure h)))
theorem codeS_whileLoop {test body env} (I : Nat → Shared → Prop)
    (turn : ∀ n s, I n s →
      wpS (model prog w) A (isTrue test env (eval test env)) (fun b s₂ =>
        if b then wpS (model prog w) A (execs body env) (fun f s₃ => match f with
            | .next | .cont => ∃ m, m < n ∧ I m s₃
            | .brk => R (.ok .next) s₃
            | .ret v => R (.ok (.ret v)) s₃) (fun _ _ => False) s₂
        else R (.ok .next) s₂) (fun _ _ => False) s)
    (n : Nat) (h : I n s) : codeS (model prog w) A (.whileLoop test body [] env) R s := by
  refine codeS_loop rfl rfl I (fun n s hI => ?_) n h
  rw [Around.under_of_weight rfl]
  show wpS _ A ((whileTurn test body [] env).onRaise (fun x => do noteFrame x env; theTreesLotGoes x)) _ _ s
  refine wpS_onRaise (wpS_mono (E := fun _ _ => False) ?_ (fun _ _ h' => h') fun _ _ h' => h'.elim)
  simp only [whileTurn]
  refine wpS_bind (wpS_mono (turn n s hI) (fun b s₂ h₂ => ?_) fun _ _ h' => h')
  cases b with
  | false =>
    simp only [Bool.false_eq_true, if_false] at h₂ ⊢
    exact wpS_bind (wpS_execs_nil (wpS_pure h₂))
  | true =>
    simp only [if_true] at h₂ ⊢
    refine wpS_bind (wpS_mono h₂ (fun f s₃ h₃ => ?_) fun _ _ h' => h')
    cases f with
    | next => exact wpS_pure ⟨rfl, h₃⟩
    | cont => exact wpS_pure ⟨rfl, h₃⟩
    | brk => exact wpS_pure h₃
    | ret v => exact wpS_pure h₃
theorem codeS_forLoop {target it body env} (I : Nat → Shared → Prop)
    (turn : ∀ n s, I n s → wpAny (model prog w) A (pyNext it) (fun r s₁ => match r with
      | none => R (.ok .next) s₁
      | some v => wpAny (model prog w) A (assign target env v) (fun _ s₂ => wpS (model prog w) A (execs body env) (fun f s₃ => match f with
          | .next | .cont => ∃ m, m < n ∧ I m s₃
          | .brk => R (.ok .next) s₃
          | .ret v => R (.ok (.ret v)) s₃) (fun _ _ => False) s₂) (fun _ _ => False) s₁) (fun _ _ => False) s)
    (n : Nat) (h : I n s) (ht : ∀ v, letOwnedTupleGo target it v = pure () := by intro _; rfl) : codeS (model prog w) A (.forLoop target it body [] env) R s := by
  induction n using Nat.strongRecOn generalizing s with
  | ind n ih =>
    refine codeS_of_tree ?_
    rw [Around.under_of_weight rfl]
    show wpS _ _ ((forTurn target it body [] env).onRaise (fun x => do noteFrame x env; theTreesLotGoes x)) _ _ s
    refine wpS_onRaise (wpS_mono (E := fun _ _ => False) ?_ (fun _ _ h' => h') fun _ _ h' => h'.elim)
    simp only [forTurn]
    refine wpS_bind (wpS_standAt (wpS_bind (wpS_onRaise (wpS_mono (wpS_any (turn n s h)) (fun r s₁ h₁ => ?_) fun _ _ h' => h'.elim))))
    cases r with
    | none => exact wpS_pure ⟨rfl, rfl, codeS_block h₁⟩
    | some v =>
      refine wpS_bind (wpS_eq (ht v) (wpS_pure ?_))
      refine wpS_bind (wpS_mono (wpS_any h₁) (fun _ s₂ h₂ => wpS_bind (wpS_mono h₂ (fun f s₃ h₃ => ?_) fun _ _ h' => h')) fun _ _ h' => h')
      cases f with
      | next => obtain ⟨m, hm, hI⟩ := h₃; exact wpS_pure ⟨rfl, rfl, ih m hm hI⟩
      | cont => obtain ⟨m, hm, hI⟩ := h₃; exact wpS_pure ⟨rfl, rfl, ih m hm hI⟩
      | brk => exact wpS_pure h₃
      | ret v => exact wpS_pure h₃
end

/-- what a turn of a loop must leave behind -/
def TurnEnd {σ : Type} (s : Shared) (h₀ : Heap) (L : Addr) (x : Str) (I : Addr) (it : Obj) (Inv : σ → Prop) (mp : σ → Str → Option Value) (led : σ → List (Addr × Obj)) (Q : Flow → Shared → Prop) (f : Flow) (s' : Shared) : Prop :=
  match f with
  | .ret v => Q (.ret v) s'
  | .brk => Q .next s'
  | _ => ∃ c m' h' tk, s' = { s with heap := h', toks := tk } ∧ Inv c ∧ Fr h₀ L h' m' ∧ News h₀ L h' ((I, it) :: led c) ∧ (∀ p ∈ led c, p.1 ≠ I) ∧ ∀ z, z ≠ x → m' z = mp c z
theorem TurnEnd.next {σ : Type} {s : Shared} {h₀ : Heap} {L : Addr} {x : Str} {I : Addr} {it : Obj} {Inv : σ → Prop} {mp : σ → Str → Option Value} {led : σ → List (Addr × Obj)} {Q : Flow → Shared → Prop} {h' : Heap} {tk : Nat} {m' : Str → Option Value}
    (c : σ) (F : Fr h₀ L h' m') (N : News h₀ L h' ((I, it) :: led c)) (hI : ∀ p ∈ led c, p.1 ≠ I) (hm : ∀ z, z ≠ x → m' z = mp c z) (hc : Inv c) : TurnEnd s h₀ L x I it Inv mp led Q .next { s with heap := h', toks := tk } :=
  ⟨c, m', h', tk, rfl, hc, F, N, hI, hm⟩

section
variable {prog : Program} {w : World} {A : Around} {E : Value → Shared → Prop} {s : Shared} {env : Env} {h₀ : Heap} {x : Str} {px : Pos} {body : List Stmt} {Q : Flow → Shared → Prop}
theorem forRangeS {σ : Type} {r : Addr} {a₀ b₀ c : Int} {t₀ u₀ v₀ : Tok} {n : Nat} {m₀ : Str → Option Value} (hh : A.handled = none) (hr : IsRange s.heap r a₀ b₀ c t₀ u₀ v₀) (hsmall : Builtin.Range.small a₀ b₀ c = true) (hn : Builtin.Range.rangeSize a₀ b₀ c = (n : Int))
    (hx : env.kindOf x = some .local) (hp : (env.scope.kind == .class || (env.scope.kind == .module && env.locals != env.globals)) = false)
    (Inv : Nat → σ → Prop) (mp : σ → Str → Option Value) (led : σ → List (Addr × Obj)) (c₀ : σ) (F : Fr h₀ env.locals s.heap m₀) (N : News h₀ env.locals s.heap (led c₀)) (hm : ∀ z, z ≠ x → m₀ z = mp c₀ z) (h0 : Inv 0 c₀)
    (turn : ∀ i k I it t h tk, i < n → Inv i k → (∀ p ∈ led k, p.1 ≠ I) → Fr h₀ env.locals h (fun y => if y = x then some (.int (a₀ + (i : Int) * c) t) else mp k y) → News h₀ env.locals h ((I, it) :: led k) →
      wpS (model prog w) A (execs body env) (TurnEnd { s with heap := h, toks := tk } h₀ env.locals x I it (Inv (i + 1)) mp led Q) (fun _ _ => False) { s with heap := h, toks := tk })
    (done : ∀ k m' h tk, Inv n k → Fr h₀ env.locals h m' → (∀ z, z ≠ x → m' z = mp k z) → News h₀ env.locals h (led k) → Q .next { s with heap := h, toks := tk }) :
    wpAny (model prog w) A (pyIter (.ref r)) (fun it s₂ => codeS (model prog w) A (.forLoop (.Name x px) it body [] env) (fun r s' => match r with | .ok f => Q f s' | .error _ => False) s₂) E s := by
  refine wpAny_pyIter_range hr hsmall ?_
  rw [hn]
  have W := Walks.range (prog := prog) (w := w) hh s.heap.objs.size a₀ c n
  have hnew : h₀.get? s.heap.objs.size = none := next_is_new F
  have hLI : env.locals ≠ s.heap.objs.size := Nat.ne_of_lt F.ns.lt
  refine codeS_forLoop (R := fun r s' => match r with | .ok f => Q f s' | .error _ => False)
    (fun k s' => ∃ h' tk m' d i, s' = { s with heap := h', toks := tk } ∧ IsRangeIter h' s.heap.objs.size (a₀ + (i : Nat) * c) ((n : Int) - (i : Nat)) c ∧ Fr h₀ env.locals h' m' ∧ News h₀ env.locals h' (led d) ∧ (∀ p ∈ led d, p.1 ≠ s.heap.objs.size) ∧ (∀ z, z ≠ x → m' z = mp d z) ∧ Inv i d ∧ i ≤ n ∧ k = n + 1 - i) ?_ (n + 1) ?_
  · rintro k s' ⟨h', tk, m', d, i, rfl, hst, F', N', hoff, hm', hI, hi, rfl⟩
    have next : ∀ h₁ : Heap, (∀ b o, b ∉ [s.heap.objs.size] → h'.get? b = some o → h₁.get? b = some o) → Fr h₀ env.locals h₁ m' ∧ News h₀ env.locals h₁ (led d) := fun h₁ hk₁ =>
      ⟨⟨F'.ns.at' fun o e => hk₁ _ o (fun q => hLI (List.mem_singleton.mp q)) e, fun b o e => hk₁ b o (fun q => by rw [List.mem_singleton.mp q, hnew] at e; cases e) (F'.keep b o e), F'.above⟩,
       fun p hp => ⟨hk₁ _ _ (fun q => hoff p hp (List.mem_singleton.mp q)) (N' p hp).1, (N' p hp).2⟩⟩
    by_cases hlt : i < n
    · refine W.item i _ _ _ hlt hst fun v h₁ tk₁ hP hst₁ hk₁ => ?_
      obtain ⟨F₁, N₁⟩ := next h₁ hk₁
      obtain ⟨t, rfl⟩ := hP
      refine wpAny_assign_Name (wpAny_storeName_local hx F₁.ns (fun h₂ hn₂ hs₂ => ?_) hp)
      have F₂ := F₁.set hn₂ hs₂
      have e : (fun y => if y = x then some (Value.int (a₀ + (i : Int) * c) t) else m' y) = fun y => if y = x then some (Value.int (a₀ + (i : Int) * c) t) else mp d y := by
        funext y; by_cases h : y = x
        · rw [if_pos h, if_pos h]
        · rw [if_neg h, if_neg h, hm' y h]
      rw [e] at F₂
      have hit : h₂.get? s.heap.objs.size = some { cls := .type "range_iterator", data := .fields #[rawInt (a₀ + ((i + 1 : Nat) : Int) * c), rawInt ((n : Int) - ((i + 1 : Nat) : Int)), rawInt c] } :=
        (hs₂.2 _ (Ne.symm hLI)).trans hst₁
      have N₂ : News h₀ env.locals h₂ ((s.heap.objs.size, { cls := .type "range_iterator", data := .fields #[rawInt (a₀ + ((i + 1 : Nat) : Int) * c), rawInt ((n : Int) - ((i + 1 : Nat) : Int)), rawInt c] }) :: led d) := fun p hp => by
        rcases List.mem_cons.mp hp with rfl | hp
        · exact ⟨hit, Ne.symm hLI, hnew⟩
        · exact (N₁.set hs₂) p hp
      refine wpS_mono (turn i d s.heap.objs.size _ t h₂ _ hlt hI hoff F₂ N₂) (fun f s₃ h₃ => ?_) fun _ _ e => e
      have fin : (∃ c' m'' h'' tk'', s₃ = { s with heap := h'', toks := tk'' } ∧ Inv (i + 1) c' ∧ Fr h₀ env.locals h'' m'' ∧ News h₀ env.locals h'' ((s.heap.objs.size, { cls := .type "range_iterator", data := .fields #[rawInt (a₀ + ((i + 1 : Nat) : Int) * c), rawInt ((n : Int) - ((i + 1 : Nat) : Int)), rawInt c] }) :: led c') ∧ (∀ p ∈ led c', p.1 ≠ s.heap.objs.size) ∧ ∀ z, z ≠ x → m'' z = mp c' z) →
          ∃ m, m < n + 1 - i ∧ ∃ h' tk m' d i, s₃ = { s with heap := h', toks := tk } ∧ IsRangeIter h' s.heap.objs.size (a₀ + (i : Nat) * c) ((n : Int) - (i : Nat)) c ∧ Fr h₀ env.locals h' m' ∧ News h₀ env.locals h' (led d) ∧ (∀ p ∈ led d, p.1 ≠ s.heap.objs.size) ∧ (∀ z, z ≠ x → m' z = mp d z) ∧ Inv i d ∧ i ≤ n ∧ m = n + 1 - i := by
        rintro ⟨c', m'', h'', tk'', e, hc', F₃, N₃, ho, hz⟩
        exact ⟨n + 1 - (i + 1), by omega, h'', tk'', m'', c', i + 1, e, (N₃ _ (List.mem_cons_self ..)).1, F₃, fun p hp => N₃ p (List.mem_cons_of_mem _ hp), ho, hz, hc', hlt, rfl⟩
      cases f with
      | ret v => exact h₃
      | brk => exact h₃
      | next => exact fin h₃
      | cont => exact fin h₃
    · have hin : i = n := by omega
      subst hin
      refine W.done _ _ _ hst fun h₁ tk₁ hk₁ => ?_
      obtain ⟨F₁, N₁⟩ := next h₁ hk₁
      exact done d m' h₁ tk₁ hI F₁ hm' N₁
  · refine ⟨_, s.toks, m₀, c₀, 0, rfl, ?_, F.push _, fun p hp => ⟨Heap.get?_push_of_some _ (N p hp).1, (N p hp).2⟩, fun p hp => Nat.ne_of_lt (Heap.lt_size (N p hp).1), hm, h0, Nat.zero_le _, rfl⟩
    show IsRangeIter _ _ _ _ _
    simpa using Heap.get?_push_size _ rfl
end

/-- what a turn of a while must leave behind -/
def WhileEnd {σ : Type} (s : Shared) (h₀ : Heap) (L : Addr) (Inv : σ → Prop) (meas : σ → Nat) (k : Nat) (mp : σ → Str → Option Value) (led : σ → List (Addr × Obj)) (Q : Flow → Shared → Prop) (f : Flow) (s' : Shared) : Prop :=
  match f with
  | .ret v => Q (.ret v) s'
  | .brk => Q .next s'
  | _ => ∃ c m' h' tk, s' = { s with heap := h', toks := tk } ∧ Inv c ∧ meas c < k ∧ Fr h₀ L h' m' ∧ News h₀ L h' (led c) ∧ ∀ z, m' z = mp c z
theorem WhileEnd.next {σ : Type} {s : Shared} {h₀ : Heap} {L : Addr} {Inv : σ → Prop} {meas : σ → Nat} {k : Nat} {mp : σ → Str → Option Value} {led : σ → List (Addr × Obj)} {Q : Flow → Shared → Prop} {h' : Heap} {tk : Nat} {m' : Str → Option Value}
    (c : σ) (F : Fr h₀ L h' m') (N : News h₀ L h' (led c)) (hm : ∀ z, m' z = mp c z) (hc : Inv c) (hk : meas c < k) : WhileEnd s h₀ L Inv meas k mp led Q .next { s with heap := h', toks := tk } :=
  ⟨c, m', h', tk, rfl, hc, hk, F, N, hm⟩
theorem whileS {σ : Type} {prog : Program} {w : World} {A : Around} {s : Shared} {env : Env} {h₀ : Heap} {test : Expr} {body : List Stmt} {Q : Flow → Shared → Prop} {m₀ : Str → Option Value}
    (Inv : σ → Prop) (meas : σ → Nat) (mp : σ → Str → Option Value) (led : σ → List (Addr × Obj)) (c₀ : σ) (F : Fr h₀ env.locals s.heap m₀) (N : News h₀ env.locals s.heap (led c₀)) (hm : ∀ z, m₀ z = mp c₀ z) (h0 : Inv c₀)
    (turn : ∀ c h tk, Inv c → Fr h₀ env.locals h (mp c) → News h₀ env.locals h (led c) →
      wpS (model prog w) A (isTrue test env (eval test env)) (fun b s₂ => if b then wpS (model prog w) A (execs body env) (WhileEnd s h₀ env.locals Inv meas (meas c) mp led Q) (fun _ _ => False) s₂ else Q .next s₂) (fun _ _ => False) { s with heap := h, toks := tk }) :
    codeS (model prog w) A (.whileLoop test body [] env) (fun r s' => match r with | .ok f => Q f s' | .error _ => False) s := by
  refine codeS_whileLoop (R := fun r s' => match r with | .ok f => Q f s' | .error _ => False)
    (fun k s' => ∃ c m' h' tk, s' = { s with heap := h', toks := tk } ∧ Inv c ∧ k = meas c ∧ Fr h₀ env.locals h' m' ∧ News h₀ env.locals h' (led c) ∧ ∀ z, m' z = mp c z) ?_ (meas c₀) ⟨c₀, m₀, s.heap, s.toks, rfl, h0, rfl, F, N, hm⟩
  rintro k s' ⟨c, m', h', tk, rfl, hc, rfl, F', N', hm'⟩
  have e : m' = mp c := funext hm'
  subst e
  refine wpS_mono (turn c h' tk hc F' N') (fun b s₂ h₂ => ?_) fun _ _ x => x
  cases b with
  | false => exact h₂
  | true =>
    refine wpS_mono h₂ (fun f s₃ h₃ => ?_) fun _ _ x => x
    have fin : (∃ c' m' h' tk, s₃ = { s with heap := h', toks := tk } ∧ Inv c' ∧ meas c' < meas c ∧ Fr h₀ env.locals h' m' ∧ News h₀ env.locals h' (led c') ∧ ∀ z, m' z = mp c' z) →
        ∃ k, k < meas c ∧ ∃ c m' h' tk, s₃ = { s with heap := h', toks := tk } ∧ Inv c ∧ k = meas c ∧ Fr h₀ env.locals h' m' ∧ News h₀ env.locals h' (led c) ∧ ∀ z, m' z = mp c z := by
      rintro ⟨c', m'', h'', tk'', e, a, b, d, f, g⟩
      exact ⟨meas c', b, c', m'', h'', tk'', e, a, rfl, d, f, g⟩
    cases f with
    | ret v => exact h₃
    | brk => exact h₃
    | next => exact fin h₃
    | cont => exact fin h₃

/-- several ways of one tree meet again -/
def CutEnd {α : Type} (s : Shared) (P : α → Heap → Prop) (v : α) (s' : Shared) : Prop := ∃ h' tk', s' = { s with heap := h', toks := tk' } ∧ P v h'
theorem CutEnd.mk {α : Type} {s : Shared} {P : α → Heap → Prop} {v : α} {h' : Heap} {tk : Nat} (p : P v h') : CutEnd s P v { s with heap := h', toks := tk } := ⟨h', tk, rfl, p⟩
theorem wpS_cut {α : Type} {M : Model} {A : Around} {t : Sem α} {Q : α → Shared → Prop} {E : Value → Shared → Prop} {s : Shared} (P : α → Heap → Prop)
    (h1 : wpAny M A t (CutEnd s P) (fun _ _ => False) s) (h2 : ∀ v h' tk', P v h' → Q v { s with heap := h', toks := tk' }) : wpS M A t Q E s :=
  wpS_mono (wpS_any h1) (fun v s' ⟨h', tk', e, p⟩ => e ▸ h2 v h' tk' p) fun _ _ x => x.elim

theorem wpS_tk {α : Type} {M : Model} {A : Around} {t : Sem α} {Q : α → Shared → Prop} {E : Value → Shared → Prop} {s : Shared} {h' : Heap} {tk₀ : Nat}
    (gen : ∀ tk, wpS M A t Q E { s with heap := h', toks := tk }) : wpS M A t Q E { s with heap := h', toks := tk₀ } := gen _

end Mine
set_option maxRecDepth 100000
set_option Elab.async false
open PySem PySem.W PySem.Calls PyProof.Rows
namespace Mine

/-! ## bytearray(n), b[k] = v, bytes(b) -/
namespace Fa
theorem mro : mroOf (.type "bytearray") = pure [.type "bytearray", .type "object"] := by rw [mroOf_type]; kernel_rfl
theorem lookup_new : typeLookup (.type "bytearray") "__new__" = pure (some (.builtin "bytearray.__new__")) := by rw [typeLookup_type, builtinLookup_eq_fast]; kernel_rfl
theorem slot_init : Slot "bytearray" "__init__" "bytearray.__init__" :=
  .of (owner := "bytearray") (n := "__init__") (by rw [typeLookup_type, builtinLookup_eq_fast]; kernel_rfl) (by decide +kernel) (by decide +kernel) (by decide +kernel)
    (by first | exact .inl (by decide +kernel) | exact .inr (by decide +kernel)) (by rw [isSubtype_type]; kernel_rfl)
theorem made : Bind.madeBy (.type "bytearray") = pure (some "bytearray.__new__") := madeBy_type mro lookup_new (by decide +kernel)
theorem sub : isSubtype (.type "bytearray") (.type "bytearray") = pure true := by rw [isSubtype_type]; kernel_rfl
theorem called : TypeCalled "bytearray" "bytearray.__new__" "bytearray.__init__" :=
  ⟨by decide +kernel, by decide +kernel, ⟨_, _, mro⟩, made, by decide +kernel, sub, slot_init⟩
theorem typeCall (a : Value) : checkTypeCall "bytearray" ⟨[a], []⟩ = pure () := by kernel_rfl
theorem newCall (a : Value) : checkBuiltinCall "bytearray.__new__" ⟨[.type "bytearray", a], []⟩ = pure () := by kernel_rfl
theorem entry_new : entryFor table "bytearray.__new__" = some Builtin.«list.__new__» :=
  entryFor_alias (id' := "list.__new__") (by kernel_rfl) (by first | rfl | decide +kernel) (by decide +kernel) (by kernel_rfl)
theorem entry_init : entryFor table "bytearray.__init__" = some Builtin.«bytearray.__init__» := by first | exact entryFor_of_fast (by kernel_rfl) | exact entryFor_of_tree (by kernel_rfl)
theorem plain_new : plainId "bytearray.__new__" = true := by decide +kernel
theorem plain_init : plainId "bytearray.__init__" = true := by decide +kernel
theorem lookup_release : typeLookup (.type "bytearray") "__release_buffer__" = pure (some (.builtin "bytearray.__release_buffer__")) := by rw [typeLookup_type, builtinLookup_eq_fast]; kernel_rfl
theorem lookup_buffer : typeLookup (.type "bytearray") "__buffer__" = pure (some (.builtin "bytearray.__buffer__")) := by rw [typeLookup_type, builtinLookup_eq_fast]; kernel_rfl
theorem bind1 (v : Value) : Builtin.Bytes.bindOptional "bytearray.__init__" "bytearray" ["source", "encoding", "errors"] [v] [] = pure [some v, none, none] := by kernel_rfl
theorem noBytes : typeLookup (.type "bytearray") "__bytes__" = pure none := by rw [typeLookup_type, builtinLookup_eq_fast]; kernel_rfl
theorem noIndex : typeLookup (.type "bytearray") "__index__" = pure none := by rw [typeLookup_type, builtinLookup_eq_fast]; kernel_rfl
theorem int_index : typeLookup (.type "int") "__index__" = pure (some (.builtin "int.__index__")) := by rw [typeLookup_type, builtinLookup_eq_fast]; kernel_rfl
theorem slot_setitem : Slot "bytearray" "__setitem__" "bytearray.__setitem__" :=
  .of (owner := "bytearray") (n := "__setitem__") (by rw [typeLookup_type, builtinLookup_eq_fast]; kernel_rfl) (by decide +kernel) (by decide +kernel) (by decide +kernel)
    (by first | exact .inl (by decide +kernel) | exact .inr (by decide +kernel)) (by rw [isSubtype_type]; kernel_rfl)
theorem entry_setitem : entryFor table "bytearray.__setitem__" = some Builtin.«bytearray.__setitem__» := by first | exact entryFor_of_fast (by kernel_rfl) | exact entryFor_of_tree (by kernel_rfl)
end Fa
set_option maxRecDepth 1000000 in
set_option maxHeartbeats 4000000 in
theorem owner_new : ("bytearray.__new__".splitOn ".__new__").headD "" = "bytearray" := by simp +decide [String.splitOn, String.splitOnAux]
theorem ends_release : "bytearray.__release_buffer__".endsWith ("." ++ "__release_buffer__") = true := by decide +kernel
theorem ends_buffer : "bytearray.__buffer__".endsWith ("." ++ "__buffer__") = true := by decide +kernel
theorem drop_release : "bytearray.__release_buffer__".dropRight ("__release_buffer__".length + 1) = "bytearray" := by decide +kernel
theorem drop_buffer : "bytearray.__buffer__".dropRight ("__buffer__".length + 1) = "bytearray" := by decide +kernel

def baObj (b : Array UInt8) : Obj := { cls := .type "bytearray", data := .bytearray b }

section
variable {prog : Program} {w : World} {A : Around} {E : Value → Shared → Prop} {s : Shared}
theorem typeIs_int (n : Int) (t : Tok) : s.TypeIs (.int n t) "int" := rfl
theorem typeIs_ba {a : Addr} {b : Array UInt8} (h : s.heap.get? a = some (baObj b)) : s.TypeIs (.ref a) "bytearray" := ⟨_, h, rfl⟩

theorem code_ba_new (a : Value) {Q₁ : Value → Shared → Prop}
    (h : Q₁ (.ref s.heap.objs.size) { s with heap := s.heap.push (baObj #[]) }) :
    codeAny (model prog w) A (.call (.builtin "bytearray.__new__") ⟨[.type "bytearray", a], []⟩) (wants Q₁ E) s := by
  refine codeAny_of_tree ?_
  show wpAny _ A.in1 (do checkBuiltinCall "bytearray.__new__" ⟨[.type "bytearray", a], []⟩; again (.builtin "bytearray.__new__" ⟨[.type "bytearray", a], []⟩)) _ _ s
  refine wpAny_bind (wpAny_of_eq (Fa.newCall a) (wpAny_pure ⟨plainId_quiet Fa.plain_new _, codeAny_builtin_stack Fa.entry_new rfl fun p st => ?_⟩))
  rw [Around.under_plainId Fa.plain_new _]
  have hsub := Fa.sub
  have hown := owner_new
  obtain ⟨hp, g, d, tk, os⟩ := s
  simp only [hown]
  wp_walk
  exact h

theorem slotOwn_release {a : Addr} {b : Array UInt8} {Q : Bool → Shared → Prop} (ho : s.heap.get? a = some (baObj b)) (h : Q false s) : wpAny (model prog w) A (Builtin.Bytes.ownRelease (.ref a)) Q E s := by
  unfold Builtin.Bytes.ownRelease Builtin.Bytes.slotIsOwn
  refine wpAny_bind (wpAny_bind (wpAny_specialOf (typeIs_ba ho) Fa.lookup_release ?_))
  dsimp only
  rw [ends_release, drop_release]
  simp only [Bool.not_true, Bool.false_eq_true, if_false]
  exact wpAny_isInstance (typeIs_ba ho) Fa.sub (wpAny_pure h)

theorem wpS_stackAny {M : Model} {f : Code × Pos → Bool} {Q : Bool → Shared → Prop} (hf : ∀ c q, calmCode c = true → f (c, q) = false) (h : Q false s) : wpS M A (do return (← stack).any f) Q E s := fun Γ p hΓ hc => by
  show Q (((Γ.code, p) :: Γ.below).any f) s
  have e : ((Γ.code, p) :: Γ.below).any f = false := by
    rw [List.any_eq_false]
    intro x hx
    rw [Bool.not_eq_true]
    rcases List.mem_cons.mp hx with rfl | hx
    · exact hf _ _ hc.1
    · obtain ⟨c, q⟩ := x
      exact hf c q (hc.2 _ hx)
  rw [e]; exact h
theorem calm_bad {id : String} {args : Args} (h : calmCode (.builtin id args) = true) : badIds.contains id = false := by
  simpa only [calmCode, Bool.not_eq_true'] using h
theorem exported_calm {a : Addr} {Q : Bool → Shared → Prop} (h : Q false s) : wpS (model prog w) A (Builtin.Bytes.exported (.ref a)) Q E s := by
  unfold Builtin.Bytes.exported
  refine wpS_stackAny (fun c q hq => ?_) h
  split
  · rename_i e; cases e; exact absurd (calm_bad hq) (by decide +kernel)
  · rename_i e; cases e; exact absurd (calm_bad hq) (by decide +kernel)
  · rename_i e; cases e; exact absurd (calm_bad hq) (by decide +kernel)
  · rename_i e; cases e; exact absurd (calm_bad hq) (by decide +kernel)
  · rename_i e; cases e; exact absurd (calm_bad hq) (by decide +kernel)
  · rename_i e; cases e
    have h1 := calm_bad hq
    simp only [badIds, List.contains_append, Bool.or_eq_false_iff] at h1
    rw [h1.1, Bool.and_false]
  · rfl

theorem sif_false {α : Type} {M : Model} {c : Bool} {a b : Sem α} {Q : α → Shared → Prop} (hc : c = false) (h : wpS M A b Q E s) : wpS M A (if c = true then a else b) Q E s := by
  subst hc
  exact h
theorem sif_true {α : Type} {M : Model} {c : Bool} {a b : Sem α} {Q : α → Shared → Prop} (hc : c = true) (h : wpS M A a Q E s) : wpS M A (if c = true then a else b) Q E s := by
  subst hc
  exact h
theorem ba_write {a : Addr} {b : Array UInt8} {f : Array UInt8 → Array UInt8} {Q : Unit → Shared → Prop} (ho : s.heap.get? a = some (baObj b)) (hz : (f b).size ≤ sizeLine)
    (h : Q () { s with heap := s.heap.update a (Obj.mapBytearray f) }) : wpAny (model prog w) A (Builtin.Bytes.write (.ref a) f) Q E s := by
  show wpAny _ _ (updateBytearray a f) _ _ _
  unfold updateBytearray
  refine wpAny_bind (wpAny_load ho ?_)
  show wpAny _ _ (update a (Obj.mapBytearray f) >>= fun _ => lookBehind a) _ _ _
  refine wpAny_bind (wpAny_update ho ?_)
  have h2 : (s.heap.update a (Obj.mapBytearray f)).get? a = some (baObj (f b)) := Heap.get?_update_self (Obj.mapBytearray f) ho rfl
  refine wpAny_lookBehind h2 ?_ h
  show (if (f b).size > sizeLine then some "bytearray:memory" else none) = none
  rw [if_neg (Nat.not_lt.mpr hz)]
set_option maxHeartbeats 2000000 in
theorem ba_init {a : Addr} {n : Int} {t : Tok} {Q : Fin → Shared → Prop} (ho : s.heap.get? a = some (baObj #[])) (h0 : 0 ≤ n) (hz : n.toNat ≤ sizeLine)
    (h : ∀ h', h'.get? a = some (baObj (Array.replicate n.toNat 0)) → (∀ b o, b ≠ a → s.heap.get? b = some o → h'.get? b = some o) → ∀ tk, Q (.done (.ret .none)) { s with heap := h', toks := tk }) :
    wpS (model prog w) A (Builtin.«bytearray.__init__» ⟨[.ref a, .int n t], []⟩) Q E s := by
  unfold Builtin.«bytearray.__init__»
  dsimp only
  refine wpS_bind (wpS_any (slotOwn_release ho ?_))
  refine sif_false rfl ?_
  refine wpS_bind (wpS_any (wpAny_of_eq (Fa.bind1 _) ?_))
  dsimp only
  refine wpS_bind (wpS_any (wpAny_of_eq (a := ()) rfl ?_))
  refine wpS_bind (wpS_any (wpAny_of_eq (a := ()) rfl ?_))
  refine wpS_bind ?_
  refine wpS_bind (exported_calm ?_)
  show wpS _ _ (do return decide ((← Builtin.Bytes.exportsOf (.ref a)) > 0)) _ _ _
  refine wpS_any ?_
  refine wpAny_bind ?_
  unfold Builtin.Bytes.exportsOf
  refine wpAny_bind (wpAny_load ho (wpAny_pure (wpAny_pure ?_)))
  refine sif_false rfl (wpS_any ?_)
  have hl₁ : (s.heap.update a (Obj.mapBytearray fun _ => #[])).get? a = some (baObj #[]) := Heap.get?_update_self (Obj.mapBytearray fun _ => #[]) ho rfl
  refine wpAny_bind (ba_write ho (Nat.zero_le _) ?_)
  refine wpAny_bind (wpAny_of_eq (a := none) rfl ?_)
  refine bm_if_false rfl ?_
  refine wpAny_bind (wpAny_of_eq (a := ()) rfl ?_)
  refine wpAny_bind (wpAny_specialOf (typeIs_int _ _) Fa.int_index ?_)
  refine bm_if_true rfl ?_
  refine wpAny_bind (wpAny_attempt (wpAny_of_eq (a := n) rfl ?_))
  dsimp only
  have hb : n.toNat ≤ 16777216 := hz
  refine bm_if_false (by unfold Builtin.Bytes.fitsIndex; simp only [Bool.not_eq_false', Bool.and_eq_true, decide_eq_true_eq]; omega) ?_
  rw [if_neg (by omega)]
  refine bm_if_false (by rw [beq_eq_false_iff_ne]; omega) ?_
  refine bm_if_false (by unfold Builtin.Bytes.tooLong; rw [decide_eq_false_iff_not]; exact Nat.not_lt.mpr hz) ?_
  refine wpAny_bind (wpAny_rule ?_)
  split
  · refine wpAny_bind (ba_write hl₁ (by rw [Array.size_replicate]; exact hz) ?_)
    have hl₂ : ((s.heap.update a (Obj.mapBytearray fun _ => #[])).update a (Obj.mapBytearray fun _ => Array.replicate n.toNat 0)).get? a = some (baObj (Array.replicate n.toNat 0)) := Heap.get?_update_self (Obj.mapBytearray fun _ => Array.replicate n.toNat 0) hl₁ rfl
    exact wpAny_pure (h _ hl₂ (fun b o hb e => ((Heap.get?_update_ne _ _ _ _ hb).trans (Heap.get?_update_ne _ _ _ _ hb)).trans e) _)
  · have hn : n = 0 := by omega
    subst hn
    exact wpAny_pure (h _ hl₁ (fun b o hb e => (Heap.get?_update_ne _ _ _ _ hb).trans e) _)

theorem codeS_builtin {id : String} {args : Args} {b : Builtin} {R : Result → Shared → Prop} (hb : entryFor table id = some b)
    (h : wpS (model prog w) (A.under (.builtin id args)) (b args)
      (fun fin s' => match fin with | .done f => R (.ok f) s' | .again c' => c'.quiet = true ∧ calmCode c' = true ∧ codeS (model prog w) A c' R s') (fun e s' => R (.error e) s') s) :
    codeS (model prog w) A (.builtin id args) R s := by
  refine codeS_of_tree ?_
  show wpS _ _ (match entryFor table id with | some b => b args | none => unsupported ((withoutEnding? id "#data").getD id)) _ _ s
  rw [hb]; exact h
theorem calm_of {id : String} {args : Args} (h : badIds.contains id = false) : calmCode (.builtin id args) = true := by
  simp only [calmCode, h, Bool.not_false]
set_option maxHeartbeats 2000000 in
theorem call_bytearray {n : Int} {t : Tok} {Q : Value → Shared → Prop} (h0 : 0 ≤ n) (hz : n.toNat ≤ sizeLine)
    (h : ∀ h', h'.get? s.heap.objs.size = some (baObj (Array.replicate n.toNat 0)) → (∀ b o, s.heap.get? b = some o → h'.get? b = some o) → ∀ tk, Q (.ref s.heap.objs.size) { s with heap := h', toks := tk }) :
    wpS (model prog w) A (call (.type "bytearray") [.int n t]) Q E s := by
  refine wpS_call (codeS_of_tree ?_)
  show wpS _ _ (callAny (.type "bytearray") _) _ _ _
  refine wpS_pure ⟨Code.quiet_builtin _ (by decide +kernel), calm_of (by decide +kernel), codeS_builtin F.entry_type_call ?_⟩
  rw [Around.under_plain (weight_type_call_type "bytearray" [.int n t] []) rfl]
  unfold Builtin.«type.__call__»
  dsimp only
  refine sif_false (by decide) ?_
  refine sif_false Fa.called.canCreate ?_
  refine wpS_bind (wpS_any (wpAny_of_eq (Fa.typeCall _) ?_))
  refine wpS_bind (wpS_any (wpAny_of_eq Fa.mro ?_))
  refine sif_false rfl ?_
  refine wpS_bind (wpS_any (wpAny_of_eq Fa.made ?_))
  dsimp only
  refine wpS_bind (wpS_pure ?_)
  refine wpS_bind (wpS_holding ?_)
  refine wpS_any (wpAny_call (codeAny_mono (code_ba_new (E := fun _ _ => False) (.int n t) (Q₁ := fun v s₁ => v = .ref s.heap.objs.size ∧ s₁ = { s with heap := s.heap.push (baObj #[]) }) ⟨rfl, rfl⟩) fun r s₁ hr => ?_))
  cases r with
  | error e => exact hr.elim
  | ok fl =>
    cases fl with
    | ret obj =>
      obtain ⟨rfl, rfl⟩ := hr
      have ho : (s.heap.push (baObj #[])).get? s.heap.objs.size = some (baObj #[]) := Heap.get?_push_size _ rfl
      have hT : ({ s with heap := s.heap.push (baObj #[]) } : Shared).TypeIs (.ref s.heap.objs.size) "bytearray" := ⟨_, ho, rfl⟩
      dsimp only
      refine wpS_bind (wpS_any (wpAny_isInstance hT Fa.sub ?_))
      refine sif_false rfl ?_
      refine wpS_bind (wpS_holding ?_)
      unfold callSpecial?
      refine wpS_bind (wpS_any (wpAny_specialOf hT Fa.slot_init.lookup ?_))
      dsimp only
      refine wpS_holding (wpS_bind (wpS_any (wpAny_of_eq (Fa.slot_init.bind _) ?_)))
      dsimp only
      refine wpS_bind (wpS_call (codeS_of_tree ?_))
      show wpS _ _ (do checkBuiltinCall "bytearray.__init__" ⟨[.ref s.heap.objs.size, .int n t], []⟩; again (.builtin "bytearray.__init__" ⟨[.ref s.heap.objs.size, .int n t], []⟩)) _ _ _
      refine wpS_bind (wpS_any (Fa.slot_init.check _ _ _ _ _ _ _ _ hT (by unfold argsOk; kernel_rfl) ?_))
      refine wpS_pure ⟨plainId_quiet Fa.plain_init _, calm_of (by decide +kernel), codeS_builtin Fa.entry_init ?_⟩
      refine ba_init ho h0 hz fun h' h1 h2 tk => ?_
      dsimp only
      refine wpS_pure ?_
      dsimp only
      refine sif_false (by decide) ?_
      exact wpS_pure (h h' h1 (fun b o e => h2 b o (Nat.ne_of_lt (Heap.lt_size e)) (Heap.get?_push_of_some _ e)) tk)
    | _ => exact hr.elim

theorem ba_setItem {a : Addr} {b : Array UInt8} {k v : Int} {t u : Tok} {Q : Unit → Shared → Prop} (ho : s.heap.get? a = some (baObj b)) (h0 : 0 ≤ k) (hk : k.toNat < b.size) (hz : b.size ≤ sizeLine) (hv : 0 ≤ v) (hv' : v < 256)
    (h : Q () { s with heap := s.heap.update a (Obj.mapBytearray (·.setIfInBounds k.toNat v.toNat.toUInt8)) }) :
    wpAny (model prog w) A (setItem (.ref a) (.int k t) (.int v u)) Q E s := by
  have hT := typeIs_ba ho
  have hb : b.size ≤ 16777216 := hz
  unfold setItem
  try with_reducible refine wpAny_holding ?_
  first | refine wpAny_bind (wpAny_pure ?_) | skip
  refine wpAny_bind (wpAny_sequenceKey hT (by decide) ?_)
  refine wpAny_bind (wpAny_callSpecial?_slot (name := Str.ofString "__setitem__") hT Fa.slot_setitem
    (wpAny_call_entry Fa.slot_setitem hT Fa.entry_setitem ?_ (by unfold argsOk; kernel_rfl)))
  unfold Builtin.«bytearray.__setitem__»
  dsimp only
  refine bm_if_false rfl ?_
  unfold Builtin.Bytes.subscript?
  refine wpAny_bind (wpAny_bind (wpAny_specialOf (typeIs_int _ _) Fa.int_index ?_))
  refine bm_if_false rfl ?_
  refine wpAny_bind (wpAny_of_eq (a := k) rfl ?_)
  refine bm_if_false (by unfold Builtin.Bytes.fitsIndex; simp only [Bool.not_eq_false', Bool.and_eq_true, decide_eq_true_eq]; omega) ?_
  refine wpAny_pure ?_
  dsimp only
  unfold Builtin.Bytes.byteValue
  refine wpAny_bind (wpAny_bind (wpAny_of_eq (a := v) rfl ?_))
  refine bm_if_false (by simp only [Bool.or_eq_false_iff, decide_eq_false_iff_not]; omega) ?_
  refine wpAny_pure ?_
  unfold Builtin.Bytes.payload Builtin.Bytes.payload?
  refine wpAny_bind (wpAny_bind (wpAny_bind (wpAny_load ho (wpAny_pure (wpAny_pure ?_)))))
  have e : seqIndex? k b.size = some k.toNat := by
    unfold seqIndex?
    have hk' : (k.toNat : Int) < b.size := Int.ofNat_lt.mpr hk
    have e1 : (if k < 0 then k + (b.size : Int) else k) = k := if_neg (by omega)
    simp only [e1]
    rw [if_pos]
    simp only [Bool.and_eq_true, decide_eq_true_eq]
    omega
  rw [e]
  dsimp only
  refine wpAny_bind (ba_write ho (by rw [Array.size_setIfInBounds]; exact hz) ?_)
  first
    | exact wpAny_pure ⟨.none, rfl, wpAny_pure h⟩
    | exact wpAny_bind (wpAny_pure (wpAny_pure ⟨.none, rfl, wpAny_pure h⟩))
theorem ba_bytes {a : Addr} {b : Array UInt8} {Q : Value → Shared → Prop} (ho : s.heap.get? a = some (baObj b)) (hz : b.size ≤ sizeLine)
    (h : ∀ t k, Q (.bytes b t) { s with toks := k }) : wpAny (model prog w) A (call (.type "bytes") [.ref a]) Q E s := by
  have hT := typeIs_ba ho
  refine callType_codes (Q₁ := fun obj s₁ => s₁.TypeIs obj "bytes" ∧ Q obj s₁) F.bm_called (F.bm_typeCall _) F.entry_object_init ?_ fun obj s₁ h₁ => ?_
  · refine codeAny_of_tree ?_
    show wpAny _ _ (do checkBuiltinCall "bytes.__new__" ⟨[.type "bytes", .ref a], []⟩; again (.builtin "bytes.__new__" ⟨[.type "bytes", .ref a], []⟩)) _ _ s
    refine wpAny_bind (wpAny_of_eq (F.bm_newCall _) (wpAny_pure ⟨plainId_quiet F.bm_plain _, codeAny_builtin F.bm_entry ?_⟩))
    rw [Around.under_plainId F.bm_plain _]
    unfold Builtin.«bytes.__new__»
    refine wpAny_bind (wpAny_of_eq (a := true) rfl ?_)
    refine bm_if_false rfl ?_
    refine wpAny_bind (wpAny_of_eq F.bm_sub ?_)
    refine bm_if_false rfl ?_
    refine wpAny_bind (wpAny_of_eq (F.bm_bind _) ?_)
    refine wpAny_bind (wpAny_of_eq (a := ()) rfl ?_)
    refine wpAny_bind (wpAny_of_eq (a := ()) rfl ?_)
    refine bm_if_false rfl ?_
    refine wpAny_bind (wpAny_specialOf hT Fa.noBytes ?_)
    refine wpAny_bind (wpAny_bind ?_)
    show wpAny _ _ (load a >>= _) _ _ _
    refine wpAny_bind (wpAny_load ho ?_)
    refine wpAny_pure (wpAny_pure ?_)
    refine bm_if_false rfl ?_
    refine wpAny_bind (wpAny_specialOf hT Fa.noIndex ?_)
    refine bm_if_true rfl ?_
    first
      | show wpAny _ _ (Builtin.Bytes.buffer? "bytes.__new__" (.ref a) true >>= _) _ _ _
      | (refine wpAny_bind ?_; show wpAny _ _ (Builtin.Bytes.buffer? "bytes.__new__" (.ref a) true >>= _) _ _ _)
    refine wpAny_bind ?_
    unfold Builtin.Bytes.buffer?
    refine wpAny_bind (wpAny_specialOf hT Fa.lookup_buffer ?_)
    dsimp only
    unfold Builtin.Bytes.slotIsOwn
    refine wpAny_bind (wpAny_bind (wpAny_specialOf hT Fa.lookup_buffer ?_))
    dsimp only
    rw [ends_buffer, drop_buffer]
    simp only [Bool.not_true, Bool.false_eq_true, if_false]
    refine wpAny_isInstance hT Fa.sub ?_
    simp only [Bool.not_true, Bool.false_eq_true, if_false]
    refine wpAny_bind (wpAny_specialOf hT Fa.lookup_buffer ?_)
    show wpAny _ _ (Builtin.Bytes.ownRelease (.ref a) >>= _) _ _ _
    refine wpAny_bind (slotOwn_release ho ?_)
    refine bm_if_false rfl ?_
    unfold Builtin.Bytes.payload Builtin.Bytes.payload?
    refine wpAny_bind (wpAny_bind (wpAny_bind (wpAny_load ho (wpAny_pure (wpAny_pure (wpAny_pure ?_))))))
    dsimp only
    refine wpAny_bind (wpAny_rule ?_)
    refine wpAny_bind (wpAny_mkBytes ?_ hz)
    show wpAny _ _ (if (Value.type "bytes" == Value.type "bytes") = true then _ else _) _ _ _
    refine bm_if_true (by decide) ?_
    first
      | exact wpAny_pure ⟨PySem.W.typeIs_bytes _ _ _, h _ _⟩
      | exact wpAny_bind (wpAny_pure (wpAny_pure ⟨PySem.W.typeIs_bytes _ _ _, h _ _⟩))
  · exact ⟨h₁.1, F.args_object_init_2 obj _, object_init_meets F.bm_called.init.lookup F.bm_called.made (by decide) prog w A.in1 _ s₁ ⟨h₁.1, rfl, h₁.2⟩⟩

variable {h₀ : Heap} {L : Addr} {m : Str → Option Value} {news news' : List (Addr × Obj)}
theorem call_bytearray_K {n : Int} {t : Tok} {Q : Value → Shared → Prop} (F : Fr h₀ L s.heap m) (N : News h₀ L s.heap news) (h0 : 0 ≤ n) (hz : n.toNat ≤ sizeLine)
    (h : ∀ a h' tk, Fr h₀ L h' m → News h₀ L h' ((a, baObj (Array.replicate n.toNat 0)) :: news) → (∀ p ∈ news, p.1 < a) → Q (.ref a) { s with heap := h', toks := tk }) :
    wpS (model prog w) A (call (.type "bytearray") [.int n t]) Q E s := by
  refine call_bytearray h0 hz fun h' h1 h2 tk => h _ h' tk (F.grownK h2) (fun p hp => ?_) fun p hp => Heap.lt_size (N p hp).1
  rcases List.mem_cons.mp hp with rfl | hp
  · exact ⟨h1, Nat.ne_of_gt F.ns.lt, next_is_new F⟩
  · exact N.grown h2 p hp
theorem ba_set_K {a : Addr} {b : List UInt8} {k v : Int} {t u : Tok} {Q : Unit → Shared → Prop} (F : Fr h₀ L s.heap m) (N : News h₀ L s.heap news) (U : Upd a (baObj b.toArray) (baObj (b.set k.toNat v.toNat.toUInt8).toArray) news news')
    (h0 : 0 ≤ k) (hk : k < b.length) (hz : b.length ≤ 1000000) (hv : 0 ≤ v) (hv' : v < 256)
    (h : ∀ h', Fr h₀ L h' m → News h₀ L h' news' → Q () { s with heap := h' }) :
    wpAny (model prog w) A (setItem (.ref a) (.int k t) (.int v u)) Q E s := by
  obtain ⟨pre, post, rfl, rfl, e1, e2⟩ := U.split
  have z := N (a, baObj b.toArray) (List.mem_append.mpr (.inr (.head _)))
  refine ba_setItem z.1 h0 (by rw [List.size_toArray]; omega) (by rw [List.size_toArray]; exact Nat.le_trans hz (by decide)) hv hv' ?_
  obtain ⟨F', N'⟩ := news_upd (f := Obj.mapBytearray (·.setIfInBounds k.toNat v.toNat.toUInt8)) (o' := baObj (b.set k.toNat v.toNat.toUInt8).toArray) F N e1 e2 (by simp [Obj.mapBytearray, baObj]) rfl
  exact h _ F' N'
theorem bytes_item {value slice : PySem.Expr} {l : List UInt8} {i : Int} {t u : Tok} {Q : Value → Shared → Prop} (hz : l.length ≤ 1000000) (h0 : 0 ≤ i) (h1 : i < l.length)
    (h : Q (.int (l.getD i.toNat 0).toNat s.toks) { s with toks := s.toks + 1 })
    (hs : subscripted slice false (.bytes l.toArray t) (.int i u) = operate [.bytes l.toArray t, .int i u] (getItem (.bytes l.toArray t) (.int i u)) := by with_unfolding_all rfl) :
    wpAny (model prog w) A (subscriptTail value slice (.bytes l.toArray t) (.int i u)) Q E s :=
  subscriptTail_builtin (typeIs_bytes _ _ _) FB.slot_bytes_getitem.lookup (getItem_bytes (Nat.le_trans hz (by decide)) h0 h1 h) hs (by intro r; unfold letTemporaryGo; split <;> first | rfl | contradiction)
theorem bytes_cut {value slice : PySem.Expr} {b : List UInt8} {t : Tok} {l u : Value} {lo hi : Option Int} {Q : Value → Shared → Prop} (hF : Fr h₀ L s.heap m) (hN : News h₀ L s.heap news) (hl : IsPart l lo) (hu : IsPart u hi) (hz : b.length ≤ 1000000)
    (h : ∀ h' t' k, Fr h₀ L h' m → News h₀ L h' news → Q (.bytes ((b.drop (lo.elim 0 (clipAt b.length))).take (hi.elim b.length (clipAt b.length) - lo.elim 0 (clipAt b.length))).toArray t') { s with heap := h', toks := k })
    (hs : subscripted slice false (.bytes b.toArray t) (.ref s.heap.objs.size) = operate [.ref s.heap.objs.size, .bytes b.toArray t] (getItem (.bytes b.toArray t) (.ref s.heap.objs.size)) := by with_unfolding_all rfl)
    (ht : ∀ r, letTemporaryGo value (.bytes b.toArray t) r = pure () := by intro _; with_unfolding_all rfl) :
    wpAny (model prog w) A (subscriptTail value slice (.bytes b.toArray t) (.ref s.heap.objs.size)) Q E { s with heap := s.heap.push { cls := .type "slice", data := .fields #[l, u, .none] } } := by
  refine KBc.slice_K (ks := KBw.bInts b.toArray) hF hN rfl hl hu (by rw [KBw.ints_length, List.size_toArray]; omega) (fun h' t' k F' N' _ => ?_) hs ht
  rw [KBc.picked_eq]
  simp only [List.size_toArray]
  exact h h' t' k F' N'
end

/-! ## what _byteswap gives -/
def swapAt (b : List UInt8) (n k : Nat) : UInt8 := b.getD (k / n * n + (n - 1 - k % n)) 0
def swapL (b : List UInt8) (n : Nat) : List UInt8 := (List.range b.length).map (swapAt b n)
/-- after i whole words and j octets of the next one -/
def swapTo (b : List UInt8) (n i j : Nat) : List UInt8 := (List.range b.length).map fun k => if k < i * n ∨ (i * n + n - j ≤ k ∧ k < i * n + n) then swapAt b n k else 0
theorem swapTo_length (b : List UInt8) (n i j : Nat) : (swapTo b n i j).length = b.length := by simp [swapTo]
theorem swapL_length (b : List UInt8) (n : Nat) : (swapL b n).length = b.length := by simp [swapL]
theorem swapTo_zero (b : List UInt8) (n : Nat) : swapTo b n 0 0 = List.replicate b.length 0 := by
  apply List.ext_getElem
  · simp [swapTo]
  · intro k h1 h2
    simp only [swapTo, List.getElem_map, List.getElem_range, List.getElem_replicate]
    rw [if_neg (by omega)]
theorem swapTo_next (b : List UInt8) (n i : Nat) : swapTo b n i n = swapTo b n (i + 1) 0 := by
  apply List.ext_getElem
  · simp [swapTo]
  · intro k h1 h2
    simp only [swapTo, List.getElem_map, List.getElem_range]
    have e : (i + 1) * n = i * n + n := Nat.succ_mul i n
    rw [e]
    by_cases h : k < i * n + n
    · rw [if_pos (by omega), if_pos (by omega)]
    · rw [if_neg (by omega), if_neg (by omega)]
theorem swapTo_all (b : List UInt8) (n q : Nat) (h : b.length = q * n) : swapTo b n q 0 = swapL b n := by
  apply List.ext_getElem
  · simp [swapTo, swapL]
  · intro k h1 h2
    simp only [swapTo, swapL, List.getElem_map, List.getElem_range]
    rw [swapTo_length] at h1
    rw [if_pos (by omega)]
theorem swapTo_set (b : List UInt8) (n i j : Nat) (hn : 0 < n) (hj : j < n) (hi : i * n + n ≤ b.length) :
    (swapTo b n i j).set (i * n + n - 1 - j) (b.getD (i * n + j) 0) = swapTo b n i (j + 1) := by
  apply List.ext_getElem
  · simp [swapTo]
  · intro k h1 h2
    rw [List.getElem_set]
    simp only [swapTo, List.getElem_map, List.getElem_range]
    by_cases h : i * n + n - 1 - j = k
    · rw [if_pos h, if_pos (by omega)]
      have e : k = i * n + (n - 1 - j) := by omega
      have e1 : k / n = i := by rw [e, Nat.mul_comm, Nat.mul_add_div hn, Nat.div_eq_of_lt (by omega), Nat.add_zero]
      have e2 : k % n = n - 1 - j := by rw [e, Nat.mul_comm, Nat.mul_add_mod, Nat.mod_eq_of_lt (by omega)]
      unfold swapAt
      rw [e1, e2]
      congr 1
      omega
    · rw [if_neg h]
      by_cases h' : k < i * n ∨ i * n + n - j ≤ k ∧ k < i * n + n
      · rw [if_pos h', if_pos (by omega)]
      · rw [if_neg h', if_neg (by omega)]
end Mine
set_option maxRecDepth 100000
set_option Elab.async false
open PySem PySem.W PySem.Calls PyProof.Rows
namespace Mine
/-! ## comprehensions over any source, by the ledger -/
section
variable {prog : Program} {w : World} {A : Around} {E : Value → Shared → Prop} {s : Shared} {env : Env} {h₀ : Heap} {L : Addr} {m : Str → Option Value} {news : List (Addr × Obj)}
/-- what the source of a comprehension must give -/
def CompAt (prog : Program) (w : World) (A : Around) (env : Env) (scope : Scope) (cl : List (Str × Addr)) (x : Str) (ifs : List Expr) (elt : Expr) (p : Value → Bool) (G : Value → Value → Prop) (Q : Value → Shared → Prop) (it : Value) (s₂ : Shared) : Prop :=
  ∃ I fp wr n P St, it = .ref I ∧ Walks prog w A I fp wr n P St ∧ n ≤ sizeLine ∧ St 0 s₂.heap ∧ (∀ b ∈ fp, b < s₂.heap.objs.size) ∧
      QuietOnC prog w A env scope cl x ifs elt wr P p G s₂ ∧
      (∀ D h' tk ys (vs : List Value), s₂.heap.get? D = none → h'.IsList D ys → h'.PlainList D ys → vs.length = n → (∀ j v, vs[j]? = some v → P j v) → Paired G (vs.filter p) ys.toList →
        (∀ b o, b ∉ wr → s₂.heap.get? b = some o → h'.get? b = some o) → Q (.ref D) { s₂ with heap := h', toks := tk })
theorem comp_any {elt iter : Expr} {x : Str} {px : Pos} {ifs : List Expr} {scope : Scope} {cl : List (Str × Addr)} {pos : Pos} {Q : Value → Shared → Prop} (p : Value → Bool) (G : Value → Value → Prop)
    (hclos : closureFor scope env = pure cl) (hcell : ∀ y ∈ scope.names, y.2 ≠ .cell) (hkind : scope.kind = .function)
    (hnames : ∀ y ∈ scope.names, y.2 = .local → scope.names.lookup y.1 = some .local) (hx : scope.names.lookup x = some .local)
    (h : wpAny (model prog w) A (eval iter env) (fun xv s₁ => wpAny (model prog w) A (pyIter xv) (CompAt prog w A env scope cl x ifs elt p G Q) E s₁) E s)
    (hs : ∀ x, foldedSetIterable iter env x = pure x := by intro _; rfl) :
    wpAny (model prog w) A (eval (.ListComp elt [⟨.Name x px, iter, ifs, 0⟩] scope pos) env) Q E s :=
  wpAny_ListComp_free p G hclos hcell hkind hnames hx h hs
theorem comp_at {I : Addr} {fp wr : List Addr} {n : Nat} {P : Nat → Value → Prop} {St : Nat → Heap → Prop} {scope : Scope} {cl : List (Str × Addr)} {x : Str} {ifs : List Expr} {elt : Expr} {p : Value → Bool} {G : Value → Value → Prop} {Q : Value → Shared → Prop}
    (W : Walks prog w A I fp wr n P St) (hn : n ≤ sizeLine) (hst : St 0 s.heap) (hfp : ∀ b ∈ fp, b < s.heap.objs.size)
    (hwr : ∀ b ∈ wr, h₀.get? b = none ∧ b ≠ L ∧ ∀ q ∈ news, q.1 ≠ b) (F : Fr h₀ L s.heap m) (N : News h₀ L s.heap news)
    (tests : ∀ C i v s₃ m₃ E', P i v → s₃.heap.Ns C m₃ → m₃ x = some v → Fr h₀ L s₃.heap m → News h₀ L s₃.heap news →
      wpAny (model prog w) A (forIn ifs true fun c r => if r = true then do let ok ← isTrue c (compEnvC scope cl C env) (eval c (compEnvC scope cl C env)); pure (ForInStep.yield ok) else pure (ForInStep.yield r))
        (fun ok s₄ => ok = p v ∧ Keeps s₃ s₄) E' s₃)
    (elts : ∀ C i v s₃ m₃ E', P i v → p v = true → s₃.heap.Ns C m₃ → m₃ x = some v → Fr h₀ L s₃.heap m → News h₀ L s₃.heap news →
      wpAny (model prog w) A (eval elt (compEnvC scope cl C env)) (fun y s₄ => G v y ∧ Keeps s₃ s₄) E' s₃)
    (h : ∀ (D : Addr) (k : Nat) (ys vs : List Value) (h' : Heap) (tk : Nat), Fr h₀ L h' m → News h₀ L h' ((D, listOf (List.toArray ys) k) :: news) → (∀ q ∈ news, q.1 ≠ D) → vs.length = n → (∀ j v, vs[j]? = some v → P j v) → Paired G (vs.filter p) ys → Q (.ref D) { s with heap := h', toks := tk }) :
    CompAt prog w A env scope cl x ifs elt p G Q (.ref I) s := by
  have grow : ∀ h' : Heap, (∀ b o, b ∉ wr → s.heap.get? b = some o → h'.get? b = some o) → Fr h₀ L h' m ∧ News h₀ L h' news := fun h' hk =>
    ⟨⟨F.ns.at' fun o e => hk _ o (fun q => (hwr _ q).2.1 rfl) e, fun b o e => hk b o (fun q => by rw [(hwr _ q).1] at e; cases e) (F.keep b o e), F.above⟩,
      fun q hq => ⟨hk _ _ (fun z => (hwr _ z).2.2 q hq rfl) (N q hq).1, (N q hq).2⟩⟩
  refine ⟨I, fp, wr, n, P, St, rfl, W, hn, hst, hfp, ⟨?_, ?_⟩, ?_⟩
  · intro C i v s₃ m₃ E' _ hP hns hm hk _
    obtain ⟨F₃, N₃⟩ := grow _ hk
    exact tests C i v s₃ m₃ E' hP hns hm F₃ N₃
  · intro C i v s₃ m₃ E' _ hP hp hns hm hk _
    obtain ⟨F₃, N₃⟩ := grow _ hk
    exact elts C i v s₃ m₃ E' hP hp hns hm F₃ N₃
  · intro D h' tk ys vs hD _ hpl hlen hP hG hk
    obtain ⟨F₃, N₃⟩ := grow _ hk
    obtain ⟨k, hk'⟩ := hpl
    have hne : ∀ q ∈ news, q.1 ≠ D := fun q hq z => by have := (N q hq).1; rw [z, hD] at this; cases this
    refine h D k ys.toList vs h' tk F₃ (fun q hq => ?_) hne hlen hP hG
    rcases List.mem_cons.mp hq with rfl | hq
    · refine ⟨?_, ?_, ?_⟩
      · show h'.get? D = some (listOf ys.toList.toArray k)
        rw [Array.toArray_toList]; exact hk'
      · intro z
        obtain ⟨o, es, ep, ho, _⟩ := F.ns
        rw [← z, hD] at ho; cases ho
      · cases z : h₀.get? D with
        | none => rfl
        | some o => have := F.keep D o z; rw [hD] at this; cases this
    · exact N₃ q hq

theorem comp_bytes {b : List UInt8} {t : Tok} {scope : Scope} {cl : List (Str × Addr)} {x : Str} {ifs : List Expr} {elt : Expr} {p : Value → Bool} {G : Value → Value → Prop} {Q : Value → Shared → Prop} (hh : A.handled = none)
    (hz : b.length ≤ 1000000) (F : Fr h₀ L s.heap m) (N : News h₀ L s.heap news)
    (tests : ∀ C v s₃ m₃ E', (∃ c u, c ∈ b ∧ v = .int (c.toNat : Int) u) → s₃.heap.Ns C m₃ → m₃ x = some v → Fr h₀ L s₃.heap m → News h₀ L s₃.heap news →
      wpAny (model prog w) A (forIn ifs true fun c r => if r = true then do let ok ← isTrue c (compEnvC scope cl C env) (eval c (compEnvC scope cl C env)); pure (ForInStep.yield ok) else pure (ForInStep.yield r))
        (fun ok s₄ => ok = p v ∧ Keeps s₃ s₄) E' s₃)
    (elts : ∀ C v s₃ m₃ E', (∃ c u, c ∈ b ∧ v = .int (c.toNat : Int) u) → p v = true → s₃.heap.Ns C m₃ → m₃ x = some v → Fr h₀ L s₃.heap m → News h₀ L s₃.heap news →
      wpAny (model prog w) A (eval elt (compEnvC scope cl C env)) (fun y s₄ => G v y ∧ Keeps s₃ s₄) E' s₃)
    (h : ∀ (D : Addr) (k : Nat) (ys vs : List Value) (h' : Heap) (tk : Nat), Fr h₀ L h' m → News h₀ L h' ((D, listOf (List.toArray ys) k) :: news) → (∀ q ∈ news, q.1 ≠ D) → IntsAre vs (b.map fun c => (c.toNat : Int)) → Paired G (vs.filter p) ys → Q (.ref D) { s with heap := h', toks := tk }) :
    wpAny (model prog w) A (pyIter (.bytes b.toArray t)) (CompAt prog w A env scope cl x ifs elt p G Q) E s := by
  refine KBw.pyIter_bytes ?_
  have hmem : ∀ {i : Nat} {c : UInt8}, b.toArray[i]? = some c → c ∈ b := fun {i c} e => List.mem_of_getElem? (by simpa using e)
  refine comp_at (KBw.walks hh s.heap.objs.size b.toArray t) (by rw [List.size_toArray]; exact Nat.le_trans hz (by decide)) ⟨_, Heap.get?_push_size _ rfl, rfl, rfl⟩ ?_ ?_ (F.push _) (fun q hq => ⟨Heap.get?_push_of_some _ (N q hq).1, (N q hq).2⟩) ?_ ?_ ?_
  · intro q hq
    rw [List.mem_singleton.mp hq, Heap.size_push]; exact Nat.lt_succ_self _
  · intro q hq
    rw [List.mem_singleton.mp hq]
    exact ⟨next_is_new F, Nat.ne_of_gt F.ns.lt, fun z hz => Nat.ne_of_lt (Heap.lt_size (N z hz).1)⟩
  · rintro C i v s₃ m₃ E' ⟨c, u, hc, rfl⟩
    exact tests C _ s₃ m₃ E' ⟨c, u, hmem hc, rfl⟩
  · rintro C i v s₃ m₃ E' ⟨c, u, hc, rfl⟩
    exact elts C _ s₃ m₃ E' ⟨c, u, hmem hc, rfl⟩
  · intro D k ys vs h' tk F' N' hne hlen hP hG
    refine h D k ys vs h' tk F' N' hne ?_ hG
    rw [List.size_toArray] at hlen
    clear hG N' F' hne h elts tests F N
    induction vs generalizing b with
    | nil => cases b with
      | nil => exact .nil
      | cons c b => simp at hlen
    | cons v vs ih =>
      cases b with
      | nil => simp at hlen
      | cons c b =>
        obtain ⟨c', u, hc, rfl⟩ := hP 0 v rfl
        simp only [List.getElem?_toArray, List.getElem?_cons_zero, Option.some.injEq] at hc
        subst hc
        refine .cons _ _ (ih (b := b) (by simp at hz; omega) (fun {i c} e => List.mem_of_getElem? (by simpa using e)) (by simpa using hlen) fun j v hj => ?_)
        obtain ⟨c', u', hc', e⟩ := hP (j + 1) v (by simpa using hj)
        exact ⟨c', u', by simpa using hc', e⟩
end
end Mine
set_option maxRecDepth 100000
set_option Elab.async false
open PySem PySem.W PySem.Calls PyProof.Rows
namespace Mine
/-! ## list(bytes) -/
section
variable {prog : Program} {w : World} {A : Around} {E : Value → Shared → Prop} {s : Shared}
theorem bytes_len_look : typeLookup (.type "bytes") "__len__" = pure (some (.builtin "bytes.__len__")) := by rw [typeLookup_type, builtinLookup_eq_fast]; kernel_rfl
def OctAt (b : Array UInt8) (i : Nat) (v : Value) : Prop := ∃ c u, b[i]? = some c ∧ v = .int (c.toNat : Int) u
theorem extend_bytes {R : Result → Shared → Prop} (hh : A.handled = none) (b : Array UInt8) (t : Tok) (S : Addr) (res : Value) (c₀ : Nat) (hS : s.heap.get? S = some { cls := .type "list", data := .seq #[] c₀ })
    (hR : ∀ h' tk acc' c', (∀ b o, b ≠ S → s.heap.get? b = some o → h'.get? b = some o) → h'.get? S = some { cls := .type "list", dict := none, data := .seq acc' c', slots := #[] } →
      ItemsOf (OctAt b) acc' b.size → R (.ok (.ret res)) { s with heap := h', toks := tk }) (hn : b.size ≤ sizeLine) :
    wpAny (model prog w) A.in1 (Builtin.List.listExtendWith (.ref S) (.bytes b t) res)
      (fun fin s' => match fin with | .done f => R (.ok f) s' | .again c' => c'.quiet = true ∧ codeAny (model prog w) A c' R s') (fun e s' => R (.error e) s') s := by
  have hSI : S ≠ s.heap.objs.size := Nat.ne_of_lt (Heap.lt_size hS)
  have hSf : S ∉ [s.heap.objs.size] := fun hm => hSI (List.mem_singleton.mp hm)
  unfold Builtin.List.listExtendWith
  refine wpAny_bind (wpAny_typeOf (T := "bytes") (v := .bytes b t) rfl ?_)
  have h1 : Builtin.List.listSameRef (.ref S) (.bytes b t) = false := rfl
  have h2 : (Value.type "bytes" == Value.type "list") = false := by decide
  have h3 : (Value.type "bytes" == Value.type "tuple") = false := by decide
  simp only [h1, h2, h3, Bool.or_false, Bool.false_eq_true, if_false]
  refine wpAny_bind (KBw.pyIter_bytes ?_)
  refine wpAny_bind (wpAny_holding ?_)
  unfold Builtin.List.listLengthHint
  refine wpAny_bind (wpAny_specialOf (T := "bytes") (v := .bytes b t) rfl bytes_len_look ?_)
  wp_delta
  refine wpAny_bind (wpAny_isInstance (T := "bytes") (v := .bytes b t) (b := true) rfl (by rw [isSubtype_type]; kernel_rfl) ?_)
  show wpAny _ _ (typeOf (Value.bytes b t) >>= _) _ _ _
  refine wpAny_bind (wpAny_typeOf (T := "bytes") (v := .bytes b t) rfl ?_)
  refine wpAny_pure ?_
  rw [if_neg (by decide)]
  refine wpAny_pure ⟨plainId_quiet F.plain_extend_loop _, codeAny_extend_loopS (KBw.walks (A := A.in1) hh s.heap.objs.size b t).toS hn _ hSf _ b.size 0 _ _ _ rfl (Nat.zero_le _) ⟨_, Heap.get?_push_size _ rfl, rfl, rfl⟩ (Heap.get?_push_of_some _ hS) (ItemsOf.nil _) fun s' acc' c' hm hS' hacc => ?_⟩
  rw [Moved.eq_with hm]
  refine hR s'.heap s'.toks acc' c' (fun b ob hb e => hm.heap b ob (fun hmem => ?_) (Heap.get?_push_of_some _ e)) hS' hacc
  rcases List.mem_cons.mp hmem with e' | hmem
  · exact hb e'
  · exact absurd (Heap.lt_size e) (by rw [List.mem_singleton.mp hmem]; exact Nat.lt_irrefl _)
theorem init_bytes {R : Result → Shared → Prop} (hh : A.handled = none) (x : Array UInt8) (t : Tok) (S : Addr) (hS : s.heap.get? S = some { cls := .type "list", data := .seq #[] })
    (hR : ∀ h' tk acc' c', (∀ b o, b ≠ S → s.heap.get? b = some o → h'.get? b = some o) → h'.get? S = some { cls := .type "list", dict := none, data := .seq acc' c', slots := #[] } →
      ItemsOf (OctAt x) acc' x.size → R (.ok (.ret .none)) { s with heap := h', toks := tk }) (hn : x.size ≤ sizeLine) :
    wpAny (model prog w) A.in1 (Builtin.«list.__init__» ⟨[.ref S, .bytes x t], []⟩)
      (fun fin s' => match fin with | .done f => R (.ok f) s' | .again c' => c'.quiet = true ∧ codeAny (model prog w) A c' R s') (fun e s' => R (.error e) s') s := by
  show wpAny _ _ (do let old ← Builtin.List.listItems (.ref S); Builtin.List.listUpdate (.ref S) (fun _ => #[]); letGo old.toList.reverse; Builtin.List.listExtendWith (.ref S) (.bytes x t) .none) _ _ s
  refine wpAny_bind ?_
  unfold Builtin.List.listItems
  refine wpAny_bind (wpAny_seqItems hS rfl (wpAny_pure ?_))
  show wpAny _ _ (updateSeq S (fun _ => #[]) >>= fun _ => letGo (#[] : Array Value).toList.reverse >>= fun _ => Builtin.List.listExtendWith (.ref S) (.bytes x t) .none) _ _ s
  refine wpAny_bind (wpAny_updateSeq hS rfl ?_)
  have hS₂ := Heap.get?_update_self (Obj.mapSeq (fun _ => (#[] : Array Value))) hS rfl
  have oth : ∀ b o, b ≠ S → s.heap.get? b = some o → (s.heap.update S (Obj.mapSeq (fun _ => (#[] : Array Value)))).get? b = some o :=
    fun b o hb e => (Heap.get?_update_other _ _ (Ne.symm hb)).trans e
  refine wpAny_bind (wpAny_letGo ?_)
  refine extend_bytes (hn := hn) hh x t S .none _ hS₂ fun h' tk acc' c' hk hS' hacc => ?_
  exact hR h' tk acc' c' (fun b o hb e => hk b o hb (oth b o hb e)) hS' hacc
theorem ints_of_items {l : List UInt8} {acc : Array Value} (h : ItemsOf (OctAt l.toArray) acc l.toArray.size) : IntsAre acc.toList (l.map fun c => (c.toNat : Int)) := by
  have hlen : acc.toList.length = l.length := by simpa using h.1
  have hP : ∀ (j : Nat) (v : Value), acc.toList[j]? = some v → ∃ (c : UInt8) (u : Tok), l[j]? = some c ∧ v = Value.int (c.toNat : Int) u := by
    intro j v hv
    obtain ⟨c, u, hc, e⟩ := h.2 j v (by simpa using hv)
    exact ⟨c, u, by simpa using hc, e⟩
  clear h
  generalize acc.toList = vs at *
  induction vs generalizing l with
  | nil => cases l with
    | nil => exact .nil
    | cons c b => simp at hlen
  | cons v vs ih =>
    cases l with
    | nil => simp at hlen
    | cons c b =>
      obtain ⟨c', u, hc, rfl⟩ := hP 0 v rfl
      simp only [List.getElem?_cons_zero, Option.some.injEq] at hc
      subst hc
      refine .cons _ _ (ih (by simpa using hlen) fun j v hj => ?_)
      obtain ⟨c', u', hc', e⟩ := hP (j + 1) v (by simpa using hj)
      exact ⟨c', u', by simpa using hc', e⟩
variable {h₀ : Heap} {L : Addr} {m : Str → Option Value} {news : List (Addr × Obj)}
theorem list_bytes {l : List UInt8} {t : Tok} {Q : Value → Shared → Prop} (hh : A.handled = none) (F₀ : Fr h₀ L s.heap m) (N : News h₀ L s.heap news) (hn : l.length ≤ 1000000)
    (h : ∀ D k vs h' tk, Fr h₀ L h' m → News h₀ L h' ((D, listOf (List.toArray vs) k) :: news) → (∀ q ∈ news, q.1 < D) → IntsAre vs (l.map fun c => (c.toNat : Int)) → Q (.ref D) { s with heap := h', toks := tk }) :
    wpAny (model prog w) A (call (.type "list") [.bytes l.toArray t]) Q E s := by
  refine callType_codes (Q₁ := fun obj s₁ => obj = .ref s.heap.objs.size ∧ s₁ = { s with heap := s.heap.push { cls := .type "list", data := .seq #[] } }) F.called_list (F.typeCall_list_1 _) F.entry_list_init
    (code_list_new _ ⟨rfl, rfl⟩) fun obj s₁ h₁ => ?_
  obtain ⟨rfl, rfl⟩ := h₁
  have hS : (s.heap.push { cls := .type "list", data := .seq #[] }).get? s.heap.objs.size = some { cls := .type "list", data := .seq #[] } := Heap.get?_push_size _ rfl
  refine ⟨⟨_, hS, rfl⟩, F.args_list_init_2 _ _, init_bytes (A := A.in1) (hn := by rw [List.size_toArray]; exact Nat.le_trans hn (by decide)) hh l.toArray t _ hS fun h' tk acc' c' hk hS' hacc => ?_⟩
  have hk' : ∀ b o, s.heap.get? b = some o → h'.get? b = some o := fun b o e => hk b o (Nat.ne_of_lt (Heap.lt_size e)) (Heap.get?_push_of_some _ e)
  refine ⟨rfl, h s.heap.objs.size c' acc'.toList h' tk (F₀.keeps hk') (fun q hq => ?_) (fun q hq => Heap.lt_size (N q hq).1) (ints_of_items hacc)⟩
  rcases List.mem_cons.mp hq with rfl | hq
  · refine ⟨?_, Nat.ne_of_gt F₀.ns.lt, next_is_new F₀⟩
    show h'.get? _ = some (listOf acc'.toList.toArray c')
    rw [Array.toArray_toList]; exact hS'
  · exact ⟨hk' _ _ (N q hq).1, (N q hq).2⟩
end
end Mine
set_option maxRecDepth 100000
set_option Elab.async false
open PySem PySem.W PySem.Calls PyProof.Rows
namespace Mine

/-! ## the head, for a call that is shown in calm contexts alone -/
def look {α : Type} (good bad : Sem α) : Sem α := .stack fun st => if st.all (fun x => calmCode x.1) = true then good else bad

theorem look_any {α : Type} {M : Model} {A : Around} {Q : α → Shared → Prop} {E : Value → Shared → Prop} {s : Shared} {good bad : Sem α}
    (h : wpS M A good Q E s) (hb : wpAny M A bad Q E s) : wpAny M A (look good bad) Q E s := fun Γ p hΓ => by
  show Sem.wp M Γ (if ((Γ.code, p) :: Γ.below).all (fun x => calmCode x.1) = true then good else bad) _ _ p s
  split
  · rename_i hc
    rw [List.all_cons, Bool.and_eq_true] at hc
    exact h Γ p hΓ ⟨hc.1, fun x hx => List.all_eq_true.mp hc.2 x hx⟩
  · exact hb Γ p hΓ
theorem look_any' {α β : Type} {M : Model} {A : Around} {Q : α → Shared → Prop} {Q' : β → Shared → Prop} {E : Value → Shared → Prop} {s : Shared} {good bad : Sem α} {good' bad' : Sem β}
    (h : wpAny M A (look good bad) Q E s) (hg : ∀ Γ p, Sem.wp M Γ good (fun a _ s' => Q a s') (fun e _ s' => E e s') p s → Sem.wp M Γ good' (fun a _ s' => Q' a s') (fun e _ s' => E e s') p s)
    (hb : ∀ Γ p, Sem.wp M Γ bad (fun a _ s' => Q a s') (fun e _ s' => E e s') p s → Sem.wp M Γ bad' (fun a _ s' => Q' a s') (fun e _ s' => E e s') p s) : wpAny M A (look good' bad') Q' E s := fun Γ p hΓ => by
  have h1 : Sem.wp M Γ (if ((Γ.code, p) :: Γ.below).all (fun x => calmCode x.1) = true then good else bad) (fun a _ s' => Q a s') (fun e _ s' => E e s') p s := h Γ p hΓ
  show Sem.wp M Γ (if ((Γ.code, p) :: Γ.below).all (fun x => calmCode x.1) = true then good' else bad') _ _ p s
  split at h1
  · rename_i hc; rw [if_pos hc]; exact hg Γ p h1
  · rename_i hc; rw [if_neg hc]; exact hb Γ p h1

theorem sched_unlook {prog : Program} {w : World} {t bad : Sem Fin} {s s' : Shared} {n : Nat} {o : Outcome} (hz : s.asleep)
    (h : schedN (denote table) prog w n (.single s ⟨look t bad, .builtin "claim.caller" {}, default, []⟩) = .halted o s') :
    ∃ k, schedN (denote table) prog w k (.single s ⟨t, .builtin "claim.caller" {}, default, []⟩) = .halted o s' := by
  cases n with
  | zero => cases h
  | succ n =>
    refine ⟨n, ?_⟩
    have st : step (denote table) prog w s ⟨look t bad, .builtin "claim.caller" {}, default, []⟩ = .go s ⟨t, .builtin "claim.caller" {}, default, []⟩ := by
      show Step.go s ⟨if ([(Code.builtin "claim.caller" {}, (default : Pos))].all (fun x => calmCode x.1)) = true then t else bad, _, _, _⟩ = _
      rw [if_pos (by decide +kernel)]
    have hc : (⟨look t bad, .builtin "claim.caller" {}, default, []⟩ : Thread).calm = true := by
      have e : (⟨look t bad, .builtin "claim.caller" {}, default, []⟩ : Thread).calm = (⟨.stack fun _ => .pure default, .builtin "claim.caller" {}, default, []⟩ : Thread).calm := rfl
      rw [e]; decide +kernel
    rcases sstep_single (denote table) prog w s ⟨look t bad, .builtin "claim.caller" {}, default, []⟩ hc hz with e | e
    · rw [st] at e
      simp only [schedN, e, Step.lift] at h
      exact h
    · rw [st] at e; cases e

theorem holds_unlook {c : ClaimW} {tree : List Value → Sem Fin} {bad : Sem Fin} {defs keeps : List Str} {writes : Bool}
    (h : c.HoldsOpenBy (fun vs => ⟨look (tree vs) bad, .builtin "claim.caller" {}, default, []⟩) defs keeps writes) :
    c.HoldsOpenBy (fun vs => ⟨tree vs, .builtin "claim.caller" {}, default, []⟩) defs keeps writes := by
  obtain ⟨h1, h2, h3⟩ := h
  refine ⟨h1, h2, fun w => ⟨(h3 w).1, fun s hs => ?_⟩⟩
  obtain ⟨s₀, hf, hg, s₁, hT, a, b, d, hc⟩ := (h3 w).2 s hs
  refine ⟨s₀, hf, hg, s₁, hT, a, b, d, fun args hpre hlay ord hord => ?_⟩
  obtain ⟨vs, s₂, hlaid, n, o, s', hrun, rest⟩ := hc args hpre hlay ord hord
  have hs' : AfterImport (opening c.prog) w s := hs
  have z₂ : s₂.asleep := Shared.asleep_of_life ((layAllW_rest _ _ _ hlaid).2.2.2.trans (hT.2.1.trans (fence_lifeW hf))) hs'.life
  obtain ⟨k, hk⟩ := sched_unlook z₂ hrun
  exact ⟨vs, s₂, hlaid, k, o, s', hk, rest⟩

abbrev WalkS (q : Program) (loose : List Str) (XP : (Str → Option Value) → Heap → Prop) (YP : World → Heap → Prop) (r : RowW) (d : DefRec) (kwd : List (Str × Expr)) : Prop :=
  ∀ (w : World) (s₀ s₁ : Shared) (mg mb : Str → Option Value), Ground q loose r.records XP w s₀ mg mb s₁.heap → YP w s₁.heap → ∀ (a : Addr) (o : Obj) (pm cd doc dV kV : Value), s₁.heap.get? a = some o →
    o.data = .func { docDef d.name d.params d.body d.scope pm cd doc with defaults := dV, kwdefaults := kV } → s₁.heap.CodeRec cd d.name → Dflts mg s₁.heap d.params kwd dV kV → mg d.name = some (.ref a) → s₁.gens = #[] →
    ∀ (args : List WData) (vals : List Value) (as : List Addr), r.claim.pre args = true → WData.layableAll args = true → ReadsAllW r.records (classAt s₀.heap) s₁.heap vals args as → WellAll w.params s₁.heap vals args → (∀ a ∈ as, (a == sysModules) = false) →
      GoodWG r.claim (classAt s₀.heap) (ExcName.means s₀.heap) args s₁ (.ok (.ret (.bool true))) s₁ ∧
      wpS (model r.prog w) callerA (PySem.call (.ref a) vals) (fun v s' => GoodWG r.claim (classAt s₀.heap) (ExcName.means s₀.heap) args s₁ (.ok (.ret v)) s')
        (fun e s' => GoodWG r.claim (classAt s₀.heap) (ExcName.means s₀.heap) args s₁ (.error e) s') s₁

end Mine
open Mine
/-- the head's last step: named as the library's, in a namespace of its own, for the head's line to find it there -/
theorem MineH.PySem.W.holds_open {r : OpenRow} {q : Program} {loose : List Str} {Xt : Shared → Bool} {XP : (Str → Option Value) → Heap → Prop} {α : Type} {Yf : Shared → α} {Ya : World → α} {YP : World → Heap → Prop} {d : DefRec} {kwd : List (Str × Expr)} {N : Nat}
    (left : LeftO r.prog q loose Xt Yf Ya N) (hY : ∀ w s, Yf s = Ya w → YP w s.heap) (hYk : ∀ w h h', YP w h → (∀ b o, h.get? b = some o → h'.get? b = some o) → YP w h')
    (hX : ∀ s, Xt s = true → XP (s.heap.nsMap mainGlobals) s.heap) (hXk : ∀ mg h h', XP mg h → (∀ b o, h.get? b = some o → h'.get? b = some o) → XP mg h')
    (hdef : defOf q r.name = some (d, kwd)) (hp : r.prog.theDef r.name = some (d.params, d.body, d.scope)) (hk : kwWritten? d.params.kwonlyargs d.params.kw_defaults = some kwd) (hRf : ∀ s, Xt s = true → RecFacts r.records s.heap) (hwr : (!r.writes || r.records.isEmpty) = true)
    (k1 : r.wellSaid = true) (ok : (chainsOk q && opensWell r.prog && (frees r.toRowW && r.within.isEmpty)) = true) (hb : r.prog.bare) (hw : r.toRowW.promised)
    (call : WalkS q loose XP YP r.toRowW d kwd) : r.Holds := by
  refine ⟨k1, hw, holds_unlook (bad := ret (.bool true)) (open_anyG (r := r.toRowW) (run := fun f vs => look (PySem.call f vs) (pure (.bool true)))
    (tree := fun vs => look (do match ← nsGet mainNs r.name with
      | some f => do ret (← PySem.call f vs)
      | none => unsupported "claim.caller:no-such-global") (ret (.bool true))) left hY hYk hX hXk hRf hwr ok hb hw
    (fun vs w s mg f Q E hg hf h => look_any' h (fun Γ p h' => ?_) fun Γ p h' => h')
    (fun w s hg G n hn => ?_) fun w s₀ s₁ mg mb G Y args vs as hpre hlay L low => ?_)⟩
  · rw [Sem.wp_bind']
    show Sem.wp _ Γ (nsGet mainGlobals r.name) _ _ p s
    rw [Sem.wp_nsGet _ Γ _ p s hg, hf]
    show Sem.wp _ Γ (PySem.call f vs >>= fun v => ret v) _ _ p s
    rw [Sem.wp_bind']
    exact Sem.wp_mono _ Γ _ (fun _ _ _ x => x) (fun _ _ _ x => x) p s h'
  · obtain rfl : n = r.name := by split at hn <;> simp_all
    exact pinned_of_view hg G hdef hp hk
  · obtain ⟨a, o, pm, cd, doc, dV, kV, h1, h2, h3, h4, h5⟩ := G.fn hdef
    obtain ⟨t, c⟩ := call w s₀ s₁ mg mb G Y a o pm cd doc dV kV h2 h3 h4 h5 (defOf_name hdef ▸ h1) L.gens args vs as hpre hlay L.reads L.well (L.low low)
    exact ⟨.ref a, h1, look_any c (wpAny_pure t)⟩
open PySem PySem.W PyProof.Rows
set_option Elab.async false
set_option maxRecDepth 100000
namespace MineH
set_option maxHeartbeats 8000000 in
open_top hd for PySem.Challenge.rw_ny0470_01
end MineH
set_option maxRecDepth 100000
set_option Elab.async false
open PySem PySem.W PySem.Calls PyProof.Rows
namespace Mine

local macro_rules | `(tactic| walk_at "S") => `(tactic| repeat' (first | (k_unfold; (try dsimp only)) | walk1 | (dsimp only; walk1)))
local macro_rules | `(tactic| walk_at "subscriptTail") => `(tactic| (k_here; (with_reducible show wpAny _ _ (subscriptTail _ _ (Value.bytes (List.toArray _) _) (Value.int _ _)) _ _ _); refine bytes_item (by omega) (by omega) (by omega) ?_))

theorem rangeSize_step {n : Nat} {k q : Nat} (hn : 1 ≤ n) (h : k = q * n) : Builtin.Range.rangeSize 0 (k : Int) (n : Int) = (q : Int) := by
  unfold Builtin.Range.rangeSize
  rw [if_pos (by omega)]
  subst h
  cases q with
  | zero => simp
  | succ q =>
    have hpos : 0 < (q + 1) * n := Nat.mul_pos (Nat.succ_pos q) hn
    rw [if_pos (by omega)]
    have e : (((q + 1) * n : Nat) : Int) - 0 - 1 = (n : Int) * q + (n - 1 : Nat) := by
      rw [Nat.succ_mul]; push_cast [hn]; rw [Int.mul_comm]; omega
    rw [e, Int.mul_add_ediv_left _ _ (by omega), Int.ediv_eq_zero_of_lt (by omega) (by omega)]
    omega
theorem rangeSize_one {n : Nat} : Builtin.Range.rangeSize 0 (n : Int) 1 = (n : Int) := by
  unfold Builtin.Range.rangeSize
  rw [if_pos (by omega)]
  cases n with
  | zero => simp
  | succ n => rw [if_pos (by omega)]; omega

theorem small_of {a b c : Int} {n : Nat} (h : Builtin.Range.rangeSize a b c = (n : Int)) (ha : -1000000000 ≤ a) (ha' : a ≤ 1000000000) (hb : -1000000000 ≤ b) (hb' : b ≤ 1000000000) (hc : -1000000000 ≤ c) (hc' : c ≤ 1000000000) (hn : n ≤ 1000000000) :
    Builtin.Range.small a b c = true := by
  unfold Builtin.Range.small Builtin.Range.rangeFitsLong
  rw [h]
  simp only [Bool.and_eq_true, Bool.or_eq_true, decide_eq_true_eq]
  refine ⟨⟨⟨⟨?_, ?_⟩, ?_⟩, ?_⟩, .inr ?_⟩
  · omega
  · omega
  · omega
  · omega
  · split <;> simp only [Bool.and_eq_true, decide_eq_true_eq] <;> omega

set_option maxHeartbeats 4000000 in
theorem byteswap_S {prog : Program} {w : World} {p : Program} {loose : List Str} {mean : ExcName → Option Value} {mg mb : Str → Option Value}
    {dp un : Nat} {gd : Option (List Code)} {cn : Str} {cs : Scope} {a : Addr} {ccd : Value} {cl : List (Str × Addr)} {outer : List Env} {A₀ : Around} {base h₀ : Heap} {L : Addr} {m : Str → Option Value} {news : List (Addr × Obj)} {s : Shared}
    {b : List UInt8} {n : Nat} {t₁ t₂ : Tok} {Q E : Value → Shared → Prop}
    (B : Below A₀ base outer h₀) (F : Fr h₀ L s.heap m) (X : (MineH.hd.heap_39 w.params).In h₀) (N : News h₀ L s.heap news) (T : Top p loose mean mg mb h₀) (hk : cs.kind = .function) (hd : dp < recursionLimit)
    (hn : 1 ≤ n) (hdiv : n ∣ b.length) (hz : b.length ≤ 1000) (hn' : n ≤ 1000)
    (hret : ∀ t h' tk', Fr h₀ L h' m → News h₀ L h' news → Q (.bytes (swapL b n).toArray t) { s with heap := h', toks := tk' }) :
    wpS (model prog w) (ktrTop dp un gd cn cs L a ccd cl outer) (call (.ref 21) [.bytes b.toArray t₁, .int n t₂]) Q E s := by
  w_top off
  have hfill : PySem.Challenge.rw_ny0470_01 = PySem.Challenge.rw_ny0470_01 ∧ MineH.hd.heap_39 = MineH.hd.heap_39 := by k_fill; exact ⟨rfl, rfl⟩
  clear hfill
  refine wpS_call ?_
  k_dflt (refine' code_defS (binds := [(Str.ofString "data", .bytes b.toArray t₁), (Str.ofString "width", .int n t₂)]) ?k1 ?k2 ?k3 ?k4 ?k5 ?kA ?kF ?kK ?k6 ?k7 ?k8 ?k9 ?kB ?_ ?c2 ?c3 ?c4 ?c5; (case kA => exact rfl); (case kF => exact rfl); (case kK => assumption); (case k1 => k_asm); (case k2 => k_asm); (case k3 => k_asm); (case k4 => k_asm); (case k5 => k_asm); (case k6 => k_is); (case k7 => k_is); (case k8 => exact hd); (case k9 => exact BindsTo.of_eq rfl); (case c5 => decide); (case kB => exact locs rfl); (case c2 => exact rfl); (case c3 => exact rfl); (case c4 => exact rfl))
  intro g L' h₁ FG F' N' B' X' T' hlt
  clear B F X N T
  obtain ⟨q, hq⟩ := hdiv
  rw [Nat.mul_comm] at hq
  have hfit : b.length ≤ 1099511627776 := by omega
  refine wpS_execs_cons (wpS_Assign_Name (wpS_Call_type (T := "bytearray") ?_))
  k_fold
  walk_at "S"
  refine wpS_any ?_
  k_fold
  walk_at "S"
  refine call_bytearray_K (by k_asm) (by k_asm) (by omega) (by simp only [List.size_toArray, Int.toNat_natCast, sizeLine]; omega) ?_
  intro ab h₂ tk₂ F₂ N₂ hl₂
  k_sweep
  k_fold
  walk_at "S"
  refine wpS_execs_cons (wpS_For (wpS_any ?_))
  k_fold
  walk_at "S"
  rename Fr _ _ _ _ => F₃
  rename News _ _ _ _ => N₃
  rename IsRange _ _ _ _ _ _ _ _ => hr₃
  trace_state
  refine forRangeS (σ := List UInt8 × Option Value) (n := q) rfl hr₃ ?small ?size rfl rfl (fun i c => c.1 = swapTo b n i 0)
    (fun c y => if y = Str.ofString "j" then c.2 else if y = Str.ofString "swapped_data" then some (.ref ab) else List.lookup y [(Str.ofString "data", Value.bytes b.toArray t₁), (Str.ofString "width", Value.int n t₂)].reverse)
    (fun c => (ab, baObj c.1.toArray) :: news) (List.replicate b.length 0, none) F₃ ?led ?mp ?i0 ?turn ?done
  case small => rw [List.size_toArray]; exact small_of (rangeSize_step hn hq) (by omega) (by omega) (by omega) (by omega) (by omega) (by omega) (by have := Nat.le_mul_of_pos_right q hn; omega)
  case size => rw [List.size_toArray]; exact rangeSize_step hn hq
  case led =>
    have e : (List.replicate b.length (0 : UInt8)).toArray = Array.replicate ((b.toArray.size : Nat) : Int).toNat 0 := by simp
    show News g L' _ ((ab, baObj (List.replicate b.length (0 : UInt8)).toArray) :: news)
    rw [e]; exact N₃
  case mp =>
    intro z hz
    by_cases h : z = Str.ofString "j"
    · subst h; rfl
    · rw [if_neg h]
  case i0 => exact (swapTo_zero b n).symm
  case turn =>
    rintro i ⟨cb, jv⟩ I it t h tk hi hc hoff F₄ N₄
    dsimp only at hc
    subst hc
    change Fr g L' _ _ at F₄
    change News g L' _ _ at N₄
    have hin : i * n + n ≤ b.length := by
      rw [hq, ← Nat.succ_mul]; exact Nat.mul_le_mul_right n hi
    have hoff1 : ab ≠ I := hoff _ (List.mem_cons_self ..)
    have hoff2 : ∀ p ∈ news, p.1 ≠ I := fun p hp => hoff p (List.mem_cons_of_mem _ hp)
    have hoff3 : ∀ p ∈ news, p.1 ≠ ab := fun p hp => Nat.ne_of_lt (hl₂ p hp)
    refine wpS_execs_cons (wpS_For (wpS_any ?_))
    k_fold
    walk_at "S"
    rename Fr _ _ _ _ => F₅
    rename News _ _ _ _ => N₅
    rename IsRange _ _ _ _ _ _ _ _ => hr₅
    refine forRangeS (σ := List UInt8) (n := n) rfl hr₅ (small_of rangeSize_one (by omega) (by omega) (by omega) (by omega) (by omega) (by omega) (by omega)) rangeSize_one rfl rfl (fun j c => c = swapTo b n i j)
      (fun c y => if y = Str.ofString "i" then some (.int (0 + (i : Int) * n) t) else if y = Str.ofString "swapped_data" then some (.ref ab) else List.lookup y [(Str.ofString "data", Value.bytes b.toArray t₁), (Str.ofString "width", Value.int n t₂)].reverse)
      (fun c => (I, it) :: (ab, baObj c.toArray) :: news) (swapTo b n i 0) F₅ N₅ ?mp2 ?i02 ?turn2 ?done2
    case mp2 =>
      intro z hz
      by_cases h : z = Str.ofString "i"
      · subst h; rfl
      · rw [if_neg h, if_neg h, if_neg hz]
    case i02 => rfl
    case turn2 =>
      rintro j cb I₂ it₂ tj h₆ tk₆ hj rfl hoff' F₆ N₆
      change Fr g L' _ _ at F₆
      change News g L' _ _ at N₆
      have hoffA : I ≠ I₂ := hoff' _ (List.mem_cons_self ..)
      have hoffB : ab ≠ I₂ := hoff' _ (List.mem_cons_of_mem _ (List.mem_cons_self ..))
      have hjn : ((i * n + j : Nat) : Int) = (i : Int) * n + j := by push_cast; rfl
      have hin' : i * n + j < b.length := by omega
      refine wpS_execs_cons (wpS_any ?_)
      k_fold
      walk_at "S"
      refine ba_set_K (by k_asm) (by k_asm) (.tail (Ne.symm hoffB) (.tail (Ne.symm hoff1) (.head hoff3))) ?_ ?_ ?_ ?_ ?_ ?_
      · omega
      · rw [swapTo_length]; omega
      · rw [swapTo_length]; omega
      · omega
      · have := UInt8.toNat_lt (b.getD (0 + (i : Int) * n + (0 + (j : Int) * 1)).toNat 0); omega
      intro h₈ F₈ N₈
      have e1 : (0 + (i : Int) * n + n - 1 - (0 + (j : Int) * 1)).toNat = i * n + n - 1 - j := by omega
      have e2 : (0 + (i : Int) * n + (0 + (j : Int) * 1)).toNat = i * n + j := by omega
      rw [e1, e2] at N₈
      have e3 : ∀ x : UInt8, ((x.toNat : Nat) : Int).toNat.toUInt8 = x := fun x => by rw [Int.toNat_natCast]; exact UInt8.ofNat_toNat
      rw [e3, swapTo_set b n i j hn hj hin] at N₈
      dsimp only
      refine wpS_execs_nil ?_
      refine TurnEnd.next (swapTo b n i (j + 1)) F₈ N₈ ?_ ?_ rfl
      · intro p hp
        rcases List.mem_cons.mp hp with rfl | hp
        · exact hoffA
        · rcases List.mem_cons.mp hp with rfl | hp
          · exact hoffB
          · exact hoff' p (List.mem_cons_of_mem _ (List.mem_cons_of_mem _ hp))
      intro z hz
      rw [if_neg hz]
    case done2 =>
      rintro cb m₇ h₇ tk₇ rfl F₇ hm₇ N₇
      dsimp only
      refine wpS_execs_nil ?_
      refine TurnEnd.next (swapTo b n (i + 1) 0, m₇ (Str.ofString "j")) F₇ ?_ ?_ ?_ rfl
      · rw [← swapTo_next]; exact N₇
      · intro p hp
        rcases List.mem_cons.mp hp with rfl | hp
        · exact hoff1
        · exact hoff2 p hp
      · intro z hz
        dsimp only
        by_cases h : z = Str.ofString "j"
        · rw [if_pos h, h]
        · rw [if_neg h, hm₇ z h, if_neg hz]
  case done =>
    rintro ⟨cb, jv⟩ m₇ h₇ tk₇ hc F₇ hm₇ N₇
    dsimp only at hc
    subst hc
    rw [swapTo_all b n q hq] at N₇
    change Fr g L' _ _ at F₇
    change News g L' _ _ at N₇
    have e0 : (fun y => if y = Str.ofString "i" then m₇ (Str.ofString "i") else if y = Str.ofString "j" then jv else if y = Str.ofString "swapped_data" then some (Value.ref ab) else List.lookup y [(Str.ofString "data", Value.bytes b.toArray t₁), (Str.ofString "width", Value.int n t₂)].reverse) = m₇ := by
      funext y
      by_cases h : y = Str.ofString "i"
      · rw [if_pos h, h]
      · rw [if_neg h, hm₇ y h]
    rw [← e0] at F₇
    dsimp only
    refine wpS_execs_cons (wpS_Return (wpS_any ?_))
    k_fold
    walk_at "S"
    refine ba_bytes (b := (swapL b n).toArray) (N₇ _ (List.mem_cons_self ..)).1 (by rw [List.size_toArray, swapL_length]; simp only [sizeLine]; omega) fun t k => ?_
    walk_at "S"
    refine leaveK_ (m' := _) (news' := news) F₇ (fun p hp => N₇ p (List.mem_cons_of_mem _ hp)) fun Fb Nb => ?_
    exact hret _ _ _ Fb Nb
end Mine
set_option maxRecDepth 100000
set_option Elab.async false
open PySem PySem.W PySem.Calls PyProof.Rows
namespace Mine

local macro_rules | `(tactic| walk_at "S") => `(tactic| repeat' (first | (k_unfold; (try dsimp only)) | walk1 | (dsimp only; walk1)))

theorem swapL_whole (b : List UInt8) : swapL b (max b.length 1) = b.reverse := by
  apply List.ext_getElem
  · simp [swapL]
  · intro k h1 h2
    rw [swapL_length] at h1
    simp only [swapL, List.getElem_map, List.getElem_range, List.getElem_reverse]
    have e : max b.length 1 = b.length := by omega
    rw [e]
    unfold swapAt
    rw [Nat.div_eq_of_lt h1, Nat.mod_eq_of_lt h1, Nat.zero_mul, Nat.zero_add]
    rw [List.getD_eq_getElem?_getD, List.getElem?_eq_getElem (by omega)]
    rfl

section
variable {prog : Program} {w : World} {p : Program} {loose : List Str} {mean : ExcName → Option Value} {mg mb : Str → Option Value}
  {dp un : Nat} {gd : Option (List Code)} {cn : Str} {cs : Scope} {a : Addr} {ccd : Value} {cl : List (Str × Addr)} {outer : List Env} {A₀ : Around} {base h₀ : Heap} {L : Addr} {m : Str → Option Value} {news : List (Addr × Obj)} {s : Shared} {Q E : Value → Shared → Prop}
  (B : Below A₀ base outer h₀) (F : Fr h₀ L s.heap m) (X : (MineH.hd.heap_39 w.params).In h₀) (N : News h₀ L s.heap news) (T : Top p loose mean mg mb h₀) (hk : cs.kind = .function)
include B F X N T hk
set_option maxHeartbeats 4000000 in
theorem same_S {b : List UInt8} {t₁ : Tok} (hd : dp + 1 < recursionLimit) (hz : b.length ≤ 1000)
    (hret : ∀ h' tk', Fr h₀ L h' m → News h₀ L h' news → Q (.bool (b.reverse == b)) { s with heap := h', toks := tk' }) :
    wpS (model prog w) (ktrTop dp un gd cn cs L a ccd cl outer) (call (.ref 28) [.bytes b.toArray t₁]) Q E s := by
  w_top off
  have hfill : PySem.Challenge.rw_ny0470_01 = PySem.Challenge.rw_ny0470_01 ∧ MineH.hd.heap_39 = MineH.hd.heap_39 := by k_fill; exact ⟨rfl, rfl⟩
  clear hfill
  refine wpS_call ?_
  k_dflt (refine' code_defS (binds := [(Str.ofString "word", .bytes b.toArray t₁)]) ?k1 ?k2 ?k3 ?k4 ?k5 ?kA ?kF ?kK ?k6 ?k7 ?k8 ?k9 ?kB ?_ ?c2 ?c3 ?c4 ?c5; (case kA => exact rfl); (case kF => exact rfl); (case kK => assumption); (case k1 => k_asm); (case k2 => k_asm); (case k3 => k_asm); (case k4 => k_asm); (case k5 => k_asm); (case k6 => k_is); (case k7 => k_is); (case k8 => (exact Nat.lt_of_succ_lt hd)); (case k9 => exact BindsTo.of_eq rfl); (case c5 => decide); (case kB => exact locs rfl); (case c2 => exact rfl); (case c3 => exact rfl); (case c4 => exact rfl))
  intro g L' h₁ FG F' N' B' X' T' hlt
  clear B F X N T
  refine wpS_execs_cons (wpS_Return (wpS_Compare1 (wpS_Call_K (K := MineH.hd.heap_39 w.params) (f := .ref 21) (by k_is) ?_)))
  k_fold
  walk_at "S"
  refine wpS_any ?_
  k_fold
  walk_at "S"
  have e : (if 1 > ((b.toArray.size : Nat) : Int) then (1 : Int) else ((b.toArray.size : Nat) : Int)) = ((max b.length 1 : Nat) : Int) := by
    rw [List.size_toArray]; split <;> omega
  rw [e]
  refine byteswap_S (by k_asm) (by k_asm) (by k_asm) (by k_asm) (by k_asm) rfl hd (by omega) ?_ hz (by omega) fun t h' tk' F₂ N₂ => ?_
  · by_cases h : b.length = 0
    · rw [h]; exact Nat.dvd_zero _
    · rw [show max b.length 1 = b.length by omega]; exact Nat.dvd_refl _
  k_sweep
  refine wpS_any ?_
  k_fold
  walk_at "S"
  refine wpS_any ?_
  k_fold
  walk_at "S"
  refine leaveK_ F₂ N₂ fun Fb Nb => ?_
  rw [swapL_whole]
  exact hret _ _ Fb Nb
end
end Mine
set_option maxRecDepth 100000
set_option Elab.async false
open PySem PySem.W PySem.Calls PyProof.Rows
namespace Mine

local macro_rules | `(tactic| walk_at "S") => `(tactic| repeat' (first | (k_unfold; (try dsimp only)) | walk1 | (dsimp only; walk1)))
local macro_rules | `(tactic| walk_at "mp") => `(tactic| (intro z; (try intro hz); (try dsimp only); (repeat' split) <;> first | rfl | contradiction | (exfalso; subst_vars; (rename (_ : Str) = _ => hq9); exact absurd hq9 (by decide)) | (subst_vars; rfl) | (simp_all; done)))
local macro_rules | `(tactic| walk_at "subscriptTail") => `(tactic| (k_here; (with_reducible show wpAny _ _ (subscriptTail _ _ (Value.bytes (List.toArray _) _) (Value.int _ _)) _ _ _); refine bytes_item (by omega) (by omega) (by omega) ?_))
local macro_rules | `(tactic| walk_at "subscriptTail") => `(tactic| (k_here; (with_reducible show wpAny _ _ (subscriptTail _ (Expr.Slice _ _ none _) (Value.bytes (List.toArray _) _) (Value.ref _)) _ _ _); (with_reducible rename Fr _ _ _ _ => F'); (with_reducible rename News _ _ _ _ => N'); (refine bytes_cut (s := ⟨_, _, _, _, _⟩) F' N' (by constructor) (by constructor) (by omega) ?_); intro _ _ _ _ _; (try k_sweep)))
local macro_rules | `(tactic| walk_at "binaryOp Add bytes bytes") => `(tactic| (k_here; (with_reducible show wpAny _ _ (binaryOp Operator.Add (Value.bytes (List.toArray _) _) (Value.bytes (List.toArray _) _)) _ _ _); refine bytes_add_K (by (simp only [List.size_toArray, List.length_reverse, List.length_take, List.length_append, List.length_cons, List.length_nil]; omega)) rfl ?_; intro _ _))
local macro_rules | `(tactic| walk_at "subscriptTail List cons Slice ref ref") => `(tactic| (k_here; k_dflt (refine kba_turn (value' := PySem.Expr.Name (PySem.Str.ofString "_") ⟨0, 0, 0, 0⟩) (fun _ => rfl) ?_); k_dflt (refine' kmk_slice_ints ?F ?N ?l ?p ?q ?i ?m ?c ?_ ?s ?t ?z; (case F => k_asm); (case N => k_asm); (case l => kmk_list); (case p => kmk_part); (case q => kmk_part); (case i => l_ints); (case m => exact kmk_from (by l_ints) (by kmk_sign)); (case c => exact List.length_drop ..); (case s => with_unfolding_all rfl); (case t => kmk_pure); (case z => kmk_size)); intro D' ws' h' F' N' l1 hI' hC' hL'; (try k_lt l1); (try k_sweep)))
local macro_rules | `(tactic| walk_at "binaryOp Add ref ref") => `(tactic| (k_here; (with_reducible show wpAny _ _ (binaryOp _ (Value.ref _) (Value.ref _)) _ _ _); k_dflt (refine' kmk_add_ints ?F ?N ?a ?b ?i ?j ?_ ?z; (case F => k_asm); (case N => k_asm); (case a => kmk_list); (case b => kmk_list); (case i => l_ints); (case j => l_ints); (case z => kmk_sum)); intro D' ws' h' F' N' l1 hI'; (try k_lt l1); (try k_sweep)))


/-- no end of the word from a place ahead of f reads the same backwards -/
def NoPal (b : List UInt8) (f : Nat) : Prop := f ≤ b.length ∧ ∀ k < f, (b.drop k).reverse ≠ b.drop k
def Front (b : List UInt8) (f : Nat) : Prop := NoPal b f ∧ (b.drop f).reverse = b.drop f

section
variable {prog : Program} {w : World} {p : Program} {loose : List Str} {mean : ExcName → Option Value} {mg mb : Str → Option Value}
  {dp un : Nat} {gd : Option (List Code)} {cn : Str} {cs : Scope} {a : Addr} {ccd : Value} {cl : List (Str × Addr)} {outer : List Env} {A₀ : Around} {base h₀ : Heap} {L : Addr} {m : Str → Option Value} {news : List (Addr × Obj)} {s : Shared} {Q E : Value → Shared → Prop}
  (B : Below A₀ base outer h₀) (F : Fr h₀ L s.heap m) (X : (MineH.hd.heap_39 w.params).In h₀) (N : News h₀ L s.heap news) (T : Top p loose mean mg mb h₀) (hk : cs.kind = .function)
include B F X N T hk
set_option maxHeartbeats 4000000 in
theorem grown_S {b : List UInt8} {t₁ : Tok} (hd : dp + 2 < recursionLimit) (hz : b.length ≤ 400)
    (hret : ∀ f t h' tk', Front b f → Fr h₀ L h' m → News h₀ L h' news → Q (.bytes (b ++ (b.take f).reverse).toArray t) { s with heap := h', toks := tk' }) :
    wpS (model prog w) (ktrTop dp un gd cn cs L a ccd cl outer) (call (.ref 35) [.bytes b.toArray t₁]) Q E s := by
  w_top off
  have hfill : PySem.Challenge.rw_ny0470_01 = PySem.Challenge.rw_ny0470_01 ∧ MineH.hd.heap_39 = MineH.hd.heap_39 := by k_fill; exact ⟨rfl, rfl⟩
  clear hfill
  have hd' : dp + 1 + 1 < recursionLimit := hd
  refine wpS_call ?_
  k_dflt (refine' code_defS (binds := [(Str.ofString "word", .bytes b.toArray t₁)]) ?k1 ?k2 ?k3 ?k4 ?k5 ?kA ?kF ?kK ?k6 ?k7 ?k8 ?k9 ?kB ?_ ?c2 ?c3 ?c4 ?c5; (case kA => exact rfl); (case kF => exact rfl); (case kK => assumption); (case k1 => k_asm); (case k2 => k_asm); (case k3 => k_asm); (case k4 => k_asm); (case k5 => k_asm); (case k6 => k_is); (case k7 => k_is); (case k8 => (exact Nat.lt_of_succ_lt (Nat.lt_of_succ_lt hd))); (case k9 => exact BindsTo.of_eq rfl); (case c5 => decide); (case kB => exact locs rfl); (case c2 => exact rfl); (case c3 => exact rfl); (case c4 => exact rfl))
  intro g L' h₁ FG F' N' B' X' T' hlt
  clear B F X N T
  refine wpS_execs_cons (wpS_any ?_)
  k_fold
  walk_at "S"
  rename Fr _ _ _ _ => F₂
  rename News _ _ _ _ => N₂
  refine wpS_execs_cons (wpS_While ?_)
  refine whileS (σ := Nat × Tok) (fun c => NoPal b c.1) (fun c => b.length - c.1) (fun c y => if y = Str.ofString "front" then some (.int c.1 c.2) else List.lookup y [(Str.ofString "word", Value.bytes b.toArray t₁)].reverse)
    (fun _ => news) (0, _) F₂ N₂ (fun _ => rfl) ⟨Nat.zero_le _, fun k hk => absurd hk (Nat.not_lt_zero _)⟩ ?_
  rintro ⟨f, tf⟩ h₃ tk₃ hf F₃ N₃
  change Fr g L' _ _ at F₃
  change News g L' _ _ at N₃
  dsimp only at hf
  have hf1 := hf.1
  refine wpS_isTrue_not (wpS_isTrue_plain (wpS_Call_K (K := MineH.hd.heap_39 w.params) (f := .ref 28) (by k_is) ?_))
  k_fold
  walk_at "S"
  refine wpS_any ?_
  k_fold
  walk_at "S"
  have e : ((b.drop ((some (f : Int)).elim 0 (clipAt b.length))).take ((none : Option Int).elim b.length (clipAt b.length) - (some (f : Int)).elim 0 (clipAt b.length))) = b.drop f := by
    simp only [Option.elim_some, Option.elim_none, clipAt_nat]
    rw [Nat.min_eq_left hf1, List.take_of_length_le]
    rw [List.length_drop]; exact Nat.le_refl _
  rw [e]
  refine same_S (by k_asm) (by k_asm) (by k_asm) (by k_asm) (by k_asm) rfl hd' (by rw [List.length_drop]; omega) fun h₄ tk₄ F₄ N₄ => ?_
  k_sweep
  refine wpAny_truthy_bool ?_
  cases hc : ((b.drop f).reverse == b.drop f) with
  | false =>
    rw [if_pos (by decide)]
    have hne : (b.drop f).reverse ≠ b.drop f := by simpa using hc
    have hlt' : f < b.length := by
      rcases Nat.lt_or_ge f b.length with h | h
      · exact h
      · exact absurd (by rw [List.drop_of_length_le h]; rfl) hne
    refine wpS_execs_cons (wpS_any ?_)
    k_fold
    walk_at "S"
    rename Fr _ _ _ _ => F₅
    refine wpS_execs_nil ?_
    refine' WhileEnd.next (f + 1, ?tk5) F₅ ?n5 ?m5 ?i5 ?k5
    case m5 =>
      intro z
      dsimp only
      by_cases h : z = Str.ofString "front"
      · rw [if_pos h, if_pos h, Int.natCast_add]; exact rfl
      · rw [if_neg h, if_neg h, if_neg h]
    case n5 => k_asm
    case i5 =>
      refine ⟨hlt', fun k hk => ?_⟩
      rcases Nat.lt_succ_iff_lt_or_eq.mp hk with h | h
      · exact hf.2 k h
      · rw [h]; exact hne
    case k5 => dsimp only; omega
  | true =>
    rw [if_neg (by decide)]
    have hfr : Front b f := ⟨hf, by simpa using hc⟩
    dsimp only
    refine wpS_execs_cons (wpS_Return (wpS_BinOp (wpS_any ?_)))
    k_fold
    walk_at "S"
    refine wpS_Call_K (K := MineH.hd.heap_39 w.params) (f := .ref 21) (by k_is) ?_
    k_fold
    walk_at "S"
    refine wpS_any ?_
    k_fold
    walk_at "S"
    have e1 : ((b.drop ((none : Option Int).elim 0 (clipAt b.length))).take ((some (f : Int)).elim b.length (clipAt b.length) - (none : Option Int).elim 0 (clipAt b.length))) = b.take f := by
      simp only [Option.elim_some, Option.elim_none, clipAt_nat, List.drop_zero, Nat.sub_zero]
      rw [Nat.min_eq_left hf1]
    have e2 : (if 1 > (f : Int) then (1 : Int) else (f : Int)) = ((max (b.take f).length 1 : Nat) : Int) := by
      rw [List.length_take, Nat.min_eq_left hf1]; split <;> omega
    rw [e1, e2]
    have hlen : (b.take f).length = f := by rw [List.length_take, Nat.min_eq_left hf1]
    refine byteswap_S (by k_asm) (by k_asm) (by k_asm) (by k_asm) (by k_asm) rfl (Nat.lt_of_succ_lt hd') (by omega) ?_ (by omega) (by omega) fun t h' tk' F₆ N₆ => ?_
    · by_cases h : (b.take f).length = 0
      · rw [h]; exact Nat.dvd_zero _
      · rw [show max (b.take f).length 1 = (b.take f).length by omega]; exact Nat.dvd_refl _
    rw [swapL_whole]
    k_sweep
    refine wpS_any ?_
    k_fold
    walk_at "S"
    refine leaveK_ F₆ N₆ fun Fb Nb => ?_
    exact hret f _ _ _ hfr Fb Nb
end
end Mine
set_option maxRecDepth 100000
set_option Elab.async false
open PySem PySem.W PySem.Calls PyProof.Rows
namespace Mine
local macro_rules | `(tactic| walk_at "S") => `(tactic| repeat' (first | (k_unfold; (try dsimp only)) | walk1 | (dsimp only; walk1)))
local macro_rules | `(tactic| walk_at "mp") => `(tactic| (intro z; (try intro hz); (try dsimp only); (repeat' split) <;> first | rfl | contradiction | (exfalso; subst_vars; (rename (_ : Str) = _ => hq9); exact absurd hq9 (by decide)) | (subst_vars; rfl) | (simp_all; done)))
local macro_rules | `(tactic| walk_at "subscriptTail") => `(tactic| (k_here; (with_reducible show wpAny _ _ (subscriptTail _ _ (Value.bytes (List.toArray _) _) (Value.int _ _)) _ _ _); refine bytes_item (by omega) (by omega) (by omega) ?_))
local macro_rules | `(tactic| walk_at "subscriptTail") => `(tactic| (k_here; (with_reducible show wpAny _ _ (subscriptTail _ (Expr.Slice _ _ none _) (Value.bytes (List.toArray _) _) (Value.ref _)) _ _ _); (with_reducible rename Fr _ _ _ _ => F'); (with_reducible rename News _ _ _ _ => N'); (refine bytes_cut (s := ⟨_, _, _, _, _⟩) F' N' (by constructor) (by constructor) (by omega) ?_); intro _ _ _ _ _; (try k_sweep)))
local macro_rules | `(tactic| walk_at "binaryOp Add bytes bytes") => `(tactic| (k_here; (with_reducible show wpAny _ _ (binaryOp Operator.Add (Value.bytes (List.toArray _) _) (Value.bytes (List.toArray _) _)) _ _ _); refine bytes_add_K (by (simp only [List.size_toArray, List.length_reverse, List.length_take, List.length_append, List.length_cons, List.length_nil]; omega)) rfl ?_; intro _ _))
local macro_rules | `(tactic| walk_at "subscriptTail List cons Slice ref ref") => `(tactic| (k_here; k_dflt (refine kba_turn (value' := PySem.Expr.Name (PySem.Str.ofString "_") ⟨0, 0, 0, 0⟩) (fun _ => rfl) ?_); k_dflt (refine' kmk_slice_ints ?F ?N ?l ?p ?q ?i ?m ?c ?_ ?s ?t ?z; (case F => k_asm); (case N => k_asm); (case l => kmk_list); (case p => kmk_part); (case q => kmk_part); (case i => l_ints); (case m => exact kmk_from (by l_ints) (by kmk_sign)); (case c => exact List.length_drop ..); (case s => with_unfolding_all rfl); (case t => kmk_pure); (case z => kmk_size)); intro D' ws' h' F' N' l1 hI' hC' hL'; (try k_lt l1); (try k_sweep)))
local macro_rules | `(tactic| walk_at "binaryOp Add ref ref") => `(tactic| (k_here; (with_reducible show wpAny _ _ (binaryOp _ (Value.ref _) (Value.ref _)) _ _ _); k_dflt (refine' kmk_add_ints ?F ?N ?a ?b ?i ?j ?_ ?z; (case F => k_asm); (case N => k_asm); (case a => kmk_list); (case b => kmk_list); (case i => l_ints); (case j => l_ints); (case z => kmk_sum)); intro D' ws' h' F' N' l1 hI'; (try k_lt l1); (try k_sweep)))
local macro_rules | `(tactic| k_all) => `(tactic| assumption)

inductive Letters : Nat → Nat → List Int → Prop
  | done {a : Nat} : Letters a a []
  | zero {a b : Nat} {l : List Int} : b < a → Letters (a - b) b l → Letters a b (0 :: l)
  | one {a b : Nat} {l : List Int} : a < b → Letters a (b - a) l → Letters a b (1 :: l)

section
variable {prog : Program} {w : World} {p : Program} {loose : List Str} {mean : ExcName → Option Value} {mg mb : Str → Option Value}
  {dp un : Nat} {gd : Option (List Code)} {cn : Str} {cs : Scope} {a : Addr} {ccd : Value} {cl : List (Str × Addr)} {outer : List Env} {A₀ : Around} {base h₀ : Heap} {L : Addr} {m : Str → Option Value} {news : List (Addr × Obj)} {s : Shared} {Q E : Value → Shared → Prop}
  (B : Below A₀ base outer h₀) (F : Fr h₀ L s.heap m) (X : (MineH.hd.heap_39 w.params).In h₀) (N : News h₀ L s.heap news) (T : Top p loose mean mg mb h₀) (hk : cs.kind = .function)
include B F X N T hk
set_option maxHeartbeats 4000000 in
theorem letters_S {na nb : Nat} {t₁ t₂ : Tok} (hd : dp < recursionLimit) (ha : 1 ≤ na) (hb : 1 ≤ nb) (hz : na + nb ≤ 1000)
    (hret : ∀ ad vs k ns h' tk', Letters na nb ns → IntsAre vs ns → vs.length ≤ 1000 → Fr h₀ L h' m → News h₀ L h' ((ad, listOf (List.toArray vs) k) :: news) → (∀ p ∈ news, p.1 < ad) → Q (.ref ad) { s with heap := h', toks := tk' }) :
    wpS (model prog w) (ktrTop dp un gd cn cs L a ccd cl outer) (call (.ref 42) [.int na t₁, .int nb t₂]) Q E s := by
  w_top off
  have hfill : PySem.Challenge.rw_ny0470_01 = PySem.Challenge.rw_ny0470_01 ∧ MineH.hd.heap_39 = MineH.hd.heap_39 := by k_fill; exact ⟨rfl, rfl⟩
  clear hfill
  refine wpS_call ?_
  k_dflt (refine' code_defS (binds := [(Str.ofString "many", .int na t₁), (Str.ofString "others", .int nb t₂)]) ?k1 ?k2 ?k3 ?k4 ?k5 ?kA ?kF ?kK ?k6 ?k7 ?k8 ?k9 ?kB ?_ ?c2 ?c3 ?c4 ?c5; (case kA => exact rfl); (case kF => exact rfl); (case kK => assumption); (case k1 => k_asm); (case k2 => k_asm); (case k3 => k_asm); (case k4 => k_asm); (case k5 => k_asm); (case k6 => k_is); (case k7 => k_is); (case k8 => (exact hd)); (case k9 => exact BindsTo.of_eq rfl); (case c5 => decide); (case kB => exact locs rfl); (case c2 => exact rfl); (case c3 => exact rfl); (case c4 => exact rfl))
  intro g L' h₁ FG F' N' B' X' T' hlt
  clear B F X N T
  refine wpS_execs_cons (wpS_any ?_)
  k_fold
  walk_at "S"
  rename Fr _ _ _ _ => F₂
  rename News _ _ _ _ => N₂
  rename ∀ p ∈ news, p.1 < _ => hl₂
  rename Addr => ad
  refine wpS_execs_cons (wpS_While ?_)
  refine whileS (σ := Nat × Nat × Tok × Tok × List Value × Nat) (fun c => 1 ≤ c.1 ∧ 1 ≤ c.2.1 ∧ c.2.2.2.2.1.length + c.1 + c.2.1 ≤ 1000 ∧ ∃ ns, IntsAre c.2.2.2.2.1 ns ∧ ∀ r, Letters c.1 c.2.1 r → Letters na nb (ns ++ r)) (fun c => c.1 + c.2.1)
    (fun c y => if y = Str.ofString "letters" then some (.ref ad) else if y = Str.ofString "many" then some (.int c.1 c.2.2.1) else if y = Str.ofString "others" then some (.int c.2.1 c.2.2.2.1) else none)
    (fun c => (ad, listOf (List.toArray c.2.2.2.2.1) c.2.2.2.2.2) :: news) (na, nb, t₁, t₂, [], 0) F₂ N₂ ?_ ?_ ?_
  · intro z
    by_cases h1 : z = Str.ofString "letters"
    · rw [if_pos h1, if_pos h1]
    · rw [if_neg h1, if_neg h1]
      by_cases h2 : z = Str.ofString "many"
      · subst h2; rfl
      · rw [if_neg h2]
        by_cases h3 : z = Str.ofString "others"
        · subst h3; rfl
        · rw [if_neg h3]
          have h2' : (z == Str.ofString "many") = false := by simpa using h2
          have h3' : (z == Str.ofString "others") = false := by simpa using h3
          show List.lookup z [(Str.ofString "others", Value.int nb t₂), (Str.ofString "many", Value.int na t₁)] = none
          simp only [List.lookup, h2', h3']
  · exact ⟨ha, hb, by simpa using hz, [], .nil, fun r hr => by simpa using hr⟩
  rintro ⟨x, y, tx, ty, vs, k⟩ h₃ tk₃ ⟨hx, hy, hlen, ns, hi, hns⟩ F₃ N₃
  change Fr g L' _ _ at F₃
  change News g L' _ _ at N₃
  dsimp only at hx hy hlen hi hns F₃ N₃
  have hne : ∀ p ∈ news, p.1 ≠ ad := fun p hp => Nat.ne_of_lt (hl₂ p hp)
  refine wpS_any ?_
  k_fold
  walk_at "S"
  · refine wpS_any ?_
    k_fold
    walk_at "S"
    · have hxy : y < x := by omega
      rename Fr _ _ _ _ => F₅
      rename News _ _ _ _ => N₅
      rw [List.push_toArray] at N₅
      have ec : ((x - y : Nat) : Int) = (x : Int) - y := by omega
      refine' WhileEnd.next (x - y, y, ?t5, ty, _, _) F₅ N₅ ?m5 ?i5 ?k5
      case m5 => rw [ec]; walk_at "mp"
      case i5 =>
        refine ⟨by omega, hy, ?_, ns ++ [0], hi.append (.cons _ _ .nil), fun r hr => ?_⟩
        · simp only [List.length_append, List.length_cons, List.length_nil]; omega
        · rw [List.append_assoc]; exact hns _ (.zero hxy hr)
      case k5 => dsimp only; omega
    · have hxy : x < y := by omega
      rename Fr _ _ _ _ => F₅
      rename News _ _ _ _ => N₅
      rw [List.push_toArray] at N₅
      have ec : ((y - x : Nat) : Int) = (y : Int) - x := by omega
      refine' WhileEnd.next (x, y - x, tx, ?t5, _, _) F₅ N₅ ?m5 ?i5 ?k5
      case m5 => rw [ec]; walk_at "mp"
      case i5 =>
        refine ⟨hx, by dsimp only; omega, ?_, ns ++ [1], hi.append (.cons _ _ .nil), fun r hr => ?_⟩
        · simp only [List.length_append, List.length_cons, List.length_nil]; omega
        · rw [List.append_assoc]; exact hns _ (.one hxy hr)
      case k5 => dsimp only; omega
  · refine wpS_execs_cons (wpS_Return (wpS_any ?_))
    k_fold
    walk_at "S"
    refine leaveK_ F₃ N₃ fun Fb Nb => ?_
    have hxy : x = y := by omega
    subst hxy
    exact hret ad vs k ns _ _ (by simpa using hns [] .done) hi (by omega) Fb Nb hl₂
end
end Mine
set_option maxRecDepth 100000
set_option Elab.async false
open PySem PySem.W PySem.Calls PyProof.Rows
namespace Mine
local macro_rules | `(tactic| walk_at "S") => `(tactic| repeat' (first | (k_unfold; (try dsimp only)) | walk1 | (dsimp only; walk1)))
local macro_rules | `(tactic| walk_at "mp") => `(tactic| (intro z; (try intro hz); (try dsimp only); (repeat' split) <;> first | rfl | contradiction | (exfalso; subst_vars; (rename (_ : Str) = _ => hq9); exact absurd hq9 (by decide)) | (subst_vars; rfl) | (simp_all; done)))
local macro_rules | `(tactic| walk_at "subscriptTail") => `(tactic| (k_here; (with_reducible show wpAny _ _ (subscriptTail _ _ (Value.bytes (List.toArray _) _) (Value.int _ _)) _ _ _); refine bytes_item (by omega) (by omega) (by omega) ?_))
local macro_rules | `(tactic| walk_at "subscriptTail") => `(tactic| (k_here; (with_reducible show wpAny _ _ (subscriptTail _ (Expr.Slice _ _ none _) (Value.bytes (List.toArray _) _) (Value.ref _)) _ _ _); (with_reducible rename Fr _ _ _ _ => F'); (with_reducible rename News _ _ _ _ => N'); (refine bytes_cut (s := ⟨_, _, _, _, _⟩) F' N' (by constructor) (by constructor) (by omega) ?_); intro _ _ _ _ _; (try k_sweep)))
local macro_rules | `(tactic| walk_at "binaryOp Add bytes bytes") => `(tactic| (k_here; (with_reducible show wpAny _ _ (binaryOp Operator.Add (Value.bytes (List.toArray _) _) (Value.bytes (List.toArray _) _)) _ _ _); refine bytes_add_K (by (simp only [List.size_toArray, List.length_reverse, List.length_take, List.length_append, List.length_cons, List.length_nil]; omega)) rfl ?_; intro _ _))
local macro_rules | `(tactic| walk_at "subscriptTail List cons Slice ref ref") => `(tactic| (k_here; k_dflt (refine kba_turn (value' := PySem.Expr.Name (PySem.Str.ofString "_") ⟨0, 0, 0, 0⟩) (fun _ => rfl) ?_); k_dflt (refine' kmk_slice_ints ?F ?N ?l ?p ?q ?i ?m ?c ?_ ?s ?t ?z; (case F => k_asm); (case N => k_asm); (case l => kmk_list); (case p => kmk_part); (case q => kmk_part); (case i => l_ints); (case m => exact kmk_from (by l_ints) (by kmk_sign)); (case c => exact List.length_drop ..); (case s => with_unfolding_all rfl); (case t => kmk_pure); (case z => kmk_size)); intro D' ws' h' F' N' l1 hI' hC' hL'; (try k_lt l1); (try k_sweep)))
local macro_rules | `(tactic| walk_at "binaryOp Add ref ref") => `(tactic| (k_here; (with_reducible show wpAny _ _ (binaryOp _ (Value.ref _) (Value.ref _)) _ _ _); k_dflt (refine' kmk_add_ints ?F ?N ?a ?b ?i ?j ?_ ?z; (case F => k_asm); (case N => k_asm); (case a => kmk_list); (case b => kmk_list); (case i => l_ints); (case j => l_ints); (case z => kmk_sum)); intro D' ws' h' F' N' l1 hI'; (try k_lt l1); (try k_sweep)))
local macro_rules | `(tactic| k_all) => `(tactic| assumption)
local macro_rules | `(tactic| k_ne) => `(tactic| first | assumption | exact Ne.symm (by assumption))

theorem rangeSize_from {a n : Nat} : Builtin.Range.rangeSize (a : Int) ((a + n : Nat) : Int) 1 = (n : Int) := by
  unfold Builtin.Range.rangeSize
  rw [if_pos (by omega)]
  cases n with
  | zero => simp
  | succ n => rw [if_pos (by omega)]; omega

def lineAt (size high : Nat) (one other : Int) (i : Nat) : Int := if (i + 1) * high / size < (i + 2) * high / size then other else one
def lineL (size high : Nat) (one other : Int) (k : Nat) : List Int := (List.range k).map (lineAt size high one other)

section
variable {prog : Program} {w : World} {p : Program} {loose : List Str} {mean : ExcName → Option Value} {mg mb : Str → Option Value}
  {dp un : Nat} {gd : Option (List Code)} {cn : Str} {cs : Scope} {a : Addr} {ccd : Value} {cl : List (Str × Addr)} {outer : List Env} {A₀ : Around} {base h₀ : Heap} {L : Addr} {m : Str → Option Value} {news : List (Addr × Obj)} {s : Shared} {Q E : Value → Shared → Prop}
  (B : Below A₀ base outer h₀) (F : Fr h₀ L s.heap m) (X : (MineH.hd.heap_39 w.params).In h₀) (N : News h₀ L s.heap news) (T : Top p loose mean mg mb h₀) (hk : cs.kind = .function)
include B F X N T hk
set_option maxHeartbeats 4000000 in
theorem line_S {size high : Nat} {one other : Int} {t₁ t₂ t₃ t₄ : Tok} (hd : dp < recursionLimit) (hs : 2 ≤ size) (hs' : size ≤ 500) (hh : high ≤ 500)
    (hret : ∀ ad vs k h' tk', IntsAre vs (lineL size high one other (size - 2)) → Fr h₀ L h' m → News h₀ L h' ((ad, listOf (List.toArray vs) k) :: news) → (∀ p ∈ news, p.1 < ad) → Q (.ref ad) { s with heap := h', toks := tk' }) :
    wpS (model prog w) (ktrTop dp un gd cn cs L a ccd cl outer) (call (.ref 49) [.int size t₁, .int high t₂, .int one t₃, .int other t₄]) Q E s := by
  w_top off
  have hfill : PySem.Challenge.rw_ny0470_01 = PySem.Challenge.rw_ny0470_01 ∧ MineH.hd.heap_39 = MineH.hd.heap_39 := by k_fill; exact ⟨rfl, rfl⟩
  clear hfill
  refine wpS_call ?_
  k_dflt (refine' code_defS (binds := [(Str.ofString "size", .int size t₁), (Str.ofString "high", .int high t₂), (Str.ofString "one", .int one t₃), (Str.ofString "other", .int other t₄)]) ?k1 ?k2 ?k3 ?k4 ?k5 ?kA ?kF ?kK ?k6 ?k7 ?k8 ?k9 ?kB ?_ ?c2 ?c3 ?c4 ?c5; (case kA => exact rfl); (case kF => exact rfl); (case kK => assumption); (case k1 => k_asm); (case k2 => k_asm); (case k3 => k_asm); (case k4 => k_asm); (case k5 => k_asm); (case k6 => k_is); (case k7 => k_is); (case k8 => (exact hd)); (case k9 => exact BindsTo.of_eq rfl); (case c5 => decide); (case kB => exact locs rfl); (case c2 => exact rfl); (case c3 => exact rfl); (case c4 => exact rfl))
  intro g L' h₁ FG F' N' B' X' T' hlt
  clear B F X N T
  refine wpS_execs_cons (wpS_any ?_)
  k_fold
  walk_at "S"
  rename ∀ p ∈ news, p.1 < _ => hl₂
  rename Addr => ad
  refine wpS_execs_cons (wpS_For (wpS_any ?_))
  k_fold
  walk_at "S"
  rename Fr _ _ _ _ => F₃
  rename News _ _ _ _ => N₃
  rename IsRange _ _ _ _ _ _ _ _ => hr₃
  have hsz : Builtin.Range.rangeSize 1 ((size : Int) - 1) 1 = ((size - 2 : Nat) : Int) := by
    have := rangeSize_from (a := 1) (n := size - 2)
    rw [show ((1 + (size - 2) : Nat) : Int) = (size : Int) - 1 by omega] at this
    exact this
  refine forRangeS (σ := List Value × Nat × Option Value) (n := size - 2) rfl hr₃ ?small ?size rfl rfl (fun i c => c.1.length = i ∧ IntsAre c.1 (lineL size high one other i))
    (fun c y => if y = Str.ofString "steep" then c.2.2 else if y = Str.ofString "line" then some (.ref ad) else List.lookup y [(Str.ofString "size", Value.int size t₁), (Str.ofString "high", Value.int high t₂), (Str.ofString "one", Value.int one t₃), (Str.ofString "other", Value.int other t₄)].reverse)
    (fun c => (ad, listOf (List.toArray c.1) c.2.1) :: news) ([], 0, none) F₃ N₃ ?mp ?i0 ?turn ?done
  case turn =>
    rintro i ⟨vs, k, sv⟩ I it t h tk hi ⟨hlen, hvs⟩ hoff F₄ N₄
    change Fr g L' _ _ at F₄
    change News g L' _ _ at N₄
    dsimp only at hlen hvs F₄ N₄
    have hvl : vs.length ≤ 1000 := by omega
    have hoff1 : ad ≠ I := hoff _ (List.mem_cons_self ..)
    have hoff2 : ∀ p ∈ news, p.1 ≠ I := fun p hp => hoff p (List.mem_cons_of_mem _ hp)
    have hoff3 : ∀ p ∈ news, p.1 ≠ ad := fun p hp => Nat.ne_of_lt (hl₂ p hp)
    have fd : ∀ x : Nat, Int.fdiv ((x : Int) * high) size = ((x * high / size : Nat) : Int) := fun x => by
      rw [Int.fdiv_eq_ediv_of_nonneg _ (by omega)]; push_cast; rfl
    have c1 : (1 + (i : Int) * 1) = ((i + 1 : Nat) : Int) := by omega
    have c2 : ((i + 1 : Nat) : Int) + 1 = ((i + 2 : Nat) : Int) := by omega
    refine wpS_any ?_
    k_fold
    walk_at "S"
    · rename Fr _ _ _ _ => F₅
      rename News _ _ _ _ => N₅
      rename (_ : Int) < _ => hst
      rw [c1, c2, fd, fd] at hst
      rw [List.push_toArray] at N₅
      refine' TurnEnd.next (_, _, ?s5) F₅ N₅ ?o5 ?m5 ?i5
      case m5 =>
        intro z hz
        by_cases h : z = Str.ofString "steep"
        · subst h; exact rfl
        · simp only [if_neg h, if_neg hz]
      case o5 =>
        intro p hp
        rcases List.mem_cons.mp hp with rfl | hp
        · exact hoff1
        · exact hoff2 p hp
      case i5 =>
        refine ⟨by simp [hlen], ?_⟩
        unfold lineL
        rw [List.range_succ, List.map_append]
        refine hvs.append ?_
        simp only [List.map_cons, List.map_nil, lineAt]
        rw [if_pos (by exact Int.ofNat_lt.mp hst)]
        exact .cons _ _ .nil
    · rename Fr _ _ _ _ => F₅
      rename News _ _ _ _ => N₅
      rename ¬ (_ : Int) < _ => hst
      rw [c1, c2, fd, fd] at hst
      rw [List.push_toArray] at N₅
      refine' TurnEnd.next (_, _, ?s5) F₅ N₅ ?o5 ?m5 ?i5
      case m5 =>
        intro z hz
        by_cases h : z = Str.ofString "steep"
        · subst h; exact rfl
        · simp only [if_neg h, if_neg hz]
      case o5 =>
        intro p hp
        rcases List.mem_cons.mp hp with rfl | hp
        · exact hoff1
        · exact hoff2 p hp
      case i5 =>
        refine ⟨by simp [hlen], ?_⟩
        unfold lineL
        rw [List.range_succ, List.map_append]
        refine hvs.append ?_
        simp only [List.map_cons, List.map_nil, lineAt]
        rw [if_neg (fun q => hst (Int.ofNat_lt.mpr q))]
        exact .cons _ _ .nil
  case small => exact small_of hsz (by omega) (by omega) (by omega) (by omega) (by omega) (by omega) (by omega)
  case size => exact hsz
  case mp =>
    intro z hz
    by_cases h : z = Str.ofString "steep"
    · subst h; rfl
    · simp only [if_neg h]
  case i0 => exact ⟨rfl, .nil⟩
  case done =>
    rintro ⟨vs, k, sv⟩ m₇ h₇ tk₇ ⟨hlen, hvs⟩ F₇ hm₇ N₇
    dsimp only at hlen hvs N₇ hm₇
    change Fr g L' _ _ at F₇
    change News g L' _ _ at N₇
    have e0 : (fun y => if y = Str.ofString "place" then m₇ (Str.ofString "place") else if y = Str.ofString "steep" then sv else if y = Str.ofString "line" then some (.ref ad) else List.lookup y [(Str.ofString "size", Value.int size t₁), (Str.ofString "high", Value.int high t₂), (Str.ofString "one", Value.int one t₃), (Str.ofString "other", Value.int other t₄)].reverse) = m₇ := by
      funext y
      by_cases h : y = Str.ofString "place"
      · rw [if_pos h, h]
      · rw [if_neg h, hm₇ y h]
    rw [← e0] at F₇
    dsimp only
    refine wpS_execs_cons (wpS_Return (wpS_any ?_))
    k_fold
    walk_at "S"
    refine leaveK_ F₇ N₇ fun Fb Nb => ?_
    exact hret ad vs k _ _ hvs Fb Nb hl₂
end
end Mine
set_option maxRecDepth 100000
open PySem
namespace Mine
/-! ## the plain law of 01 -/
def palAt (w : List Bool) (f : Nat) : Bool := (w.drop f).reverse == w.drop f
def frontB (w : List Bool) : Nat := ((List.range (w.length + 1)).find? (palAt w)).getD 0
def growB (w : List Bool) : List Bool := w ++ (w.take (frontB w)).reverse
def wordB (ps : List Bool) : List Bool := ps.foldl (fun w c => growB (w ++ [c])) []
def lineB (size high : Nat) : List Bool := (List.range (size - 2)).map fun i => decide ((i + 1) * high / size < (i + 2) * high / size)
def lettersF : Nat → Nat → Nat → List Bool
  | 0, _, _ => []
  | k + 1, a, b => if a = b then [] else if b < a then false :: lettersF k (a - b) b else true :: lettersF k a (b - a)
def cntB (w : List Bool) : Nat := (w.filter id).length
def goodB (ps : List Bool) : Bool :=
  let w := wordB ps
  decide (w.length ≤ 100) && (lineB (w.length + 2) (cntB w + 1) == w) && (lettersF 110 (w.length + 2 - (cntB w + 1)) (cntB w + 1) == ps)
def allB : Nat → List (List Bool)
  | 0 => [[]]
  | n + 1 => (allB n).flatMap fun l => [false :: l, true :: l]
theorem mem_allB : ∀ (l : List Bool), l ∈ allB l.length
  | [] => .head _
  | c :: l => by
    rw [List.length_cons, allB, List.mem_flatMap]
    exact ⟨l, mem_allB l, by cases c <;> simp⟩
theorem good1 : (allB 1).all goodB = true := by decide +kernel
theorem good2 : (allB 2).all goodB = true := by decide +kernel
theorem good3 : (allB 3).all goodB = true := by decide +kernel
theorem good4 : (allB 4).all goodB = true := by decide +kernel
theorem good5 : (allB 5).all goodB = true := by decide +kernel
theorem good6 : (allB 6).all goodB = true := by decide +kernel
theorem good_all {ps : List Bool} (h1 : 1 ≤ ps.length) (h6 : ps.length ≤ 6) : goodB ps = true := by
  have hm := mem_allB ps
  rcases (by omega : ps.length = 1 ∨ ps.length = 2 ∨ ps.length = 3 ∨ ps.length = 4 ∨ ps.length = 5 ∨ ps.length = 6) with h | h | h | h | h | h
  · rw [h] at hm; exact List.all_eq_true.mp good1 ps hm
  · rw [h] at hm; exact List.all_eq_true.mp good2 ps hm
  · rw [h] at hm; exact List.all_eq_true.mp good3 ps hm
  · rw [h] at hm; exact List.all_eq_true.mp good4 ps hm
  · rw [h] at hm; exact List.all_eq_true.mp good5 ps hm
  · rw [h] at hm; exact List.all_eq_true.mp good6 ps hm

theorem front_eq {l : List Bool} {oct : Bool → UInt8} (inj : oct true ≠ oct false) {f : Nat} (h : Front (l.map oct) f) : frontB l = f := by
  have hinj : ∀ x y : Bool, oct x = oct y → x = y := by
    intro x y e
    cases x <;> cases y <;> first | rfl | exact absurd e inj | exact absurd e.symm inj
  have key : ∀ k, palAt l k = true ↔ ((l.map oct).drop k).reverse = (l.map oct).drop k := by
    intro k
    unfold palAt
    rw [beq_iff_eq, ← List.map_drop, ← List.map_reverse]
    exact (List.map_inj_right hinj).symm
  unfold frontB
  have e : (List.range (l.length + 1)).find? (palAt l) = some f := by
    rw [List.find?_range_eq_some]
    have hle := h.1.1
    rw [List.length_map] at hle
    refine ⟨(key f).mpr h.2, List.mem_range.mpr (by omega), fun j hj => ?_⟩
    have := h.1.2 j hj
    cases hp : palAt l j with
    | false => rfl
    | true => exact absurd ((key j).mp hp) this
  rw [e]; rfl
theorem grow_map {l : List Bool} {oct : Bool → UInt8} (inj : oct true ≠ oct false) {f : Nat} (h : Front (l.map oct) f) : l.map oct ++ ((l.map oct).take f).reverse = (growB l).map oct := by
  unfold growB
  rw [front_eq inj h, List.map_append, List.map_reverse, List.map_take]
theorem wordB_snoc (ps : List Bool) (c : Bool) : wordB (ps ++ [c]) = growB (wordB ps ++ [c]) := by
  unfold wordB
  rw [List.foldl_append]; rfl
theorem letters_val {a b : Nat} {ns : List Int} (h : Letters a b ns) : 1 ≤ a → 1 ≤ b → ∀ k, a + b ≤ k → ns = (lettersF k a b).map fun c => if c then 1 else 0 := by
  induction h with
  | done => intro _ _ k _; cases k <;> simp [lettersF]
  | @zero a b l hab _ ih =>
    intro ha hb k hk
    cases k with
    | zero => omega
    | succ k =>
      unfold lettersF
      rw [if_neg (by omega), if_pos hab, List.map_cons, ← ih (by omega) hb k (by omega)]
      rfl
  | @one a b l hab _ ih =>
    intro ha hb k hk
    cases k with
    | zero => omega
    | succ k =>
      unfold lettersF
      rw [if_neg (by omega), if_neg (by omega), List.map_cons, ← ih ha (by omega) k (by omega)]
      rfl
theorem line_val (size high : Nat) (one oth : Int) : lineL size high one oth (size - 2) = (lineB size high).map fun c => if c then oth else one := by
  unfold lineL lineB
  rw [List.map_map]
  apply List.map_congr_left
  intro i _
  simp [lineAt]

theorem word_len {ps : List Bool} (h6 : ps.length ≤ 6) : (wordB ps).length ≤ 100 := by
  cases ps with
  | nil => simp [wordB]
  | cons c ps =>
    have := good_all (ps := c :: ps) (by simp) h6
    simp only [goodB, Bool.and_eq_true, decide_eq_true_eq] at this
    exact this.1.1
def par (n : Int) : Bool := n.fmod 2 == 1
def octB (one oth : Int) (c : Bool) : UInt8 := if c then oth.toNat.toUInt8 else one.toNat.toUInt8
theorem octB_inj {one oth : Int} (h0 : 0 ≤ one) (h1 : one < 256) (h2 : 0 ≤ oth) (h3 : oth < 256) (h : oth ≠ one) : octB one oth true ≠ octB one oth false := by
  intro e
  have e1 : (octB one oth true).toNat = (octB one oth false).toNat := congrArg _ e
  simp only [octB, if_true, Bool.false_eq_true, if_false] at e1
  have a : oth.toNat.toUInt8.toNat = oth.toNat := by simp [Nat.toUInt8]; omega
  have b : one.toNat.toUInt8.toNat = one.toNat := by simp [Nat.toUInt8]; omega
  rw [a, b] at e1
  omega
end Mine
set_option maxRecDepth 100000
set_option Elab.async false
open PySem PySem.W PySem.Calls PyProof.Rows
namespace Mine
local macro_rules | `(tactic| walk_at "S") => `(tactic| repeat' (first | (k_unfold; (try dsimp only)) | walk1 | (dsimp only; walk1)))
local macro_rules | `(tactic| walk_at "mp") => `(tactic| (intro z; (try intro hz); (try dsimp only); (repeat' split) <;> first | rfl | contradiction | (exfalso; subst_vars; (rename (_ : Str) = _ => hq9); exact absurd hq9 (by decide)) | (subst_vars; rfl) | (simp_all; done)))
local macro_rules | `(tactic| walk_at "subscriptTail") => `(tactic| (k_here; (with_reducible show wpAny _ _ (subscriptTail _ _ (Value.bytes (List.toArray _) _) (Value.int _ _)) _ _ _); refine bytes_item (by omega) (by omega) (by omega) ?_))
local macro_rules | `(tactic| walk_at "subscriptTail") => `(tactic| (k_here; (with_reducible show wpAny _ _ (subscriptTail _ (Expr.Slice _ _ none _) (Value.bytes (List.toArray _) _) (Value.ref _)) _ _ _); (with_reducible rename Fr _ _ _ _ => F'); (with_reducible rename News _ _ _ _ => N'); (refine bytes_cut (s := ⟨_, _, _, _, _⟩) F' N' (by constructor) (by constructor) (by omega) ?_); intro _ _ _ _ _; (try k_sweep)))
local macro_rules | `(tactic| walk_at "binaryOp Add bytes bytes") => `(tactic| (k_here; (with_reducible show wpAny _ _ (binaryOp Operator.Add (Value.bytes (List.toArray _) _) (Value.bytes (List.toArray _) _)) _ _ _); refine bytes_add_K (by (simp only [List.size_toArray, List.length_reverse, List.length_take, List.length_append, List.length_cons, List.length_nil]; omega)) rfl ?_; intro _ _))
local macro_rules | `(tactic| walk_at "subscriptTail List cons Slice ref ref") => `(tactic| (k_here; k_dflt (refine kba_turn (value' := PySem.Expr.Name (PySem.Str.ofString "_") ⟨0, 0, 0, 0⟩) (fun _ => rfl) ?_); k_dflt (refine' kmk_slice_ints ?F ?N ?l ?p ?q ?i ?m ?c ?_ ?s ?t ?z; (case F => k_asm); (case N => k_asm); (case l => kmk_list); (case p => kmk_part); (case q => kmk_part); (case i => l_ints); (case m => exact kmk_from (by l_ints) (by kmk_sign)); (case c => exact List.length_drop ..); (case s => with_unfolding_all rfl); (case t => kmk_pure); (case z => kmk_size)); intro D' ws' h' F' N' l1 hI' hC' hL'; (try k_lt l1); (try k_sweep)))
local macro_rules | `(tactic| walk_at "binaryOp Add ref ref") => `(tactic| (k_here; (with_reducible show wpAny _ _ (binaryOp _ (Value.ref _) (Value.ref _)) _ _ _); k_dflt (refine' kmk_add_ints ?F ?N ?a ?b ?i ?j ?_ ?z; (case F => k_asm); (case N => k_asm); (case a => kmk_list); (case b => kmk_list); (case i => l_ints); (case j => l_ints); (case z => kmk_sum)); intro D' ws' h' F' N' l1 hI'; (try k_lt l1); (try k_sweep)))
local macro_rules | `(tactic| k_all) => `(tactic| assumption)
local macro_rules | `(tactic| k_ne) => `(tactic| first | assumption | exact Ne.symm (by assumption))

theorem wpS_isTrue_Compare1 {M : Model} {A : Around} {E : Value → Shared → Prop} {s : Shared} {env : Env} {l op r pos whole} {Q : Bool → Shared → Prop}
    (h : wpS M A (eval l env) (fun a s₁ => wpS M A (eval r env) (fun b s₂ => wpS M A (compareOp op a b)
      (fun c s₃ => wpS M A (truthy c) Q E s₃) E s₂) E s₁) E s)
    (hm : behindInMarks op r = false := by with_unfolding_all rfl) : wpS M A (isTrue (.Compare l [op] [r] pos) env whole) Q E s := fun Γ p hΓ hc => by
  simp only [isTrue_Compare1, markedBehindIn_of_false hm, Sem.wp_bind', Sem.wp_holding, Sem.wp_cmd_standAt, Sem.wp_operate]
  exact Sem.wp_mono M Γ _ (fun a p₁ s₁ h₁ => Sem.wp_mono M Γ _ (fun b _ s₂ h₂ => Sem.wp_mono M Γ _ (fun c p₃ s₃ h₃ => h₃ Γ p₃ hΓ hc)
    (fun _ _ _ h' => h') _ _ (h₂ Γ _ hΓ hc)) (fun _ _ _ h' => h') _ _ (h₁ Γ p₁ hΓ hc)) (fun _ _ _ h' => h') _ _ (h Γ p hΓ hc)
def Halt (P : Prop) : Prop := P
theorem halt {P : Prop} (h : Halt P) : P := h
local macro_rules | `(tactic| walk_at "eval ListComp") => `(tactic| (k_here; (with_reducible show wpAny _ _ (eval (Expr.ListComp (Expr.Name _ _) _ _ _) _) _ _ _); refine halt ?_))
def pOth (oth : Int) : Value → Bool
  | .int z _ => z == oth
  | _ => false
theorem pOth_ints {oth : Int} : ∀ {vs : List Value} {ns : List Int}, IntsAre vs ns → (vs.filter (pOth oth)).length = (ns.filter (· == oth)).length := by
  intro vs ns h
  induction h with
  | nil => rfl
  | cons z t _ ih =>
    by_cases hz : z = oth
    · rw [List.filter_cons_of_pos (by simp [pOth, hz]), List.filter_cons_of_pos (by simp [hz]), List.length_cons, List.length_cons, ih]
    · rw [List.filter_cons_of_neg (by simp [pOth, hz]), List.filter_cons_of_neg (by simp [hz]), ih]
theorem paired_len {α β : Type} {G : α → β → Prop} : ∀ {l : List α} {r : List β}, Paired G l r → l.length = r.length := by
  intro l r h
  induction h with
  | nil => rfl
  | cons _ _ ih => rw [List.length_cons, List.length_cons, ih]
theorem oct_nat {z : Int} (h0 : 0 ≤ z) (h1 : z < 256) : ((z.toNat.toUInt8.toNat : Nat) : Int) = z := by
  have a : z.toNat.toUInt8.toNat = z.toNat := by simp [Nat.toUInt8]; omega
  rw [a]; omega
theorem cnt_oct {one oth : Int} (h0 : 0 ≤ one) (h1 : one < 256) (h2 : 0 ≤ oth) (h3 : oth < 256) (h : oth ≠ one) : ∀ w : List Bool, (((w.map (octB one oth)).map fun c => (c.toNat : Int)).filter (· == oth)).length = cntB w
  | [] => rfl
  | c :: w => by
    have ih := cnt_oct h0 h1 h2 h3 h w
    unfold cntB at ih ⊢
    cases c with
    | true =>
      rw [List.map_cons, List.map_cons, List.filter_cons_of_pos (by simp only [octB, if_true]; rw [oct_nat h2 h3]; simp), List.filter_cons_of_pos rfl, List.length_cons, List.length_cons, ih]
    | false =>
      rw [List.map_cons, List.map_cons, List.filter_cons_of_neg (by simp only [octB, Bool.false_eq_true, if_false]; rw [oct_nat h0 h1]; simpa using Ne.symm h), List.filter_cons_of_neg (by decide), ih]
theorem enter_callS {M : Model} {A : Around} {s : Shared} {f : Value} {pos : List Value} {kw : List (Str × Value)} {c : ClaimW} {cl : Str → Option Addr} {mean : ExcName → Option Value} {args : List WData} {s₁ : Shared}
    (h : codeS M A (.call f ⟨pos, kw⟩) (GoodW c cl mean args s₁) s) : wpS M A (PySem.call f pos kw) (fun v s' => GoodWG c cl mean args s₁ (.ok (.ret v)) s') (fun e s' => GoodWG c cl mean args s₁ (.error e) s') s :=
  wpS_call (codeS_mono h fun res s' g => by rcases g.1 with ⟨v, _, _, rfl, _⟩ | ⟨e, _, _, rfl, _⟩ <;> exact g.toG)

section
variable {prog : Program} {w : World} {p : Program} {loose : List Str} {mean : ExcName → Option Value} {mg mb : Str → Option Value} {s : Shared} {R : Result → Shared → Prop}
set_option maxHeartbeats 8000000 in
theorem law_S {l : Addr} {vs : List Value} {ns : List Int} (X : (MineH.hd.heap_39 w.params).In s.heap) (T : Top p loose mean mg mb s.heap) (hl : s.heap.IsList l vs.toArray) (hi : IntsAre vs ns) (hz : ns.length ≤ 63)
    (hret : ∀ h' tk' L m, Fr s.heap L h' m → R (.ok (.ret (.bool true))) { s with heap := h', toks := tk' }) :
    codeS (model prog w) callerA (.call (.ref 54) ⟨[.ref l], []⟩) R s := by
  w_top off
  have hfill : PySem.Challenge.rw_ny0470_01 = PySem.Challenge.rw_ny0470_01 ∧ MineH.hd.heap_39 = MineH.hd.heap_39 := by k_fill; exact ⟨rfl, rfl⟩
  clear hfill
  have B := below_caller s.heap
  k_dflt (refine' code_topCS (binds := [(Str.ofString "script", .ref l)]) (fun n => [(Str.ofString "other", n + 1)]) X T ?k6 ?k7 ?k8 ?k9 ?kB ?kD ?kC ?_ ?c2 ?c3 ?c4; (case k6 => k_is); (case k7 => k_is); (case k8 => decide); (case k9 => exact BindsTo.of_eq rfl); (case kB => exact rfl); (case kD => decide +kernel); (case kC => exact fun _ => rfl); (case c2 => exact rfl); (case c3 => exact rfl); (case c4 => exact rfl))
  intro L' h₁ tk₁ cells hL' F' N' Y'
  obtain ⟨oc, hE', dc⟩ := CellsAre.one Y'
  subst hE'
  clear Y'
  change Fr s.heap L' h₁ (fun y => if y = Str.ofString "script" then some (.ref l) else none) at F'
  change oc.data = .cell none at dc
  refine wpS_execs_cons (wpS_any ?_)
  k_fold
  walk_at "S"
  all_goals (try clear qk ek)
  refine wpS_execs_cons (wpS_any ?_)
  k_fold
  walk_at "S"
  all_goals (try clear qk ek)
  refine wpS_execs_cons (wpS_any ?_)
  k_fold
  walk_at "S"
  all_goals (try clear qk ek)
  refine wpS_execs_cons (wpS_any ?_)
  k_fold
  walk_at "S"
  all_goals (try clear qk ek)
  refine wpS_execs_cons (wpS_any ?_)
  k_fold
  walk_at "S"
  all_goals (try clear qk ek)
  rename Fr _ _ _ _ => F₂a
  rename News _ _ _ _ => N₂
  rename IntsAre _ (List.take 6 ns ++ _) => hI
  rename_i D2 ws2 hh9 hI1 hC1 hL1 l13 la hh8 l12 D1 ws1 hh7 hI0 hC0 hL0 l11 D ws hh6 l10 hh5 hh4 tk' t' hh3 hh2 hh1 oo dda hh0
  have hlenD : (List.take 6 ns ++ List.drop ((ns.length : Nat) : Int).toNat [2, 1]).length = min 6 ns.length + (2 - ns.length) := by
    rw [List.length_append, List.length_take, List.length_drop]; simp
  have N₃ : News s.heap L' hh0 [(D, listOf ws.toArray 0), (L' + 1, oo)] := fun p hp => N₂ p (by
    rcases List.mem_cons.mp hp with rfl | hp
    · exact .head _
    · rw [List.mem_singleton.mp hp]; simp)
  have hLD : L' + 1 < D := l10.2.2.2
  clear N₂ hI1 hC1 hL1 l13 l12 hI0 hC0 hL0 l11 l10 dc
  generalize hnums : List.take 6 ns ++ List.drop ((ns.length : Nat) : Int).toNat [2, 1] = nums at *
  have hn2 : 2 ≤ nums.length := by omega
  have hn6 : nums.length ≤ 6 := by omega
  obtain ⟨to, dd⟩ : ∃ to, oo.data = .cell (some (.int ((nums.sum.fmod 256 + 1 + (nums.sum.fdiv 256).fmod 255).fmod 256) to)) := ⟨_, dda⟩
  obtain ⟨tw, t1, tt, F₂⟩ : ∃ tw t1 tt, Fr s.heap L' hh0 (fun y => if y = Str.ofString "word" then some (.bytes #[] tw) else if y = Str.ofString "one" then some (.int (nums.sum.fmod 256) t1) else if y = Str.ofString "total" then some (.int nums.sum tt) else if y = Str.ofString "numbers" then some (.ref D) else if y = Str.ofString "script" then some (.ref l) else none) := ⟨_, _, _, F₂a⟩
  clear F₂a dda
  have hone0 : 0 ≤ nums.sum.fmod 256 := Int.fmod_nonneg_of_pos _ (by decide)
  have hone1 : nums.sum.fmod 256 < 256 := Int.fmod_lt_of_pos _ (by decide)
  have hoth0 : 0 ≤ (nums.sum.fmod 256 + 1 + (nums.sum.fdiv 256).fmod 255).fmod 256 := Int.fmod_nonneg_of_pos _ (by decide)
  have hoth1 : (nums.sum.fmod 256 + 1 + (nums.sum.fdiv 256).fmod 255).fmod 256 < 256 := Int.fmod_lt_of_pos _ (by decide)
  have hdiff : (nums.sum.fmod 256 + 1 + (nums.sum.fdiv 256).fmod 255).fmod 256 ≠ nums.sum.fmod 256 := by
    have h1 : 0 ≤ (nums.sum.fdiv 256).fmod 255 := Int.fmod_nonneg_of_pos _ (by decide)
    have h2 : (nums.sum.fdiv 256).fmod 255 < 255 := Int.fmod_lt_of_pos _ (by decide)
    generalize (nums.sum.fdiv 256).fmod 255 = x at *
    generalize nums.sum.fmod 256 = y at *
    rw [Int.fmod_eq_emod_of_nonneg _ (by decide)]
    omega
  generalize nums.sum.fmod 256 = one at *
  generalize (one + 1 + (nums.sum.fdiv 256).fmod 255).fmod 256 = oth at *
  generalize nums.sum = total at *
  refine wpS_tk (s := s) (h' := hh0) fun tk => ?_
  clear hnums hlenD hh9 hh8 hh7 hh6 hh5 hh4 hh3 hh2 hh1 ws1 ws2 D1 D2 la tk' t'
  refine wpS_execs_cons (wpS_For ?_)
  refine wpS_any ?_
  k_fold
  walk_at "S"
  all_goals (try clear qk ek)
  rename Fr _ _ _ _ => F₃
  rename News _ _ _ _ => N₄
  rename IsRange _ _ _ _ _ _ _ _ => hr₃
  refine forRangeS (σ := List UInt8 × Tok × Option Value × Option Value) (n := nums.length) rfl hr₃ (small_of rangeSize_one (by omega) (by omega) (by omega) (by omega) (by omega) (by omega) (by omega)) rangeSize_one rfl rfl
    (fun i c => c.1 = (wordB ((nums.take i).map par)).map (octB one oth))
    (fun c y => if y = Str.ofString "high" then c.2.2.2 else if y = Str.ofString "size" then c.2.2.1 else if y = Str.ofString "word" then some (.bytes c.1.toArray c.2.1) else if y = Str.ofString "one" then some (.int one t1) else if y = Str.ofString "total" then some (.int total tt) else if y = Str.ofString "numbers" then some (.ref D) else if y = Str.ofString "script" then some (.ref l) else none)
    (fun _ => [(D, listOf ws.toArray 0), (L' + 1, oo)]) ([], tw, none, none) F₃ N₄ ?mp ?i0 ?turn ?done
  case mp =>
    intro z hz
    by_cases h1 : z = Str.ofString "high"
    · subst h1; rfl
    · by_cases h2 : z = Str.ofString "size"
      · subst h2; rfl
      · simp only [if_neg h1, if_neg h2]
  case i0 => rfl
  case turn =>
    rintro i ⟨wd, twd, sv, hv⟩ I it t h tk₂ hi hc hoff F₅ N₅
    change Fr s.heap L' _ _ at F₅
    change News s.heap L' _ _ at N₅
    dsimp only at hc F₅ N₅
    clear F₃ N₄ hr₃
    have hoff1 : D ≠ I := hoff _ (List.mem_cons_self ..)
    have hoff2 : L' + 1 ≠ I := hoff _ (List.mem_cons_of_mem _ (List.mem_cons_self ..))
    refine wpS_execs_cons (wpS_Assign_Name (wpS_Call_K (K := MineH.hd.heap_39 w.params) (f := .ref 35) (by k_is) ?_))
    k_fold
    walk_at "S"
    all_goals (try clear qk ek)
    have hwl : wd.length ≤ 100 := by
      rw [hc, List.length_map]; exact word_len (by rw [List.length_map, List.length_take]; omega)
    have hie : (0 + (i : Int) * 1).toNat = i := by omega
    have hinj := octB_inj hone0 hone1 hoth0 hoth1 hdiff
    refine wpS_cut (fun vs h' => ∃ t', vs = [.bytes (wd ++ [octB one oth (par (nums.getD i 0))]).toArray t'] ∧ Fr s.heap L' h' (fun y => if y = Str.ofString "k" then some (.int (0 + (i : Int) * 1) t) else if y = Str.ofString "high" then hv else if y = Str.ofString "size" then sv else if y = Str.ofString "word" then some (.bytes wd.toArray twd) else if y = Str.ofString "one" then some (.int one t1) else if y = Str.ofString "total" then some (.int total tt) else if y = Str.ofString "numbers" then some (.ref D) else if y = Str.ofString "script" then some (.ref l) else none)
      ∧ News s.heap L' h' [(I, it), (D, listOf ws.toArray 0), (L' + 1, oo)]) ?_ ?_
    · k_fold
      walk_at "S"
      all_goals (try clear qk ek)
      · rename Fr _ _ _ _ => F₆
        rename News _ _ _ _ => N₆
        rename (_ : Int) = 1 => hp
        rw [hie] at hp
        have e : octB one oth (par (nums.getD i 0)) = oth.toNat.toUInt8 := by unfold octB par; rw [hp]; rfl
        rw [e]
        exact CutEnd.mk ⟨_, rfl, F₆, fun p hp => N₆ p (List.mem_cons_of_mem _ hp)⟩
      · rename Fr _ _ _ _ => F₆
        rename News _ _ _ _ => N₆
        rename (_ : Int) ≠ 1 => hp
        rw [hie] at hp
        have e : octB one oth (par (nums.getD i 0)) = one.toNat.toUInt8 := by unfold octB par; rw [if_neg (by simpa using hp)]
        rw [e]
        exact CutEnd.mk ⟨_, rfl, F₆, fun p hp => N₆ p (List.mem_cons_of_mem _ hp)⟩
    rintro vs' h₆ tk₆ ⟨t₆, rfl, F₆, N₆⟩
    refine ⟨X.keeps F₆.keep, ?_⟩
    refine grown_S B F₆ X N₆ T rfl (by decide) (by rw [List.length_append]; simp; omega) fun f t₇ h₇ tk₇ hfr F₇ N₇ => ?_
    have hword : (wd ++ [octB one oth (par (nums.getD i 0))]) ++ ((wd ++ [octB one oth (par (nums.getD i 0))]).take f).reverse = (wordB ((nums.take (i + 1)).map par)).map (octB one oth) := by
      have e1 : wd ++ [octB one oth (par (nums.getD i 0))] = (wordB ((nums.take i).map par) ++ [par (nums.getD i 0)]).map (octB one oth) := by rw [hc, List.map_append]; rfl
      rw [e1] at hfr ⊢
      rw [grow_map hinj hfr, ← wordB_snoc]
      congr 1
      rw [List.take_succ, List.map_append, List.getElem?_eq_getElem hi, List.getD_eq_getElem?_getD, List.getElem?_eq_getElem hi]
      rfl
    rw [hword]
    k_sweep
    show wpAny _ _ _ _ _ _
    k_fold
    walk_at "S"
    all_goals (try clear qk ek)
    rename Fr _ _ _ _ => F₈
    rename News _ _ _ _ => N₈
    generalize hwd' : (wordB ((nums.take (i + 1)).map par)).map (octB one oth) = wd' at *
    have hwl' : wd'.length ≤ 100 := by
      rw [← hwd', List.length_map]; exact word_len (by rw [List.length_map, List.length_take]; omega)
    refine wpS_tk (s := s) fun tk₈ => ?_
    refine wpS_execs_cons (wpS_any ?_)
    k_fold
    walk_at "S"
    all_goals (try clear qk ek)
    refine wpS_execs_cons (wpS_any ?_)
    k_fold
    walk_at "S"
    all_goals (try clear qk ek)
    rename Fr _ _ _ _ => F₉
    rename News _ _ _ _ => N₉
    show wpAny _ _ _ _ _ _
    refine comp_any (cl := [(Str.ofString "other", L' + 1)]) (pOth oth) (fun _ _ => True) rfl (by decide) rfl (by decide) rfl ?_
    refine wpAny_Name (wpAny_loadName_local rfl rfl F₉.ns rfl ?_)
    refine comp_bytes rfl (by omega) F₉ N₉ ?_ ?_ ?_
    · rintro C v s₃ m₃ E' ⟨c, u, hc, rfl⟩ hns hm F₃ N₃
      refine wpAny_tests_one (wpAny_isTrue_Compare1 (wpAny_Name (wpAny_loadName_local rfl rfl hns hm (lcf_cell N₃ rfl (.tail _ (.tail _ (.head _))) dd (eq_int (wpAny_truthy_bool ?_)) rfl rfl))))
      exact ⟨rfl, _, _, rfl, fun _ _ e => e⟩
    · rintro C v s₃ m₃ E' ⟨c, u, hc, rfl⟩ _ hns hm F₃ N₃
      exact wpAny_Name (wpAny_loadName_local rfl rfl hns hm ⟨trivial, _, _, rfl, fun _ _ e => e⟩)
    intro D₂ k₂ ys vs₂ h₂ tk₂ F₁₀ N₁₀ hne₂ hI₂ hG₂
    have hys : ys.length = cntB (wordB (List.map par (List.take (i + 1) nums))) := by
      rw [← paired_len hG₂, pOth_ints hI₂, ← hwd', cnt_oct hone0 hone1 hoth0 hoth1 hdiff]
    have hys' : ys.length ≤ 100 := by
      have : ys.length ≤ wd'.length := by
        rw [hys, ← hwd', List.length_map]; exact List.length_filter_le _ _
      omega
    clear hG₂ hI₂ F₉ N₉
    have hll : h₂.IsList D₂ ys.toArray := News.isList N₁₀ (.head _)
    have hfit : ((ys.toArray.size : Nat) : Int) < 2 ^ 63 := by rw [List.size_toArray]; omega
    walk_at "S"
    clear hll hfit
    all_goals (try clear qk ek)
    rename Fr _ _ _ _ => F₁₁
    rename News _ _ _ _ => N₁₁
    rw [show ((ys.toArray.size : Nat) : Int) + 1 = ((cntB (wordB (List.map par (List.take (i + 1) nums))) + 1 : Nat) : Int) from by rw [List.size_toArray, hys]; rfl, show ((wd'.toArray.size : Nat) : Int) + 2 = ((wd'.length + 2 : Nat) : Int) from by rw [List.size_toArray]; rfl] at F₁₁
    rename_i hh11
    obtain ⟨tsz, thi, F₁₂⟩ : ∃ tsz thi, Fr s.heap L' hh11 (fun y => if y = Str.ofString "high" then some (.int ((cntB (wordB (List.map par (List.take (i + 1) nums))) + 1 : Nat) : Int) thi) else if y = Str.ofString "size" then some (.int ((wd'.length + 2 : Nat) : Int) tsz) else if y = Str.ofString "word" then some (Value.bytes wd'.toArray t₇) else if y = Str.ofString "k" then some (Value.int (0 + ↑i * 1) t) else if y = Str.ofString "high" then hv else if y = Str.ofString "size" then sv else if y = Str.ofString "word" then some (Value.bytes wd.toArray twd) else if y = Str.ofString "one" then some (Value.int one t1) else if y = Str.ofString "total" then some (Value.int total tt) else if y = Str.ofString "numbers" then some (Value.ref D) else if y = Str.ofString "script" then some (Value.ref l) else none) := ⟨_, _, F₁₁⟩
    have N₁₂ : News s.heap L' hh11 [(I, it), (D, listOf ws.toArray 0), (L' + 1, oo)] := fun p hp => N₁₁ p (List.mem_cons_of_mem _ hp)
    clear F₁₁ N₁₁ hne₂
    have hps : (List.map par (List.take (i + 1) nums)).length = i + 1 := by rw [List.length_map, List.length_take]; omega
    have hg := good_all (ps := List.map par (List.take (i + 1) nums)) (by omega) (by omega)
    simp only [goodB, Bool.and_eq_true, decide_eq_true_eq, beq_iff_eq] at hg
    obtain ⟨⟨_, hg1⟩, hg2⟩ := hg
    have hwlen : (wordB (List.map par (List.take (i + 1) nums))).length = wd'.length := by rw [← hwd', List.length_map]
    have hints : (wd'.map fun c => (c.toNat : Int)) = (wordB (List.map par (List.take (i + 1) nums))).map fun c => if c then oth else one := by
      rw [← hwd', List.map_map]
      apply List.map_congr_left
      intro c _
      cases c <;> simp only [Function.comp, octB, if_true, Bool.false_eq_true, if_false]
      · exact oct_nat hone0 hone1
      · exact oct_nat hoth0 hoth1
    have hline : lineL (wd'.length + 2) (cntB (wordB (List.map par (List.take (i + 1) nums))) + 1) one oth (wd'.length + 2 - 2) = wd'.map fun c => (c.toNat : Int) := by
      rw [line_val, hints, ← hwlen, hg1]
    rw [hwlen] at hg2
    have hcl : cntB (wordB (List.map par (List.take (i + 1) nums))) ≤ wd'.length := by rw [← hwlen]; exact List.length_filter_le _ _
    generalize cntB (wordB (List.map par (List.take (i + 1) nums))) = cnt at *
    refine wpS_tk (s := s) (h' := hh11) fun tk₁₂ => ?_
    clear hys hys' ys vs₂ hg1 hints hwlen
    refine wpS_execs_cons (wpS_If (wpS_isTrue_Compare1 ?_))
    refine wpS_any ?_
    k_fold
    walk_at "S"
    all_goals (try clear qk ek)
    refine list_bytes (s := ⟨_, _, _, _, _⟩) rfl F₁₂ N₁₂ (by omega) ?_
    intro D₃ k₃ vs₃ h₃ tk₃ F₁₃ N₁₃ hD₃ hI₃
    show wpS _ _ _ _ _ _
    refine wpS_Call_K (K := MineH.hd.heap_39 w.params) (f := .ref 49) (by k_is) ?_
    clear qk ek
    clear F₁₂ N₁₂
    k_fold
    walk_at "S"
    all_goals (try clear qk ek)
    refine wpS_any ?_
    k_fold
    walk_at "S"
    all_goals (try clear qk ek)
    refine line_S B F₁₃ X N₁₃ T rfl (by decide) (by omega) (by omega) (by omega) fun ad vs₄ k₄ h₄ tk₄ hI₄ F₁₄ N₁₄ hl₄ => ?_
    rw [hline] at hI₄
    clear F₁₃ N₁₃
    have hv3 : vs₃.length ≤ 1000 := by rw [hI₃.length, List.length_map]; omega
    have hv4 : vs₄.length ≤ 1000 := by rw [hI₄.length, List.length_map]; omega
    refine wpS_any ?_
    k_fold
    walk_at "S"
    all_goals (try clear qk ek)
    refine wpS_any (wpAny_truthy_bool ?_)
    rw [if_neg Bool.false_ne_true]
    refine wpS_execs_nil ?_
    show wpS _ _ _ _ _ _
    have N₁₅ : News s.heap L' h₄ [(I, it), (D, listOf ws.toArray 0), (L' + 1, oo)] := fun p hp => N₁₄ p (List.mem_cons_of_mem _ (List.mem_cons_of_mem _ hp))
    clear N₁₄ hl₄ hI₃ hI₄ hv3 hv4 hD₃ hline
    refine wpS_tk (s := s) (h' := h₄) fun tk₁₅ => ?_
    refine wpS_execs_cons (wpS_If (wpS_isTrue_Compare1 ?_))
    refine wpS_Call_K (K := MineH.hd.heap_39 w.params) (f := .ref 42) (by k_is) ?_
    k_fold
    walk_at "S"
    all_goals (try clear qk ek)
    refine wpS_any ?_
    k_fold
    walk_at "S"
    all_goals (try clear qk ek)
    rw [show ((wd'.length + 2 : Nat) : Int) - ((cnt + 1 : Nat) : Int) = ((wd'.length + 2 - (cnt + 1) : Nat) : Int) from by omega]
    rename Fr _ _ _ _ => F₁₅
    refine letters_S B F₁₅ X N₁₅ T rfl (by decide) (by omega) (by omega) (by omega) fun ad₅ vs₅ k₅ ns₅ h₅ tk₅ hLe hI₅ hv5 F₁₆ N₁₆ hl₅ => ?_
    have hns₅ := letters_val hLe (by omega) (by omega) 110 (by omega)
    rw [hg2] at hns₅
    clear F₁₅ N₁₅
    refine wpS_any ?_
    k_fold
    walk_at "S"
    all_goals (try clear qk ek)
    rename IntsAre ys _ => hI₈
    have hys₈ : List.map (fun k' => Int.fmod k' 2) (List.take (0 + (i : Int) * 1 + 1).toNat nums) = ns₅ := by
      rw [hns₅, List.map_map, show (0 + (i : Int) * 1 + 1).toNat = i + 1 from by omega]
      apply List.map_congr_left
      intro z _
      have h0 := Int.fmod_nonneg_of_pos z (b := 2) (by decide)
      have h1 := Int.fmod_lt_of_pos z (b := 2) (by decide)
      simp only [Function.comp, par]
      by_cases h : z.fmod 2 = 1
      · simp [h]
      · simp [h]; omega
    rw [hys₈] at hI₈
    have hy8 : ys.length ≤ 1000 := by rw [hI₈.length, ← hI₅.length]; exact hv5
    refine wpS_any ?_
    k_fold
    walk_at "S"
    all_goals (try clear qk ek)
    refine wpS_any (wpAny_truthy_bool ?_)
    rw [if_neg Bool.false_ne_true]
    refine wpS_execs_nil ?_
    show wpS _ _ _ _ _ _
    refine wpS_execs_nil ?_
    rename Fr _ _ _ _ => F₁₇
    rename News _ _ _ _ => N₁₇
    refine TurnEnd.next (wd', t₇, some (.int ((wd'.length + 2 : Nat) : Int) tsz), some (.int ((cnt + 1 : Nat) : Int) thi)) F₁₇ (fun p hp => N₁₇ p (List.mem_cons_of_mem _ (List.mem_cons_of_mem _ (List.mem_cons_of_mem _ hp)))) hoff ?_ rfl
    intro z hz
    by_cases h1 : z = Str.ofString "high"
    · subst h1; rfl
    · by_cases h2 : z = Str.ofString "size"
      · subst h2; rfl
      · by_cases h3 : z = Str.ofString "word"
        · subst h3; rfl
        · simp only [if_neg h1, if_neg h2, if_neg h3, if_neg hz]
  case done =>
    rintro ⟨wd, twd, sv, hv⟩ m' h tk₂ hc F₅ hm N₅
    show wpS _ _ _ _ _ _
    change Fr s.heap L' _ _ at F₅
    change News s.heap L' _ _ at N₅
    clear F₃ N₄ hr₃
    refine wpS_execs_cons (wpS_Return ?_)
    refine wpS_any ?_
    k_fold
    walk_at "S"
    all_goals (try clear qk ek)
    exact hret _ _ _ _ F₅
end
end Mine
set_option maxRecDepth 100000
set_option Elab.async false
open PySem PySem.W PySem.Calls PyProof.Rows Mine
set_option maxHeartbeats 8000000 in
theorem PySem.Challenge.cw_ny0470_01_holds : PySem.Challenge.rw_ny0470_01.Holds := by
  w_on
  refine MineH.hd ?_
  k_fill
  intro w s₀ s₁ mg mb G Y fa o pm cd doc dV kV ho hd hcd hD hmg hg args vals as hpre hlay hrd hwl hlo
  have KX := kIn_of Y
  refine Ground.open G ?_
  intro T B D TE TW
  wrow_args hpre hlay hrd hwl hlo
  rename_i ns _ _ _ _ _ _ _ l vs _ hl _ _ _ hi _ hcond _
  have hfa : mg (Str.ofString "law") = some (.ref 54) := mg_of KX T.g (by k_is)
  obtain rfl : fa = 54 := by
    have e : some (Value.ref 54) = some (Value.ref fa) := hfa.symm.trans hmg
    injection e with e
    injection e with e
    exact e.symm
  have hz : ns.length ≤ 63 := by omega
  have hn : ∀ cls, PySem.Challenge.rw_ny0470_01.row.claim.raises [ofPy (PyData.list (List.map PyData.int ns))] cls = false := raisesW_false (by wrow_none_raised)
  have hp : PySem.Challenge.rw_ny0470_01.row.claim.post [ofPy (PyData.list (List.map PyData.int ns))] (.bool true) [ofPy (PyData.list (List.map PyData.int ns))] = true := by wrow_post
  refine ⟨⟨.inl ⟨_, .bool true, [], rfl, hn, .bool true, hp, unshared_nil⟩, .of_keep fun _ _ e => e, rfl, .of_eq hg⟩, ?_⟩
  refine enter_callS ?_
  refine law_S KX T hl hi hz fun h' tk' L m F => ?_
  exact goodW_bool F hg hn hp
