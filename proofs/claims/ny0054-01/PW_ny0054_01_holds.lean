import PyProof.Rows.All
import Wide.All
import OpenK.AllK
import Wide.FinOn
import PySem.Challenge.RW_ny0054_01
open PySem PySem.W PyProof.Rows PySem.Calls
set_option Elab.async false
set_option compiler.extract_closed false
set_option maxRecDepth 100000
namespace Mine
/-! D1 -/
/-! A walk under a stack that bears no decoder (bytearray's __init__ asks the stack for one). -/
/-- a decoder that holds its argument's bytes -/
def isDec : Code → Bool
  | .builtin id _ => Builtin.Bytes.decodersThatHold.contains id
  | _ => false
/-- no decoder on the stack -/
def Clean (Γ : Ctx) : Prop := isDec Γ.code = false ∧ ∀ x ∈ Γ.below, isDec x.1 = false
theorem Clean.goto {Γ : Ctx} (h : Clean Γ) {c : Code} (hc : isDec c = false) : Clean (Γ.goto c) := ⟨hc, h.2⟩
theorem Clean.enter {Γ : Ctx} (h : Clean Γ) {c : Code} (hc : isDec c = false) (hd : Option Value) (p : Pos) : Clean (Γ.enter c hd p) :=
  ⟨hc, fun x hx => by
    rcases List.mem_cons.mp hx with rfl | hx
    · exact h.1
    · exact h.2 x hx⟩
def wpD {α : Type} (M : Model) (A : Around) (t : Sem α) (Q : α → Shared → Prop) (E : Value → Shared → Prop) (s : Shared) : Prop :=
  ∀ Γ p, Γ.In A → Clean Γ → Sem.wp M Γ t (fun a _ s' => Q a s') (fun e _ s' => E e s') p s
def codeD (M : Model) (A : Around) (c : Code) (R : Result → Shared → Prop) (s : Shared) : Prop :=
  ∀ Γ p, Γ.code = c → Γ.Below A → Clean Γ → wpCode M Γ R p s
section
variable {α β : Type} {M : Model} {A : Around} {E : Value → Shared → Prop} {s : Shared}
theorem wpD_of_any {t : Sem α} {Q : α → Shared → Prop} (h : wpAny M A t Q E s) : wpD M A t Q E s := fun Γ p hΓ _ => h Γ p hΓ
theorem wpD_mono {t : Sem α} {Q Q' : α → Shared → Prop} {E' : Value → Shared → Prop} (h : wpD M A t Q E s) (hQ : ∀ a s, Q a s → Q' a s) (hE : ∀ e s, E e s → E' e s) : wpD M A t Q' E' s :=
  fun Γ p hΓ hc => Sem.wp_mono M Γ t (fun a _ s => hQ a s) (fun e _ s => hE e s) p s (h Γ p hΓ hc)
theorem wpD_bind {m : Sem α} {f : α → Sem β} {Q : β → Shared → Prop} (h : wpD M A m (fun a s' => wpD M A (f a) Q E s') E s) : wpD M A (m >>= f) Q E s := fun Γ p hΓ hc => by
  rw [Sem.wp_bind']
  exact Sem.wp_mono M Γ m (fun a p' s' h' => h' Γ p' hΓ hc) (fun _ _ _ h' => h') p s (h Γ p hΓ hc)
/-- the first part asks nothing of the stack -/
theorem wpD_bindA {m : Sem α} {f : α → Sem β} {Q : β → Shared → Prop} (h : wpAny M A m (fun a s' => wpD M A (f a) Q E s') E s) : wpD M A (m >>= f) Q E s := wpD_bind (wpD_of_any h)
theorem wpD_pure {a : α} {Q : α → Shared → Prop} (h : Q a s) : wpD M A (pure a) Q E s := fun _ _ _ _ => h
theorem wpD_onRaise {m : Sem α} {k : Value → Sem Unit} {Q : α → Shared → Prop} (h : wpD M A m Q (fun e s' => wpAny M A (k e) (fun _ s'' => E e s'') E s') s) : wpD M A (m.onRaise k) Q E s := fun Γ p hΓ hc => by
  rw [Sem.wp_onRaise]
  exact Sem.wp_mono M Γ m (fun _ _ _ h' => h') (fun e p' s' h' => h' Γ p' hΓ) p s (h Γ p hΓ hc)
theorem wpD_holding {vs : List Value} {m : Sem α} {Q : α → Shared → Prop} (h : wpD M A m Q E s) : wpD M A (holding vs m) Q E s := fun Γ p hΓ hc => by
  rw [Sem.wp_holding]; exact h Γ p hΓ hc
theorem wpD_standAt {pos : Pos} {Q : Unit → Shared → Prop} (h : Q () s) : wpD M A (standAt pos) Q E s := fun _ _ _ _ => h
theorem wpD_of_eq {t t' : Sem α} {Q : α → Shared → Prop} (e : t = t') (h : wpD M A t' Q E s) : wpD M A t Q E s := e ▸ h
theorem codeD_of_any {c : Code} {R : Result → Shared → Prop} (h : codeAny M A c R s) : codeD M A c R s := fun Γ p hc hΓ _ => h Γ p hc hΓ
theorem codeD_mono {c : Code} {R R' : Result → Shared → Prop} (h : codeD M A c R s) (hR : ∀ r s, R r s → R' r s) : codeD M A c R' s := fun Γ p hc hΓ hd => wpCode_mono hR (h Γ p hc hΓ hd)
theorem codeD_of_tree {c : Code} {R : Result → Shared → Prop}
    (h : wpD M (A.under c) (M.den c) (fun fin s' => match fin with | .done f => R (.ok f) s' | .again c' => c'.quiet = true ∧ isDec c' = false ∧ codeD M A c' R s')
      (fun e s' => R (.error e) s') s) : codeD M A c R s := fun Γ p hc hΓ hd => by
  rw [wpCode_iff_wp, hc]
  refine Sem.wp_mono M Γ _ (fun fin p' s' h' => ?_) (fun _ _ _ h' => h') p s (h Γ p (hc ▸ hΓ.in) hd)
  cases fin with
  | done f => exact h'
  | again c' => exact ⟨h'.1, h'.2.2 (Γ.goto c') p' rfl (hΓ.goto c') (hd.goto h'.2.1)⟩
theorem codeD_loop {c : Code} {R : Result → Shared → Prop} (hq : c.quiet = true) (hn : isDec c = false) (I : Nat → Shared → Prop)
    (turn : ∀ n s, I n s → wpD M (A.under c) (M.den c)
      (fun fin s' => match fin with | .done f => R (.ok f) s' | .again c' => c' = c ∧ ∃ m, m < n ∧ I m s') (fun e s' => R (.error e) s') s)
    (n : Nat) (h : I n s) : codeD M A c R s := by
  induction n using Nat.strongRecOn generalizing s with
  | ind n ih =>
    refine codeD_of_tree (wpD_mono (turn n s h) (fun fin s' hf => ?_) fun _ _ h' => h')
    cases fin with
    | done f => exact hf
    | again c' => obtain ⟨rfl, m, hm, hI⟩ := hf; exact ⟨hq, hn, ih m hm hI⟩
theorem wpD_run {c : Code} {Q : Flow → Shared → Prop} (hn : isDec c = false)
    (hc : codeD M A c (fun r s' => match r with | .ok f => Q f s' | .error e => E e s') s) : wpD M A (run c none) Q E s :=
  fun Γ p hΓ hd => by
    rw [Sem.wp_run]
    exact hc _ p rfl (hΓ.enter c none p (by intro x; cases x)) (hd.enter hn none p)
theorem wpD_runValue {c : Code} {Q : Value → Shared → Prop} (hn : isDec c = false)
    (hc : codeD M A c (fun r s' => match r with | .ok (.ret v) => Q v s' | .ok _ => False | .error e => E e s') s) : wpD M A (runValue c) Q E s :=
  fun Γ p hΓ hd => by
    rw [Sem.wp_runValue]
    exact hc _ p rfl (hΓ.enter c none p (by intro x; cases x)) (hd.enter hn none p)
theorem wpD_call {f : Value} {pos : List Value} {kw : List (Str × Value)} {Q : Value → Shared → Prop}
    (hc : codeD M A (.call f ⟨pos, kw⟩) (fun r s' => match r with | .ok (.ret v) => Q v s' | .ok _ => False | .error e => E e s') s) : wpD M A (call f pos kw) Q E s := wpD_runValue rfl hc
theorem wpD_runOwn {c : Code} {env : Env} {Q : Flow → Shared → Prop} (hn : isDec c = false)
    (hc : codeD M A c (fun r s' => match r with | .ok f => Q f s' | .error e => cameBackBy M A env E e s') s) : wpD M A (runOwn c env) Q E s := by
  unfold runOwn
  exact wpD_onRaise (wpD_run hn hc)
end
section
variable {M : Model} {A : Around} {E : Value → Shared → Prop} {s : Shared} {env : Env}
theorem D_execs_cons {st : Stmt} {rest : List Stmt} {Q : Flow → Shared → Prop} (h : wpD M A (exec st env) (fun f s' => match f with | .next => wpD M A (execs rest env) Q E s' | f => Q f s') E s) :
    wpD M A (execs (st :: rest) env) Q E s := by
  rw [execs_cons]
  refine wpD_bind (wpD_mono h (fun f s' h' => ?_) fun _ _ e => e)
  cases f <;> first | exact h' | exact wpD_pure h'
theorem D_execs_consA {st : Stmt} {rest : List Stmt} {Q : Flow → Shared → Prop} (h : wpAny M A (exec st env) (fun f s' => match f with | .next => wpD M A (execs rest env) Q E s' | f => Q f s') E s) :
    wpD M A (execs (st :: rest) env) Q E s := D_execs_cons (wpD_of_any h)
theorem D_Assign_Name {x : Str} {pos' : Pos} {value : Expr} {pos : Pos} {Q : Flow → Shared → Prop}
    (h : wpD M A (eval value env) (fun v s₁ => wpAny M A (storeName env x v) (fun _ => Q .next) E s₁) E s)
    (hs : swapsWith value (some (.Name x pos')) pos.line env = pure false := by rfl) :
    wpD M A (exec (.Assign [.Name x pos'] value pos) env) Q E s := fun Γ p hΓ hd => by
  simp only [exec_Assign_Name env x pos' value pos hs, Sem.wp_bind', Sem.wp_cmd_standAt, Sem.wp_bindName, Sem.wp_pure']
  exact Sem.wp_mono M Γ _ (fun v _ s₁ h₁ => h₁ Γ _ hΓ) (fun _ _ _ h' => h') _ _ (h Γ _ hΓ hd)
end
section
variable {prog : Program} {w : World} {A : Around} {E : Value → Shared → Prop} {R : Result → Shared → Prop} {s : Shared}
theorem codeD_func {body : List Stmt} {env : Env}
    (h : wpD (model prog w) (A.deeper env) (execs body env) (fun f s' => R (.ok (.ret (match f with | .ret v => v | _ => .none))) s')
      (fun e s' => wpAny (model prog w) (A.deeper env) (leaving env e) (fun _ s'' => R (.error e) s'') (fun e' s'' => R (.error e') s'') s') s) :
    codeD (model prog w) A (.func body env) R s := by
  refine codeD_of_tree ?_
  show wpD _ (A.deeper env) (do point; match ← (execs body env).onRaise (leaving env) with | .ret v => ret v | _ => ret .none) _ _ s
  refine wpD_bindA (wpAny_point (wpD_bind (wpD_onRaise (wpD_mono h (fun f s' h' => ?_) fun _ _ h' => h'))))
  cases f <;> exact wpD_pure h'
theorem codeD_call_function {a : Addr} {args : Args} {o : Obj} {fd : FuncData} {body : List Stmt} (hroom : A.depth < recursionLimit) (ho : s.heap.get? a = some o)
    (hd' : o.data = .func fd) (hco : fd.scope.isCoroutine = false) (hgen : fd.scope.isGenerator = false) (hbody : fd.body = .stmts body) (hcd : s.heap.CodeRec fd.code fd.qualname)
    (h : wpAny (model prog w) A.in1 (bindArgs fd args) (fun binds s₁ =>
      wpAny (model prog w) A.in1 (newFunctionEnv fd.scope fd.globals fd.closure binds (fd.qualname ++ ".<locals>.") (some a) fd.code none fd.builtins)
        (fun env s₂ => s₂.heap.NoLimit ∧ codeD (model prog w) A (.func body env) R s₂) (fun e s' => R (.error e) s') s₁) (fun e s' => R (.error e) s') s) :
    codeD (model prog w) A (.call (.ref a) args) R s := by
  refine codeD_of_tree (wpD_of_any ?_)
  show wpAny _ A.in1 (callAny (.ref a) args) _ _ s
  simp only [callAny]
  refine wpAny_bind (wpAny_load ho ?_)
  obtain ⟨c, oc, vs, tq, hc, hoc, hdc, hq⟩ := hcd
  simp only [hd', callFunction, hco, hgen, hbody, hc]
  rw [hc] at h
  refine wpAny_bind (m := field (.ref c) 1) (wpAny_field hoc hdc hq (wpAny_bind (wpAny_pure ?_)))
  exact wpAny_bind (wpAny_mono h (fun binds s₁ h₁ => wpAny_bind (wpAny_mono h₁ (fun env s₂ h₂ => wpAny_bind (wpAny_enterFrame h₂.1 hroom
    (wpAny_pure (And.intro rfl ⟨rfl, h₂.2⟩)))) fun _ _ h' => h')) fun _ _ h' => h')
end
/-! D2 -/
section
variable {M : Model} {A : Around} {E : Value → Shared → Prop} {s : Shared} {env : Env}
theorem wpD_keep {α : Type} {vs : List Value} {m : Sem α} {Q : α → Shared → Prop} (h : wpD M A m Q E s) : wpD M A (m.keep vs) Q E s :=
  fun Γ p hΓ hd => by rw [Sem.wp_keep]; exact h Γ p hΓ hd
/-- a call's arguments, then the call -/
theorem D_callWith {P : Heap → Prop} {pos : Pos} {f : Value} {args : List (Bool × Sem Value)} {Q : Value → Shared → Prop} (hplain : (args.any (·.1)) = false)
    (hk : ∀ h, P h → ∃ k, (k = Keeper.frame ∨ k = Keeper.machine ∨ k = Keeper.boundFrame) ∧ Looks M h (keeperOf f) k)
    (h : wpAny M A (evalArgs f true args []) (fun a s₁ => P s₁.heap ∧ wpD M A (call f a.pos a.kw) Q E s₁) E s) : wpD M A (callWith pos f [] args []) Q E s := by
  unfold callWith
  refine wpD_bindA (wpAny_holding (wpAny_mono h (fun a s₁ h₁ => wpD_bindA (wpAny_standAt ?_)) fun _ _ x => x))
  obtain ⟨k, hk', L⟩ := hk _ h₁.1
  have hst : (args.any (·.1) || ([] : List (Option Str × Sem Value)).any (·.1.isNone)) = false := by rw [hplain]; rfl
  simp only [hst]
  refine wpD_bindA (L.here ?_)
  have tail : ∀ {t : Sem Value}, wpD M A t Q E s₁ → wpD M A (t >>= fun r => holding [r] point >>= fun _ => pure r) Q E s₁ :=
    fun ht => wpD_bind (wpD_mono ht (fun r s₂ hr => wpD_of_any (wpAny_bind (wpAny_holding (wpAny_point (wpAny_pure hr))))) fun _ _ x => x)
  have marked (mk : Value) : wpD M A (callMarked mk f ([] ++ a.pos) a.kw) Q E s₁ := by unfold callMarked; exact wpD_keep h₁.2
  rcases hk' with rfl | rfl | rfl <;> dsimp only <;> first | exact tail h₁.2 | (split <;> first | exact tail h₁.2 | exact tail (marked _))
/-- «f(a, ..)» where f is a def of the text -/
theorem D_Call_K {K : Frag} {fn : Str} {fp : Pos} {e : Expr} {rest : List Expr} {pos : Pos} {f : Value} {Q : Value → Shared → Prop} (hk : keepIn K f = true)
    (hf : wpAny M A (eval (.Name fn fp) env) (fun v s₁ => v = f ∧ wpAny M A (spliced (backTo pos (starEach (e :: rest) env))) (fun vs s₂ => K.In s₂.heap ∧ wpD M A (call f vs) Q E s₂) E s₁) E s)
    (he : starEach (e :: rest) env = (false, eval e env) :: starEach rest env := by rfl) (hplain : (backTo pos (starEach rest env)).any (·.1) = false := by rfl) :
    wpD M A (eval (.Call (.Name fn fp) (e :: rest) [] pos) env) Q E s := by
  show wpD M A (eval (.Name fn fp) env >>= fun v => callWith pos v [] (backTo pos (starEach (e :: rest) env)) []) Q E s
  refine wpD_bindA (wpAny_mono hf (fun v s₁ h₁ => ?_) fun _ _ x => x)
  obtain ⟨rfl, h₁⟩ := h₁
  rw [he] at h₁ ⊢
  exact D_callWith (by show (false || (backTo pos (starEach rest env)).any (·.1)) = false; rw [hplain]; rfl) (keeps_K hk) (evalArgs_plain h₁)
/-- «T(a, ..)» where T is a built-in type -/
theorem D_Call_type {T : String} {fn : Str} {fp : Pos} {e : Expr} {rest : List Expr} {pos : Pos} {Q : Value → Shared → Prop}
    (hf : wpAny M A (eval (.Name fn fp) env) (fun v s₁ => v = .type T ∧ wpAny M A (spliced (backTo pos (starEach (e :: rest) env))) (fun vs s₂ => wpD M A (call (.type T) vs) Q E s₂) E s₁) E s)
    (he : starEach (e :: rest) env = (false, eval e env) :: starEach rest env := by rfl) (hplain : (backTo pos (starEach rest env)).any (·.1) = false := by rfl) :
    wpD M A (eval (.Call (.Name fn fp) (e :: rest) [] pos) env) Q E s := by
  show wpD M A (eval (.Name fn fp) env >>= fun v => callWith pos v [] (backTo pos (starEach (e :: rest) env)) []) Q E s
  refine wpD_bindA (wpAny_mono hf (fun v s₁ h₁ => ?_) fun _ _ x => x)
  obtain ⟨rfl, h₁⟩ := h₁
  rw [he] at h₁ ⊢
  refine D_callWith (P := fun _ => True) (by show (false || (backTo pos (starEach rest env)).any (·.1)) = false; rw [hplain]; rfl) (fun h _ => ⟨.machine, .inr (.inl rfl), Looks.of_pure rfl⟩) (evalArgs_plain (wpAny_mono h₁ (fun _ _ x => ⟨trivial, x⟩) fun _ _ x => x))
theorem wpD_noted {α : Type} {m : Sem α} {Q : α → Shared → Prop} (h : wpD M A m Q (notedBy M A env E) s) : wpD M A (m.onRaise fun x => do noteFrame x env; theTreesLotGoes x) Q E s :=
  wpD_onRaise (wpD_mono h (fun _ _ q => q) fun _ _ hx => wpAny_bind (wpAny_mono hx (fun _ _ e => wpAny_theTreesLotGoes e) fun _ _ e => e))
end
section
variable {prog : Program} {w : World} {A : Around} {E : Value → Shared → Prop} {R : Result → Shared → Prop} {s : Shared} {env : Env}
theorem codeD_whileLoop {test : Expr} {body : List Stmt} (I : Nat → Shared → Prop)
    (turn : ∀ n s, I n s →
      wpAny (model prog w) A (isTrue test env (eval test env)) (fun b s₂ =>
        if b = true then wpD (model prog w) A (execs body env) (fun f s₃ => match f with
            | .next | .cont => ∃ m, m < n ∧ I m s₃
            | .brk => R (.ok .next) s₃
            | .ret v => R (.ok (.ret v)) s₃) (notedBy (model prog w) A env fun e s' => R (.error e) s') s₂
        else R (.ok .next) s₂)
        (notedBy (model prog w) A env fun e s' => R (.error e) s') s)
    (n : Nat) (h : I n s) : codeD (model prog w) A (.whileLoop test body [] env) R s := by
  refine codeD_loop rfl rfl I (fun n s hI => ?_) n h
  show wpD _ A ((whileTurn test body [] env).onRaise (fun x => do noteFrame x env; theTreesLotGoes x)) _ _ s
  refine wpD_noted ?_
  simp only [whileTurn]
  refine wpD_bindA (wpAny_mono (turn n s hI) (fun b s₂ h₂ => ?_) fun _ _ h' => h')
  cases b with
  | false =>
    simp only [Bool.false_eq_true, if_false] at h₂ ⊢
    exact wpD_of_any (wpAny_bind (wpAny_execs_nil (wpAny_pure h₂)))
  | true =>
    simp only [if_true] at h₂ ⊢
    refine wpD_bind (wpD_mono h₂ (fun f s₃ h₃ => ?_) fun _ _ h' => h')
    cases f with
    | next => exact wpD_pure ⟨rfl, h₃⟩
    | cont => exact wpD_pure ⟨rfl, h₃⟩
    | brk => exact wpD_pure h₃
    | ret v => exact wpD_pure h₃
theorem D_While {test : Expr} {body : List Stmt} {pos : Pos} {Q : Flow → Shared → Prop}
    (h : codeD (model prog w) A (.whileLoop test body [] env) (fun r s' => match r with | .ok f => Q f s' | .error e => cameBackBy (model prog w) A env E e s') s) :
    wpD (model prog w) A (exec (.While test body [] pos) env) Q E s := by
  rw [exec_While]
  exact wpD_bindA (wpAny_standAt (wpD_runOwn rfl h))
theorem D_While_inv2 {h₀ : Heap} {L : Addr} {test : Expr} {body : List Stmt} {pos : Pos} {Q : Flow → Shared → Prop} {m : Str → Option Value} {news : List (Addr × Obj)} (J : Nat → (Str → Option Value) → List (Addr × Obj) → Prop) {n₀ : Nat}
    (F : Fr h₀ L s.heap m) (N : News h₀ L s.heap news) (hJ : J n₀ m news)
    (turn : ∀ n m₁ news₁ h₁ tk₁, Fr h₀ L h₁ m₁ → News h₀ L h₁ news₁ → J n m₁ news₁ →
      wpAny (model prog w) A (isTrue test env (eval test env)) (fun b s₂ =>
        if b = true then wpD (model prog w) A (execs body env) (WhileStep2 h₀ L s J Q n) E s₂ else Q .next s₂) E { s with heap := h₁, toks := tk₁ })
    (hE : PassesOwn (model prog w) A env E) :
    wpD (model prog w) A (exec (.While test body [] pos) env) Q E s := by
  refine D_While (codeD_whileLoop (fun n s' => ∃ h₁ tk₁ m₁ news₁, s' = { s with heap := h₁, toks := tk₁ } ∧ Fr h₀ L h₁ m₁ ∧ News h₀ L h₁ news₁ ∧ J n m₁ news₁) ?_ n₀ ⟨s.heap, s.toks, m, news, rfl, F, N, hJ⟩)
  rintro n s' ⟨h₁, tk₁, m₁, news₁, rfl, F₁, N₁, J₁⟩
  refine wpAny_mono (turn n m₁ news₁ h₁ tk₁ F₁ N₁ J₁) (fun b s₂ h₂ => ?_) hE
  cases b with
  | false => simpa using h₂
  | true =>
    simp only [if_true] at h₂ ⊢
    refine wpD_mono h₂ (fun f s₃ h₃ => ?_) hE
    cases f with
    | next =>
      obtain ⟨h', tk, m₂, news₂, n', rfl, F₂, N₂, hn, J₂⟩ := h₃
      exact ⟨n', hn, h', tk, m₂, news₂, rfl, F₂, N₂, J₂⟩
    | cont =>
      obtain ⟨h', tk, m₂, news₂, n', rfl, F₂, N₂, hn, J₂⟩ := h₃
      exact ⟨n', hn, h', tk, m₂, news₂, rfl, F₂, N₂, J₂⟩
    | brk => exact h₃
    | ret v => exact h₃
end
section
variable {prog : Program} {w : World} {A A₀ : Around} {s : Shared} {K : Frag} {L : Addr} {h₀ base : Heap} {m mg mb : Str → Option Value} {news : List (Addr × Obj)} {p : Program} {loose : List Str} {mean : ExcName → Option Value}
/-- into a def without cells -/
theorem code_defD {env : Env} {outer : List Env} {R : Result → Shared → Prop} {name qual : Str} {params : Arguments} {body : List Stmt} {scope : Scope} {dV kV doc pm cdv ct oc : Value} {an od : Option Addr} {osl : Array (Option Value)} {f : Addr} {args : Args} {binds : List (Str × Value)}
    (B : Below A₀ base outer h₀) (F : Fr h₀ L s.heap m) (X₀ : K.In h₀) (N : News h₀ L s.heap news) (T : Top p loose mean mg mb h₀) (hA : A.frames = some (env :: outer)) (hf : env.frame = some L) (hke : env.scope.kind = .function)
    (ho : K.lookup f = some ⟨oc, od, .func (fnOf name qual params body scope dV kV doc pm an cdv ct), osl⟩) (hcd : codeIn K cdv qual = true) (hroom : A.depth < recursionLimit)
    (hbind : BindsTo s (fnOf name qual params body scope dV kV doc pm an cdv ct) args binds) (hloc : ∀ y ∈ binds, scope.names.lookup y.1 = some .local)
    (h : ∀ g L' h₁, Fr h₀ L g m → Fr g L' h₁ (fun y => binds.reverse.lookup y) → News g L' h₁ news → Below A base (env :: outer) g → K.In g → Top p loose mean mg mb g →
      wpD (model prog w) (A.deeper (envOf qual scope L' f cdv)) (execs body (envOf qual scope L' f cdv))
        (fun fl s' => LeaveK h₀ L m g R (match fl with | .ret v => v | _ => .none) s')
        (fun e s' => wpAny (model prog w) (A.deeper (envOf qual scope L' f cdv)) (leaving (envOf qual scope L' f cdv) e) (fun _ s'' => R (.error e) s'') (fun e' s'' => R (.error e') s'') s')
        { s with heap := h₁, toks := s.toks + binds.length })
    (hco : scope.isCoroutine = false) (hgen : scope.isGenerator = false) (hk : scope.kind = .function)
    (hcell : ∀ x ∈ scope.names, x.2 ≠ .cell) : codeD (model prog w) A (.call (.ref f) args) R s := by
  obtain ⟨FG, BG, st, lv⟩ := groundX (R := R) B F N hA hf hke
  refine codeD_call_function (fd := fnOf name qual params body scope dV kV doc pm an cdv ct) hroom ((X₀.keeps F.keep) _ _ ho) rfl hco hgen rfl (codeRec_of (X₀.keeps F.keep) hcd) (hbind _ _ _ _ ?_)
  refine wpAny_newFunctionEnv hcell hloc (fun h₁ hns₀ hsb₀ => ⟨(T.nolimit.keeps F.keep).fresh _ hsb₀, codeD_func ?_⟩) hk
  have hk₁ : ∀ b o, s.heap.get? b = some o → h₁.get? b = some o := fun b o e => hsb₀.extBut b o (Nat.ne_of_lt (Heap.lt_size e)) (Heap.get?_push_of_some _ e)
  exact wpD_mono (h _ s.heap.objs.size h₁ FG ⟨hns₀, fun b o e => hk₁ b o (of_hideAll _ e), Nat.le_of_eq (hideAll_size _ _)⟩
    (fun p hp => ⟨hk₁ _ _ (N p hp).1, Nat.ne_of_lt (Heap.lt_size (N p hp).1), hideAll_none _ (List.mem_map_of_mem hp)⟩) BG (X₀.keeps st) (T.keeps st)) (fun fl s' hl => lv _ _ hl) fun _ _ y => y
/-- into a def with cells -/
theorem code_defCD {env : Env} {outer : List Env} {R : Result → Shared → Prop} {name qual : Str} {params : Arguments} {body : List Stmt} {scope : Scope} {dV kV doc pm cdv ct oc : Value} {an od : Option Addr} {osl : Array (Option Value)} {f : Addr} {args : Args} {binds : List (Str × Value)}
    (B : Below A₀ base outer h₀) (F : Fr h₀ L s.heap m) (X₀ : K.In h₀) (N : News h₀ L s.heap news) (T : Top p loose mean mg mb h₀) (hA : A.frames = some (env :: outer)) (hf : env.frame = some L) (hke : env.scope.kind = .function)
    (ho : K.lookup f = some ⟨oc, od, .func (fnOf name qual params body scope dV kV doc pm an cdv ct), osl⟩) (hcd : codeIn K cdv qual = true) (hroom : A.depth < recursionLimit)
    (hbind : BindsTo s (fnOf name qual params body scope dV kV doc pm an cdv ct) args binds) (hkind : (binds.all fun y => scope.names.lookup y.1 == some .local || scope.names.lookup y.1 == some .cell) = true)
    (hnd : ((cellsFrom 0 scope.names []).map (·.1)).Nodup)
    (h : ∀ g L' h₁ tk cells, Fr h₀ L g m → Fr g L' h₁ (bindL (envOfC qual scope L' f cdv).kindOf binds fun _ => none) → News g L' h₁ (cells ++ news) →
      CellsAre (bindC (envOfC qual scope L' f cdv).kindOf binds fun _ => none) (cellsFrom (L' + 1) scope.names []) cells → Below A base (env :: outer) g → K.In g → Top p loose mean mg mb g → (∀ p ∈ news, p.1 < L') →
      wpD (model prog w) (A.deeper (envOfC qual scope L' f cdv)) (execs body (envOfC qual scope L' f cdv))
        (fun fl s' => LeaveK h₀ L m g R (match fl with | .ret v => v | _ => .none) s')
        (fun e s' => wpAny (model prog w) (A.deeper (envOfC qual scope L' f cdv)) (leaving (envOfC qual scope L' f cdv) e) (fun _ s'' => R (.error e) s'') (fun e' s'' => R (.error e') s'') s')
        { s with heap := h₁, toks := tk })
    (hco : scope.isCoroutine = false) (hgen : scope.isGenerator = false) (hk : scope.kind = .function) : codeD (model prog w) A (.call (.ref f) args) R s := by
  obtain ⟨FG, BG, st, lv⟩ := groundX (R := R) B F N hA hf hke
  refine codeD_call_function (fd := fnOf name qual params body scope dV kV doc pm an cdv ct) hroom ((X₀.keeps F.keep) _ _ ho) rfl hco hgen rfl (codeRec_of (X₀.keeps F.keep) hcd) (hbind _ _ _ _ ?_)
  refine wpAny_newFunctionEnv_cells hk (kindsX hkind _) fun env' he s' x => ?_
  subst he
  refine ⟨(T.nolimit.keeps F.keep).keeps x.toInCall.keep, codeD_func ?_⟩
  obtain ⟨h₁, tk, rfl, _⟩ := x.done
  have hk₁ := x.toInCall.keep
  obtain ⟨cells, NC, Y⟩ := Cl.news (h₀ := s.heap) (Nat.le_refl _) fun n c hm => ⟨x.cell n c (lookup_of_mem_nodup (cellsFrom_names scope.names 0 (s.heap.objs.size + 1) [] [] rfl ▸ hnd) hm), x.above n c hm⟩
  refine wpD_mono (h _ s.heap.objs.size h₁ tk cells FG ⟨x.toInCall.ns, fun b o e => hk₁ b o (of_hideAll _ e), Nat.le_of_eq (hideAll_size _ _)⟩ (fun p hp => ?_) Y BG (X₀.keeps st) (T.keeps st) (fun p hp => Heap.lt_size (N p hp).1)) (fun fl s' hl => lv _ _ hl) fun _ _ y => y
  rcases List.mem_append.mp hp with hp | hp
  · refine ⟨(NC p hp).1, (NC p hp).2.1, ?_⟩
    cases q : (hideAll s.heap (news.map (·.1))).get? p.1 with
    | none => rfl
    | some o => have := of_hideAll _ q; rw [(NC p hp).2.2] at this; cases this
  · exact ⟨hk₁ _ _ (N p hp).1, Nat.ne_of_lt (Heap.lt_size (N p hp).1), hideAll_none _ (List.mem_map_of_mem hp)⟩
end
/-! Head -/
/-- the claim's caller stands on a stack without a decoder -/
theorem caller_clean : Clean (⟨.builtin "claim.caller" {}, none, none, [], none⟩ : Ctx) := ⟨by decide +kernel, fun _ h => nomatch h⟩
/-- a call that ends well under the claim's caller, run by the machine -/
theorem callFrom_D {c : ClaimW} {tree : List Value → Sem PySem.Fin} {w : World} {s : Shared} {free : Addr → Prop} {gens : Prop} {kept : Heap → Prop} (hz : s.asleep) (hgens : s.gens = #[])
    (hspec : ∀ args, c.pre args = true → WData.layableAll args = true → ∀ ord : List DictEntry → List DictEntry, (∀ l, (ord l).Perm l) →
      ∃ vs s₁, layAllW c.records (classAt s.heap) w.params ord args s = some (vs, s₁) ∧
        wpD (model c.prog w) callerA (tree vs) (fun fin s' => ∃ f, fin = .done f ∧ (c.Ends s args vs s₁ (.ok f) s' ∧ s'.os = s.os ∧ AllBare s'.gens ∧ kept s'.heap))
          (fun e s' => c.Ends s args vs s₁ (.error e) s' ∧ s'.os = s.os ∧ AllBare s'.gens ∧ kept s'.heap) s₁) :
    c.CallFrom (fun vs => ⟨tree vs, .builtin "claim.caller" {}, default, []⟩) w free gens kept s := by
  intro args hpre hlay ord hord
  obtain ⟨vs, s₁, hlaid, hcode⟩ := hspec args hpre hlay ord hord
  have hrest := layAllW_rest _ _ _ hlaid
  have hwp := hcode _ default caller_in caller_clean
  obtain ⟨k, res, s₂, s₃, hsched, hrun, hfo, hE, hos, hkp⟩ := wp_halts_full (M := model c.prog w) (R := fun res s' => c.Ends s args vs s₁ res s' ∧ s'.os = s.os ∧ kept s'.heap) (Shared.asleep_of_life hrest.2.2.2 hz)
    (Sem.wp_mono _ _ _ (fun fin p' s' q => by
      obtain ⟨f, rfl, h1, h2, h3, h4⟩ := q
      exact ⟨⟨h1, h2, h4⟩, leftWithCleanup_false_of_bare h3⟩) (fun e p' s' q => ⟨⟨q.1, q.2.1, q.2.2.2⟩, leftWithCleanup_false_of_bare q.2.2.1⟩) _ _ hwp)
  obtain ⟨eh, _, _, eo, _⟩ := Shared.forget_eq hfo
  have hE := hE.congr eh
  rw [← eh] at hkp
  rw [← eo] at hos
  have hlife : s₃.heap.life = s.heap.life := (runN_life _ _ _ hrun).trans hrest.2.2.2
  refine ⟨vs, s₁, hlaid, k, _, s₃, hsched, ?_, (fun _ i x hx => by rw [hgens] at hx; simp at hx), hkp, by rw [hlife], Shared.rest_eq hos⟩
  rcases hE with ⟨v, rfl, d1, d2, d3, d4, d5⟩ | ⟨e, ob, cls, rfl, d1, d2, d3, d4, d5⟩
  · exact .inl ⟨v, rfl, d1, d2, d3, fun b o y _ => d4 b o y, d5⟩
  · exact .inr ⟨e, ob, cls, rfl, d1, d2, d3, d4, fun b o y _ => d5 b o y⟩
/-- the walk that is asked for, under a clean stack -/
abbrev WalkD (q : Program) (loose : List Str) (XP : (Str → Option Value) → Heap → Prop) (YP : World → Heap → Prop) (r : RowW) (d : DefRec) (kwd : List (Str × PySem.Expr)) : Prop :=
  ∀ (w : World) (s₀ s₁ : Shared) (mg mb : Str → Option Value), Ground q loose r.records XP w s₀ mg mb s₁.heap → YP w s₁.heap → ∀ (a : Addr) (o : Obj) (pm cd doc dV kV : Value), s₁.heap.get? a = some o →
    o.data = .func { docDef d.name d.params d.body d.scope pm cd doc with defaults := dV, kwdefaults := kV } → s₁.heap.CodeRec cd d.name → Dflts mg s₁.heap d.params kwd dV kV → mg d.name = some (.ref a) → s₁.gens = #[] →
    ∀ (args : List WData) (vals : List Value) (as : List Addr), r.claim.pre args = true → WData.layableAll args = true → ReadsAllW r.records (classAt s₀.heap) s₁.heap vals args as → WellAll w.params s₁.heap vals args → (∀ a ∈ as, (a == sysModules) = false) →
      wpD (model r.prog w) callerA (PySem.call (.ref a) vals) (fun v s' => GoodWG r.claim (classAt s₀.heap) (ExcName.means s₀.heap) args s₁ (.ok (.ret v)) s')
        (fun e s' => GoodWG r.claim (classAt s₀.heap) (ExcName.means s₀.heap) args s₁ (.error e) s') s₁
theorem PySem.W.holds_open {r : OpenRow} {q : Program} {loose : List Str} {Xt : Shared → Bool} {XP : (Str → Option Value) → Heap → Prop} {α : Type} {Yf : Shared → α} {Ya : World → α} {YP : World → Heap → Prop} {d : DefRec} {kwd : List (Str × PySem.Expr)} {N : Nat}
    (left : LeftO r.prog q loose Xt Yf Ya N) (hY : ∀ w s, Yf s = Ya w → YP w s.heap) (hYk : ∀ w h h', YP w h → (∀ b o, h.get? b = some o → h'.get? b = some o) → YP w h')
    (hX : ∀ s, Xt s = true → XP (s.heap.nsMap mainGlobals) s.heap) (hXk : ∀ mg h h', XP mg h → (∀ b o, h.get? b = some o → h'.get? b = some o) → XP mg h')
    (hdef : defOf q r.name = some (d, kwd)) (hp : r.prog.theDef r.name = some (d.params, d.body, d.scope)) (hk : kwWritten? d.params.kwonlyargs d.params.kw_defaults = some kwd) (hRf : ∀ s, Xt s = true → RecFacts r.records s.heap) (hwr : (!r.writes || r.records.isEmpty) = true)
    (k1 : r.wellSaid = true) (ok : (chainsOk q && opensWell r.prog && (frees r.toRowW && r.within.isEmpty)) = true) (hb : r.prog.bare) (hw : r.toRowW.promised)
    (call : WalkD q loose XP YP r.toRowW d kwd) : r.Holds := by
  obtain ⟨ok1, ok2⟩ := Bool.and_eq_true_iff.mp ok
  obtain ⟨hch, ow⟩ := Bool.and_eq_true_iff.mp ok1
  obtain ⟨hfr, hwn⟩ := Bool.and_eq_true_iff.mp ok2
  obtain ⟨hsame, hu, ha, hap, hm⟩ := frees_parts hfr
  refine ⟨k1, hw, ⟨hb, ow, by show r.toRowW.makers.map _ = []; rw [hm]; rfl⟩, hw.witness, fun w => ⟨(left.behind hX hch w).1, fun s' hs' => ?_⟩⟩
  obtain ⟨s₀, hf, hg0, s, hT, hz, hgens, hg, G2, y⟩ := (left.behind (XP := fun mg h => XP mg h ∧ RecFacts r.records h) (fun s hs => ⟨hX s hs, hRf s hs⟩) hch w).2 s' hs'
  have G0 : Ground q loose [] XP w s (s.heap.nsMap mainGlobals) (s.heap.nsMap builtinsNs) s.heap := ⟨G2.T, G2.B, G2.D, G2.TE, G2.TD, G2.W, G2.X.1, G2.cls, G2.has, G2.apart, G2.once, G2.K⟩
  have RF := G2.X.2
  have hT' := hT
  refine ⟨s₀, hf, hg0, s, hT, fun n hn => ?_, RF.1, RF.2.1, ?_⟩
  · obtain rfl : n = r.name := by split at hn <;> simp_all
    exact pinned_of_view hg G0 hdef hp hk
  have hgens : s.gens = #[] := Array.eq_empty_of_size_eq_zero (beq_iff_eq.mp hgens)
  have G : Ground q loose r.records XP w s _ _ s.heap := RF.ground G0
  refine callFrom_D (c := r.toRowW.claim) hz hgens fun args hpre hlay ord hord => ?_
  obtain ⟨⟨vs, s₁⟩, hlaid⟩ := Option.isSome_iff_exists.mp (layAllW_isSome (P := w.params) (ord := ord) G.has args r.toRowW.args s (pre_splitW hpre).1)
  have keeps := layAllW_keeps _ _ _ hlaid
  have hal := layAllW_rest _ _ _ hlaid
  obtain ⟨as, hrd, hin, hold⟩ := reads_layAllW hord _ _ _ hlaid hlay s₁.heap (fun _ _ e => e)
  have L : Laid r.records w s s₁ args vs as := ⟨⟨ord, hord, hlaid⟩, hrd, hin, hold, keeps, hal.1.trans hgens, hal.2.2.1⟩
  have G₁ := G.keeps hXk keeps
  have hi := ident_freeW hu ha hap
  have hwi : r.toRowW.claim.within = [] := List.isEmpty_iff.mp hwn
  obtain ⟨a, o, pm, cd, doc, dV, kV, h1, h2, h3, h4, h5⟩ := G₁.fn hdef
  have h := call w s s₁ _ _ G₁ (hYk _ _ _ (hY w s y) keeps) a o pm cd doc dV kV h2 h3 h4 h5 (defOf_name hdef ▸ h1) L.gens args vs as hpre hlay L.reads L.well (L.low G.low)
  have fin : ∀ kps {res s'}, GoodWG r.toRowW.claim (classAt s.heap) (ExcName.means s.heap) args s₁ res s' → r.toRowW.claim.Ends s args vs s₁ res s' ∧ s'.os = s.os ∧ AllBare s'.gens ∧ (r.writes = true → namesKept r.prog kps s.heap s'.heap ∧ ∀ x ∈ r.records, ∀ a, classAt s.heap x.1 = some a → recordClass s'.heap a x.1 (x.2.map (·.1)) = true) := fun kps {res s'} g =>
    have z := g.laid (c := r.toRowW.claim) hsame hwi hi L
    ⟨z.1, z.2.1, z.2.2, fun q => ⟨namesKept_of hT' hg kps keeps g.2.1.old, noTable hwr q⟩⟩
  refine ⟨vs, s₁, hlaid, wpD_bindA (wpAny_nsGet G₁.T.g ?_)⟩
  rw [show (s.heap.nsMap mainGlobals) r.name = some (.ref a) from h1]
  exact wpD_bind (wpD_mono h (fun v s' g => wpD_pure ⟨_, rfl, fin _ g⟩) fun e s' g => fin _ g)
set_option maxHeartbeats 8000000 in
open_top hd for PySem.Challenge.rw_ny0054_01
/-! B1 -/
/-- a triple as the heap bears it: three ints with their tokens -/
structure T3 where
  h : Int
  w : Int
  b : Int
  t1 : Tok
  t2 : Tok
  t3 : Tok
/-- the plain triple -/
def T3.key (x : T3) : Int × Int × Int := (x.h, x.w, x.b)
abbrev tupO (x : T3) : Obj := { cls := .type "tuple", data := .seq #[.int x.h x.t1, .int x.w x.t2, .int x.b x.t3] 0 }
/-- the order by hour, width, bell -/
def klt (x y : Int × Int × Int) : Bool := decide (x.1 < y.1 ∨ (x.1 = y.1 ∧ (x.2.1 < y.2.1 ∨ (x.2.1 = y.2.1 ∧ x.2.2 < y.2.2))))
def tlt (x y : T3) : Bool := klt x.key y.key
section
variable {prog : Program} {w : World} {A : Around} {E : Value → Shared → Prop} {s : Shared}
theorem rl_int {a b : Int} {t u : Tok} {Q : Value → Shared → Prop} (h : Q (.bool (decide (a < b))) s) : wpAny (model prog w) A (richCompare .Lt (.int a t) (.int b u)) Q E s := PyProof.Rows.lt_int h
theorem tlt_tree {x y : T3} {a b : Addr} {P : Fin → Shared → Prop} (hx : s.heap.get? a = some (tupO x)) (hy : s.heap.get? b = some (tupO y)) (h : P (.done (.ret (.bool (tlt x y)))) s) :
    wpAny (model prog w) A (Builtin.«tuple.__lt__» ⟨[.ref a, .ref b], []⟩) P E s := by
  have hTb : s.TypeIs (.ref b) "tuple" := ⟨_, hy, rfl⟩
  show wpAny _ _ (isInstance (.ref b) (.type "tuple") >>= _) _ _ s
  refine wpAny_bind (wpAny_isInstance hTb isSubtype_tuple_tuple ?_)
  simp only [Bool.not_true, Bool.false_eq_true, if_false]
  refine wpAny_bind (wpAny_tupleItemsOf hx rfl ?_)
  refine wpAny_bind (wpAny_tupleItemsOf hy rfl ?_)
  refine wpAny_bind ?_
  have ez : (#[Value.int x.h x.t1, Value.int x.w x.t2, Value.int x.b x.t3].toList.zip #[Value.int y.h y.t1, Value.int y.w y.t2, Value.int y.b y.t3].toList) = [(Value.int x.h x.t1, Value.int y.h y.t1), (Value.int x.w x.t2, Value.int y.w y.t2), (Value.int x.b x.t3, Value.int y.b y.t3)] := rfl
  rw [ez, List.forIn_cons]
  refine wpAny_bind (wpAny_bind (wpAny_eqBool_int ?_))
  by_cases e1 : x.h = y.h
  · have q1 : (x.h == y.h) = true := by simp [e1]
    rw [q1]
    simp only [Bool.not_true, Bool.false_eq_true, if_false]
    refine wpAny_pure ?_
    simp only []
    rw [List.forIn_cons]
    refine wpAny_bind (wpAny_bind (wpAny_eqBool_int ?_))
    by_cases e2 : x.w = y.w
    · have q2 : (x.w == y.w) = true := by simp [e2]
      rw [q2]
      simp only [Bool.not_true, Bool.false_eq_true, if_false]
      refine wpAny_pure ?_
      simp only []
      rw [List.forIn_cons]
      refine wpAny_bind (wpAny_bind (wpAny_eqBool_int ?_))
      by_cases e3 : x.b = y.b
      · have q3 : (x.b == y.b) = true := by simp [e3]
        rw [q3]
        simp only [Bool.not_true, Bool.false_eq_true, if_false]
        refine wpAny_pure ?_
        simp only []
        rw [List.forIn_nil]
        refine wpAny_pure ?_
        have hf : tlt x y = false := by simp [tlt, klt, T3.key, e1, e2, e3]
        rw [hf] at h
        exact wpAny_pure h
      · have q3 : (x.b == y.b) = false := by simp [e3]
        rw [q3]
        simp only [Bool.not_false, if_true]
        have hf : tlt x y = decide (x.b < y.b) := by simp [tlt, klt, T3.key, e1, e2]
        rw [hf] at h
        refine wpAny_bind (wpAny_rule (wpAny_bind (rl_int ?_)))
        exact wpAny_pure (wpAny_pure (wpAny_pure h))
    · have q2 : (x.w == y.w) = false := by simp [e2]
      rw [q2]
      simp only [Bool.not_false, if_true]
      have hf : tlt x y = decide (x.w < y.w) := by simp [tlt, klt, T3.key, e1, e2]
      rw [hf] at h
      refine wpAny_bind (wpAny_rule (wpAny_bind (rl_int ?_)))
      exact wpAny_pure (wpAny_pure (wpAny_pure h))
  · have q1 : (x.h == y.h) = false := by simp [e1]
    rw [q1]
    simp only [Bool.not_false, if_true]
    have hf : tlt x y = decide (x.h < y.h) := by simp [tlt, klt, T3.key, e1]
    rw [hf] at h
    refine wpAny_bind (wpAny_rule (wpAny_bind (rl_int ?_)))
    exact wpAny_pure (wpAny_pure (wpAny_pure h))
/-- «a < b» of two triples -/
theorem lt_tup {x y : T3} {a b : Addr} {Q : Value → Shared → Prop} (hx : s.heap.get? a = some (tupO x)) (hy : s.heap.get? b = some (tupO y)) (hu : A.units < cLine) (h : Q (.bool (tlt x y)) s) :
    wpAny (model prog w) A (compareOp .Lt (.ref a) (.ref b)) Q E s :=
  cmp_ofLt (wpAny_richCompare_same_room (op := .Lt) (T := "tuple") ⟨_, hx, rfl⟩ ⟨_, hy, rfl⟩ F.slot_tuple_lt
    (wpAny_call_entry F.slot_tuple_lt ⟨_, hx, rfl⟩ F.entry_tuple_lt (tlt_tree hx hy ⟨_, rfl, (fun e => nomatch e), h⟩) (F.args_tuple_lt_2 _ _)) hu)
end
abbrev lstR (as : List Addr) (c : Nat) : Obj := listOf (as.map Value.ref).toArray c
theorem deeper_frames {A : Around} {e : Env} {es : List Env} (hA : A.frames = some es) : (A.deeper e).frames = some (e :: es) := by
  simp [Around.deeper, hA]
theorem fr_bind {h₀ h : Heap} {L : Addr} {m : Str → Option Value} {x : Str} {v : Value} (F : Fr h₀ L h m) (hx : m x = some v) : Fr h₀ L h (fun y => if y = x then some v else m y) := by
  have e : (fun y => if y = x then some v else m y) = m := by
    funext y
    by_cases hy : y = x
    · rw [if_pos hy, hy, hx]
    · rw [if_neg hy]
  rw [e]
  exact F
/-- the triples of these addresses stand in the ledger -/
def Tups (tup : Addr → T3) (as : List Addr) (news : List (Addr × Obj)) : Prop := ∀ a ∈ as, (a, tupO (tup a)) ∈ news
theorem Tups.get {tup : Addr → T3} {as : List Addr} {news : List (Addr × Obj)} {k : Nat} (h : Tups tup as news) (hk : k < as.length) : (as.getD k 0, tupO (tup (as.getD k 0))) ∈ news := h _ (by simp [hk])
theorem Tups.mono {tup : Addr → T3} {as : List Addr} {news news' : List (Addr × Obj)} (h : Tups tup as news) (hs : ∀ p ∈ news, p ∈ news') : Tups tup as news' := fun a ha => hs _ (h a ha)
theorem Tups.set {tup : Addr → T3} {as : List Addr} {news : List (Addr × Obj)} {k : Nat} {x : Addr} (h : Tups tup as news) (hx : (x, tupO (tup x)) ∈ news) : Tups tup (as.set k x) news := fun a ha => by
  rcases List.mem_or_eq_of_mem_set ha with h' | rfl
  · exact h a h'
  · exact hx
section
variable {prog : Program} {w : World} {A : Around} {E : Value → Shared → Prop} {s : Shared} {h₀ : Heap} {L l : Addr} {m : Str → Option Value} {news rest : List (Addr × Obj)} {as : List Addr} {c : Nat} {k : Int} {t u : Tok}
theorem itemR {value slice : PySem.Expr} {Q : Value → Shared → Prop} (N : News h₀ L s.heap ((l, lstR as c) :: rest)) (h0 : 0 ≤ k) (h1 : k < as.length) (hz : as.length ≤ 1000) (h : Q (.ref (as.getD k.toNat 0)) s)
    (hs : subscripted slice false (.ref l) (.int k u) = operate [.ref l, .int k u] (getItem (.ref l) (.int k u)) := by with_unfolding_all rfl) :
    wpAny (model prog w) A (subscriptTail value slice (.ref l) (.int k u)) Q E s := by
  have hl : s.heap.IsList l (as.map Value.ref).toArray := PySem.IsL.isList (n := c) (N _ (.head _)).1
  refine tail_any hl.typeIs slot_list_getitem.lookup (wpAny_getItem_list hl h0 (by omega) (x := .ref (as.getD k.toNat 0)) ?_ h) hs
  have : k.toNat < as.length := by omega
  simp [this]
theorem storeR {x : Addr} {Q : Unit → Shared → Prop} (F : Fr h₀ L s.heap m) (N : News h₀ L s.heap ((l, lstR as c) :: rest)) (hl : ∀ p ∈ rest, p.1 ≠ l) (h0 : 0 ≤ k) (h1 : k < as.length) (hz : as.length ≤ 1000)
    (h : ∀ h', Fr h₀ L h' m → News h₀ L h' ((l, lstR (as.set k.toNat x) c) :: rest) → Q () { s with heap := h' }) :
    wpAny (model prog w) A (setItem (.ref l) (.int k t) (.ref x)) Q E s := by
  have z := N (l, lstR as c) (.head _)
  refine ki_setAt z.1 h0 (by omega) (by simp; omega) (h _ (F.change (Heap.SameBut.update ..) z.2.1 z.2.2) (ki_turn (pre := []) _ N (fun _ h => nomatch h) hl ?_ ?_))
  · apply Array.toList_inj.mp
    simp [List.map_set]
  · simp
theorem addT {a b : Int} {Q : Value → Shared → Prop} (h : ∀ t' tk', Q (.int (a + b) t') { s with toks := tk' }) : wpAny (model prog w) A (binaryOp .Add (.int a t) (.int b u)) Q E s := PyProof.Rows.add_int (h _ _)
theorem subT {a b : Int} {Q : Value → Shared → Prop} (h : ∀ t' tk', Q (.int (a - b) t') { s with toks := tk' }) : wpAny (model prog w) A (binaryOp .Sub (.int a t) (.int b u)) Q E s := PyProof.Rows.sub_int (h _ _)
theorem mulT {a b : Int} {Q : Value → Shared → Prop} (hm : IntMulOk a b) (h : ∀ t' tk', Q (.int (a * b) t') { s with toks := tk' }) : wpAny (model prog w) A (binaryOp .Mult (.int a t) (.int b u)) Q E s := PyProof.Rows.mul_int (h _ _) hm
theorem modT {a b : Int} {Q : Value → Shared → Prop} (hb : 0 < b) (h : ∀ t' tk', Q (.int (a % b) t') { s with toks := tk' }) : wpAny (model prog w) A (binaryOp .Mod (.int a t) (.int b u)) Q E s :=
  PyProof.Rows.mod_int' (by omega) (by rw [Int.fmod_eq_emod_of_nonneg _ (by omega)]; exact h _ _)
theorem fdivT {a b : Int} {Q : Value → Shared → Prop} (hb : 0 < b) (hp : Builtin.divisionGoesByPylong a b = false) (h : ∀ t' tk', Q (.int (a / b) t') { s with toks := tk' }) : wpAny (model prog w) A (binaryOp .FloorDiv (.int a t) (.int b u)) Q E s :=
  PyProof.Rows.floordiv_int (by omega) (by rw [Int.fdiv_eq_ediv_of_nonneg _ (by omega)]; exact h _ _) (Or.inl hp)
theorem rsh1 {a : Int} {Q : Value → Shared → Prop} (h : ∀ t' tk', Q (.int (a / 2) t') { s with toks := tk' }) : wpAny (model prog w) A (binaryOp .RShift (.int a t) (.int 1 u)) Q E s := by
  refine rshift_int (by decide) ?_
  have e : a.fdiv (2 ^ (1 : Int).toNat) = a / 2 := by
    show a.fdiv 2 = a / 2
    rw [Int.fdiv_eq_ediv_of_nonneg _ (by decide)]
  rw [e]
  exact h _ _
theorem lenR {Q : Value → Shared → Prop} (N : News h₀ L s.heap ((l, lstR as c) :: rest)) (hz : as.length ≤ 1000)
    (h : ∀ t' tk', Q (.int (as.length : Int) t') { s with toks := tk' }) : wpAny (model prog w) A (call (.builtin "len") [.ref l]) Q E s := by
  have hl : s.heap.IsList l (as.map Value.ref).toArray := PySem.IsL.isList (n := c) (N _ (.head _)).1
  have e2 : (as.map Value.ref).toArray.size = as.length := by simp
  exact len_list hl (by rw [e2]; omega) (by rw [e2]; exact h _ _)
theorem ltR {a b : Addr} {tup : Addr → T3} {Q : Value → Shared → Prop} (N : News h₀ L s.heap ((l, lstR as c) :: rest)) (ha : (a, tupO (tup a)) ∈ rest) (hb : (b, tupO (tup b)) ∈ rest) (hu : A.units < cLine) (h : Q (.bool (tlt (tup a) (tup b))) s) :
    wpAny (model prog w) A (compareOp .Lt (.ref a) (.ref b)) Q E s := lt_tup (N _ (.tail _ ha)).1 (N _ (.tail _ hb)).1 hu h
end
section
variable {prog : Program} {w : World} {A : Around} {E : Value → Shared → Prop} {s : Shared} {env : Env} {h₀ : Heap} {x : Str} {body : List Stmt} {Q : Flow → Shared → Prop}
/-- a for over a range, by an invariant over the frame and a ledger of the same addresses -/
theorem for_iter {r : Addr} {a b c : Int} {t u v : Tok} {n : Nat} {m₀ : Str → Option Value} {news : List (Addr × Obj)} (J : Nat → (Str → Option Value) → List (Addr × Obj) → Prop)
    (hh : A.handled = none) (R : IsRange s.heap r a b c t u v) (hsm : Builtin.Range.small a b c = true) (hrs : Builtin.Range.rangeSize a b c = (n : Int)) (F : Fr h₀ env.locals s.heap m₀) (N : News h₀ env.locals s.heap news) (hj : J 0 m₀ news)
    (turn : ∀ i t' m₁ nx h tk own, i < n → OwnOff own (news.map (·.1)) → nx.map (·.1) = news.map (·.1) → J i m₁ nx → Fr h₀ env.locals h (fun y => if y = x then some (.int (a + (i : Int) * c) t') else m₁ y) → News h₀ env.locals h (nx ++ own) →
      wpAny (model prog w) A (execs body env) (InvPostN h₀ env.locals (J (i + 1)) own (news.map (·.1)) { s with heap := h, toks := tk } Q) E { s with heap := h, toks := tk })
    (done : ∀ m₁ nx h tk, J n m₁ nx → Fr h₀ env.locals h m₁ → News h₀ env.locals h nx → Q .next { s with heap := h, toks := tk }) :
    wpAny (model prog w) A (pyIter (.ref r)) (fun it s₂ => LoopAtV prog w A h₀ env x body Q E it s₂) E s := by
  refine wpAny_pyIter_range R hsm ?_
  rw [hrs]
  refine loop_invN J (P := fun i v => i < n ∧ ∃ t, v = .int (a + i * c) t) (St := fun i h => IsRangeIter h s.heap.objs.size (a + (i : Nat) * c) ((n : Int) - (i : Nat)) c) (fp := [s.heap.objs.size]) (wr := [s.heap.objs.size]) (Walks.range hh _ a c n).bound ?_ ?_ ?_ ?_
    (by show IsRangeIter _ _ _ _ _; simpa using Heap.get?_push_size _ rfl) (F.push _) (fun p hp => ⟨Heap.get?_push_of_some _ (N p hp).1, (N p hp).2⟩) hj ?_ done
  · intro hm
    exact absurd F.ns.lt ((List.mem_singleton.mp hm) ▸ Nat.lt_irrefl _)
  · intro b hb
    rw [List.mem_singleton.mp hb]
    exact next_is_new F
  · intro p hp hI
    exact absurd (Heap.lt_size (N p hp).1) ((List.mem_singleton.mp hI) ▸ Nat.lt_irrefl _)
  · intro p hp hI
    exact absurd (Heap.lt_size (N p hp).1) ((List.mem_singleton.mp hI) ▸ Nat.lt_irrefl _)
  · rintro i v m₁ nx h tk own hi ⟨_, t', rfl⟩ hadr hoff hJ F₁ N₁
    exact turn i t' m₁ nx h tk own hi hoff hadr hJ F₁ N₁
end
local macro_rules | `(tactic| walk_at "subscriptTail") => `(tactic| (k_here; (with_reducible show wpAny _ _ (subscriptTail _ _ (Value.ref _) (Value.int _ _)) _ _ _); k_dflt (refine' itemR ?k1 ?k2 ?k3 ?k4 ?_ ?k5; (case k1 => assumption); (case k2 => omega); (case k3 => omega); (case k4 => omega); (case k5 => with_unfolding_all rfl); k_whole)))
local macro_rules | `(tactic| walk_at "setItem ref int") => `(tactic| (k_here; (with_reducible show wpAny _ _ (setItem (Value.ref _) (Value.int _ _) (Value.ref _)) _ _ _); k_dflt (refine' storeR ?k1 ?k2 ?k3 ?k4 ?k5 ?k6 ?_; (case k1 => assumption); (case k2 => assumption); (case k3 => assumption); (case k4 => omega); (case k5 => omega); (case k6 => omega); k_whole); intro h' F' N'; (try k_sweep)))
local macro_rules | `(tactic| walk_at "compareOp Lt ref ref") => `(tactic| (k_here; (with_reducible show wpAny _ _ (compareOp CmpOp.Lt (Value.ref _) (Value.ref _)) _ _ _); k_dflt (refine' ltR ?k1 ?k2 ?k3 ?k4 ?_; (case k1 => assumption); (case k2 => first | assumption | exact Tups.get (by assumption) (by omega)); (case k3 => first | assumption | exact Tups.get (by assumption) (by omega)); (case k4 => (have hcL9 := cLine_is; (simp only [units_in1, units_deeper] at *); omega)); k_whole)))
local macro_rules | `(tactic| walk_at "call builtin:len") => `(tactic| (k_here; (with_reducible show wpAny _ _ (call (Value.builtin "len") [Value.ref _]) _ _ _); k_dflt (refine' lenR ?k1 ?k2 ?_; (case k1 => assumption); (case k2 => omega); k_whole); intro _ _))
local macro_rules | `(tactic| walk_at "binaryOp RShift int int") => `(tactic| (k_here; (with_reducible refine rsh1 ?_); intro _ _))
local macro_rules | `(tactic| walk_at "binaryOp Add int int") => `(tactic| (k_here; (with_reducible refine addT ?_); intro _ _))
local macro_rules | `(tactic| walk_at "binaryOp Sub int int") => `(tactic| (k_here; (with_reducible refine subT ?_); intro _ _))
local macro_rules | `(tactic| walk_at "binaryOp Mult int int") => `(tactic| (k_here; (with_reducible refine mulT ?k1 ?_); (case k1 => mul_fits); intro _ _))
local macro_rules | `(tactic| walk_at "binaryOp Mod int int") => `(tactic| (k_here; (with_reducible refine modT ?k1 ?_); (case k1 => first | decide | omega); intro _ _))
local macro_rules | `(tactic| walk_at "binaryOp FloorDiv int int") => `(tactic| (k_here; (with_reducible refine fdivT ?k1 ?k2 ?_); (case k1 => first | decide | omega); (case k2 => first | exact (PyProof.noPylong_of_log2 (by decide +kernel)) | exact (PyProof.noPylong_small (by omega))); intro _ _))
/-- the walk, up to the next loop, the next call of a def, a turn's end -/
local macro_rules | `(tactic| ktr_unf) => `(tactic| repeat' ((fail_if_success (with_reducible show wpAny _ _ (exec (Stmt.While _ _ _ _) _) _ _ _)); (fail_if_success (with_reducible show wpAny _ _ (exec (Stmt.For _ _ _ _ _) _) _ _ _)); (fail_if_success (with_reducible show wpAny _ _ (call (Value.ref _) _) _ _ _)); (fail_if_success (with_reducible show wpAny _ _ (call (Value.type "range") _) _ _ _)); (fail_if_success (with_reducible show KswEnd _ _ _ _ _ _ _ _ _ _ _ _)); (fail_if_success (with_reducible show LeaveK _ _ _ _ _ _ _)); first | (k_unfold; (try dsimp only)) | walk1 | (dsimp only; walk1) | (leave1; walk_say "STEP leave1"; try dsimp only)))
/-! B2 -/
theorem fillFrag : (PySem.Challenge.rw_ny0054_01 = PySem.Challenge.rw_ny0054_01) ∧ (Mine.hd.heap_39 = Mine.hd.heap_39) := by
  w_top off
  k_fill
  exact ⟨rfl, rfl⟩
/-- _siftdown's loop, by fuel -/
noncomputable def sdLoop (lt : Addr → Addr → Bool) (x : Addr) (st : Nat) : Nat → List Addr → Nat → List Addr
  | 0, as, ps => as.set ps x
  | f + 1, as, ps => if st < ps then (if lt x (as.getD ((ps - 1) / 2) 0) then sdLoop lt x st f (as.set ps (as.getD ((ps - 1) / 2) 0)) ((ps - 1) / 2) else as.set ps x) else as.set ps x
noncomputable def siftdownF (lt : Addr → Addr → Bool) (as : List Addr) (st ps : Nat) : List Addr := sdLoop lt (as.getD ps 0) st ps as ps
set_option maxHeartbeats 8000000 in
theorem siftdown_c {prog : Program} {w : World} {p : Program} {loose : List Str} {mean : ExcName → Option Value} {mg mb : Str → Option Value} {A A₀ : Around} {env : Env} {outer : List Env} {base h₀ : Heap} {L : Addr} {m : Str → Option Value} {s : Shared} {Q E : Value → Shared → Prop}
    {l : Addr} {as : List Addr} {c : Nat} {rest : List (Addr × Obj)} {tup : Addr → T3} {st ps : Nat} {t1 t2 : Tok}
    (B : Below A₀ base outer h₀) (F : Fr h₀ L s.heap m) (X : (Mine.hd.heap_39 w.params).In h₀) (N : News h₀ L s.heap ((l, lstR as c) :: rest)) (T : Top p loose mean mg mb h₀)
    (hA : A.frames = some (env :: outer)) (hf : env.frame = some L) (hke : env.scope.kind = .function) (hh : A.handled = none)
    (hd : A.depth < recursionLimit) (hu : A.units + 8 < cLine)
    (hl : ∀ p ∈ rest, p.1 ≠ l) (ht : Tups tup as rest) (hz : as.length ≤ 1000) (h1 : st ≤ ps) (h2 : ps < as.length)
    (ret : ∀ h' tk', Fr h₀ L h' m → News h₀ L h' ((l, lstR (siftdownF (fun a b => tlt (tup a) (tup b)) as st ps) c) :: rest) → Q .none { s with heap := h', toks := tk' }) :
    wpAny (model prog w) A (call (.ref 35) [.ref l, .int st t1, .int ps t2]) Q E s := by
  refine wpAny_call ?_
  k_dflt (refine' code_def (binds := [(Str.ofString "heap", .ref l), (Str.ofString "startpos", .int st t1), (Str.ofString "pos", .int ps t2)]) B F X N T hA hf hke ?k6 ?k7 hd ?k9 ?kB ?_ ?c2 ?c3 ?c4 ?c5; (case k6 => k_is); (case k7 => k_is); (case k9 => exact BindsTo.of_eq rfl); (case c5 => decide); (case kB => exact locs rfl); (case c2 => exact rfl); (case c3 => exact rfl); (case c4 => exact rfl))
  intro g' L' h' FG' F' N' B' X' T'
  clear B F X N T FG'
  try dsimp only
  try k_fold
  ktr_unf
  have hx : (as.getD ps 0, tupO (tup (as.getD ps 0))) ∈ rest := ht _ (by simp [h2])
  rename Fr _ _ _ _ => F1
  rename News _ _ _ _ => N1
  refine ksw_while (σ := List Addr × Nat × Tok) (fun c' => (l, lstR c'.1 c) :: rest) (fun c' => [(Str.ofString "pos", .int (c'.2.1 : Int) c'.2.2)]) (fun _ => True) [Str.ofString "parentpos", Str.ofString "parent"]
    (fun c' => c'.1.length = as.length ∧ c'.2.1 < as.length ∧ Tups tup c'.1 rest ∧ ∃ f, c'.2.1 ≤ f ∧ sdLoop (fun a b => tlt (tup a) (tup b)) (as.getD ps 0) st f c'.1 c'.2.1 = siftdownF (fun a b => tlt (tup a) (tup b)) as st ps)
    (fun c' => c'.2.1) (as, ps, t2) F1 N1 trivial (by intro p hp; rw [List.mem_singleton.mp hp]; rfl) ⟨rfl, h2, ht, ps, Nat.le_refl _, rfl⟩ ?_
  clear F1 N1
  rintro ⟨as', ps', t'⟩ u h tk - ⟨hlen, hps, ht', f, hf', hloop⟩ F1 N1
  dsimp only at hlen hps ht' hf' hloop F1 N1
  have hz' : as'.length ≤ 1000 := by omega
  ktr_unf
  · -- the turn goes on
    rename Fr _ _ _ _ => F2
    rename News _ _ _ _ => N2
    have q1 : (((ps' : Int) - 1) / 2).toNat = (ps' - 1) / 2 := by omega
    rw [q1] at N2
    have q2 : ((ps' : Int) - 1) / 2 = (((ps' - 1) / 2 : Nat) : Int) := by omega
    have q3 : ((ps' : Int)).toNat = ps' := by omega
    have q4 : ((ps : Int)).toNat = ps := by omega
    rename (tlt _ _ = true) => hlt
    rename ((st : Int) < (ps' : Int)) => hst
    rw [q3] at N2
    rw [q1, q4] at hlt
    rw [q2] at F2
    obtain ⟨f', rfl⟩ : ∃ f', f = f' + 1 := ⟨f - 1, by omega⟩
    have hst' : st < ps' := by omega
    refine ksw_end (as'.set ps' (as'.getD ((ps' - 1) / 2) 0), (ps' - 1) / 2, _) F2 N2 (fun p hp => hp) trivial (fun p hp => by rw [List.mem_singleton.mp hp]; rfl) (fun z z1 z2 => ?_)
      ⟨by simpa using hlen, by dsimp only; omega, ht'.set (ht'.get (by omega)), f', by dsimp only; omega, ?_⟩ (by dsimp only; omega)
    · have w1 : z ≠ Str.ofString "pos" := z1 _ (.head _)
      simp only [List.contains_cons, List.contains_nil, Bool.or_false, Bool.or_eq_false_iff, beq_eq_false_iff_ne, ne_eq] at z2
      simp [kstB, w1, z2]
    · rw [← hloop]
      simp only [sdLoop]
      rw [if_pos hst', if_pos hlt]
  · -- it breaks
    rename Fr _ _ _ _ => F2
    rename News _ _ _ _ => N2
    have q1 : (((ps' : Int) - 1) / 2).toNat = (ps' - 1) / 2 := by omega
    have q3 : ((ps' : Int)).toNat = ps' := by omega
    have q4 : ((ps : Int)).toNat = ps := by omega
    rename (tlt _ _ = false) => hlt
    rename ((st : Int) < (ps' : Int)) => hst
    rw [q3, q4] at N2
    rw [q1, q4] at hlt
    obtain ⟨f', rfl⟩ : ∃ f', f = f' + 1 := ⟨f - 1, by omega⟩
    have hst' : st < ps' := by omega
    refine leaveK_ F2 N2 (fun kF kN => ret _ _ kF ?_)
    rw [← hloop]
    simp only [sdLoop]
    rw [if_pos hst', if_neg (fun q => absurd (hlt.symm.trans q) (by decide))]
    exact kN
  · -- it ends
    rename Fr _ _ _ _ => F2
    rename News _ _ _ _ => N2
    have q3 : ((ps' : Int)).toNat = ps' := by omega
    have q4 : ((ps : Int)).toNat = ps := by omega
    rename (¬ (st : Int) < (ps' : Int)) => hst
    have hst' : ¬ st < ps' := by omega
    rw [q3, q4] at N2
    refine leaveK_ F2 N2 (fun kF kN => ret _ _ kF ?_)
    rw [← hloop]
    cases f with
    | zero => exact kN
    | succ f' =>
      simp only [sdLoop]
      rw [if_neg hst']
      exact kN
/-! B3 -/
theorem fillFrag3 : True := by
  w_top off
  trivial
/-- the lesser child, as _siftup picks it -/
def suChild (lt : Addr → Addr → Bool) (as : List Addr) (c : Nat) : Nat := if c + 1 < as.length ∧ lt (as.getD c 0) (as.getD (c + 1) 0) = false then c + 1 else c
/-- _siftup's loop, by fuel, _siftdown behind it -/
noncomputable def suLoop (lt : Addr → Addr → Bool) (x : Addr) (st : Nat) : Nat → List Addr → Nat → List Addr
  | 0, as, ps => siftdownF lt (as.set ps x) st ps
  | f + 1, as, ps => if 2 * ps + 1 < as.length then suLoop lt x st f (as.set ps (as.getD (suChild lt as (2 * ps + 1)) 0)) (suChild lt as (2 * ps + 1)) else siftdownF lt (as.set ps x) st ps
noncomputable def siftupF (lt : Addr → Addr → Bool) (as : List Addr) (ps : Nat) : List Addr := suLoop lt (as.getD ps 0) ps (as.length - ps) as ps
set_option maxHeartbeats 8000000 in
theorem siftup_c {prog : Program} {w : World} {p : Program} {loose : List Str} {mean : ExcName → Option Value} {mg mb : Str → Option Value} {A A₀ : Around} {env : Env} {outer : List Env} {base h₀ : Heap} {L : Addr} {m : Str → Option Value} {s : Shared} {Q E : Value → Shared → Prop}
    {l : Addr} {as : List Addr} {c : Nat} {rest : List (Addr × Obj)} {tup : Addr → T3} {ps : Nat} {t1 : Tok}
    (B : Below A₀ base outer h₀) (F : Fr h₀ L s.heap m) (X : (Mine.hd.heap_39 w.params).In h₀) (N : News h₀ L s.heap ((l, lstR as c) :: rest)) (T : Top p loose mean mg mb h₀)
    (hA : A.frames = some (env :: outer)) (hf : env.frame = some L) (hke : env.scope.kind = .function) (hh : A.handled = none)
    (hd : A.depth + 1 < recursionLimit) (hu : A.units + 16 < cLine)
    (hl : ∀ p ∈ rest, p.1 ≠ l) (ht : Tups tup as rest) (hz : as.length ≤ 1000) (h2 : ps < as.length)
    (ret : ∀ h' tk', Fr h₀ L h' m → News h₀ L h' ((l, lstR (siftupF (fun a b => tlt (tup a) (tup b)) as ps) c) :: rest) → Q .none { s with heap := h', toks := tk' }) :
    wpAny (model prog w) A (call (.ref 42) [.ref l, .int ps t1]) Q E s := by
  refine wpAny_call ?_
  k_dflt (refine' code_def (binds := [(Str.ofString "heap", .ref l), (Str.ofString "pos", .int ps t1)]) B F X N T hA hf hke ?k6 ?k7 (Nat.lt_of_succ_lt hd) ?k9 ?kB ?_ ?c2 ?c3 ?c4 ?c5; (case k6 => k_is); (case k7 => k_is); (case k9 => exact BindsTo.of_eq rfl); (case c5 => decide); (case kB => exact locs rfl); (case c2 => exact rfl); (case c3 => exact rfl); (case c4 => exact rfl))
  intro g' L' h' FG' F' N' B' X' T'
  clear B F X N T FG'
  try dsimp only
  try k_fold
  ktr_unf
  rename_i tc tkc hc _ _
  have hx : (as.getD ps 0, tupO (tup (as.getD ps 0))) ∈ rest := ht _ (by simp [h2])
  rename Fr _ _ _ _ => F1
  rename News _ _ _ _ => N1
  refine' ksw_while (σ := List Addr × Nat × Tok × Tok) (fun c' => (l, lstR c'.1 c) :: rest) (fun c' => [(Str.ofString "pos", .int (c'.2.1 : Int) c'.2.2.1), (Str.ofString "childpos", .int (2 * (c'.2.1 : Int) + 1) c'.2.2.2)]) (fun _ => True) [Str.ofString "rightpos"]
    (fun c' => c'.1.length = as.length ∧ c'.2.1 < as.length ∧ ps ≤ c'.2.1 ∧ Tups tup c'.1 rest ∧ ∃ f, as.length - c'.2.1 ≤ f ∧ suLoop (fun a b => tlt (tup a) (tup b)) (as.getD ps 0) ps f c'.1 c'.2.1 = siftupF (fun a b => tlt (tup a) (tup b)) as ps)
    (fun c' => as.length - c'.2.1) (as, ps, t1, tc) F1 N1 trivial ?hk ?hp ?turn
  case hp => exact ⟨rfl, h2, Nat.le_refl _, ht, as.length - ps, Nat.le_refl _, rfl⟩
  case hk => exact List.forall_mem_cons.mpr ⟨rfl, List.forall_mem_cons.mpr ⟨rfl, List.forall_mem_nil _⟩⟩
  clear F1 N1
  rintro ⟨as', ps', t', t''⟩ u h tk - ⟨hlen, hps, hge, ht', f, hf', hloop⟩ F1 N1
  dsimp only at hlen hps hge ht' hf' hloop F1 N1
  have hz' : as'.length ≤ 1000 := by (first | lia | omega)
  have e0 : ((ps' : Int)).toNat = ps' := by (first | lia | omega)
  have e1 : (2 * (ps' : Int) + 1).toNat = 2 * ps' + 1 := by (first | lia | omega)
  have e2 : (2 * (ps' : Int) + 1 + 1).toNat = 2 * ps' + 1 + 1 := by (first | lia | omega)
  have e3 : ((ps : Int)).toNat = ps := by (first | lia | omega)
  have step : ∀ (k : Nat), 2 * ps' + 1 < as.length → suChild (fun a b => tlt (tup a) (tup b)) as' (2 * ps' + 1) = k → ps' < k → k < as.length → 
      (∃ f, as.length - k ≤ f ∧ suLoop (fun a b => tlt (tup a) (tup b)) (as.getD ps 0) ps f (as'.set ps' (as'.getD k 0)) k = siftupF (fun a b => tlt (tup a) (tup b)) as ps) := by
    intro k hk hc hlt hk2
    obtain ⟨f', rfl⟩ : ∃ f', f = f' + 1 := ⟨f - 1, by (first | lia | omega)⟩
    refine ⟨f', by (first | lia | omega), ?_⟩
    rw [← hloop]
    simp only [suLoop]
    rw [if_pos (by (first | lia | omega)), hc]
  ktr_unf
  · rename Fr _ _ _ _ => F2
    rename News _ _ _ _ => N2
    rename (tlt _ _ = true) => hlt
    rw [e1, e2] at hlt
    rw [e0, e1] at N2
    have q : suChild (fun a b => tlt (tup a) (tup b)) as' (2 * ps' + 1) = 2 * ps' + 1 := by
      unfold suChild
      rw [if_neg (fun q => absurd (hlt.symm.trans q.2) (by decide))]
    have c1 : (2 * (ps' : Int) + 1) = ((2 * ps' + 1 : Nat) : Int) := by (first | lia | omega)
    rw [c1] at F2
    refine ksw_end (as'.set ps' (as'.getD (2 * ps' + 1) 0), 2 * ps' + 1, _, _) F2 N2 (fun p hp => hp) trivial (List.forall_mem_cons.mpr ⟨rfl, List.forall_mem_cons.mpr ⟨rfl, List.forall_mem_nil _⟩⟩) (fun z z1 z2 => ?_)
      ⟨by simpa using hlen, by dsimp only; (first | lia | omega), by dsimp only; (first | lia | omega), ht'.set (ht'.get (by (first | lia | omega))), step (2 * ps' + 1) (by (first | lia | omega)) q (by (first | lia | omega)) (by (first | lia | omega))⟩ (by dsimp only; (first | lia | omega))
    have w1 : z ≠ Str.ofString "pos" := z1 _ (.head _)
    have w2 : z ≠ Str.ofString "childpos" := z1 _ (.tail _ (.head _))
    simp only [List.contains_cons, List.contains_nil, Bool.or_false, beq_eq_false_iff_ne, ne_eq] at z2
    simp [kstB, w1, w2, z2]
  · rename Fr _ _ _ _ => F2
    rename News _ _ _ _ => N2
    rename (tlt _ _ = false) => hlt
    rw [e1, e2] at hlt
    rw [e0, e2] at N2
    have q : suChild (fun a b => tlt (tup a) (tup b)) as' (2 * ps' + 1) = 2 * ps' + 1 + 1 := by
      unfold suChild
      rw [if_pos ⟨by (first | lia | omega), hlt⟩]
    have c1 : (2 * (ps' : Int) + 1 + 1) = ((2 * ps' + 1 + 1 : Nat) : Int) := by (first | lia | omega)
    rw [c1] at F2
    refine ksw_end (as'.set ps' (as'.getD (2 * ps' + 1 + 1) 0), 2 * ps' + 1 + 1, _, _) F2 N2 (fun p hp => hp) trivial (List.forall_mem_cons.mpr ⟨rfl, List.forall_mem_cons.mpr ⟨rfl, List.forall_mem_nil _⟩⟩) (fun z z1 z2 => ?_)
      ⟨by simpa using hlen, by dsimp only; (first | lia | omega), by dsimp only; (first | lia | omega), ht'.set (ht'.get (by (first | lia | omega))), step (2 * ps' + 1 + 1) (by (first | lia | omega)) q (by (first | lia | omega)) (by (first | lia | omega))⟩ (by dsimp only; (first | lia | omega))
    have w1 : z ≠ Str.ofString "pos" := z1 _ (.head _)
    have w2 : z ≠ Str.ofString "childpos" := z1 _ (.tail _ (.head _))
    simp only [List.contains_cons, List.contains_nil, Bool.or_false, beq_eq_false_iff_ne, ne_eq] at z2
    simp [kstB, w1, w2, z2]
  · rename Fr _ _ _ _ => F2
    rename News _ _ _ _ => N2
    rw [e0, e1] at N2
    have q : suChild (fun a b => tlt (tup a) (tup b)) as' (2 * ps' + 1) = 2 * ps' + 1 := by
      unfold suChild
      rw [if_neg (fun q => by (first | lia | omega))]
    have c1 : (2 * (ps' : Int) + 1) = ((2 * ps' + 1 : Nat) : Int) := by (first | lia | omega)
    rw [c1] at F2
    refine ksw_end (as'.set ps' (as'.getD (2 * ps' + 1) 0), 2 * ps' + 1, _, _) F2 N2 (fun p hp => hp) trivial (List.forall_mem_cons.mpr ⟨rfl, List.forall_mem_cons.mpr ⟨rfl, List.forall_mem_nil _⟩⟩) (fun z z1 z2 => ?_)
      ⟨by simpa using hlen, by dsimp only; (first | lia | omega), by dsimp only; (first | lia | omega), ht'.set (ht'.get (by (first | lia | omega))), step (2 * ps' + 1) (by (first | lia | omega)) q (by (first | lia | omega)) (by (first | lia | omega))⟩ (by dsimp only; (first | lia | omega))
    have w1 : z ≠ Str.ofString "pos" := z1 _ (.head _)
    have w2 : z ≠ Str.ofString "childpos" := z1 _ (.tail _ (.head _))
    simp only [List.contains_cons, List.contains_nil, Bool.or_false, beq_eq_false_iff_ne, ne_eq] at z2
    simp [kstB, w1, w2, z2]
  · rename Fr _ _ _ _ => F2
    rename News _ _ _ _ => N2
    rw [e0, e3] at N2
    refine siftdown_c (tup := tup) B' F2 X' N2 T' (deeper_frames hA) (by rfl) (by rfl) hh (by simp only [depth_deeper]; (first | lia | omega)) (by simp only [units_deeper]; (first | lia | omega)) hl (ht'.set hx) (by simpa using hz') hge (by simp; (first | lia | omega)) ?_
    intro h3 tk3 F3 N3
    ktr_unf
    refine leaveK_ F3 N3 (fun kF kN => ret _ _ kF ?_)
    rw [← hloop]
    cases f with
    | zero => exact kN
    | succ f' =>
      simp only [suLoop]
      rw [if_neg (by (first | lia | omega))]
      exact kN
/-! B4 -/
theorem fillFrag4 : True := by
  w_top off
  trivial
set_option maxHeartbeats 8000000 in
theorem heapreplace_c {prog : Program} {w : World} {p : Program} {loose : List Str} {mean : ExcName → Option Value} {mg mb : Str → Option Value} {A A₀ : Around} {env : Env} {outer : List Env} {base h₀ : Heap} {L : Addr} {m : Str → Option Value} {s : Shared} {Q E : Value → Shared → Prop}
    {l x : Addr} {as : List Addr} {c : Nat} {rest : List (Addr × Obj)} {tup : Addr → T3}
    (B : Below A₀ base outer h₀) (F : Fr h₀ L s.heap m) (X : (Mine.hd.heap_39 w.params).In h₀) (N : News h₀ L s.heap ((l, lstR as c) :: rest)) (T : Top p loose mean mg mb h₀)
    (hA : A.frames = some (env :: outer)) (hf : env.frame = some L) (hke : env.scope.kind = .function) (hh : A.handled = none)
    (hd : A.depth + 2 < recursionLimit) (hu : A.units + 24 < cLine)
    (hl : ∀ p ∈ rest, p.1 ≠ l) (ht : Tups tup as rest) (hz : as.length ≤ 1000) (h2 : 0 < as.length) (hx : (x, tupO (tup x)) ∈ rest)
    (ret : ∀ h' tk', Fr h₀ L h' m → News h₀ L h' ((l, lstR (siftupF (fun a b => tlt (tup a) (tup b)) (as.set 0 x) 0) c) :: rest) → Q (.ref (as.getD 0 0)) { s with heap := h', toks := tk' }) :
    wpAny (model prog w) A (call (.ref 21) [.ref l, .ref x]) Q E s := by
  refine wpAny_call ?_
  k_dflt (refine' code_def (binds := [(Str.ofString "heap", .ref l), (Str.ofString "item", .ref x)]) B F X N T hA hf hke ?k6 ?k7 (by omega) ?k9 ?kB ?_ ?c2 ?c3 ?c4 ?c5; (case k6 => k_is); (case k7 => k_is); (case k9 => exact BindsTo.of_eq rfl); (case c5 => decide); (case kB => exact locs rfl); (case c2 => exact rfl); (case c3 => exact rfl); (case c4 => exact rfl))
  intro g' L' h' FG' F' N' B' X' T'
  clear B F X N T FG'
  try dsimp only
  try k_fold
  ktr_unf
  rename Fr _ _ _ _ => F2
  rename News _ _ _ _ => N2
  refine siftup_c (ps := 0) (tup := tup) B' F2 X' N2 T' (deeper_frames hA) (by rfl) (by rfl) hh (by simp only [depth_deeper]; omega) (by simp only [units_deeper]; omega) hl (ht.set hx) (by simpa using hz) (by simp; omega) ?_
  intro h3 tk3 F3 N3
  ktr_unf
  exact leaveK_ F3 N3 (fun kF kN => ret _ _ kF kN)
section
variable {prog : Program} {w : World} {A : Around} {E : Value → Shared → Prop} {s : Shared}
abbrev rev3 : Obj := { cls := .type "range_iterator", data := .fields #[rawInt 2, rawInt 3, rawInt (-1)] }
theorem call_range_reversed3 {r : Addr} {t u v : Tok} {Q : Value → Shared → Prop} (hr : IsRange s.heap r 0 3 1 t u v)
    (h : Q (.ref s.heap.objs.size) { s with heap := s.heap.push rev3 }) : wpAny (model prog w) A (call (.builtin "range.__reversed__") [.ref r]) Q E s := by
  refine wpAny_call_entry F.slot_range_reversed ⟨_, hr, rfl⟩ F.entry_range_reversed ?_ (F.args_range_reversed_1 _)
  unfold Builtin.«range.__reversed__»
  refine wpAny_bind (wpAny_of_eq (a := Value.ref r) rfl ?_)
  repeat (any_goals (first | assumption | wp_step))
  exact ⟨_, rfl, h⟩
theorem sub_ri_reversed : isSubtype (.type "range_iterator") (.type "reversed") = pure false := by rw [isSubtype_type]; kernel_rfl
theorem code_reversed_new3 {r : Addr} {t u v : Tok} {Q₁ : Value → Shared → Prop} (hr : IsRange s.heap r 0 3 1 t u v)
    (h : Q₁ (.ref s.heap.objs.size) { s with heap := s.heap.push rev3 }) :
    codeAny (model prog w) A (.call (.builtin "reversed.__new__") ⟨[.type "reversed", .ref r], []⟩) (wants Q₁ E) s := by
  have hT : s.TypeIs (.ref r) "range" := ⟨_, hr, rfl⟩
  refine codeAny_of_tree ?_
  show wpAny _ A.in1 (do checkBuiltinCall "reversed.__new__" ⟨[.type "reversed", .ref r], []⟩; again (.builtin "reversed.__new__" ⟨[.type "reversed", .ref r], []⟩)) _ _ s
  refine wpAny_bind (wpAny_of_eq (F.newCall_reversed_1 _) (wpAny_pure ⟨plainId_quiet F.plain_reversed_new _, codeAny_builtin F.entry_reversed_new ?_⟩))
  rw [Around.under_plainId F.plain_reversed_new _]
  unfold Builtin.«reversed.__new__»
  refine wpAny_bind (wpAny_of_eq (newClass_reversed _) ?_)
  refine wpAny_bind (wpAny_of_eq (a := ()) (by first | rfl | kernel_rfl) ?_)
  refine wpAny_bind (wpAny_of_eq (a := ()) (by first | rfl | kernel_rfl) ?_)
  try dsimp only
  refine wpAny_bind (wpAny_specialOf hT F.slot_range_reversed.lookup ?_)
  try dsimp only
  refine wpAny_bind (wpAny_of_eq (F.slot_range_reversed.bind _) ?_)
  try dsimp only
  first
  | rw [if_neg (show ¬ ((Value.builtin "range.__reversed__" == Value.none) = true) from Bool.false_ne_true)]
  | (show wpAny _ _ (if (Value.builtin "range.__reversed__" == Value.none) = true then _ else _) _ _ _; rw [if_neg (show ¬ ((Value.builtin "range.__reversed__" == Value.none) = true) from Bool.false_ne_true)])
  refine wpAny_bind (wpAny_rule ?_)
  refine wpAny_bind (m := runValue (.call (.builtin "range.__reversed__") ⟨[.ref r], []⟩)) (show wpAny _ _ (call (.builtin "range.__reversed__") [.ref r]) _ _ _ from call_range_reversed3 hr ?_)
  first
  | exact wpAny_pure h
  | exact wpAny_bind (wpAny_pure (wpAny_pure h))
/-- reversed(range(3)) -/
theorem call_reversed3 {r : Addr} {t u v : Tok} {Q : Value → Shared → Prop} (hr : IsRange s.heap r 0 3 1 t u v)
    (h : Q (.ref s.heap.objs.size) { s with heap := s.heap.push rev3 }) : wpAny (model prog w) A (call (.type "reversed") [.ref r]) Q E s := by
  refine callType_other (U := "range_iterator") (Q₁ := fun obj s₁ => obj = .ref s.heap.objs.size ∧ s₁ = { s with heap := s.heap.push rev3 }) (by decide +kernel) F.create_reversed ⟨_, _, F.mro_reversed⟩ F.made_reversed sub_ri_reversed (F.typeCall_reversed_1 _) (code_reversed_new3 hr ⟨rfl, rfl⟩) ?_
  rintro obj s₁ ⟨rfl, rfl⟩
  exact ⟨⟨_, Heap.get?_push_size _ rfl, rfl⟩, h⟩
end
/-- what heapify has made of a list of six after i turns -/
noncomputable def hfSeq (lt : Addr → Addr → Bool) (as : List Addr) : Nat → List Addr
  | 0 => as
  | i + 1 => siftupF lt (hfSeq lt as i) (2 - i)
theorem sdLoop_len (lt : Addr → Addr → Bool) (x : Addr) (st : Nat) : ∀ (f : Nat) (as : List Addr) (ps : Nat), (sdLoop lt x st f as ps).length = as.length
  | 0, as, ps => by simp [sdLoop]
  | f + 1, as, ps => by
    unfold sdLoop
    split
    · split
      · rw [sdLoop_len]; simp
      · simp
    · simp
theorem siftdownF_len (lt : Addr → Addr → Bool) (as : List Addr) (st ps : Nat) : (siftdownF lt as st ps).length = as.length := sdLoop_len _ _ _ _ _ _
theorem suLoop_len (lt : Addr → Addr → Bool) (x : Addr) (st : Nat) : ∀ (f : Nat) (as : List Addr) (ps : Nat), (suLoop lt x st f as ps).length = as.length
  | 0, as, ps => by simp [suLoop, siftdownF_len]
  | f + 1, as, ps => by
    unfold suLoop
    split
    · rw [suLoop_len]; simp
    · simp [siftdownF_len]
theorem siftupF_len (lt : Addr → Addr → Bool) (as : List Addr) (ps : Nat) : (siftupF lt as ps).length = as.length := suLoop_len _ _ _ _ _ _
theorem hfSeq_len (lt : Addr → Addr → Bool) (as : List Addr) : ∀ i, (hfSeq lt as i).length = as.length
  | 0 => rfl
  | i + 1 => (siftupF_len _ _ _).trans (hfSeq_len lt as i)
theorem sdLoop_tups {lt : Addr → Addr → Bool} {x : Addr} {st : Nat} {tup : Addr → T3} {news : List (Addr × Obj)} (hx : (x, tupO (tup x)) ∈ news) : ∀ (f : Nat) (as : List Addr) (ps : Nat), ps < as.length → Tups tup as news → Tups tup (sdLoop lt x st f as ps) news
  | 0, as, ps, _, h => h.set hx
  | f + 1, as, ps, hp, h => by
    unfold sdLoop
    split
    · split
      · exact sdLoop_tups hx f _ _ (by simp; omega) (h.set (h.get (by omega)))
      · exact h.set hx
    · exact h.set hx
theorem siftdownF_tups {lt : Addr → Addr → Bool} {st : Nat} {tup : Addr → T3} {news : List (Addr × Obj)} {as : List Addr} {ps : Nat} (hp : ps < as.length) (h : Tups tup as news) : Tups tup (siftdownF lt as st ps) news := sdLoop_tups (h.get hp) _ _ _ hp h
theorem suLoop_tups {lt : Addr → Addr → Bool} {x : Addr} {st : Nat} {tup : Addr → T3} {news : List (Addr × Obj)} (hx : (x, tupO (tup x)) ∈ news) : ∀ (f : Nat) (as : List Addr) (ps : Nat), ps < as.length → Tups tup as news → Tups tup (suLoop lt x st f as ps) news
  | 0, as, ps, hp, h => siftdownF_tups (by simpa using hp) (h.set hx)
  | f + 1, as, ps, hp, h => by
    unfold suLoop
    split
    · have hc : suChild lt as (2 * ps + 1) < as.length := by
        unfold suChild
        split
        · omega
        · omega
      exact suLoop_tups hx f _ _ (by simpa using hc) (h.set (h.get hc))
    · exact siftdownF_tups (by simpa using hp) (h.set hx)
theorem siftupF_tups {lt : Addr → Addr → Bool} {tup : Addr → T3} {news : List (Addr × Obj)} {as : List Addr} {ps : Nat} (hp : ps < as.length) (h : Tups tup as news) : Tups tup (siftupF lt as ps) news := suLoop_tups (h.get hp) _ _ _ hp h
theorem hfSeq_tups {lt : Addr → Addr → Bool} {tup : Addr → T3} {news : List (Addr × Obj)} {as : List Addr} (h6 : as.length = 6) (h : Tups tup as news) : ∀ i, Tups tup (hfSeq lt as i) news
  | 0 => h
  | i + 1 => siftupF_tups (by rw [hfSeq_len]; omega) (hfSeq_tups h6 h i)
set_option maxHeartbeats 8000000 in
theorem heapify_c {prog : Program} {w : World} {p : Program} {loose : List Str} {mean : ExcName → Option Value} {mg mb : Str → Option Value} {A A₀ : Around} {env : Env} {outer : List Env} {base h₀ : Heap} {L : Addr} {m : Str → Option Value} {s : Shared} {Q E : Value → Shared → Prop}
    {l : Addr} {as : List Addr} {c : Nat} {rest : List (Addr × Obj)} {tup : Addr → T3}
    (B : Below A₀ base outer h₀) (F : Fr h₀ L s.heap m) (X : (Mine.hd.heap_39 w.params).In h₀) (N : News h₀ L s.heap ((l, lstR as c) :: rest)) (T : Top p loose mean mg mb h₀)
    (hA : A.frames = some (env :: outer)) (hf : env.frame = some L) (hke : env.scope.kind = .function) (hh : A.handled = none)
    (hd : A.depth + 2 < recursionLimit) (hu : A.units + 24 < cLine)
    (hl : ∀ p ∈ rest, p.1 ≠ l) (ht : Tups tup as rest) (h6 : as.length = 6)
    (ret : ∀ h' tk', Fr h₀ L h' m → News h₀ L h' ((l, lstR (hfSeq (fun a b => tlt (tup a) (tup b)) as 3) c) :: rest) → Q .none { s with heap := h', toks := tk' }) :
    wpAny (model prog w) A (call (.ref 28) [.ref l]) Q E s := by
  have hz : as.length ≤ 1000 := by omega
  refine wpAny_call ?_
  k_dflt (refine' code_def (binds := [(Str.ofString "x", .ref l)]) B F X N T hA hf hke ?k6 ?k7 (by omega) ?k9 ?kB ?_ ?c2 ?c3 ?c4 ?c5; (case k6 => k_is); (case k7 => k_is); (case k9 => exact BindsTo.of_eq rfl); (case c5 => decide); (case kB => exact locs rfl); (case c2 => exact rfl); (case c3 => exact rfl); (case c4 => exact rfl))
  intro g' L' h' FG' F' N' B' X' T'
  clear B F X N T FG'
  try dsimp only
  try k_fold
  ktr_unf
  rename Fr _ _ _ _ => F2
  rename News _ _ _ _ => N2
  refine For_invVF (h₀ := g') F2 rfl rfl ?_
  ktr_unf
  have e3 : (as.length : Int) / 2 = 3 := by omega
  rw [e3]
  rename Fr _ _ _ _ => F2'
  rename News _ _ _ _ => N2'
  refine range1_rows F2' N2' ?_
  intro h4 tk4 a4 b4 c4 R4 F4 N4 _
  dsimp only
  clear F2' N2'
  ktr_unf
  rename Fr _ _ _ _ => F3
  rename News _ _ _ _ => N3
  rename IsRange _ _ _ _ _ _ _ _ => R3
  refine call_reversed3 R3 ?_
  refine wpAny_pyIter_rangeiter (Heap.get?_push_size _ rfl) ?_
  refine loop_invN (n := 3) (fun i m' nx => nx = (l, lstR (hfSeq (fun a b => tlt (tup a) (tup b)) as i) c) :: rest ∧ m' (Str.ofString "x") = some (.ref l)) (P := fun i v => i < 3 ∧ ∃ t, v = .int (2 + i * (-1)) t) (St := fun i h => IsRangeIter h _ (2 + (i : Nat) * (-1)) (((3 : Nat) : Int) - (i : Nat)) (-1)) (fp := [_]) (wr := [_]) (Walks.range (A := A.deeper _) hh _ 2 (-1) 3).bound ?_ ?_ ?_ ?_ (Heap.get?_push_size _ rfl) (F3.push _) (fun p hp => ⟨Heap.get?_push_of_some _ (N3 p hp).1, (N3 p hp).2⟩) ⟨rfl, rfl⟩ ?_ ?_
  · intro hm
    exact absurd F3.ns.lt ((List.mem_singleton.mp hm) ▸ Nat.lt_irrefl _)
  · intro b hb
    rw [List.mem_singleton.mp hb]
    exact next_is_new F3
  · intro p hp hI
    exact absurd (Heap.lt_size (N3 p hp).1) ((List.mem_singleton.mp hI) ▸ Nat.lt_irrefl _)
  · intro p hp hI
    exact absurd (Heap.lt_size (N3 p hp).1) ((List.mem_singleton.mp hI) ▸ Nat.lt_irrefl _)
  · rintro i v m₁ nx h4 tk4 own hi ⟨_, t4, rfl⟩ _ hoff ⟨rfl, hm⟩ F4 N4
    have ei : (2 : Int) + (i : Int) * (-1) = ((2 - i : Nat) : Int) := by omega
    rw [ei] at F4
    have F5 := fr_bind F4 (x := Str.ofString "x") (v := .ref l) (by rw [if_neg (by decide)]; exact hm)
    rw [List.cons_append] at N4
    clear F4 F3 N3
    ktr_unf
    rename Fr _ _ _ _ => F6
    rename News _ _ _ _ => N6
    refine siftup_c (tup := tup) B' F6 X' N6 T' (deeper_frames hA) (by rfl) (by rfl) hh (by simp only [depth_deeper]; omega) (by simp only [units_deeper]; omega) ?_ (Tups.mono (hfSeq_tups h6 ht i) (fun p hp => List.mem_append_left _ hp)) (by rw [hfSeq_len]; omega) (by rw [hfSeq_len]; omega) ?_
    · intro p hp
      rcases List.mem_append.mp hp with hp | hp
      · exact hl p hp
      · exact hoff p hp l (by simp)
    intro h7 tk7 F7 N7
    ktr_unf
    refine InvEndN.intro (nx := (l, lstR (hfSeq (fun a b => tlt (tup a) (tup b)) as (i + 1)) c) :: rest) F7 N7 ⟨rfl, rfl⟩ rfl (fun p hp => ?_) (fun p hp => .tail _ (List.mem_append_right _ hp))
    rcases List.mem_cons.mp hp with rfl | hp
    · exact .head _
    · exact .tail _ (List.mem_append_left _ hp)
  · rintro m₁ nx h4 tk4 ⟨rfl, hm⟩ F4 N4
    ktr_unf
    exact leaveK_ F4 N4 (fun kF kN => ret _ _ kF kN)
/-! D3 -/
theorem ba_mro : mroOf (.type "bytearray") = pure [.type "bytearray", .type "object"] := by rw [mroOf_type]; kernel_rfl
theorem ba_lookup_new : typeLookup (.type "bytearray") "__new__" = pure (some (.builtin "bytearray.__new__")) := by rw [typeLookup_type, builtinLookup_eq_fast]; kernel_rfl
theorem ba_slot_init : Slot "bytearray" "__init__" "bytearray.__init__" :=
  .of (owner := "bytearray") (n := "__init__") (by rw [typeLookup_type, builtinLookup_eq_fast]; kernel_rfl) (by decide +kernel) (by decide +kernel) (by decide +kernel)
    (by first | exact .inl (by decide +kernel) | exact .inr (by decide +kernel)) (by rw [isSubtype_type]; kernel_rfl)
theorem ba_called : TypeCalled "bytearray" "bytearray.__new__" "bytearray.__init__" :=
  ⟨by decide +kernel, by decide +kernel, ⟨_, _, ba_mro⟩, madeBy_type ba_mro ba_lookup_new (by decide +kernel), by decide +kernel, by rw [isSubtype_type]; kernel_rfl, ba_slot_init⟩
theorem ba_typeCall (a : Value) : checkTypeCall "bytearray" ⟨[a], []⟩ = pure () := by kernel_rfl
theorem ba_newCall (a : Value) : checkBuiltinCall "bytearray.__new__" ⟨[.type "bytearray", a], []⟩ = pure () := by kernel_rfl
theorem ba_plain_new : plainId "bytearray.__new__" = true := by decide +kernel
theorem ba_entry_init : entryFor table "bytearray.__init__" = some Builtin.«bytearray.__init__» := by first | exact entryFor_of_fast (by kernel_rfl) | exact entryFor_of_tree (by kernel_rfl)
theorem ba_entry_new : entryFor table "bytearray.__new__" = some Builtin.«list.__new__» :=
  entryFor_alias (id' := "list.__new__") (by kernel_rfl) (by first | rfl | decide +kernel | (unfold String.splitOn; simp +decide [String.splitOnAux])) (by decide +kernel) (by kernel_rfl)
theorem ba_owner_new : ("bytearray.__new__".splitOn ".__new__").headD "" = "bytearray" := by simp +decide [String.splitOn, String.splitOnAux]
theorem ba_release : typeLookup (.type "bytearray") "__release_buffer__" = pure (some (.builtin "bytearray.__release_buffer__")) := by rw [typeLookup_type, builtinLookup_eq_fast]; kernel_rfl
theorem ba_bind (v : Value) : Builtin.Bytes.bindOptional "bytearray.__init__" "bytearray" ["source", "encoding", "errors"] [v] [] = pure [some v, none, none] := by kernel_rfl
abbrev baO (b : Array UInt8) : Obj := { cls := .type "bytearray", data := .bytearray b }
section
variable {prog : Program} {w : World} {A : Around} {E : Value → Shared → Prop} {s : Shared}
theorem ba_new (a : Value) {Q₁ : Value → Shared → Prop}
    (h : Q₁ (.ref s.heap.objs.size) { s with heap := s.heap.push (baO #[]) }) :
    codeAny (model prog w) A (.call (.builtin "bytearray.__new__") ⟨[.type "bytearray", a], []⟩) (wants Q₁ E) s := by
  refine codeAny_of_tree ?_
  show wpAny _ A.in1 (do checkBuiltinCall "bytearray.__new__" ⟨[.type "bytearray", a], []⟩; again (.builtin "bytearray.__new__" ⟨[.type "bytearray", a], []⟩)) _ _ s
  refine wpAny_bind (wpAny_of_eq (ba_newCall a) (wpAny_pure ⟨plainId_quiet ba_plain_new _, codeAny_builtin_stack ba_entry_new rfl fun p st => ?_⟩))
  rw [Around.under_plainId ba_plain_new _]
  have hsub := PySem.F.isi_self_bytearray
  have hown := ba_owner_new
  obtain ⟨hp, g, d, tk, os⟩ := s
  simp only [hown]
  wp_walk
  exact h
theorem wpAny_writeBA {M : Model} {S : Addr} {b : Array UInt8} {f : Array UInt8 → Array UInt8} {Q : Unit → Shared → Prop} (hS : s.heap.get? S = some (baO b)) (hz : (f b).size ≤ sizeLine)
    (h : ∀ h', Heap.SameBut S s.heap h' → h'.get? S = some (baO (f b)) → Q () { s with heap := h' }) : wpAny M A (Builtin.Bytes.write (.ref S) f) Q E s := by
  show wpAny _ _ (updateBytearray S f) _ _ _
  unfold updateBytearray
  refine wpAny_bind (wpAny_load hS ?_)
  show wpAny _ _ (update S (Obj.mapBytearray f) >>= fun _ => lookBehind S) _ _ _
  refine wpAny_bind (wpAny_update hS ?_)
  have hS₂ : (s.heap.update S (Obj.mapBytearray f)).get? S = some (baO (f b)) := Heap.get?_update_self (Obj.mapBytearray f) hS rfl
  refine wpAny_lookBehind hS₂ ?_ (h _ (Heap.SameBut.update ..) hS₂)
  show (if (f b).size > sizeLine then some "bytearray:memory" else none) = none
  rw [if_neg (Nat.not_lt.mpr hz)]
def expF (self : Value) : Code × Pos → Bool := fun
    | (.builtin "bytearray.__contains__" ⟨v :: _, _⟩, _) | (.builtin "bytearray.__mod__" ⟨v :: _, _⟩, _)
    | (.builtin "bytearray.__rmod__" ⟨_ :: v :: _, _⟩, _) | (.builtin "_struct.pack_into.held" ⟨v :: _, _⟩, _) => Builtin.Bytes.sameRef v self
    | (.builtin "bytearray.find.held" ⟨_ :: _ :: held, _⟩, _) => held.any (Builtin.Bytes.sameRef self)
    | (.builtin id ⟨v :: _, _⟩, _) => Builtin.Bytes.sameRef v self && Builtin.Bytes.decodersThatHold.contains id
    | _ => false
theorem exported_eq (self : Value) : Builtin.Bytes.exported self = (do return (← stack).any (expF self)) := rfl
theorem expF_false {self : Value} {c : Code} {p : Pos} (hg : c.isGuard = false) (hd : isDec c = false) : expF self (c, p) = false := by
  unfold expF
  split
  case h_6 =>
    rename_i heq
    cases heq
    have hd' : Builtin.Bytes.decodersThatHold.contains _ = false := hd
    rw [hd', Bool.and_false]
  case h_7 => rfl
  all_goals
    rename_i heq
    cases heq
    exfalso
    simp [Code.isGuard, guardIds] at hg
/-- no decoder holds it, and nothing else on the stack does -/
theorem wpD_exported {M : Model} {v : Value} {Q : Bool → Shared → Prop} (hg : A.guards = some []) (h : Q false s) : wpD M A (Builtin.Bytes.exported v) Q E s := fun Γ p hΓ hd => by
  rw [exported_eq]
  show Q (((Γ.code, p) :: Γ.below).any (expF v)) s
  have hgs := hΓ.2.2.2.1 [] hg
  rw [← guardsOf_cons Γ.code p] at hgs
  have e : ((Γ.code, p) :: Γ.below).any (expF v) = false := by
    rw [List.any_eq_false]
    intro x hx
    have h1 : isDec x.1 = false := by
      rcases List.mem_cons.mp hx with rfl | hx
      · exact hd.1
      · exact hd.2 x hx
    have h2 : x.1.isGuard = false := by
      cases q : x.1.isGuard with
      | false => rfl
      | true =>
        have : x.1 ∈ guardsOf ((Γ.code, p) :: Γ.below) := List.mem_filter.mpr ⟨List.mem_map_of_mem hx, q⟩
        rw [hgs] at this
        cases this
    have := expF_false (self := v) (p := x.2) h2 h1
    simpa using this
  rw [e]
  exact h
set_option maxHeartbeats 1000000 in
theorem ba_init {S : Addr} {k : Int} {t : Tok} {P : Fin → Shared → Prop} (hg : A.guards = some []) (hS : s.heap.get? S = some (baO #[])) (h0 : 0 < k) (hn : k ≤ 1000)
    (h : ∀ h', Heap.SameBut S s.heap h' → h'.get? S = some (baO (Array.replicate k.toNat 0)) → P (.done (.ret .none)) { s with heap := h' }) :
    wpD (model prog w) A (Builtin.«bytearray.__init__» ⟨[.ref S, .int k t], []⟩) P E s := by
  have hT : s.TypeIs (.ref S) "bytearray" := ⟨_, hS, rfl⟩
  have hdr : ("bytearray.__release_buffer__".dropRight ("__release_buffer__".length + 1)) = "bytearray" := by decide +kernel
  unfold Builtin.«bytearray.__init__»
  refine wpD_bindA ?_
  unfold Builtin.Bytes.ownRelease Builtin.Bytes.slotIsOwn
  refine wpAny_bind (wpAny_bind (wpAny_specialOf hT ba_release ?_))
  show wpAny _ _ (if (!"bytearray.__release_buffer__".endsWith ("." ++ "__release_buffer__")) = true then pure false else isInstance (Value.ref S) (Value.type ("bytearray.__release_buffer__".dropRight ("__release_buffer__".length + 1)))) _ _ _
  refine bm_if_false (by decide +kernel) ?_
  rw [hdr]
  refine wpAny_isInstance hT PySem.F.isi_self_bytearray (wpAny_pure ?_)
  show wpD _ _ (Builtin.Bytes.bindOptional "bytearray.__init__" "bytearray" ["source", "encoding", "errors"] [Value.int k t] [] >>= _) _ _ _
  refine wpD_bindA (wpAny_of_eq (ba_bind _) ?_)
  refine wpD_bindA (wpAny_of_eq (a := ()) rfl ?_)
  refine wpD_bindA (wpAny_of_eq (a := ()) rfl ?_)
  refine wpD_bind (wpD_bind (wpD_exported hg ?_))
  show wpD _ _ (Builtin.Bytes.exportsOf (.ref S) >>= fun n => pure (decide (n > 0))) _ _ _
  refine wpD_of_any (wpAny_bind ?_)
  show wpAny _ _ (load S >>= _) _ _ _
  refine wpAny_bind (wpAny_load hS (wpAny_pure (wpAny_pure ?_)))
  show wpD _ _ (Builtin.Bytes.write (Value.ref S) (fun x => #[]) >>= _) _ _ _
  refine wpD_of_any (wpAny_bind (wpAny_writeBA hS (Nat.zero_le _) fun h₁ hs₁ hS₁ => ?_))
  dsimp only
  have hidx := int_index
  have hstr : ∀ {Q : Option Str → Shared → Prop} {s' : Shared}, Q none s' → wpAny (model prog w) A (asStr? (.int k t)) Q E s' := fun hq => by
    show wpAny _ _ (notAStandIn _ >>= fun _ => pure none) _ _ _
    exact wpAny_bind (wpAny_of_eq (a := ()) rfl (wpAny_pure hq))
  refine wpAny_bind ?_
  refine hstr ?_
  refine bm_if_false rfl ?_
  refine wpAny_bind (bm_if_false rfl (bm_if_false rfl (wpAny_pure ?_)))
  refine wpAny_bind (wpAny_specialOf (typeIs_int _ _ _) int_index ?_)
  refine bm_if_true rfl ?_
  refine wpAny_bind (wpAny_attempt (wpAny_of_eq (rfl : asIndex (.int k t) = pure k) ?_))
  dsimp only
  refine bm_if_false (by simp [Builtin.Bytes.fitsIndex]; omega) ?_
  rw [if_neg (by omega)]
  refine bm_if_false (by simp; omega) ?_
  refine bm_if_false (by simp [Builtin.Bytes.tooLong, sizeLine_eq]; omega) ?_
  refine wpAny_bind (wpAny_rule ?_)
  rw [if_pos h0]
  refine wpAny_bind (wpAny_writeBA hS₁ (by simp [sizeLine_eq]; omega) fun h₂ hs₂ hS₂ => ?_)
  exact wpAny_pure (h h₂ (hs₁.trans hs₂) hS₂)
theorem codeD_builtin {R : Result → Shared → Prop} {id : String} {args : Args} {b : Builtin} (hb : entryFor table id = some b)
    (h : wpD (model prog w) (A.under (.builtin id args)) (b args)
      (fun fin s' => match fin with | .done f => R (.ok f) s' | .again c' => c'.quiet = true ∧ isDec c' = false ∧ codeD (model prog w) A c' R s') (fun e s' => R (.error e) s') s) :
    codeD (model prog w) A (.builtin id args) R s := by
  refine codeD_of_tree ?_
  show wpD _ _ (match entryFor table id with | some b => b args | none => unsupported ((withoutEnding? id "#data").getD id)) _ _ s
  rw [hb]; exact h
theorem ba_plain_init : plainId "bytearray.__init__" = true := by decide +kernel
theorem ba_initArgs (a b : Value) : argsOk "bytearray.__init__" ⟨[a, b], []⟩ := by unfold argsOk; kernel_rfl
theorem D_if_false {α : Type} {M : Model} {c : Bool} {a b : Sem α} {Q : α → Shared → Prop} (hc : c = false) (h : wpD M A b Q E s) : wpD M A (if c = true then a else b) Q E s := by
  subst hc
  exact h
theorem D_if_true {α : Type} {M : Model} {c : Bool} {a b : Sem α} {Q : α → Shared → Prop} (hc : c = true) (h : wpD M A a Q E s) : wpD M A (if c = true then a else b) Q E s := by
  subst hc
  exact h
/-- bytearray(k), k positive and small -/
theorem ba_call {k : Int} {t : Tok} {Q : Value → Shared → Prop} (hg : A.guards = some []) (h0 : 0 < k) (hn : k ≤ 1000)
    (h : ∀ h', (∀ b o, s.heap.get? b = some o → h'.get? b = some o) → h'.get? s.heap.objs.size = some (baO (Array.replicate k.toNat 0)) → Q (.ref s.heap.objs.size) { s with heap := h' }) :
    wpD (model prog w) A (call (.type "bytearray") [.int k t]) Q E s := by
  obtain ⟨c, tl, hmro⟩ := ba_called.mro
  have hmade := ba_called.made
  have hsub := ba_called.sub
  refine wpD_call (codeD_of_tree ?_)
  show wpD _ _ (callAny (.type "bytearray") _) _ _ _
  refine wpD_pure ⟨Code.quiet_builtin _ (by decide +kernel), rfl, codeD_builtin F.entry_type_call ?_⟩
  rw [Around.under_plain (weight_type_call_type "bytearray" [.int k t] []) rfl]
  have h1 := ba_called.notType
  have h2 := ba_called.canCreate
  unfold Builtin.«type.__call__»
  dsimp only
  refine D_if_false h1 (D_if_false h2 ?_)
  refine wpD_bindA (wpAny_of_eq (ba_typeCall _) ?_)
  refine wpD_bindA (wpAny_of_eq hmro ?_)
  refine D_if_false rfl ?_
  refine wpD_bindA (wpAny_of_eq hmade ?_)
  dsimp only
  refine wpD_bindA (wpAny_pure ?_)
  refine wpD_bindA (wpAny_holding (wpAny_call (ba_new _ ?_)))
  have hS : (s.heap.push (baO #[])).get? s.heap.objs.size = some (baO #[]) := Heap.get?_push_size _ rfl
  have hT : ({ s with heap := s.heap.push (baO #[]) } : Shared).TypeIs (.ref s.heap.objs.size) "bytearray" := ⟨_, hS, rfl⟩
  refine wpD_bindA (wpAny_isInstance hT hsub ?_)
  refine D_if_false rfl ?_
  refine wpD_bind (wpD_holding ?_)
  simp only [callSpecial?]
  refine wpD_bindA (wpAny_specialOf hT ba_slot_init.lookup ?_)
  simp only [ba_slot_init.bind]
  refine wpD_holding (wpD_bindA (wpAny_pure (wpD_bind (wpD_call (codeD_of_tree ?_)))))
  show wpD _ A.in1.in1 (do checkBuiltinCall "bytearray.__init__" ⟨[.ref s.heap.objs.size, .int k t], []⟩; again (.builtin "bytearray.__init__" ⟨[.ref s.heap.objs.size, .int k t], []⟩)) _ _ _
  refine wpD_bindA (ba_slot_init.check _ _ _ _ _ _ _ _ hT (ba_initArgs _ _) (wpD_pure ⟨plainId_quiet ba_plain_init _, by rfl, codeD_builtin ba_entry_init ?_⟩))
  rw [Around.under_plainId ba_plain_init _]
  refine ba_init (A := A.in1.in1) (s := { s with heap := s.heap.push (baO #[]) }) hg hS h0 hn fun h' hs hS' => ?_
  dsimp only
  refine wpD_pure (wpD_of_any ?_)
  refine bm_if_false rfl (wpAny_pure ?_)
  exact h h' (fun b o e => hs.extBut b o (Nat.ne_of_lt (Heap.lt_size e)) (Heap.get?_push_of_some _ e)) hS'
end
/-! D4 -/
theorem ba_slot_setitem : Slot "bytearray" "__setitem__" "bytearray.__setitem__" :=
  .of (owner := "bytearray") (n := "__setitem__") (by rw [typeLookup_type, builtinLookup_eq_fast]; kernel_rfl) (by decide +kernel) (by decide +kernel) (by decide +kernel)
    (by first | exact .inl (by decide +kernel) | exact .inr (by decide +kernel)) (by rw [isSubtype_type]; kernel_rfl)
theorem ba_entry_setitem : entryFor table "bytearray.__setitem__" = some Builtin.«bytearray.__setitem__» := by first | exact entryFor_of_fast (by kernel_rfl) | exact entryFor_of_tree (by kernel_rfl)
theorem ba_setArgs (a b c : Value) : argsOk "bytearray.__setitem__" ⟨[a, b, c], []⟩ := by unfold argsOk; kernel_rfl
theorem ba_buffer : typeLookup (.type "bytearray") "__buffer__" = pure (some (.builtin "bytearray.__buffer__")) := by rw [typeLookup_type, builtinLookup_eq_fast]; kernel_rfl
theorem ba_no_bytes : typeLookup (.type "bytearray") "__bytes__" = pure none := by rw [typeLookup_type, builtinLookup_eq_fast]; kernel_rfl
theorem ba_no_index : typeLookup (.type "bytearray") "__index__" = pure none := by rw [typeLookup_type, builtinLookup_eq_fast]; kernel_rfl
section
variable {prog : Program} {w : World} {A : Around} {E : Value → Shared → Prop} {s : Shared}
/-- b[k] = v -/
theorem ba_set {S : Addr} {b : Array UInt8} {k v : Int} {t u : Tok} {Q : Unit → Shared → Prop} (hS : s.heap.get? S = some (baO b)) (h0 : 0 ≤ k) (h1 : k < b.size) (hz : b.size ≤ 1000) (hv0 : 0 ≤ v) (hv1 : v < 256)
    (h : ∀ h', Heap.SameBut S s.heap h' → h'.get? S = some (baO (b.setIfInBounds k.toNat v.toNat.toUInt8)) → Q () { s with heap := h' }) :
    wpAny (model prog w) A (setItem (.ref S) (.int k t) (.int v u)) Q E s := by
  have hT : s.TypeIs (.ref S) "bytearray" := ⟨_, hS, rfl⟩
  unfold setItem
  refine wpAny_holding ?_
  refine wpAny_bind (wpAny_sequenceKey hT (by decide) ?_)
  refine wpAny_bind (wpAny_callSpecial?_slot (name := Str.ofString "__setitem__") hT ba_slot_setitem
    (wpAny_call_entry ba_slot_setitem hT ba_entry_setitem ?_ (ba_setArgs _ _ _)))
  unfold Builtin.«bytearray.__setitem__»
  dsimp only
  refine bm_if_false rfl ?_
  unfold Builtin.Bytes.subscript?
  refine wpAny_bind (wpAny_bind (wpAny_specialOf (typeIs_int _ _ _) int_index ?_))
  refine bm_if_false rfl ?_
  refine wpAny_bind (wpAny_of_eq (rfl : asIndex (.int k t) = pure k) ?_)
  refine bm_if_false (by simp [Builtin.Bytes.fitsIndex]; omega) (wpAny_pure ?_)
  dsimp only
  unfold Builtin.Bytes.byteValue
  refine wpAny_bind (wpAny_bind (wpAny_of_eq (rfl : asIndex (.int v u) = pure v) ?_))
  refine bm_if_false (by simp; omega) (wpAny_pure ?_)
  unfold Builtin.Bytes.payload Builtin.Bytes.payload?
  refine wpAny_bind (wpAny_bind (wpAny_bind (wpAny_load hS ?_)))
  refine wpAny_pure (wpAny_pure ?_)
  have hi : seqIndex? k b.size = some k.toNat := by
    unfold seqIndex?
    simp [Int.not_lt.mpr h0, h0, h1]
  rw [hi]
  refine wpAny_bind (wpAny_writeBA hS (by simp [sizeLine_eq]; omega) fun h' hs hS' => ?_)
  exact wpAny_pure ⟨.none, rfl, wpAny_pure (h h' hs hS')⟩
theorem ba_own {S : Addr} {b : Array UInt8} {Q : Bool → Shared → Prop} (hS : s.heap.get? S = some (baO b)) (h : Q true s) : wpAny (model prog w) A (Builtin.Bytes.slotIsOwn (.ref S) "__buffer__") Q E s := by
  have hT : s.TypeIs (.ref S) "bytearray" := ⟨_, hS, rfl⟩
  have hdr : ("bytearray.__buffer__".dropRight ("__buffer__".length + 1)) = "bytearray" := by decide +kernel
  unfold Builtin.Bytes.slotIsOwn
  refine wpAny_bind (wpAny_specialOf hT ba_buffer ?_)
  show wpAny _ _ (if (!"bytearray.__buffer__".endsWith ("." ++ "__buffer__")) = true then pure false else isInstance (Value.ref S) (Value.type ("bytearray.__buffer__".dropRight ("__buffer__".length + 1)))) _ _ _
  refine bm_if_false (by decide +kernel) ?_
  rw [hdr]
  exact wpAny_isInstance hT PySem.F.isi_self_bytearray h
theorem ba_ownRelease {S : Addr} {b : Array UInt8} {Q : Bool → Shared → Prop} (hS : s.heap.get? S = some (baO b)) (h : Q false s) : wpAny (model prog w) A (Builtin.Bytes.ownRelease (.ref S)) Q E s := by
  have hT : s.TypeIs (.ref S) "bytearray" := ⟨_, hS, rfl⟩
  have hdr : ("bytearray.__release_buffer__".dropRight ("__release_buffer__".length + 1)) = "bytearray" := by decide +kernel
  unfold Builtin.Bytes.ownRelease Builtin.Bytes.slotIsOwn
  refine wpAny_bind (wpAny_bind (wpAny_specialOf hT ba_release ?_))
  show wpAny _ _ (if (!"bytearray.__release_buffer__".endsWith ("." ++ "__release_buffer__")) = true then pure false else isInstance (Value.ref S) (Value.type ("bytearray.__release_buffer__".dropRight ("__release_buffer__".length + 1)))) _ _ _
  refine bm_if_false (by decide +kernel) ?_
  rw [hdr]
  exact wpAny_isInstance hT PySem.F.isi_self_bytearray (wpAny_pure h)
theorem ba_buffer_of {S : Addr} {b : Array UInt8} {id : String} {Q : Option (Array UInt8) → Shared → Prop} (hS : s.heap.get? S = some (baO b)) (h : Q (some b) s) : wpAny (model prog w) A (Builtin.Bytes.buffer? id (.ref S) true) Q E s := by
  have hT : s.TypeIs (.ref S) "bytearray" := ⟨_, hS, rfl⟩
  unfold Builtin.Bytes.buffer?
  refine wpAny_bind (wpAny_specialOf hT ba_buffer ?_)
  try dsimp only
  refine wpAny_bind (ba_own hS ?_)
  refine bm_if_false rfl ?_
  refine wpAny_bind (wpAny_specialOf hT ba_buffer ?_)
  try dsimp only
  refine wpAny_bind (ba_ownRelease hS ?_)
  refine bm_if_false rfl ?_
  unfold Builtin.Bytes.payload Builtin.Bytes.payload?
  refine wpAny_bind (wpAny_bind (wpAny_bind (wpAny_load hS ?_)))
  exact wpAny_pure (wpAny_pure (wpAny_pure h))
theorem ba_bytes_new {S : Addr} {b : Array UInt8} {Q : Value → Shared → Prop} (hS : s.heap.get? S = some (baO b)) (hz : b.size ≤ 1000)
    (hQ : ∀ t k, Q (.bytes b t) { s with toks := k }) :
    codeAny (model prog w) A (.call (.builtin "bytes.__new__") ⟨[.type "bytes", .ref S], []⟩) (wants Q E) s := by
  have hT : s.TypeIs (.ref S) "bytearray" := ⟨_, hS, rfl⟩
  refine codeAny_of_tree ?_
  show wpAny _ A.in1 (do checkBuiltinCall "bytes.__new__" ⟨[.type "bytes", .ref S], []⟩; again (.builtin "bytes.__new__" ⟨[.type "bytes", .ref S], []⟩)) _ _ s
  refine wpAny_bind (wpAny_of_eq (F.bm_newCall _) (wpAny_pure ⟨plainId_quiet F.bm_plain _, codeAny_builtin F.bm_entry ?_⟩))
  rw [Around.under_plainId F.bm_plain _]
  unfold Builtin.«bytes.__new__»
  refine wpAny_bind (wpAny_of_eq (a := true) rfl ?_)
  refine bm_if_false rfl ?_
  refine wpAny_bind (wpAny_of_eq F.bm_sub ?_)
  refine bm_if_false rfl ?_
  refine wpAny_bind (wpAny_of_eq (F.bm_bind _) ?_)
  refine wpAny_bind (wpAny_of_eq (a := ()) rfl ?_)
  refine wpAny_bind (wpAny_of_eq (a := ()) rfl ?_)
  refine bm_if_false rfl ?_
  refine wpAny_bind (wpAny_specialOf hT ba_no_bytes ?_)
  refine wpAny_bind (wpAny_bind ?_)
  show wpAny _ _ (load S >>= _) _ _ _
  refine wpAny_bind (wpAny_load hS ?_)
  refine wpAny_pure (wpAny_pure ?_)
  refine bm_if_false rfl ?_
  refine wpAny_bind (wpAny_specialOf hT ba_no_index ?_)
  refine bm_if_true rfl ?_
  first
    | show wpAny _ _ (Builtin.Bytes.buffer? "bytes.__new__" (.ref S) true >>= _) _ _ _
    | (refine wpAny_bind ?_; show wpAny _ _ (Builtin.Bytes.buffer? "bytes.__new__" (.ref S) true >>= _) _ _ _)
  refine wpAny_bind (ba_buffer_of hS ?_)
  dsimp only
  refine wpAny_bind (wpAny_rule (wpAny_bind (wpAny_mkBytes ?_ (by rw [sizeLine_eq]; omega))))
  show wpAny _ _ (if (Value.type "bytes" == Value.type "bytes") = true then _ else _) _ _ _
  refine bm_if_true (by decide) ?_
  first
    | exact wpAny_pure (hQ _ _)
    | exact wpAny_bind (wpAny_pure (wpAny_pure (hQ _ _)))
/-- bytes(b) of a bytearray -/
theorem ba_bytes {S : Addr} {b : Array UInt8} {Q : Value → Shared → Prop} (hS : s.heap.get? S = some (baO b)) (hz : b.size ≤ 1000)
    (hQ : ∀ t k, Q (.bytes b t) { s with toks := k }) : wpAny (model prog w) A (call (.type "bytes") [.ref S]) Q E s := by
  refine callType_codes (Q₁ := fun obj s₁ => s₁.TypeIs obj "bytes" ∧ Q obj s₁) F.bm_called (F.bm_typeCall _) F.entry_object_init
    (ba_bytes_new hS hz fun t k => ⟨PySem.W.typeIs_bytes _ _ _, hQ t k⟩) fun obj s₁ h₁ => ?_
  exact ⟨h₁.1, F.args_object_init_2 obj _, object_init_meets F.bm_called.init.lookup F.bm_called.made (by decide) prog w A.in1 _ s₁ ⟨h₁.1, rfl, h₁.2⟩⟩
end
/-! B5 -/
theorem fillFrag5 : True := by
  w_top off
  trivial
abbrev baL (b : List UInt8) : Obj := baO b.toArray
/-- the place that _byteswap reads for place k -/
def swp (w k : Nat) : Nat := (k / w) * w + (w - 1 - k % w)
def swapL (d : List UInt8) (w : Nat) : List UInt8 := (List.range d.length).map fun k => d.getD (swp w k) 0
section
variable {prog : Program} {w : World} {A : Around} {E : Value → Shared → Prop} {s : Shared} {h₀ : Heap} {L S : Addr} {m : Str → Option Value} {rest : List (Addr × Obj)} {b : List UInt8} {k v : Int} {t u : Tok}
theorem storeB {Q : Unit → Shared → Prop} (F : Fr h₀ L s.heap m) (N : News h₀ L s.heap ((S, baL b) :: rest)) (hl : ∀ p ∈ rest, p.1 ≠ S) (h0 : 0 ≤ k) (h1 : k < b.length) (hz : b.length ≤ 1000) (hv0 : 0 ≤ v) (hv1 : v < 256)
    (h : ∀ h', Fr h₀ L h' m → News h₀ L h' ((S, baL (b.set k.toNat v.toNat.toUInt8)) :: rest) → Q () { s with heap := h' }) :
    wpAny (model prog w) A (setItem (.ref S) (.int k t) (.int v u)) Q E s := by
  have z := N (S, baL b) (.head _)
  refine ba_set z.1 h0 (by simpa using h1) (by simpa using hz) hv0 hv1 fun h' hs hS => h h' (F.change hs z.2.1 z.2.2) fun p hp => ?_
  rcases List.mem_cons.mp hp with rfl | hp
  · refine ⟨?_, z.2⟩
    rw [hS]
    simp [baL]
  · have := N p (.tail _ hp)
    exact ⟨(hs.2 p.1 (hl p hp)).trans this.1, this.2⟩
theorem itemB {d : List UInt8} {value slice : Expr} {Q : Value → Shared → Prop} (hz : d.length ≤ 1000) (h0 : 0 ≤ k) (h1 : k < (d.length : Int))
    (h : ∀ t' tk', Q (.int (((d.getD k.toNat 0).toNat : Nat) : Int) t') { s with toks := tk' })
    (hs : subscripted slice false (.bytes d.toArray t) (.int k u) = operate [.bytes d.toArray t, .int k u] (getItem (.bytes d.toArray t) (.int k u)) := by with_unfolding_all rfl)
    (ht : ∀ r, letTemporaryGo value (.bytes d.toArray t) r = pure () := by intro _; with_unfolding_all rfl) : wpAny (model prog w) A (subscriptTail value slice (.bytes d.toArray t) (.int k u)) Q E s :=
  bytes_item_K (by omega) h0 h1 rfl (h _ _) hs ht
theorem lenB {d : List UInt8} {Q : Value → Shared → Prop} (hz : d.length ≤ 1000) (h : ∀ t' tk', Q (.int (d.length : Int) t') { s with toks := tk' }) : wpAny (model prog w) A (call (.builtin "len") [.bytes d.toArray t]) Q E s :=
  len_bytes (by simp; omega) (by simpa using h _ _)
end
theorem byte_lt (x : UInt8) : ((x.toNat : Nat) : Int) < 256 := by have := x.toNat_lt; omega
local macro_rules | `(tactic| walk_at "call builtin:len") => `(tactic| (k_here; (with_reducible show wpAny _ _ (call (Value.builtin "len") [Value.bytes _ _]) _ _ _); k_dflt (refine' lenB ?k1 ?_; (case k1 => omega); k_whole); intro _ _))
local macro_rules | `(tactic| walk_at "subscriptTail") => `(tactic| (k_here; (with_reducible show wpAny _ _ (subscriptTail _ _ (Value.bytes _ _) (Value.int _ _)) _ _ _); k_dflt (refine' itemB ?k1 ?k2 ?k3 ?_ ?k4 ?k5; (case k1 => omega); (case k2 => omega); (case k3 => omega); (case k4 => with_unfolding_all rfl); (case k5 => (intro _; with_unfolding_all rfl)); k_whole); intro _ _))
local macro_rules | `(tactic| walk_at "setItem ref int") => `(tactic| (k_here; (with_reducible show wpAny _ _ (setItem (Value.ref _) (Value.int _ _) (Value.int _ _)) _ _ _); k_dflt (refine' storeB ?k1 ?k2 ?k3 ?k4 ?k5 ?k6 ?k7 ?k8 ?_; (case k1 => assumption); (case k2 => assumption); (case k3 => assumption); (case k4 => omega); (case k5 => omega); (case k6 => omega); (case k7 => exact Int.natCast_nonneg _); (case k8 => exact byte_lt _); k_whole); intro h' F' N'; (try k_sweep)))
theorem getD_set_ne {α : Type} {l : List α} {i k : Nat} {x d : α} (h : k ≠ i) : (l.set i x).getD k d = l.getD k d := by
  simp [List.getD_eq_getElem?_getD, List.getElem?_set, Ne.symm h]
theorem getD_set_eq {α : Type} {l : List α} {i : Nat} {x d : α} (h : i < l.length) : (l.set i x).getD i d = x := by
  simp [List.getD_eq_getElem?_getD, List.getElem?_set, h]
theorem rsz {n wd q : Nat} (hw : 0 < wd) (hq1 : 1 ≤ q) (hq : n = wd * q) : Builtin.Range.rangeSize 0 (n : Int) (wd : Int) = (q : Int) := by
  unfold Builtin.Range.rangeSize
  have h1 : 0 < n := by rw [hq]; exact Nat.mul_pos hw hq1
  rw [if_pos (by omega), if_pos (by omega)]
  have h2 : ((n : Int) - 0 - 1) / (wd : Int) = (q : Int) - 1 := by
    refine ((Int.ediv_emod_unique (r := (wd : Int) - 1) (by omega)).mpr ⟨?_, by omega, by omega⟩).1
    rw [hq, Int.mul_sub]
    push_cast
    omega
  rw [h2]
  omega
set_option maxHeartbeats 8000000 in
theorem byteswap_c {prog : Program} {w : World} {p : Program} {loose : List Str} {mean : ExcName → Option Value} {mg mb : Str → Option Value} {A A₀ : Around} {env : Env} {outer : List Env} {base h₀ : Heap} {L : Addr} {m : Str → Option Value} {s : Shared} {Q E : Value → Shared → Prop}
    {d : List UInt8} {wd : Nat} {rest : List (Addr × Obj)} {t1 t2 : Tok}
    (B : Below A₀ base outer h₀) (F : Fr h₀ L s.heap m) (X : (Mine.hd.heap_39 w.params).In h₀) (N : News h₀ L s.heap rest) (T : Top p loose mean mg mb h₀)
    (hA : A.frames = some (env :: outer)) (hf : env.frame = some L) (hke : env.scope.kind = .function) (hh : A.handled = none) (hgu : A.guards = some [])
    (hd : A.depth < recursionLimit) (hu : A.units + 8 < cLine)
    (hz : d.length ≤ 1000) (h0 : 0 < d.length) (hw : 0 < wd) (hdv : wd ∣ d.length)
    (ret : ∀ h' tk' t', Fr h₀ L h' m → News h₀ L h' rest → Q (.bytes (swapL d wd).toArray t') { s with heap := h', toks := tk' }) :
    wpD (model prog w) A (call (.ref 49) [.bytes d.toArray t1, .int wd t2]) Q E s := by
  refine wpD_call ?_
  k_dflt (refine' code_defD (binds := [(Str.ofString "data", .bytes d.toArray t1), (Str.ofString "width", .int wd t2)]) B F X N T hA hf hke ?k6 ?k7 hd ?k9 ?kB ?_ ?c2 ?c3 ?c4 ?c5; (case k6 => k_is); (case k7 => k_is); (case k9 => exact BindsTo.of_eq rfl); (case c5 => decide); (case kB => exact locs rfl); (case c2 => exact rfl); (case c3 => exact rfl); (case c4 => exact rfl))
  intro g' L' h' FG' F' N' B' X' T'
  clear B F X N T FG'
  refine D_execs_cons (D_Assign_Name (D_Call_type (T := "bytearray") ?_))
  ktr_unf
  rename Fr _ _ _ _ => F1
  rename News _ _ _ _ => N1
  refine ba_call hgu (by omega) (by omega) fun h1 keep1 hS => ?_
  have F2 := Fr.keeps F1 keep1
  have hk : ((d.length : Int)).toNat = d.length := by omega
  have N2 : News g' L' h1 ((h'.objs.size, baL (List.replicate d.length 0)) :: rest) := fun p hp => by
    rcases List.mem_cons.mp hp with rfl | hp
    · refine ⟨?_, Nat.ne_of_gt F1.ns.lt, next_is_new F1⟩
      rw [hS, hk]
      simp [baL]
    · exact News.grown N1 keep1 p hp
  have hl : ∀ p ∈ rest, p.1 ≠ h'.objs.size := fun p hp => Nat.ne_of_lt (Heap.lt_size (N1 p hp).1)
  clear F1 N1 keep1 hS
  generalize h'.objs.size = S at *
  dsimp only
  ktr_unf
  refine wpD_of_any ?_
  ktr_unf
  rename Fr _ _ _ _ => F3
  rename News _ _ _ _ => N3
  obtain ⟨q, hq⟩ := hdv
  refine For_invVF (h₀ := g') F3 rfl rfl ?_
  ktr_unf
  have hq1 : 1 ≤ q := by
    cases q with
    | zero => rw [Nat.mul_zero] at hq; omega
    | succ q => omega
  have hqz : q ≤ 1000 := Nat.le_trans (Nat.le_mul_of_pos_left q hw) (hq ▸ hz)
  have hwz : wd ≤ 1000 := Nat.le_trans (Nat.le_mul_of_pos_right wd hq1) (hq ▸ hz)
  refine range3_rows F3 N3 (by omega) ?_ (Or.inl (PyProof.noPylong_small (by omega)))
  clear F3 N3
  intro h4 tk4 a4 b4 c4 R4 F4 N4 _
  dsimp only
  have hrs := rsz hw hq1 hq
  have hsm : Builtin.Range.small 0 (d.length : Int) (wd : Int) = true := by
    unfold Builtin.Range.small
    simp only [Builtin.Range.rangeFitsLong, hrs]
    simp
    rw [if_pos hw]
    exact ⟨⟨⟨by omega, by omega⟩, by omega⟩, Or.inr (by omega)⟩
  refine for_iter (n := q) (fun i m' nx => ∃ b : List UInt8, nx = (S, baL b) :: rest ∧ m' (Str.ofString "data") = some (.bytes d.toArray t1) ∧ m' (Str.ofString "width") = some (.int wd t2) ∧ m' (Str.ofString "swapped_data") = some (.ref S) ∧ b.length = d.length ∧ ∀ k, k < wd * i → b.getD k 0 = d.getD (swp wd k) 0)
    hh R4 hsm hrs F4 N4 ⟨_, rfl, rfl, rfl, rfl, by simp, fun k hk => absurd hk (by simp)⟩ ?_ ?_
  · rintro i t' m₁ nx h5 tk5 own hi hoff - ⟨b, rfl, m1, m2, m3, hbl, hb⟩ F5 N5
    clear F4 N4 R4
    rw [List.cons_append] at N5
    have F6 := fr_bind (fr_bind (fr_bind F5 (x := Str.ofString "data") (by rw [if_neg (by decide)]; exact m1)) (x := Str.ofString "width") (v := .int wd t2) (by rw [if_neg (by decide), if_neg (by decide)]; exact m2)) (x := Str.ofString "swapped_data") (v := .ref S) (by rw [if_neg (by decide), if_neg (by decide), if_neg (by decide)]; exact m3)
    clear F5
    have hIw : wd * i + wd ≤ d.length := by
      rw [hq]
      calc wd * i + wd = wd * (i + 1) := by rw [Nat.mul_add, Nat.mul_one]
        _ ≤ wd * q := Nat.mul_le_mul_left _ hi
    have hI : (0 : Int) + (i : Int) * (wd : Int) = ((wd * i : Nat) : Int) := by rw [Int.zero_add, Nat.mul_comm]; push_cast; rfl
    rw [hI] at F6
    have hl' : ∀ p ∈ rest ++ own, p.1 ≠ S := fun p hp => by
      rcases List.mem_append.mp hp with hp | hp
      · exact hl p hp
      · exact hoff p hp S (by simp)
    have hpl : ∀ j, j < wd → swp wd (wd * i + wd - 1 - j) = wd * i + j := fun j hj => by
      have e : wd * i + wd - 1 - j = wd * i + (wd - 1 - j) := by omega
      rw [e]
      unfold swp
      rw [Nat.mul_add_div hw, Nat.mul_add_mod, Nat.div_eq_of_lt (by omega), Nat.mod_eq_of_lt (by omega), Nat.add_zero, Nat.mul_comm i wd]
      omega
    generalize hIe : wd * i = I at *
    ktr_unf
    rename Fr _ _ _ _ => F7
    rename News _ _ _ _ => N7
    refine For_invVF (h₀ := g') F7 rfl rfl ?_
    ktr_unf
    refine range1_rows F7 N7 ?_
    intro h8 tk8 a8 b8 c8 R8 F8 N8 _
    dsimp only
    refine for_iter (n := wd) (fun jj m' nx => ∃ b' : List UInt8, nx = (S, baL b') :: (rest ++ own) ∧ m' (Str.ofString "data") = some (.bytes d.toArray t1) ∧ m' (Str.ofString "width") = some (.int wd t2) ∧ m' (Str.ofString "swapped_data") = some (.ref S) ∧ m' (Str.ofString "i") = some (.int (I : Int) t') ∧ b'.length = d.length ∧ (∀ k, k < I → b'.getD k 0 = d.getD (swp wd k) 0) ∧ ∀ k, I + wd ≤ k + jj → k < I + wd → b'.getD k 0 = d.getD (swp wd k) 0)
      hh R8 (small_one (by omega) (by omega) (by omega) (by omega)) (by rw [rangeSize_nat]; simp) F8 N8 ⟨b, rfl, rfl, rfl, rfl, rfl, hbl, hb, fun k hk1 hk2 => absurd hk1 (by omega)⟩ ?_ ?_
    · rintro j tj m₂ nx h9 tk9 own2 hj hoff2 - ⟨b', rfl, n1, n2, n3, n4, hbl', hb1, hb2⟩ F9 N9
      clear F8 N8 R8 F7 N7
      rw [List.cons_append] at N9
      have F10 := fr_bind (fr_bind (fr_bind (fr_bind F9 (x := Str.ofString "data") (by rw [if_neg (by decide)]; exact n1)) (x := Str.ofString "width") (v := .int wd t2) (by rw [if_neg (by decide), if_neg (by decide)]; exact n2)) (x := Str.ofString "swapped_data") (v := .ref S) (by rw [if_neg (by decide), if_neg (by decide), if_neg (by decide)]; exact n3)) (x := Str.ofString "i") (v := .int (I : Int) t') (by rw [if_neg (by decide), if_neg (by decide), if_neg (by decide), if_neg (by decide)]; exact n4)
      clear F9
      have hJ : (0 : Int) + (j : Int) * 1 = (j : Int) := by omega
      rw [hJ] at F10
      have hl2 : ∀ p ∈ rest ++ own ++ own2, p.1 ≠ S := fun p hp => by
        rcases List.mem_append.mp hp with hp | hp
        · exact hl' p hp
        · exact hoff2 p hp S (by simp)
      have hbz : b'.length ≤ 1000 := by omega
      ktr_unf
      rename Fr _ _ _ _ => F11
      rename News _ _ _ _ => N11
      have e1 : ((I : Int) + (wd : Int) - 1 - (j : Int)).toNat = I + wd - 1 - j := by omega
      have e2 : ((I : Int) + (j : Int)).toNat = I + j := by omega
      have e3 : ∀ x : UInt8, ((x.toNat : Nat) : Int).toNat.toUInt8 = x := fun x => by simp
      rw [e1, e2, e3] at N11
      refine InvEndN.intro (nx := (S, baL (b'.set (I + wd - 1 - j) (d.getD (I + j) 0))) :: (rest ++ own)) F11 N11 ⟨_, rfl, rfl, rfl, rfl, rfl, by simpa using hbl', fun k hk => ?_, fun k hk1 hk2 => ?_⟩ rfl (fun p hp => ?_) (fun p hp => .tail _ (List.mem_append_right _ hp))
      · rw [getD_set_ne (by omega)]
        exact hb1 k hk
      · by_cases hk : k = I + wd - 1 - j
        · subst hk
          rw [getD_set_eq (by omega), hpl j hj]
        · rw [getD_set_ne (by omega)]
          exact hb2 k (by omega) hk2
      · rcases List.mem_cons.mp hp with rfl | hp
        · exact .head _
        · exact .tail _ (List.mem_append_left _ hp)
    · rintro m₂ nx h9 tk9 ⟨b', rfl, n1, n2, n3, n4, hbl', hb1, hb2⟩ F9 N9
      ktr_unf
      have hmi : wd * (i + 1) = I + wd := by rw [Nat.mul_add, Nat.mul_one, hIe]
      refine InvEndN.intro (nx := (S, baL b') :: rest) F9 N9 ⟨b', rfl, n1, n2, n3, hbl', fun k hk => ?_⟩ rfl (fun p hp => ?_) (fun p hp => .tail _ (List.mem_append_right _ hp))
      · by_cases hk1 : k < I
        · exact hb1 k hk1
        · exact hb2 k (by omega) (by omega)
      · rcases List.mem_cons.mp hp with rfl | hp
        · exact .head _
        · exact .tail _ (List.mem_append_left _ hp)
  · rintro m₁ nx h5 tk5 ⟨b, rfl, m1, m2, m3, hbl, hb⟩ F5 N5
    clear F4 N4 R4
    have F6 := fr_bind F5 m3
    ktr_unf
    refine ba_bytes (N5 _ (.head _)).1 (by simp; omega) fun t9 k9 => ?_
    ktr_unf
    refine leaveK_ F6 N5 (fun kF kN => ?_)
    have hfin : b = swapL d wd := by
      refine List.ext_getElem (by simp [swapL, hbl]) fun k hk1 hk2 => ?_
      have := hb k (by rw [← hq, ← hbl]; exact hk1)
      have e : b.getD k 0 = b[k] := by simp [hk1]
      rw [e] at this
      rw [this]
      simp [swapL]
    subst hfin
    exact ret _ _ _ kF (fun p hp => kN p (.tail _ hp))
/-! C1 -/
section
variable {prog : Program} {w : World} {A : Around} {h₀ : Heap} {L : Addr} {m : Str → Option Value} {env : Env} {elt : Expr} {x : Str} {scope : Scope} {cl : List (Str × Addr)} {s : Shared} {S : List (Addr × Obj) → Prop} {P : Nat → Value → Prop} {Fin : List Value → List (Addr × Obj) → Prop}
theorem compEnd_mono {I C D : Addr} {oI oC oD : Obj} {s₁ s₂ : Shared} {r r' : Value → List (Addr × Obj) → Prop} {y : Value} (h : LCg.CompEnd h₀ L m s₁ I oI C oC D oD S r y s₂) (hr : ∀ y nw, r y nw → r' y nw) : LCg.CompEnd h₀ L m s₁ I oI C oC D oD S r' y s₂ := by
  obtain ⟨h', tk, nw, e, F, N, o, hS, q⟩ := h
  exact ⟨h', tk, nw, e, F, N, o, hS, hr _ _ q⟩
/-- a comprehension's turns by an invariant over what it has made -/
theorem compRest_ind (Inv : Nat → List Value → List (Addr × Obj) → Prop) {n : Nat} {news : List (Addr × Obj)} (h0 : Inv 0 [] news)
    (step : ∀ i ys nw, i < n → Inv i ys nw → ∀ v I oI C oC D m₂ h tk (E' : Value → Shared → Prop), P i v → LCg.NsObj oC m₂ → m₂ x = some v → Fr h₀ L h m → News h₀ L h ((I, oI) :: (C, oC) :: (D, LCg.lst ys) :: nw) → LCg.Off3 I C D nw → ((@Ne Nat I C) ∧ (@Ne Nat I D) ∧ (@Ne Nat C D)) →
      wpAny (model prog w) A (eval elt (compEnvC scope cl C env)) (LCg.CompEnd h₀ L m { s with heap := h, toks := tk } I oI C oC D (LCg.lst ys) S (fun y nw' => Inv (i + 1) (ys ++ [y]) nw')) E' { s with heap := h, toks := tk })
    (fin : ∀ ys nw, Inv n ys nw → Fin ys nw) : LCg.CompRest prog w A h₀ L m env elt x scope cl s S P Fin n 0 [] news := by
  have go : ∀ k i ys nw, k + i = n → Inv i ys nw → LCg.CompRest prog w A h₀ L m env elt x scope cl s S P Fin k i ys nw := by
    intro k
    induction k with
    | zero =>
      intro i ys nw hi hI
      have : i = n := by omega
      subst this
      exact LCg.CompRest.zero (fin ys nw hI)
    | succ k ih =>
      intro i ys nw hi hI
      refine LCg.CompRest.succ fun v I oI C oC D m₂ h tk E' hP hN hm F N o ne => ?_
      refine wpAny_mono (step i ys nw (by omega) hI v I oI C oC D m₂ h tk E' hP hN hm F N o ne) (fun y s₂ e => ?_) fun _ _ e => e
      exact compEnd_mono e fun y nw' hI' => ih (i + 1) _ nw' (by omega) hI'
  exact go n 0 [] news (by omega) h0
end
/-- another triple at a new address -/
def updT (tup : Addr → T3) (q : Addr) (t : T3) : Addr → T3 := fun a => if a = q then t else tup a
theorem updT_self {tup : Addr → T3} {q : Addr} {t : T3} : updT tup q t q = t := if_pos rfl
theorem updT_ne {tup : Addr → T3} {q a : Addr} {t : T3} (h : a ≠ q) : updT tup q t a = tup a := if_neg h
theorem Tups.upd {tup : Addr → T3} {q : Addr} {t : T3} {as : List Addr} {news : List (Addr × Obj)} (h : Tups tup as news) (hq : ∀ a ∈ as, a ≠ q) : Tups (updT tup q t) as news := fun a ha => by
  rw [updT_ne (hq a ha)]
  exact h a ha
theorem map_upd {tup : Addr → T3} {q : Addr} {t : T3} {as : List Addr} (hq : ∀ a ∈ as, a ≠ q) {β : Type} (f : T3 → β) : as.map (fun a => f (updT tup q t a)) = as.map (fun a => f (tup a)) :=
  List.map_congr_left fun a ha => by rw [updT_ne (hq a ha)]
/-- the walk, up to the next loop, def call, range, or the end of a comprehension's turn -/
local macro_rules | `(tactic| tb_start) => `(tactic| repeat' ((fail_if_success (with_reducible show wpAny _ _ (exec (Stmt.While _ _ _ _) _) _ _ _)); (fail_if_success (with_reducible show wpAny _ _ (exec (Stmt.For _ _ _ _ _) _) _ _ _)); (fail_if_success (with_reducible show wpAny _ _ (exec (Stmt.Assign _ (Expr.ListComp _ _ _ _) _) _) _ _ _)); (fail_if_success (with_reducible show wpAny _ _ (eval (Expr.ListComp _ _ _ _) _) _ _ _)); (fail_if_success (with_reducible show wpAny _ _ (call (Value.ref _) _) _ _ _)); (fail_if_success (with_reducible show wpAny _ _ (call (Value.builtin "sorted") _) _ _ _)); (fail_if_success (with_reducible show wpAny _ _ (call (Value.type "range") _) _ _ _)); (fail_if_success (with_reducible show KswEnd _ _ _ _ _ _ _ _ _ _ _ _)); (fail_if_success (with_reducible show LeaveK _ _ _ _ _ _ _)); (fail_if_success (with_reducible show LCg.CompEnd _ _ _ _ _ _ _ _ _ _ _ _ _ _)); (fail_if_success (with_reducible show LCg.CompSrc _ _ _ _ _ _ _ _ _ _ _ _ _ _)); first | (k_unfold; (try dsimp only)) | walk1 | (dsimp only; walk1) | (leave1; walk_say "STEP leave1"; try dsimp only)))
/-! P1 -/
/-! The plain law of the bells: no program in sight. -/
abbrev K3 := Int × Int × Int
def code (k : K3) : Int := k.1 * 1000 + k.2.1 * 10 + k.2.2
def Bd (k : K3) : Prop := 0 ≤ k.2.1 ∧ k.2.1 < 99 ∧ 0 ≤ k.2.2 ∧ k.2.2 < 10
theorem klt_code {x y : K3} (hx : Bd x) (hy : Bd y) : klt x y = decide (code x < code y) := by
  obtain ⟨a, b, c⟩ := x
  obtain ⟨a', b', c'⟩ := y
  unfold klt code
  unfold Bd at hx hy
  dsimp only at hx hy ⊢
  rw [decide_eq_decide]
  (first | lia | omega)
theorem code_inj {x y : K3} (hx : Bd x) (hy : Bd y) (h : code x = code y) : x = y := by
  obtain ⟨a, b, c⟩ := x
  obtain ⟨a', b', c'⟩ := y
  unfold code at h
  unfold Bd at hx hy
  dsimp only at hx hy h
  have h1 : a = a' := by (first | lia | omega)
  have h2 : b = b' := by (first | lia | omega)
  have h3 : c = c' := by (first | lia | omega)
  rw [h1, h2, h3]
/-! ### sifting depends on the order of what is in the list alone -/
theorem sdLoop_congr {lt lt' : Addr → Addr → Bool} {x : Addr} {st : Nat} {S : Addr → Prop} (hlt : ∀ a b, S a → S b → lt a b = lt' a b) (hx : S x) : ∀ (f : Nat) (as : List Addr) (ps : Nat), (∀ a ∈ as, S a) → ps < as.length → sdLoop lt x st f as ps = sdLoop lt' x st f as ps
  | 0, _, _, _, _ => rfl
  | f + 1, as, ps, h, hp => by
    have hq : S (as.getD ((ps - 1) / 2) 0) := h _ (by
      have : (ps - 1) / 2 < as.length := by (first | lia | omega)
      simp [this])
    unfold sdLoop
    rw [hlt _ _ hx hq]
    split
    · split
      · refine sdLoop_congr hlt hx f _ _ (fun a ha => ?_) (by simp; (first | lia | omega))
        rcases List.mem_or_eq_of_mem_set ha with h' | rfl
        · exact h a h'
        · exact hq
      · rfl
    · rfl
theorem siftdownF_congr {lt lt' : Addr → Addr → Bool} {S : Addr → Prop} (hlt : ∀ a b, S a → S b → lt a b = lt' a b) {as : List Addr} {st ps : Nat} (h : ∀ a ∈ as, S a) (hp : ps < as.length) : siftdownF lt as st ps = siftdownF lt' as st ps :=
  sdLoop_congr hlt (h _ (by simp [hp])) _ _ _ h hp
theorem suChild_congr {lt lt' : Addr → Addr → Bool} {S : Addr → Prop} (hlt : ∀ a b, S a → S b → lt a b = lt' a b) {as : List Addr} {c : Nat} (h : ∀ a ∈ as, S a) (hc : c < as.length) : suChild lt as c = suChild lt' as c := by
  unfold suChild
  by_cases h1 : c + 1 < as.length
  · rw [hlt _ _ (h _ (by simp [hc])) (h _ (by simp [h1]))]
  · rw [if_neg (fun q => h1 q.1), if_neg (fun q => h1 q.1)]
theorem suChild_lt {lt : Addr → Addr → Bool} {as : List Addr} {c : Nat} (hc : c < as.length) : suChild lt as c < as.length := by
  unfold suChild
  split
  · (first | lia | omega)
  · exact hc
theorem suLoop_congr {lt lt' : Addr → Addr → Bool} {x : Addr} {st : Nat} {S : Addr → Prop} (hlt : ∀ a b, S a → S b → lt a b = lt' a b) (hx : S x) : ∀ (f : Nat) (as : List Addr) (ps : Nat), (∀ a ∈ as, S a) → ps < as.length → suLoop lt x st f as ps = suLoop lt' x st f as ps
  | 0, as, ps, h, hp => siftdownF_congr hlt (fun a ha => by
      rcases List.mem_or_eq_of_mem_set ha with h' | rfl
      · exact h a h'
      · exact hx) (by simpa using hp)
  | f + 1, as, ps, h, hp => by
    unfold suLoop
    split
    · rename_i hc
      rw [← suChild_congr hlt h hc]
      have hl := suChild_lt (lt := lt) hc
      refine suLoop_congr hlt hx f _ _ (fun a ha => ?_) (by simpa using hl)
      rcases List.mem_or_eq_of_mem_set ha with h' | rfl
      · exact h a h'
      · exact h _ (by simp [hl])
    · exact siftdownF_congr hlt (fun a ha => by
        rcases List.mem_or_eq_of_mem_set ha with h' | rfl
        · exact h a h'
        · exact hx) (by simpa using hp)
theorem siftupF_congr {lt lt' : Addr → Addr → Bool} {S : Addr → Prop} (hlt : ∀ a b, S a → S b → lt a b = lt' a b) {as : List Addr} {ps : Nat} (h : ∀ a ∈ as, S a) (hp : ps < as.length) : siftupF lt as ps = siftupF lt' as ps :=
  suLoop_congr hlt (h _ (by simp [hp])) _ _ _ h hp
/-! ### six in a heap -/
def Heap6 (f : Addr → Int) (as : List Addr) : Prop := f (as.getD 0 0) ≤ f (as.getD 1 0) ∧ f (as.getD 0 0) ≤ f (as.getD 2 0) ∧ f (as.getD 1 0) ≤ f (as.getD 3 0) ∧ f (as.getD 1 0) ≤ f (as.getD 4 0) ∧ f (as.getD 2 0) ≤ f (as.getD 5 0)
theorem six_of {as : List Addr} (h : as.length = 6) : ∃ a b c d e f, as = [a, b, c, d, e, f] := by
  match as, h with
  | [a, b, c, d, e, f], _ => exact ⟨a, b, c, d, e, f, rfl⟩
theorem perm6 {l l' : List Addr} (h : ∀ x, l.count x = l'.count x) : l.Perm l' := List.perm_iff_count.mpr h
section
variable (lt : Addr → Addr → Bool) (a b c d e g : Addr)
theorem su2a (h0 : lt c g = true) : siftupF lt [a, b, c, d, e, g] 2 = [a, b, c, d, e, g] := by
  simp [siftupF, suLoop, suChild, siftdownF, sdLoop, h0]
theorem su2b (h0 : lt c g = false) : siftupF lt [a, b, c, d, e, g] 2 = [a, b, g, d, e, c] := by
  simp [siftupF, suLoop, suChild, siftdownF, sdLoop, h0]
theorem su1a (h0 : lt d e = true) (h1 : lt b d = true) : siftupF lt [a, b, c, d, e, g] 1 = [a, b, c, d, e, g] := by
  simp [siftupF, suLoop, suChild, siftdownF, sdLoop, h0, h1]
theorem su1b (h0 : lt d e = true) (h1 : lt b d = false) : siftupF lt [a, b, c, d, e, g] 1 = [a, d, c, b, e, g] := by
  simp [siftupF, suLoop, suChild, siftdownF, sdLoop, h0, h1]
theorem su1c (h0 : lt d e = false) (h1 : lt b e = true) : siftupF lt [a, b, c, d, e, g] 1 = [a, b, c, d, e, g] := by
  simp [siftupF, suLoop, suChild, siftdownF, sdLoop, h0, h1]
theorem su1d (h0 : lt d e = false) (h1 : lt b e = false) : siftupF lt [a, b, c, d, e, g] 1 = [a, e, c, d, b, g] := by
  simp [siftupF, suLoop, suChild, siftdownF, sdLoop, h0, h1]
theorem su0d1 (h0 : lt b c = true) (h1 : lt d e = true) (h2 : lt a d = false) : siftupF lt [a, b, c, d, e, g] 0 = [b, d, c, a, e, g] := by
  simp [siftupF, suLoop, suChild, siftdownF, sdLoop, h0, h1, h2]
theorem su0d2 (h0 : lt b c = true) (h1 : lt d e = true) (h2 : lt a d = true) (h3 : lt a b = false) : siftupF lt [a, b, c, d, e, g] 0 = [b, a, c, d, e, g] := by
  simp [siftupF, suLoop, suChild, siftdownF, sdLoop, h0, h1, h2, h3]
theorem su0d3 (h0 : lt b c = true) (h1 : lt d e = true) (h2 : lt a d = true) (h3 : lt a b = true) : siftupF lt [a, b, c, d, e, g] 0 = [a, b, c, d, e, g] := by
  simp [siftupF, suLoop, suChild, siftdownF, sdLoop, h0, h1, h2, h3]
theorem su0e1 (h0 : lt b c = true) (h1 : lt d e = false) (h2 : lt a e = false) : siftupF lt [a, b, c, d, e, g] 0 = [b, e, c, d, a, g] := by
  simp [siftupF, suLoop, suChild, siftdownF, sdLoop, h0, h1, h2]
theorem su0e2 (h0 : lt b c = true) (h1 : lt d e = false) (h2 : lt a e = true) (h3 : lt a b = false) : siftupF lt [a, b, c, d, e, g] 0 = [b, a, c, d, e, g] := by
  simp [siftupF, suLoop, suChild, siftdownF, sdLoop, h0, h1, h2, h3]
theorem su0e3 (h0 : lt b c = true) (h1 : lt d e = false) (h2 : lt a e = true) (h3 : lt a b = true) : siftupF lt [a, b, c, d, e, g] 0 = [a, b, c, d, e, g] := by
  simp [siftupF, suLoop, suChild, siftdownF, sdLoop, h0, h1, h2, h3]
theorem su0g1 (h0 : lt b c = false) (h1 : lt a g = false) : siftupF lt [a, b, c, d, e, g] 0 = [c, b, g, d, e, a] := by
  simp [siftupF, suLoop, suChild, siftdownF, sdLoop, h0, h1]
theorem su0g2 (h0 : lt b c = false) (h1 : lt a g = true) (h2 : lt a c = false) : siftupF lt [a, b, c, d, e, g] 0 = [c, b, a, d, e, g] := by
  simp [siftupF, suLoop, suChild, siftdownF, sdLoop, h0, h1, h2]
theorem su0g3 (h0 : lt b c = false) (h1 : lt a g = true) (h2 : lt a c = true) : siftupF lt [a, b, c, d, e, g] 0 = [a, b, c, d, e, g] := by
  simp [siftupF, suLoop, suChild, siftdownF, sdLoop, h0, h1, h2]
end
section
variable {f : Addr → Int} {a b c d e g : Addr}
abbrev ltF (f : Addr → Int) : Addr → Addr → Bool := fun x y => decide (f x < f y)
theorem ltF_t {x y : Addr} (h : f x < f y) : ltF f x y = true := decide_eq_true h
theorem ltF_f {x y : Addr} (h : ¬ f x < f y) : ltF f x y = false := decide_eq_false h
theorem su6_0 (h1 : f b ≤ f d) (h2 : f b ≤ f e) (h3 : f c ≤ f g) :
    Heap6 f (siftupF (ltF f) [a, b, c, d, e, g] 0) ∧ (siftupF (ltF f) [a, b, c, d, e, g] 0).Perm [a, b, c, d, e, g] := by
  by_cases hbc : f b < f c
  · by_cases hde : f d < f e
    · by_cases had : f a < f d
      · by_cases hab : f a < f b
        · rw [su0d3 _ _ _ _ _ _ _ (ltF_t hbc) (ltF_t hde) (ltF_t had) (ltF_t hab)]
          exact ⟨by simp [Heap6]; (first | lia | omega), (by first | exact .refl _ | exact perm6 fun x => by (simp only [List.count_cons, List.count_nil]; (first | lia | omega)))⟩
        · rw [su0d2 _ _ _ _ _ _ _ (ltF_t hbc) (ltF_t hde) (ltF_t had) (ltF_f hab)]
          exact ⟨by simp [Heap6]; (first | lia | omega), (by first | exact .refl _ | exact perm6 fun x => by (simp only [List.count_cons, List.count_nil]; (first | lia | omega)))⟩
      · rw [su0d1 _ _ _ _ _ _ _ (ltF_t hbc) (ltF_t hde) (ltF_f had)]
        exact ⟨by simp [Heap6]; (first | lia | omega), (by first | exact .refl _ | exact perm6 fun x => by (simp only [List.count_cons, List.count_nil]; (first | lia | omega)))⟩
    · by_cases hae : f a < f e
      · by_cases hab : f a < f b
        · rw [su0e3 _ _ _ _ _ _ _ (ltF_t hbc) (ltF_f hde) (ltF_t hae) (ltF_t hab)]
          exact ⟨by simp [Heap6]; (first | lia | omega), (by first | exact .refl _ | exact perm6 fun x => by (simp only [List.count_cons, List.count_nil]; (first | lia | omega)))⟩
        · rw [su0e2 _ _ _ _ _ _ _ (ltF_t hbc) (ltF_f hde) (ltF_t hae) (ltF_f hab)]
          exact ⟨by simp [Heap6]; (first | lia | omega), (by first | exact .refl _ | exact perm6 fun x => by (simp only [List.count_cons, List.count_nil]; (first | lia | omega)))⟩
      · rw [su0e1 _ _ _ _ _ _ _ (ltF_t hbc) (ltF_f hde) (ltF_f hae)]
        exact ⟨by simp [Heap6]; (first | lia | omega), (by first | exact .refl _ | exact perm6 fun x => by (simp only [List.count_cons, List.count_nil]; (first | lia | omega)))⟩
  · by_cases hag : f a < f g
    · by_cases hac : f a < f c
      · rw [su0g3 _ _ _ _ _ _ _ (ltF_f hbc) (ltF_t hag) (ltF_t hac)]
        exact ⟨by simp [Heap6]; (first | lia | omega), (by first | exact .refl _ | exact perm6 fun x => by (simp only [List.count_cons, List.count_nil]; (first | lia | omega)))⟩
      · rw [su0g2 _ _ _ _ _ _ _ (ltF_f hbc) (ltF_t hag) (ltF_f hac)]
        exact ⟨by simp [Heap6]; (first | lia | omega), (by first | exact .refl _ | exact perm6 fun x => by (simp only [List.count_cons, List.count_nil]; (first | lia | omega)))⟩
    · rw [su0g1 _ _ _ _ _ _ _ (ltF_f hbc) (ltF_f hag)]
      exact ⟨by simp [Heap6]; (first | lia | omega), (by first | exact .refl _ | exact perm6 fun x => by (simp only [List.count_cons, List.count_nil]; (first | lia | omega)))⟩
theorem su6_2 : ∃ c' g', siftupF (ltF f) [a, b, c, d, e, g] 2 = [a, b, c', d, e, g'] ∧ f c' ≤ f g' ∧ [a, b, c', d, e, g'].Perm [a, b, c, d, e, g] := by
  by_cases h : f c < f g
  · exact ⟨c, g, su2a _ _ _ _ _ _ _ (ltF_t h), by (first | lia | omega), .refl _⟩
  · exact ⟨g, c, su2b _ _ _ _ _ _ _ (ltF_f h), by (first | lia | omega), perm6 fun x => by simp only [List.count_cons, List.count_nil]; (first | lia | omega)⟩
theorem su6_1 : ∃ b' d' e', siftupF (ltF f) [a, b, c, d, e, g] 1 = [a, b', c, d', e', g] ∧ f b' ≤ f d' ∧ f b' ≤ f e' ∧ [a, b', c, d', e', g].Perm [a, b, c, d, e, g] := by
  by_cases h : f d < f e
  · by_cases h2 : f b < f d
    · exact ⟨b, d, e, su1a _ _ _ _ _ _ _ (ltF_t h) (ltF_t h2), by (first | lia | omega), by (first | lia | omega), .refl _⟩
    · exact ⟨d, b, e, su1b _ _ _ _ _ _ _ (ltF_t h) (ltF_f h2), by (first | lia | omega), by (first | lia | omega), perm6 fun x => by simp only [List.count_cons, List.count_nil]; (first | lia | omega)⟩
  · by_cases h2 : f b < f e
    · exact ⟨b, d, e, su1c _ _ _ _ _ _ _ (ltF_f h) (ltF_t h2), by (first | lia | omega), by (first | lia | omega), .refl _⟩
    · exact ⟨e, d, b, su1d _ _ _ _ _ _ _ (ltF_f h) (ltF_f h2), by (first | lia | omega), by (first | lia | omega), perm6 fun x => by simp only [List.count_cons, List.count_nil]; (first | lia | omega)⟩
end
/-- heapify of six -/
theorem hf6 {f : Addr → Int} {as : List Addr} (h6 : as.length = 6) : Heap6 f (hfSeq (ltF f) as 3) ∧ (hfSeq (ltF f) as 3).Perm as := by
  obtain ⟨a, b, c, d, e, g, rfl⟩ := six_of h6
  obtain ⟨c', g', e1, q1, p1⟩ := su6_2 (f := f) (a := a) (b := b) (c := c) (d := d) (e := e) (g := g)
  obtain ⟨b', d', e', e2, q2, q3, p2⟩ := su6_1 (f := f) (a := a) (b := b) (c := c') (d := d) (e := e) (g := g')
  have e3 : hfSeq (ltF f) [a, b, c, d, e, g] 3 = siftupF (ltF f) [a, b', c', d', e', g'] 0 := by
    show siftupF (ltF f) (siftupF (ltF f) (siftupF (ltF f) [a, b, c, d, e, g] 2) 1) 0 = _
    rw [e1, e2]
  rw [e3]
  have z := su6_0 (a := a) q2 q3 q1
  exact ⟨z.1, z.2.trans (p2.trans p1)⟩
/-- the top put anew, and sifted -/
theorem hr6 {f : Addr → Int} {as : List Addr} {x : Addr} (h6 : as.length = 6) (H : Heap6 f as) : Heap6 f (siftupF (ltF f) (as.set 0 x) 0) ∧ (siftupF (ltF f) (as.set 0 x) 0).Perm (as.set 0 x) := by
  obtain ⟨a, b, c, d, e, g, rfl⟩ := six_of h6
  simp only [Heap6, List.getD_cons_zero, List.getD_cons_succ] at H
  exact su6_0 H.2.2.1 H.2.2.2.1 H.2.2.2.2
theorem mem_of_tups {as bs : List Addr} (h : ∀ (tup : Addr → T3) news, Tups tup as news → Tups tup bs news) : ∀ a ∈ bs, a ∈ as := fun a ha => by
  have z := h (fun _ => ⟨0, 0, 0, 0, 0, 0⟩) (as.map fun a => (a, tupO ⟨0, 0, 0, 0, 0, 0⟩)) (fun a ha => List.mem_map.mpr ⟨a, ha, rfl⟩) a ha
  obtain ⟨b, hb, e⟩ := List.mem_map.mp z
  have : b = a := congrArg Prod.fst e
  exact this ▸ hb
theorem hfSeq_mem {lt : Addr → Addr → Bool} {as : List Addr} (h6 : as.length = 6) (i : Nat) : ∀ a ∈ hfSeq lt as i, a ∈ as := mem_of_tups fun _ _ h => hfSeq_tups h6 h i
theorem hfSeq_congr {lt lt' : Addr → Addr → Bool} {as : List Addr} (hlt : ∀ a b, a ∈ as → b ∈ as → lt a b = lt' a b) (h6 : as.length = 6) : ∀ i, hfSeq lt as i = hfSeq lt' as i
  | 0 => rfl
  | i + 1 => by
    show siftupF lt (hfSeq lt as i) (2 - i) = siftupF lt' (hfSeq lt' as i) (2 - i)
    rw [hfSeq_congr hlt h6 i]
    exact siftupF_congr hlt (hfSeq_mem h6 i) (by rw [hfSeq_len]; (first | lia | omega))
/-! B6 -/
theorem fillFrag6 : True := by
  w_top off
  trivial
section
variable {prog : Program} {w : World} {A : Around} {E : Value → Shared → Prop} {s : Shared} {h₀ : Heap} {L l : Addr} {m : Str → Option Value} {nx nw : List (Addr × Obj)} {as : List Addr} {c : Nat} {k : Int} {t u : Tok}
theorem lenM {Q : Value → Shared → Prop} (N : News h₀ L s.heap nx) (hm : (l, lstR as c) ∈ nx) (hz : as.length ≤ 1000)
    (h : ∀ t' tk', Q (.int (as.length : Int) t') { s with toks := tk' }) : wpAny (model prog w) A (call (.builtin "len") [.ref l]) Q E s := by
  refine lenR (h₀ := h₀) (L := L) (rest := []) (c := c) (as := as) (fun p hp => ?_) hz h
  rw [List.mem_singleton.mp hp]
  exact N _ hm
theorem itemM {value slice : PySem.Expr} {Q : Value → Shared → Prop} (N : News h₀ L s.heap nx) (hm : (l, lstR as c) ∈ nx) (h0 : 0 ≤ k) (h1 : k < as.length) (hz : as.length ≤ 1000) (h : Q (.ref (as.getD k.toNat 0)) s)
    (hs : subscripted slice false (.ref l) (.int k u) = operate [.ref l, .int k u] (getItem (.ref l) (.int k u)) := by with_unfolding_all rfl) :
    wpAny (model prog w) A (subscriptTail value slice (.ref l) (.int k u)) Q E s := by
  refine itemR (h₀ := h₀) (L := L) (rest := []) (c := c) (as := as) (fun p hp => ?_) h0 h1 hz h hs
  rw [List.mem_singleton.mp hp]
  exact N _ hm
theorem itemT0 {x : T3} {a : Addr} {value slice : PySem.Expr} {Q : Value → Shared → Prop} (N : News h₀ L s.heap nx) (hm : (a, tupO x) ∈ nx) (h : Q (.int x.h x.t1) s)
    (hs : subscripted slice false (.ref a) (.int 0 u) = operate [.ref a, .int 0 u] (getItem (.ref a) (.int 0 u)) := by with_unfolding_all rfl) :
    wpAny (model prog w) A (subscriptTail value slice (.ref a) (.int 0 u)) Q E s :=
  item_tupleT (l := [.int x.h x.t1, .int x.w x.t2, .int x.b x.t3]) (j := 0) ⟨_, (N _ hm).1, rfl, 0, rfl⟩ (by decide) (by decide) rfl rfl h hs
theorem appR {D q : Addr} {o : Obj} {Q : Value → Shared → Prop} (F : Fr h₀ L s.heap m) (N : News h₀ L s.heap ((D, o) :: (l, lstR as c) :: nw)) (ne : D ≠ l) (hw : ∀ p ∈ nw, p.1 ≠ l) (hz : as.length ≤ 1000)
    (h : ∀ h', Fr h₀ L h' m → News h₀ L h' ((D, o) :: (l, lstR (as ++ [q]) (c + 1)) :: nw) → Q .none { s with heap := h' }) : wpAny (model prog w) A (call (.builtin "list.append") [.ref l, .ref q]) Q E s := by
  have e : lstR (as ++ [q]) (c + 1) = listOf ((as.map Value.ref).toArray.push (.ref q)) (c + 1) := by simp [lstR]
  rw [e] at h
  exact append_K F N (.tail ne (.head hw)) h (by simp [sizeLine_eq]; omega)
end
local macro_rules | `(tactic| k_mem) => `(tactic| with_reducible assumption)
local macro_rules | `(tactic| walk_at "call builtin:len") => `(tactic| (k_here; (with_reducible show wpAny _ _ (call (Value.builtin "len") [Value.ref _]) _ _ _); k_dflt (refine' lenM ?k1 ?k2 ?k3 ?_; (case k1 => assumption); (case k2 => assumption); (case k3 => omega); k_whole); intro _ _))
local macro_rules | `(tactic| walk_at "subscriptTail") => `(tactic| (k_here; (with_reducible show wpAny _ _ (subscriptTail _ _ (Value.ref (List.getD _ _ _)) (Value.int 0 _)) _ _ _); k_dflt (refine' itemT0 ?k1 ?k2 ?_ ?k5; (case k1 => assumption); (case k2 => assumption); (case k5 => with_unfolding_all rfl); k_whole)))
local macro_rules | `(tactic| walk_at "assign Tuple") => `(tactic| (k_here; (with_reducible show wpAny _ _ (assign (Expr.Tuple _ _ _) _ (Value.ref (List.getD _ _ _))) _ _ _); k_dflt (refine' unpackN_ ?F ?N ?T ?k1 ?k2 ?k3 ?_; (case F => k_asm); (case N => k_asm); (case T => refine News.isTup (by k_asm) (by assumption)); (case k1 => exact rfl); (case k2 => exact rfl); (case k3 => exact rfl)); intro h' F' N'; (try k_sweep)))
local macro_rules | `(tactic| walk_at "call builtin:list.append") => `(tactic| (k_here; (with_reducible show wpAny _ _ (call (Value.builtin _) [Value.ref _, Value.ref _]) _ _ _); k_dflt (refine' appR ?k1 ?k2 ?k3 ?k4 ?k5 ?_; (case k1 => assumption); (case k2 => assumption); (case k3 => assumption); (case k4 => assumption); (case k5 => omega); k_whole); intro h' F' N'; (try k_sweep)))
theorem getD_key {tup : Addr → T3} {as : List Addr} {k : Nat} (h : k < as.length) : (as.map (fun a => (tup a).key)).getD k (0, 0, 0) = (tup (as.getD k 0)).key := by simp [h]
theorem off1_mem {D : Addr} : ∀ {l : List (Addr × Obj)}, LCg.Off1 D l → ∀ p ∈ l, p.1 ≠ D
  | [], _, _, h => nomatch h
  | _ :: _, x, p, h => by
    rcases List.mem_cons.mp h with rfl | h
    · exact x.1
    · exact off1_mem x.2 p h
set_option maxHeartbeats 8000000 in
theorem rung_c {prog : Program} {w : World} {p : Program} {loose : List Str} {mean : ExcName → Option Value} {mg mb : Str → Option Value} {A A₀ : Around} {env : Env} {outer : List Env} {base h₀ : Heap} {L : Addr} {m : Str → Option Value} {s : Shared} {Q E : Value → Shared → Prop}
    {d : List UInt8} {last : Int} {rest : List (Addr × Obj)} {t1 t2 : Tok} {wl pl : Addr} {wv pv : List Value} {ws ps : List Int} {c1 c2 : Nat}
    (B : Below A₀ base outer h₀) (F : Fr h₀ L s.heap m) (X : (Mine.hd.heap_39 w.params).In h₀) (N : News h₀ L s.heap rest) (T : Top p loose mean mg mb h₀)
    (hA : A.frames = some (env :: outer)) (hf : env.frame = some L) (hke : env.scope.kind = .function) (hh : A.handled = none) (hgu : A.guards = some [])
    (hd : A.depth + 4 < recursionLimit) (hu : A.units + 40 < cLine)
    (hwl : (wl, listOf wv.toArray c1) ∈ rest) (hwi : IntsAre wv ws) (hws : ws.length = 3) (hpl : (pl, listOf pv.toArray c2) ∈ rest) (hpi : IntsAre pv ps) (hps : ps.length = 6)
    (I : List UInt8 → List K3 → List K3 → Prop)
    (i0 : ∀ (as : List Addr) (tup : Addr → T3), as.length = 6 → as.map (fun a => (tup a).key) = (List.range 6).map (fun j => (ps.getD j 0, ws.getD (j % 3) 0, (j : Int))) → I d [] ((hfSeq (fun a b => tlt (tup a) (tup b)) as 3).map (fun a => (tup a).key)))
    (i1 : ∀ row told hk, I row told hk → 0 < row.length ∧ row.length ≤ 1000 ∧ 0 < (hk.getD 0 (0, 0, 0)).2.1 ∧ (hk.getD 0 (0, 0, 0)).2.1.toNat ∣ row.length ∧ 0 ≤ (hk.getD 0 (0, 0, 0)).2.2 ∧ (hk.getD 0 (0, 0, 0)).2.2 < 6)
    (i2 : ∀ row told (as : List Addr) (tup : Addr → T3) (x : Addr) (h w b : Int), as.length = 6 → I row told (as.map (fun a => (tup a).key)) → (tup (as.getD 0 0)).key = (h, w, b) → h ≤ last → told.length < 25 → (tup x).key = (h + ps.getD b.toNat 0, w, b) → I (swapL row w.toNat) (told ++ [(h, w, b)]) ((siftupF (fun a b => tlt (tup a) (tup b)) (as.set 0 x) 0).map (fun a => (tup a).key)))
    (ret : ∀ h' tk' row t' (as told : List Addr) (tup : Addr → T3) r hl tl c' nw, Fr h₀ L h' m → News h₀ L h' nw → (r, ({ cls := .type "tuple", data := .seq #[.bytes row.toArray t', .ref tl, .ref hl] 0 } : Obj)) ∈ nw → (tl, lstR told c') ∈ nw → (hl, lstR as 6) ∈ nw → Tups tup as nw → Tups tup told nw → (∀ p ∈ rest, p ∈ nw) → as.length = 6 → told.length ≤ 25 →
      I row (told.map (fun a => (tup a).key)) (as.map (fun a => (tup a).key)) → ¬ (((as.map (fun a => (tup a).key)).getD 0 (0, 0, 0)).1 ≤ last ∧ told.length < 25) → Q (.ref r) { s with heap := h', toks := tk' }) :
    wpD (model prog w) A (call (.ref 54) [.bytes d.toArray t1, .ref wl, .ref pl, .int last t2]) Q E s := by
  refine wpD_call ?_
  k_dflt (refine' code_defCD (binds := [(Str.ofString "row", .bytes d.toArray t1), (Str.ofString "widths", .ref wl), (Str.ofString "periods", .ref pl), (Str.ofString "last", .int last t2)]) B F X N T hA hf hke ?k6 ?k7 (by omega) ?k9 ?kB ?kD ?_ ?c2 ?c3 ?c4; (case k6 => k_is); (case k7 => k_is); (case k9 => exact BindsTo.of_eq rfl); (case kB => exact rfl); (case kD => decide +kernel); (case c2 => exact rfl); (case c3 => exact rfl); (case c4 => exact rfl))
  intro g' L' h' tk' cells' FG' F' N' Y' B' X' T' l1
  have hY := CellsAre.two Y'
  obtain ⟨o', o2', hE', d1', d2'⟩ := hY
  subst hE'
  clear Y' B F X N T FG'
  simp only [List.cons_append, List.nil_append] at N'
  obtain ⟨m0, F0, r1, r2⟩ : ∃ m0, Fr g' L' h' m0 ∧ m0 (Str.ofString "row") = some (.bytes d.toArray t1) ∧ m0 (Str.ofString "last") = some (.int last t2) := ⟨_, F', rfl, rfl⟩
  have F1 := fr_bind (fr_bind F0 r1) (x := Str.ofString "last") (v := .int last t2) (by rw [if_neg (by decide)]; exact r2)
  have d1 : o'.data = .cell (some (.ref pl)) := d1'
  have d2 : o2'.data = .cell (some (.ref wl)) := d2'
  clear d1' d2' F' F0
  refine D_execs_consA ?_
  try k_fold
  refine LCg.Assign_ListComp_U (F₀ := F1) (by rfl) (by with_unfolding_all rfl) (by with_unfolding_all rfl) (by decide) (by rfl) (by decide) (by rfl) (by rfl) (by rfl) ?_
  tb_start
  refine range1_rows F1 N' ?_
  intro h2 tk2 ra2 rb2 rc2 R2 F2 N2 _
  tb_start
  clear F1 N'
  refine LCg.CompSrc.range (n := 6) hh F2 N2 R2 (by decide) (by decide) (by decide) fun g2 => ?_
  refine compRest_ind (fun i ys nw => ∃ (as : List Addr) (tup : Addr → T3), ys = as.map Value.ref ∧ as.length = i ∧ Tups tup as nw ∧ as.map (fun a => (tup a).key) = (List.range i).map (fun j => (ps.getD j 0, ws.getD (j % 3) 0, (j : Int))) ∧ ∀ p ∈ (L' + 1 + 1, o') :: (L' + 1, o2') :: rest, p ∈ nw)
    ⟨[], fun _ => ⟨0, 0, 0, 0, 0, 0⟩, rfl, rfl, (fun a ha => by cases ha), rfl, fun p hp => hp⟩ ?_ ?_
  · rintro i ys nw hi ⟨as, tup, rfl, hlen, ht, hkey, hbase⟩ v I oI C oC D m₂ h3 tk3 E' ⟨t3, rfl⟩ hC hx F3 N3 off ne
    have k1 : (L' + 1 + 1, o') ∈ (I, oI) :: (C, oC) :: (D, LCg.lst (as.map Value.ref)) :: nw := .tail _ (.tail _ (.tail _ (hbase _ (.head _))))
    have k2 : (L' + 1, o2') ∈ (I, oI) :: (C, oC) :: (D, LCg.lst (as.map Value.ref)) :: nw := .tail _ (.tail _ (.tail _ (hbase _ (.tail _ (.head _)))))
    have k3 : (wl, listOf wv.toArray c1) ∈ (I, oI) :: (C, oC) :: (D, LCg.lst (as.map Value.ref)) :: nw := .tail _ (.tail _ (.tail _ (hbase _ (.tail _ (.tail _ hwl)))))
    have k4 : (pl, listOf pv.toArray c2) ∈ (I, oI) :: (C, oC) :: (D, LCg.lst (as.map Value.ref)) :: nw := .tail _ (.tail _ (.tail _ (hbase _ (.tail _ (.tail _ hpl)))))
    tb_start
    rename_i ta tb tkb tc q h4 F4 N4 hlt
    have hq : ∀ a ∈ as, a ≠ q := fun a ha => Nat.ne_of_lt (kst_ltOf hlt.2.2.2 _ (ht a ha))
    have e1 : ((0 : Int) + (i : Int)).toNat = i := by omega
    have e2 : (((0 : Int) + (i : Int)) % 3).toNat = i % 3 := by omega
    rw [e1, e2] at N4
    refine LCg.CompEnd.intro F4 N4 ((q, tupO ⟨ps.getD i 0, ws.getD (i % 3) 0, 0 + (i : Int), ta, tc, t3⟩) :: nw) (fun p hp => ?_) ?_ trivial ⟨as ++ [q], updT tup q ⟨ps.getD i 0, ws.getD (i % 3) 0, 0 + (i : Int), ta, tc, t3⟩, by simp, by simp [hlen], fun a ha => ?_, ?_, fun p hp => .tail _ (hbase p hp)⟩
    · simp only [List.mem_cons] at hp ⊢
      rcases hp with rfl | rfl | rfl | rfl | hp <;> simp_all
    · exact ⟨⟨Nat.ne_of_gt hlt.1, Nat.ne_of_gt hlt.2.1, Nat.ne_of_gt hlt.2.2.1⟩, off⟩
    · rcases List.mem_append.mp ha with ha | ha
      · exact .tail _ ((ht.upd hq) a ha)
      · rw [List.mem_singleton.mp ha, updT_self]
        exact .head _
    · rw [List.map_append, map_upd hq, hkey, List.range_succ, List.map_append]
      simp [updT_self, T3.key]
  · rintro ys nw ⟨as, tup, rfl, hlen, ht, hkey, hbase⟩
    unfold LCg.FinA
    intro D h3 tk3 F3 N3 off1
    dsimp only
    refine D_execs_consA ?_
    tb_start
    have hoff : ∀ p ∈ nw, p.1 ≠ D := off1_mem off1
    have N4 : News g' L' h3 ((D, lstR as 6) :: nw) := by
      have e : LCg.lst (as.map Value.ref) = lstR as 6 := by simp [LCg.lst, lstR, W.listOf, hlen]
      rw [← e]; exact N3
    have hu4 := hu
    refine heapify_c (tup := tup) B' F3 X' N4 T' (deeper_frames hA) (by rfl) (by rfl) hh (by simp only [depth_deeper]; omega) (by simp only [units_deeper]; omega) hoff ht hlen ?_
    intro h5 tk5 F5 N5
    have I0 := i0 as tup hlen hkey
    have ht5 := hfSeq_tups (lt := fun a b => tlt (tup a) (tup b)) hlen ht 3
    have hl5 : (hfSeq (fun a b => tlt (tup a) (tup b)) as 3).length = 6 := (hfSeq_len _ _ _).trans hlen
    clear F3 N3 N4
    generalize hfSeq (fun a b => tlt (tup a) (tup b)) as 3 = as5 at *
    dsimp only
    refine D_execs_consA ?_
    tb_start
    rename Fr _ _ _ _ => F6
    rename News _ _ _ _ => N6
    rename_i tl h6' l6 h6
    dsimp only
    have N6' : News g' L' h6 ((D, lstR as5 6) :: (tl, lstR [] 0) :: nw) := fun p hp => N6 p (by
      rcases List.mem_cons.mp hp with rfl | hp
      · exact .tail _ (.head _)
      · rcases List.mem_cons.mp hp with rfl | hp
        · exact .head _
        · exact .tail _ (.tail _ hp))
    refine D_execs_cons ?_
    refine D_While_inv2 (h₀ := g') (fun n m' nx => ∃ (row : List UInt8) (tr : Tok) (as told : List Addr) (tup : Addr → T3) (nw : List (Addr × Obj)) (c' : Nat), nx = (D, lstR as 6) :: (tl, lstR told c') :: nw ∧ m' (Str.ofString "row") = some (.bytes row.toArray tr) ∧ m' (Str.ofString "last") = some (.int last t2) ∧ m' (Str.ofString "heap") = some (.ref D) ∧ m' (Str.ofString "told") = some (.ref tl) ∧ as.length = 6 ∧ Tups tup as nw ∧ Tups tup told nw ∧ (∀ p ∈ nw, p.1 ≠ D ∧ p.1 ≠ tl) ∧ (∀ p ∈ (L' + 1 + 1, o') :: (L' + 1, o2') :: rest, p ∈ nw) ∧ told.length + n = 25 ∧ I row (told.map (fun a => (tup a).key)) (as.map (fun a => (tup a).key))) (n₀ := 25) F6 N6' ?_ ?_ ?_
    · exact ⟨d, t1, as5, [], tup, nw, 0, rfl, rfl, rfl, rfl, rfl, hl5, ht5, (fun a ha => by cases ha), fun p hp => ⟨hoff p hp, Nat.ne_of_lt (kst_ltOf l6.2 p hp)⟩, hbase, rfl, I0⟩
    · rintro n m₁ nx h7 tk7 F7 N7 ⟨row, tr, as, told, tup, nw, c', rfl, m1, m2, m3, m4, hl7, ht7, ht8, hoff7, hbase7, hn7, I7⟩
      have F8 := fr_bind (fr_bind (fr_bind (fr_bind F7 m1) (x := Str.ofString "last") (v := .int last t2) (by rw [if_neg (by decide)]; exact m2)) (x := Str.ofString "heap") (v := .ref D) (by rw [if_neg (by decide), if_neg (by decide)]; exact m3)) (x := Str.ofString "told") (v := .ref tl) (by rw [if_neg (by decide), if_neg (by decide), if_neg (by decide)]; exact m4)
      clear F7 F6 N6
      have k1 : (L' + 1 + 1, o') ∈ (D, lstR as 6) :: (tl, lstR told c') :: nw := .tail _ (.tail _ (hbase7 _ (.head _)))
      have k4 : (pl, listOf pv.toArray c2) ∈ (D, lstR as 6) :: (tl, lstR told c') :: nw := .tail _ (.tail _ (hbase7 _ (.tail _ (.tail _ hpl))))
      have k5 : (as.getD 0 0, tupO (tup (as.getD 0 0))) ∈ (D, lstR as 6) :: (tl, lstR told c') :: nw := .tail _ (.tail _ (ht7.get (k := 0) (by omega)))
      have k6 : (tl, lstR told c') ∈ (D, lstR as 6) :: (tl, lstR told c') :: nw := .tail _ (.head _)
      have hnT : told.length ≤ 1000 := by omega
      tb_start
      · rename_i hle t25 tk25 hlt25
        refine D_execs_consA ?_
        tb_start
        refine unpackN_ F8 N7 (News.isTup (items := #[.int (tup (as.getD 0 0)).h (tup (as.getD 0 0)).t1, .int (tup (as.getD 0 0)).w (tup (as.getD 0 0)).t2, .int (tup (as.getD 0 0)).b (tup (as.getD 0 0)).t3]) N7 k5) hh rfl rfl ?_
        intro h8 F9 N9
        clear F8 N7
        tb_start
        dsimp only
        refine D_execs_cons (D_Assign_Name (D_Call_K (K := Mine.hd.heap_39 w.params) (f := .ref 49) ?_ ?_))
        · k_is
        tb_start
        rename Fr _ _ _ _ => F10
        rename News _ _ _ _ => N10
        have e0 : (as.map (fun a => (tup a).key)).getD 0 (0, 0, 0) = (tup (as.getD 0 0)).key := getD_key (by omega)
        have i7 := i1 _ _ _ I7
        rw [e0] at i7
        have k7 := i2 row (told.map (fun a => (tup a).key)) as
        generalize hx0 : tup (as.getD 0 0) = x0 at *
        obtain ⟨xh, xw, xb, u1, u2, u3⟩ := x0
        dsimp only [T3.key] at *
        obtain ⟨b1, b2, b3, b4, b5, b6⟩ := i7
        obtain ⟨wd, hwd⟩ := Int.eq_ofNat_of_zero_le (Int.le_of_lt b3)
        obtain ⟨bl, hbl⟩ := Int.eq_ofNat_of_zero_le b5
        subst hwd hbl
        rw [Int.toNat_natCast] at b4
        refine byteswap_c B' F10 X' N10 T' (deeper_frames hA) (by rfl) (by rfl) hh hgu (by simp only [depth_deeper]; omega) (by simp only [units_deeper]; omega) b2 b1 (by omega) b4 ?_
        intro h11 tk11 t11 F11 N11
        clear F10 N10
        tb_start
        dsimp only
        refine D_execs_consA ?_
        tb_start
        rename_i hz1 tz1 tz2 kz1 q h12 F12 N12 l12
        rw [Int.toNat_natCast] at N12
        have hq : ∀ p ∈ nw, p.1 ≠ q := fun p hp => Nat.ne_of_lt (kst_ltOf l12.2.2 p hp)
        have hqa : ∀ a ∈ as, a ≠ q := fun a ha => hq _ (ht7 a ha)
        have hqt : ∀ a ∈ told, a ≠ q := fun a ha => hq _ (ht8 a ha)
        have N13 : News g' L' h12 ((D, lstR as 6) :: (tl, lstR told c') :: (q, tupO ⟨xh + ps.getD bl 0, wd, bl, tz2, u2, u3⟩) :: nw) := fun p hp => N12 p (by
          simp only [List.mem_cons] at hp ⊢
          rcases hp with rfl | rfl | rfl | hp <;> simp_all)
        clear N12
        have hq7 : updT tup q ⟨xh + ps.getD bl 0, wd, bl, tz2, u2, u3⟩ q = ⟨xh + ps.getD bl 0, wd, bl, tz2, u2, u3⟩ := updT_self
        have ht9 := ht7.upd (t := ⟨xh + ps.getD bl 0, wd, bl, tz2, u2, u3⟩) hqa
        have ht10 := ht8.upd (t := ⟨xh + ps.getD bl 0, wd, bl, tz2, u2, u3⟩) hqt
        have hm9 : as.map (fun a => (updT tup q ⟨xh + ps.getD bl 0, wd, bl, tz2, u2, u3⟩ a).key) = as.map (fun a => (tup a).key) := map_upd hqa T3.key
        have hm10 : told.map (fun a => (updT tup q ⟨xh + ps.getD bl 0, wd, bl, tz2, u2, u3⟩ a).key) = told.map (fun a => (tup a).key) := map_upd hqt T3.key
        have hx9 : updT tup q ⟨xh + ps.getD bl 0, wd, bl, tz2, u2, u3⟩ (as.getD 0 0) = tup (as.getD 0 0) := updT_ne (hqa _ (by simp [hl7]))
        generalize updT tup q ⟨xh + ps.getD bl 0, wd, bl, tz2, u2, u3⟩ = tup' at *
        have hDt : D ≠ tl := Nat.ne_of_lt l6.1
        refine heapreplace_c (tup := tup') B' F12 X' N13 T' (deeper_frames hA) (by rfl) (by rfl) hh (by simp only [depth_deeper]; omega) (by simp only [units_deeper]; omega) ?_ (ht9.mono fun p hp => .tail _ (.tail _ hp)) (by omega) (by omega) (by rw [hq7]; exact .tail _ (.head _)) ?_
        · intro p hp
          simp only [List.mem_cons] at hp
          rcases hp with rfl | rfl | hp
          · exact hDt.symm
          · exact Nat.ne_of_gt l12.1
          · exact (hoff7 p hp).1
        intro h14 tk14 F14 N14
        clear F12 N13
        have k8 := k7 tup' q xh wd bl hl7 (by show I row (told.map (fun a => (tup a).key)) (as.map (fun a => (tup' a).key)); rw [hm9]; exact I7) (by rw [hx9, hx0]) hle (by simp; omega) (by rw [hq7]; rfl)
        have hwt : ∀ p ∈ (q, tupO ⟨xh + ps.getD bl 0, wd, bl, tz2, u2, u3⟩) :: nw, p.1 ≠ tl := fun p hp => by
          rcases List.mem_cons.mp hp with rfl | hp
          · exact Nat.ne_of_gt l12.2.1
          · exact (hoff7 p hp).2
        tb_start
        rename Fr _ _ _ _ => F15
        rename News _ _ _ _ => N15
        dsimp only
        rw [execs_nil]
        refine wpD_pure ⟨_, _, _, _, n - 1, rfl, F15, N15, by omega, swapL row wd, t11, _, told ++ [as.getD 0 0], tup', _, c' + 1, rfl, rfl, rfl, rfl, rfl, ?_, ?_, ?_, ?_, ?_, ?_, ?_⟩
        · rw [siftupF_len]; simpa using hl7
        · exact siftupF_tups (by simp [hl7]) ((ht9.mono fun p hp => .tail _ hp).set (by rw [hq7]; exact .head _))
        · intro a ha
          rcases List.mem_append.mp ha with ha | ha
          · exact .tail _ (ht10 a ha)
          · rw [List.mem_singleton.mp ha]
            exact .tail _ (ht9 _ (by simp [hl7]))
        · intro p hp
          refine ⟨?_, hwt p hp⟩
          rcases List.mem_cons.mp hp with rfl | hp
          · exact Nat.ne_of_gt l12.1
          · exact (hoff7 p hp).1
        · exact fun p hp => .tail _ (hbase7 p hp)
        · simp; omega
        · have e9 : (told ++ [as.getD 0 0]).map (fun a => (tup' a).key) = told.map (fun a => (tup a).key) ++ [(xh, (wd : Int), (bl : Int))] := by
            rw [List.map_append, hm10, List.map_singleton, hx9, hx0]
            rfl
          show I (swapL row wd) ((told ++ [as.getD 0 0]).map (fun a => (tup' a).key)) _
          rw [e9]
          exact k8
      · rename_i hle t25 tk25 hlt25
        refine wpD_of_any ?_
        tb_start
        rename_i rD h8 F9 N9 l9
        exact leaveK_ F9 N9 (fun kF kN => ret _ _ row tr as told tup rD D tl c' _ kF kN (.head _) (.tail _ (.tail _ (.head _))) (.tail _ (.head _)) (ht7.mono fun p hp => .tail _ (.tail _ (.tail _ hp))) (ht8.mono fun p hp => .tail _ (.tail _ (.tail _ hp))) (fun p hp => .tail _ (.tail _ (.tail _ (hbase7 p (.tail _ (.tail _ hp)))))) hl7 (by omega) I7 (fun x => hlt25 (by omega)))
      · rename_i hle
        dsimp only
        refine wpD_of_any ?_
        tb_start
        rename_i rD h8 F9 N9 l9
        refine leaveK_ F9 N9 (fun kF kN => ret _ _ row tr as told tup rD D tl c' _ kF kN (.head _) (.tail _ (.tail _ (.head _))) (.tail _ (.head _)) (ht7.mono fun p hp => .tail _ (.tail _ (.tail _ hp))) (ht8.mono fun p hp => .tail _ (.tail _ (.tail _ hp))) (fun p hp => .tail _ (.tail _ (.tail _ (hbase7 p (.tail _ (.tail _ hp)))))) hl7 (by omega) I7 (fun x => hle ?_))
        have e0 : (as.map (fun a => (tup a).key)).getD 0 (0, 0, 0) = (tup (as.getD 0 0)).key := getD_key (by omega)
        rw [e0] at x
        exact x.1
    · passes_own
/-! B7 -/
theorem fillFrag7 : True := by
  w_top off
  trivial
/-- the place that _law_mirrored reads for place k -/
def mirI (f g h : Nat) (x y z : Bool) (k : Nat) : Nat := (if x then f - 1 - k % f else k % f) + f * ((if y then g - 1 - k / f % g else k / f % g) + g * (if z then h - 1 - k / f / g else k / f / g))
def mirN (d : List UInt8) (f g h : Nat) (x y z : Bool) (n : Nat) : List Int := (List.range n).map fun k => ((d.getD (mirI f g h x y z k) 0).toNat : Int)
def mirL (d : List UInt8) (f g h : Nat) (x y z : Bool) : List UInt8 := (List.range (f * (g * h))).map fun k => d.getD (mirI f g h x y z k) 0
theorem mirN_succ (d : List UInt8) (f g h : Nat) (x y z : Bool) (n : Nat) : mirN d f g h x y z (n + 1) = mirN d f g h x y z n ++ [((d.getD (mirI f g h x y z n) 0).toNat : Int)] := by
  unfold mirN
  rw [List.range_succ, List.map_append]
  rfl
theorem mirStep {f M G lo : Int} (l0 : 0 ≤ lo) (l1 : lo < f) (m0 : 0 ≤ M) (m1 : M < G) : 0 ≤ lo + f * M ∧ lo + f * M < f * G := by
  have h1 : 0 ≤ f * M := Int.mul_nonneg (by omega) m0
  have h2 : f * M ≤ f * (G - 1) := Int.mul_le_mul_of_nonneg_left (by omega) (by omega)
  rw [Int.mul_sub, Int.mul_one] at h2
  omega
theorem mirB {f g h lo mi hi : Int} (l0 : 0 ≤ lo) (l1 : lo < f) (m0 : 0 ≤ mi) (m1 : mi < g) (h0 : 0 ≤ hi) (h1 : hi < h) : 0 ≤ lo + f * (mi + g * hi) ∧ lo + f * (mi + g * hi) < f * (g * h) :=
  have z := mirStep m0 m1 h0 h1
  mirStep l0 l1 z.1 z.2
theorem mir_at {f g h a b c : Nat} {x y z : Bool} (ha : a < f) (hb : b < g) (hc : c < h) {lo mi hi : Int} (e1 : lo = if x then (f : Int) - 1 - a else a) (e2 : mi = if y then (g : Int) - 1 - b else b) (e3 : hi = if z then (h : Int) - 1 - c else c) :
    (lo + (f : Int) * (mi + (g : Int) * hi)).toNat = mirI f g h x y z (a + f * (b + g * c)) := by
  have k1 : (a + f * (b + g * c)) % f = a := by rw [Nat.add_mul_mod_self_left, Nat.mod_eq_of_lt ha]
  have k2 : (a + f * (b + g * c)) / f = b + g * c := by rw [Nat.add_mul_div_left _ _ (by omega), Nat.div_eq_of_lt ha, Nat.zero_add]
  have k3 : (b + g * c) % g = b := by rw [Nat.add_mul_mod_self_left, Nat.mod_eq_of_lt hb]
  have k4 : (b + g * c) / g = c := by rw [Nat.add_mul_div_left _ _ (by omega), Nat.div_eq_of_lt hb, Nat.zero_add]
  unfold mirI
  rw [k1, k2, k3, k4]
  have q1 : lo = ((if x then f - 1 - a else a : Nat) : Int) := by rw [e1]; cases x <;> simp <;> omega
  have q2 : mi = ((if y then g - 1 - b else b : Nat) : Int) := by rw [e2]; cases y <;> simp <;> omega
  have q3 : hi = ((if z then h - 1 - c else c : Nat) : Int) := by rw [e3]; cases z <;> simp <;> omega
  rw [q1, q2, q3]
  generalize (if x then f - 1 - a else a) = A
  generalize (if y then g - 1 - b else b) = B
  generalize (if z then h - 1 - c else c) = C
  have : ((A : Int) + (f : Int) * ((B : Int) + (g : Int) * (C : Int))) = ((A + f * (B + g * C) : Nat) : Int) := by push_cast; rfl
  rw [this, Int.toNat_natCast]
theorem bits3 {n : Nat} (h : n ≤ 3) : Builtin.Int.intBits (n : Int) ≤ 64 := by
  have : n = 0 ∨ n = 1 ∨ n = 2 ∨ n = 3 := by omega
  rcases this with rfl | rfl | rfl | rfl <;> decide
section
variable {prog : Program} {w : World} {A : Around} {E : Value → Shared → Prop} {s : Shared} {h₀ : Heap} {L l : Addr} {m : Str → Option Value} {nw : List (Addr × Obj)} {c : Nat}
theorem appI {vs : List Value} {v : Value} {Q : Value → Shared → Prop} (F : Fr h₀ L s.heap m) (N : News h₀ L s.heap ((l, listOf vs.toArray c) :: nw)) (hw : ∀ p ∈ nw, p.1 ≠ l) (hz : vs.length ≤ 1000)
    (h : ∀ h', Fr h₀ L h' m → News h₀ L h' ((l, listOf (vs ++ [v]).toArray (c + 1)) :: nw) → Q .none { s with heap := h' }) : wpAny (model prog w) A (call (.builtin "list.append") [.ref l, v]) Q E s := by
  have e : (vs ++ [v]).toArray = vs.toArray.push v := by simp
  rw [e] at h
  exact append_K F N (.head hw) h (by simp [sizeLine_eq]; omega)
end
local macro_rules | `(tactic| walk_at "call builtin:list.append") => `(tactic| (k_here; (with_reducible show wpAny _ _ (call (Value.builtin _) [Value.ref _, Value.int _ _]) _ _ _); k_dflt (refine' appI ?k1 ?k2 ?k4 ?k5 ?_; (case k1 => assumption); (case k2 => assumption); (case k4 => assumption); (case k5 => omega); k_whole); intro h' F' N'; (try k_sweep)))
local macro_rules | `(tactic| walk_at "subscriptTail") => `(tactic| (k_here; (with_reducible show wpAny _ _ (subscriptTail _ _ (Value.bytes _ _) (Value.int (_ + _ * (_ + _ * _)) _)) _ _ _); k_dflt (refine' itemB ?k1 ?k2 ?k3 ?_ ?k4 ?k5; (case k1 => omega); (case k2 => exact (mirB (h := ?hh) (by omega) (by omega) (by omega) (by omega) (by omega) (by omega)).1); (case k3 => (rename ((List.length _ : Nat) : Int) = _ => hdl; rw [hdl]; exact (mirB (by omega) (by omega) (by omega) (by omega) (by omega) (by omega)).2)); (case k4 => with_unfolding_all rfl); (case k5 => (intro _; with_unfolding_all rfl)); k_whole); intro _ _))
set_option maxHeartbeats 8000000 in
theorem mirrored_c {prog : Program} {w : World} {p : Program} {loose : List Str} {mean : ExcName → Option Value} {mg mb : Str → Option Value} {A A₀ : Around} {env : Env} {outer : List Env} {base h₀ : Heap} {L : Addr} {m : Str → Option Value} {s : Shared} {Q E : Value → Shared → Prop}
    {d : List UInt8} {f g h : Nat} {rest : List (Addr × Obj)} {t1 : Tok} {sl cl : Addr} {u1 u2 u3 : Tok} {c1 c2 : Nat} {cv : List Value} {n0 n1 n2 : Int}
    (B : Below A₀ base outer h₀) (F : Fr h₀ L s.heap m) (X : (Mine.hd.heap_39 w.params).In h₀) (N : News h₀ L s.heap rest) (T : Top p loose mean mg mb h₀)
    (hA : A.frames = some (env :: outer)) (hf : env.frame = some L) (hke : env.scope.kind = .function) (hh : A.handled = none)
    (hd : A.depth < recursionLimit) (hu : A.units + 8 < cLine)
    (hsl : (sl, listOf #[.int f u1, .int g u2, .int h u3] c1) ∈ rest) (hcl : (cl, listOf cv.toArray c2) ∈ rest) (hci : IntsAre cv [n0, n1, n2])
    (hf0 : 0 < f) (hf3 : f ≤ 3) (hg0 : 0 < g) (hg3 : g ≤ 3) (hh0 : 0 < h) (hh3 : h ≤ 3) (hdl : d.length = f * (g * h))
    (ret : ∀ h' tk' t', Fr h₀ L h' m → News h₀ L h' rest → Q (.bytes (mirL d f g h (decide ((n0 + n1 + n2) % 2 = 1)) (decide ((n1 + n2) % 2 = 1)) (decide (n2 % 2 = 1))).toArray t') { s with heap := h', toks := tk' }) :
    wpAny (model prog w) A (call (.ref 61) [.bytes d.toArray t1, .ref sl, .ref cl]) Q E s := by
  refine wpAny_call ?_
  k_dflt (refine' code_def (binds := [(Str.ofString "row", .bytes d.toArray t1), (Str.ofString "sizes", .ref sl), (Str.ofString "counts", .ref cl)]) B F X N T hA hf hke ?k6 ?k7 hd ?k9 ?kB ?_ ?c2 ?c3 ?c4 ?c5; (case k6 => k_is); (case k7 => k_is); (case k9 => exact BindsTo.of_eq rfl); (case c5 => decide); (case kB => exact locs rfl); (case c2 => exact rfl); (case c3 => exact rfl); (case c4 => exact rfl))
  intro g' L' h' FG' F' N' B' X' T'
  clear B F X N T FG'
  have hgh : g * h ≤ 9 := Nat.mul_le_mul hg3 hh3
  have hdz : d.length ≤ 27 := by rw [hdl]; exact Nat.mul_le_mul hf3 hgh
  have hdL : ((d.length : Nat) : Int) = (f : Int) * ((g : Int) * (h : Int)) := by rw [hdl]; push_cast; rfl
  have bf := bits3 hf3
  have bg := bits3 hg3
  try dsimp only
  try k_fold
  tb_start
  refine kun_list F' N' (IsL.isList (n := c1) (N' _ hsl).1) hh rfl rfl ?_
  intro h2 F2 N2
  clear F' N'
  tb_start
  rename Fr _ _ _ _ => F3
  rename News _ _ _ _ => N3
  rename_i M h3' l3 h3
  have hM : ∀ p ∈ rest, p.1 ≠ M := fun p hp => Nat.ne_of_lt (l3 p hp)
  generalize hX : decide ((n0 + n1 + n2) % 2 = 1) = X at *
  generalize hY : decide ((n1 + n2) % 2 = 1) = Y at *
  generalize hZ : decide (n2 % 2 = 1) = Z at *
  refine For_invVF (h₀ := g') F3 rfl rfl ?_
  tb_start
  refine range1_rows F3 N3 ?_
  intro h4 tk4 a4 b4 c4 R4 F4 N4 _
  dsimp only
  refine for_iter (n := h) (fun c m' nx => ∃ (vs : List Value) (cn : Nat), nx = (M, listOf vs.toArray cn) :: rest ∧ m' (Str.ofString "row") = some (.bytes d.toArray t1) ∧ m' (Str.ofString "counts") = some (.ref cl) ∧ m' (Str.ofString "f") = some (.int f u1) ∧ m' (Str.ofString "g") = some (.int g u2) ∧ m' (Str.ofString "h") = some (.int h u3) ∧ m' (Str.ofString "made") = some (.ref M) ∧ IntsAre vs (mirN d f g h X Y Z (f * (g * c)))) hh R4 (small_one (by omega) (by omega) (by omega) (by omega)) (by rw [rangeSize_nat]; simp) F4 N4 ⟨[], 0, rfl, rfl, rfl, rfl, rfl, rfl, rfl, .nil⟩ ?_ ?_
  · rintro c tc m₁ nx h5 tk5 own hc hoff - ⟨vs, cn, rfl, n1', n2', n3', n4', n5', n6', hvs⟩ F5 N5
    clear F4 N4 R4 F3 N3
    rw [List.cons_append] at N5
    have hJ : (0 : Int) + (c : Int) * 1 = (c : Int) := by omega
    rw [hJ] at F5
    have F6 := (fr_bind (fr_bind (fr_bind (fr_bind (fr_bind (fr_bind F5 (x := Str.ofString "row") (v := .bytes d.toArray t1) (by rw [if_neg (by decide)]; exact n1')) (x := Str.ofString "counts") (v := .ref cl) (by rw [if_neg (by decide), if_neg (by decide)]; exact n2')) (x := Str.ofString "f") (v := .int f u1) (by rw [if_neg (by decide), if_neg (by decide), if_neg (by decide)]; exact n3')) (x := Str.ofString "g") (v := .int g u2) (by rw [if_neg (by decide), if_neg (by decide), if_neg (by decide), if_neg (by decide)]; exact n4')) (x := Str.ofString "h") (v := .int h u3) (by rw [if_neg (by decide), if_neg (by decide), if_neg (by decide), if_neg (by decide), if_neg (by decide)]; exact n5')) (x := Str.ofString "made") (v := .ref M) (by rw [if_neg (by decide), if_neg (by decide), if_neg (by decide), if_neg (by decide), if_neg (by decide), if_neg (by decide)]; exact n6'))
    clear F5
    have hM1 : ∀ p ∈ rest ++ own, p.1 ≠ M := fun p hp => by
      rcases List.mem_append.mp hp with hp | hp
      · exact hM p hp
      · exact hoff p hp M (by simp)
    tb_start
    rename Fr _ _ _ _ => F7
    rename News _ _ _ _ => N7
    refine For_invVF (h₀ := g') F7 rfl rfl ?_
    tb_start
    refine range1_rows F7 N7 ?_
    intro h8 tk8 a8 b8 c8 R8 F8 N8 _
    dsimp only
    refine for_iter (n := g) (fun b m' nx => ∃ (vs : List Value) (cn : Nat), nx = (M, listOf vs.toArray cn) :: (rest ++ own) ∧ m' (Str.ofString "row") = some (.bytes d.toArray t1) ∧ m' (Str.ofString "counts") = some (.ref cl) ∧ m' (Str.ofString "f") = some (.int f u1) ∧ m' (Str.ofString "g") = some (.int g u2) ∧ m' (Str.ofString "h") = some (.int h u3) ∧ m' (Str.ofString "made") = some (.ref M) ∧ m' (Str.ofString "c") = some (.int (c : Int) tc) ∧ IntsAre vs (mirN d f g h X Y Z (f * (b + g * c)))) hh R8 (small_one (by omega) (by omega) (by omega) (by omega)) (by rw [rangeSize_nat]; simp) F8 N8 ⟨vs, cn, rfl, rfl, rfl, rfl, rfl, rfl, rfl, rfl, by rw [Nat.zero_add]; exact hvs⟩ ?_ ?_
    · rintro b tb m₂ nx h9 tk9 own2 hb hoff2 - ⟨vs, cn, rfl, n1', n2', n3', n4', n5', n6', n7', hvs⟩ F9 N9
      clear F8 N8 R8 F7 N7
      rw [List.cons_append] at N9
      have hJ : (0 : Int) + (b : Int) * 1 = (b : Int) := by omega
      rw [hJ] at F9
      have F10 := (fr_bind (fr_bind (fr_bind (fr_bind (fr_bind (fr_bind (fr_bind F9 (x := Str.ofString "row") (v := .bytes d.toArray t1) (by rw [if_neg (by decide)]; exact n1')) (x := Str.ofString "counts") (v := .ref cl) (by rw [if_neg (by decide), if_neg (by decide)]; exact n2')) (x := Str.ofString "f") (v := .int f u1) (by rw [if_neg (by decide), if_neg (by decide), if_neg (by decide)]; exact n3')) (x := Str.ofString "g") (v := .int g u2) (by rw [if_neg (by decide), if_neg (by decide), if_neg (by decide), if_neg (by decide)]; exact n4')) (x := Str.ofString "h") (v := .int h u3) (by rw [if_neg (by decide), if_neg (by decide), if_neg (by decide), if_neg (by decide), if_neg (by decide)]; exact n5')) (x := Str.ofString "made") (v := .ref M) (by rw [if_neg (by decide), if_neg (by decide), if_neg (by decide), if_neg (by decide), if_neg (by decide), if_neg (by decide)]; exact n6')) (x := Str.ofString "c") (v := .int (c : Int) tc) (by rw [if_neg (by decide), if_neg (by decide), if_neg (by decide), if_neg (by decide), if_neg (by decide), if_neg (by decide), if_neg (by decide)]; exact n7'))
      clear F9
      have hM2 : ∀ p ∈ rest ++ own ++ own2, p.1 ≠ M := fun p hp => by
        rcases List.mem_append.mp hp with hp | hp
        · exact hM1 p hp
        · exact hoff2 p hp M (by simp)
      tb_start
      rename Fr _ _ _ _ => F11
      rename News _ _ _ _ => N11
      refine For_invVF (h₀ := g') F11 rfl rfl ?_
      tb_start
      refine range1_rows F11 N11 ?_
      intro h12 tk12 a12 b12 c12 R12 F12 N12 _
      dsimp only
      refine for_iter (n := f) (fun a m' nx => ∃ (vs : List Value) (cn : Nat), nx = (M, listOf vs.toArray cn) :: (rest ++ own ++ own2) ∧ m' (Str.ofString "row") = some (.bytes d.toArray t1) ∧ m' (Str.ofString "counts") = some (.ref cl) ∧ m' (Str.ofString "f") = some (.int f u1) ∧ m' (Str.ofString "g") = some (.int g u2) ∧ m' (Str.ofString "h") = some (.int h u3) ∧ m' (Str.ofString "made") = some (.ref M) ∧ m' (Str.ofString "c") = some (.int (c : Int) tc) ∧ m' (Str.ofString "b") = some (.int (b : Int) tb) ∧ IntsAre vs (mirN d f g h X Y Z (a + f * (b + g * c)))) hh R12 (small_one (by omega) (by omega) (by omega) (by omega)) (by rw [rangeSize_nat]; simp) F12 N12 ⟨vs, cn, rfl, rfl, rfl, rfl, rfl, rfl, rfl, rfl, rfl, by rw [Nat.zero_add]; exact hvs⟩ ?_ ?_
      · rintro a ta m₃ nx h13 tk13 own3 ha hoff3 - ⟨vs, cn, rfl, n1', n2', n3', n4', n5', n6', n7', n8', hvs⟩ F13 N13
        clear F12 N12 R12 F11 N11
        rw [List.cons_append] at N13
        have hJ : (0 : Int) + (a : Int) * 1 = (a : Int) := by omega
        rw [hJ] at F13
        have F14 := (fr_bind (fr_bind (fr_bind (fr_bind (fr_bind (fr_bind (fr_bind (fr_bind F13 (x := Str.ofString "row") (v := .bytes d.toArray t1) (by rw [if_neg (by decide)]; exact n1')) (x := Str.ofString "counts") (v := .ref cl) (by rw [if_neg (by decide), if_neg (by decide)]; exact n2')) (x := Str.ofString "f") (v := .int f u1) (by rw [if_neg (by decide), if_neg (by decide), if_neg (by decide)]; exact n3')) (x := Str.ofString "g") (v := .int g u2) (by rw [if_neg (by decide), if_neg (by decide), if_neg (by decide), if_neg (by decide)]; exact n4')) (x := Str.ofString "h") (v := .int h u3) (by rw [if_neg (by decide), if_neg (by decide), if_neg (by decide), if_neg (by decide), if_neg (by decide)]; exact n5')) (x := Str.ofString "made") (v := .ref M) (by rw [if_neg (by decide), if_neg (by decide), if_neg (by decide), if_neg (by decide), if_neg (by decide), if_neg (by decide)]; exact n6')) (x := Str.ofString "c") (v := .int (c : Int) tc) (by rw [if_neg (by decide), if_neg (by decide), if_neg (by decide), if_neg (by decide), if_neg (by decide), if_neg (by decide), if_neg (by decide)]; exact n7')) (x := Str.ofString "b") (v := .int (b : Int) tb) (by rw [if_neg (by decide), if_neg (by decide), if_neg (by decide), if_neg (by decide), if_neg (by decide), if_neg (by decide), if_neg (by decide), if_neg (by decide)]; exact n8'))
        clear F13
        have hM3 : ∀ p ∈ rest ++ own ++ own2 ++ own3, p.1 ≠ M := fun p hp => by
          rcases List.mem_append.mp hp with hp | hp
          · exact hM2 p hp
          · exact hoff3 p hp M (by simp)
        have k1 : (cl, listOf cv.toArray c2) ∈ (M, listOf vs.toArray cn) :: (rest ++ own ++ own2 ++ own3) := .tail _ (List.mem_append_left _ (List.mem_append_left _ (List.mem_append_left _ hcl)))
        have hvl : vs.length = a + f * (b + g * c) := by rw [hvs.length]; simp [mirN]
        have hM0 : a + f * (b + g * c) ≤ 27 := by
          have z1 : g * c + g ≤ g * h := by rw [← Nat.mul_succ]; exact Nat.mul_le_mul_left _ hc
          have z2 : f * (b + g * c) + f ≤ f * (g * h) := by rw [← Nat.mul_succ]; exact Nat.mul_le_mul_left _ (by omega)
          omega
        tb_start
        all_goals
          refine itemB (by omega) (mirB (h := (h : Int)) (by omega) (by omega) (by omega) (by omega) (by omega) (by omega)).1 (by rw [hdL]; exact (mirB (by omega) (by omega) (by omega) (by omega) (by omega) (by omega)).2) (fun t15 k15 => ?_) (by with_unfolding_all rfl) (by intro _; with_unfolding_all rfl)
          rw [mir_at (x := X) (y := Y) (z := Z) ha hb hc (by rw [← hX]; first | exact (if_pos (decide_eq_true (by assumption))).symm | exact (if_neg (fun q => absurd (of_decide_eq_true q) (by assumption))).symm) (by rw [← hY]; first | exact (if_pos (decide_eq_true (by assumption))).symm | exact (if_neg (fun q => absurd (of_decide_eq_true q) (by assumption))).symm) (by rw [← hZ]; first | exact (if_pos (decide_eq_true (by assumption))).symm | exact (if_neg (fun q => absurd (of_decide_eq_true q) (by assumption))).symm)]
          tb_start
          rename Fr _ _ _ _ => F16
          rename News _ _ _ _ => N16
          refine InvEndN.intro (nx := (M, listOf (vs ++ [Value.int ((d.getD (mirI f g h X Y Z (a + f * (b + g * c))) 0).toNat : Int) t15]).toArray (cn + 1)) :: (rest ++ own ++ own2)) F16 N16 ⟨_, _, rfl, rfl, rfl, rfl, rfl, rfl, rfl, rfl, rfl, ?_⟩ rfl (fun p hp => ?_) (fun p hp => .tail _ (List.mem_append_right _ hp))
          · rw [Nat.add_right_comm, mirN_succ]
            exact hvs.append (.cons _ _ .nil)
          · rcases List.mem_cons.mp hp with rfl | hp
            · exact .head _
            · exact .tail _ (List.mem_append_left _ hp)
      · rintro m₃ nx h13 tk13 ⟨vs, cn, rfl, n1', n2', n3', n4', n5', n6', n7', n8', hvs⟩ F13 N13
        tb_start
        have hmi : f + f * (b + g * c) = f * (b + 1 + g * c) := by rw [Nat.add_right_comm, Nat.mul_add f (b + g * c) 1, Nat.mul_one, Nat.add_comm]
        rw [hmi] at hvs
        refine InvEndN.intro (nx := (M, listOf vs.toArray cn) :: (rest ++ own)) F13 N13 ⟨vs, cn, rfl, n1', n2', n3', n4', n5', n6', n7', hvs⟩ rfl (fun p hp => ?_) (fun p hp => .tail _ (List.mem_append_right _ hp))
        rcases List.mem_cons.mp hp with rfl | hp
        · exact .head _
        · exact .tail _ (List.mem_append_left _ hp)
    · rintro m₂ nx h9 tk9 ⟨vs, cn, rfl, n1', n2', n3', n4', n5', n6', n7', hvs⟩ F9 N9
      tb_start
      have hmi : f * (g + g * c) = f * (g * (c + 1)) := by rw [Nat.mul_add g c 1, Nat.mul_one, Nat.add_comm]
      rw [hmi] at hvs
      refine InvEndN.intro (nx := (M, listOf vs.toArray cn) :: rest) F9 N9 ⟨vs, cn, rfl, n1', n2', n3', n4', n5', n6', hvs⟩ rfl (fun p hp => ?_) (fun p hp => .tail _ (List.mem_append_right _ hp))
      rcases List.mem_cons.mp hp with rfl | hp
      · exact .head _
      · exact .tail _ (List.mem_append_left _ hp)
  · rintro m₁ nx h5 tk5 ⟨vs, cn, rfl, n1', n2', n3', n4', n5', n6', hvs⟩ F5 N5
    clear F4 N4 R4 F3 N3
    have F6 := fr_bind F5 n6'
    tb_start
    have hvl : vs.length ≤ 27 := by rw [hvs.length]; simp [mirN]; omega
    refine call_bytes_ints (IsL.isList (n := cn) (N5 _ (.head _)).1) hvs (fun n hn => ?_) (by rw [sizeLine_eq]; omega) hh fun h9 t9 k9 hk => ?_
    · obtain ⟨k, _, rfl⟩ := List.mem_map.mp hn
      exact ⟨Int.natCast_nonneg _, byte_lt _⟩
    have e9 : byteArr (mirN d f g h X Y Z (f * (g * h))) = (mirL d f g h X Y Z).toArray := by
      unfold byteArr mirN mirL
      rw [List.map_map]
      congr 1
      refine List.map_congr_left fun k _ => ?_
      simp
    rw [e9]
    have F7 := F6.keeps hk
    have N7 := N5.grown hk
    tb_start
    refine leaveK_ F7 (fun p hp => N7 p (.tail _ hp)) (fun kF kN => ret _ _ _ kF kN)
/-! P2 -/
/-! the bells' law: what the loop holds to -/
def bell (p ws : Nat → Int) (cn : Nat → Nat) (k : Nat) : K3 := (p k * (cn k : Int), ws (k % 3), (k : Int))
def bells (p ws : Nat → Int) (cn : Nat → Nat) : List K3 := (List.range 6).map (bell p ws cn)
/-- a heap of six keys -/
def HeapK (hk : List K3) : Prop := ∀ i, i < 5 → code (hk.getD (i / 2) (0, 0, 0)) ≤ code (hk.getD (i + 1) (0, 0, 0))
structure RI (p ws : Nat → Int) (last : Int) (told hk : List K3) (cn : Nat → Nat) : Prop where
  pos : ∀ k, k < 6 → 1 ≤ cn k ∧ p k * ((cn k : Int) - 1) ≤ last
  heap : hk.Perm (bells p ws cn)
  ord : HeapK hk
  sorted : told.Pairwise (fun x y => code x < code y)
  mem : ∀ x, x ∈ told ↔ ∃ k, k < 6 ∧ ∃ n : Nat, 1 ≤ n ∧ n < cn k ∧ x = (p k * (n : Int), ws (k % 3), (k : Int))
  less : ∀ x ∈ told, ∀ y ∈ hk, code x < code y
  len : told.length + 6 = cn 0 + cn 1 + cn 2 + cn 3 + cn 4 + cn 5
/-- the periods and the widths -/
structure PW (p ws : Nat → Int) : Prop where
  per : ∀ k, k < 6 → p k = 2 ∨ p k = 3 ∨ p k = 4 ∨ p k = 5
  wid : ∀ j, j < 3 → 0 < ws j ∧ ws j < 99
theorem bell_bd {p ws : Nat → Int} (P : PW p ws) {cn : Nat → Nat} {k : Nat} (hk : k < 6) : Bd (bell p ws cn k) := by
  have := P.wid (k % 3) (by (first | lia | omega))
  unfold Bd bell
  dsimp only
  (first | lia | omega)
theorem mem_bells {p ws : Nat → Int} {cn : Nat → Nat} {x : K3} : x ∈ bells p ws cn ↔ ∃ k, k < 6 ∧ x = bell p ws cn k := by
  unfold bells
  rw [List.mem_map]
  constructor
  · rintro ⟨k, hk, rfl⟩
    exact ⟨k, List.mem_range.mp hk, rfl⟩
  · rintro ⟨k, hk, rfl⟩
    exact ⟨k, List.mem_range.mpr hk, rfl⟩
theorem HeapK.min {hk : List K3} (H : HeapK hk) (h6 : hk.length = 6) : ∀ y ∈ hk, code (hk.getD 0 (0, 0, 0)) ≤ code y := by
  intro y hy
  obtain ⟨i, hi, rfl⟩ := List.getElem_of_mem hy
  have e : ∀ j, j < 6 → code (hk.getD 0 (0, 0, 0)) ≤ code (hk.getD j (0, 0, 0)) := by
    have a0 := H 0 (by (first | lia | omega))
    have a1 := H 1 (by (first | lia | omega))
    have a2 := H 2 (by (first | lia | omega))
    have a3 := H 3 (by (first | lia | omega))
    have a4 := H 4 (by (first | lia | omega))
    simp only [Nat.reduceDiv, Nat.reduceAdd] at a0 a1 a2 a3 a4
    intro j hj
    have : j = 0 ∨ j = 1 ∨ j = 2 ∨ j = 3 ∨ j = 4 ∨ j = 5 := by (first | lia | omega)
    rcases this with rfl | rfl | rfl | rfl | rfl | rfl <;> (first | lia | omega)
  have z := e i (by (first | lia | omega))
  have q : hk.getD i (0, 0, 0) = hk[i] := by simp [hi]
  rwa [q] at z
theorem heapK_of {tup : Addr → T3} {as : List Addr} (h6 : as.length = 6) (H : Heap6 (fun a => code (tup a).key) as) : HeapK (as.map fun a => (tup a).key) := by
  have g : ∀ j, j < 6 → (as.map fun a => (tup a).key).getD j (0, 0, 0) = (tup (as.getD j 0)).key := fun j hj => by simp [h6, hj]
  intro i hi
  rw [g _ (by (first | lia | omega)), g _ (by (first | lia | omega))]
  obtain ⟨a, b, c, d, e⟩ := H
  have : i = 0 ∨ i = 1 ∨ i = 2 ∨ i = 3 ∨ i = 4 := by (first | lia | omega)
  rcases this with rfl | rfl | rfl | rfl | rfl
  · exact a
  · exact b
  · exact c
  · exact d
  · exact e
theorem of_heapK {tup : Addr → T3} {as : List Addr} (h6 : as.length = 6) (H : HeapK (as.map fun a => (tup a).key)) : Heap6 (fun a => code (tup a).key) as := by
  have g : ∀ j, j < 6 → (as.map fun a => (tup a).key).getD j (0, 0, 0) = (tup (as.getD j 0)).key := fun j hj => by simp [h6, hj]
  have z : ∀ i, i < 5 → code (tup (as.getD (i / 2) 0)).key ≤ code (tup (as.getD (i + 1) 0)).key := fun i hi => by
    have := H i hi
    rwa [g _ (by (first | lia | omega)), g _ (by (first | lia | omega))] at this
  exact ⟨z 0 (by (first | lia | omega)), z 1 (by (first | lia | omega)), z 2 (by (first | lia | omega)), z 3 (by (first | lia | omega)), z 4 (by (first | lia | omega))⟩
/-- at the start -/
theorem RI.init {p ws : Nat → Int} (P : PW p ws) {last : Int} (hl : 5 ≤ last) {as : List Addr} {tup : Addr → T3} (h6 : as.length = 6) (hk : as.map (fun a => (tup a).key) = bells p ws fun _ => 1) :
    RI p ws last [] ((hfSeq (fun a b => tlt (tup a) (tup b)) as 3).map fun a => (tup a).key) fun _ => 1 := by
  have hb : ∀ a ∈ as, Bd (tup a).key := fun a ha => by
    have : (tup a).key ∈ bells p ws fun _ => 1 := hk ▸ List.mem_map.mpr ⟨a, ha, rfl⟩
    obtain ⟨k, hk', e⟩ := mem_bells.mp this
    rw [e]
    exact bell_bd P hk'
  have e : hfSeq (fun a b => tlt (tup a) (tup b)) as 3 = hfSeq (ltF fun a => code (tup a).key) as 3 := hfSeq_congr (fun a b ha hb' => klt_code (hb a ha) (hb b hb')) h6 3
  rw [e]
  have z := hf6 (f := fun a => code (tup a).key) h6
  refine ⟨fun k hk' => ⟨Nat.le_refl _, ?_⟩, ?_, ?_, .nil, fun x => ⟨fun h => (nomatch h), ?_⟩, (fun x hx => nomatch hx), rfl⟩
  · simp
    (first | lia | omega)
  · rw [← hk]
    exact z.2.map _
  · exact heapK_of (by rw [hfSeq_len]; exact h6) z.1
  · rintro ⟨k, _, n, h1, h2, _⟩
    (first | lia | omega)
theorem code_add {p : Int} (h w b : Int) (hp : 0 < p) : code (h, w, b) < code (h + p, w, b) := by
  unfold code
  dsimp only
  (first | lia | omega)
def upC (cn : Nat → Nat) (j : Nat) : Nat → Nat := fun k => if k = j then cn k + 1 else cn k
theorem upC_self {cn : Nat → Nat} {j : Nat} : upC cn j j = cn j + 1 := if_pos rfl
theorem upC_ne {cn : Nat → Nat} {j k : Nat} (h : k ≠ j) : upC cn j k = cn k := if_neg h
/-- a ring -/
theorem RI.step {p ws : Nat → Int} (P : PW p ws) {last : Int} {told : List K3} {as : List Addr} {tup : Addr → T3} {x : Addr} {cn : Nat → Nat} {h w b : Int} (h6 : as.length = 6) (R : RI p ws last told (as.map fun a => (tup a).key) cn)
    (ht : (tup (as.getD 0 0)).key = (h, w, b)) (hle : h ≤ last) (hx : (tup x).key = (h + p b.toNat, w, b)) :
    ∃ j, j < 6 ∧ (h, w, b) = bell p ws cn j ∧ RI p ws last (told ++ [(h, w, b)]) ((siftupF (fun a b => tlt (tup a) (tup b)) (as.set 0 x) 0).map fun a => (tup a).key) (upC cn j) := by
  have h0 : (as.map fun a => (tup a).key).getD 0 (0, 0, 0) = (h, w, b) := by rw [← ht]; simp [h6]
  have hm : (h, w, b) ∈ as.map fun a => (tup a).key := List.mem_map.mpr ⟨as.getD 0 0, by simp [h6], ht⟩
  obtain ⟨j, hj, ej⟩ := mem_bells.mp (R.heap.mem_iff.mp hm)
  have eb : b = (j : Int) := congrArg (fun t : K3 => t.2.2) ej
  have ew : w = ws (j % 3) := congrArg (fun t : K3 => t.2.1) ej
  have eh : h = p j * (cn j : Int) := congrArg (fun t : K3 => t.1) ej
  have hpj := P.per j hj
  have ex : (tup x).key = bell p ws (upC cn j) j := by
    rw [hx, eb, ew, eh]
    unfold bell
    rw [upC_self, Int.toNat_natCast]
    push_cast
    rw [Int.mul_add, Int.mul_one]
  have hkb : ∀ a ∈ as, Bd (tup a).key := fun a ha => by
    obtain ⟨k, hk', e⟩ := mem_bells.mp (R.heap.mem_iff.mp (List.mem_map.mpr ⟨a, ha, rfl⟩))
    rw [e]
    exact bell_bd P hk'
  have hxb : Bd (tup x).key := by rw [ex]; exact bell_bd P hj
  have hsb : ∀ a ∈ as.set 0 x, Bd (tup a).key := fun a ha => by
    rcases List.mem_or_eq_of_mem_set ha with h' | rfl
    · exact hkb a h'
    · exact hxb
  have e : siftupF (fun a b => tlt (tup a) (tup b)) (as.set 0 x) 0 = siftupF (ltF fun a => code (tup a).key) (as.set 0 x) 0 :=
    siftupF_congr (S := fun a => Bd (tup a).key) (fun a b ha hb' => klt_code ha hb') hsb (by simp [h6])
  rw [e]
  have z := hr6 (x := x) h6 (of_heapK h6 R.ord)
  -- the heap's new list, as a permutation
  have hp' : ((as.set 0 x).map fun a => (tup a).key).Perm (bells p ws (upC cn j)) := by
    obtain ⟨a0, tl, rfl⟩ : ∃ a0 tl, as = a0 :: tl := by
      cases as with
      | nil => simp at h6
      | cons a0 tl => exact ⟨a0, tl, rfl⟩
    have hR := R.heap
    have e0 : (tup a0).key = bell p ws cn j := by rw [← ej]; exact ht
    rw [List.map_cons, e0] at hR
    rw [List.set_cons_zero, List.map_cons, ex]
    have k1 : bells p ws cn = (bells p ws cn) := rfl
    have cnt : ∀ y, (bells p ws (upC cn j)).count y + [bell p ws cn j].count y = (bells p ws cn).count y + [bell p ws (upC cn j) j].count y := by
      intro y
      have ne : ∀ k, k ≠ j → bell p ws (upC cn j) k = bell p ws cn k := fun k hk => by unfold bell; rw [upC_ne hk]
      have r6 : List.range 6 = [0, 1, 2, 3, 4, 5] := rfl
      unfold bells
      rw [r6]
      have : j = 0 ∨ j = 1 ∨ j = 2 ∨ j = 3 ∨ j = 4 ∨ j = 5 := by (first | lia | omega)
      rcases this with rfl | rfl | rfl | rfl | rfl | rfl
      · simp only [List.map_cons, List.map_nil, ne 1 (by (first | lia | omega)), ne 2 (by (first | lia | omega)), ne 3 (by (first | lia | omega)), ne 4 (by (first | lia | omega)), ne 5 (by (first | lia | omega)), List.count_cons, List.count_nil]; (first | lia | omega)
      · simp only [List.map_cons, List.map_nil, ne 0 (by (first | lia | omega)), ne 2 (by (first | lia | omega)), ne 3 (by (first | lia | omega)), ne 4 (by (first | lia | omega)), ne 5 (by (first | lia | omega)), List.count_cons, List.count_nil]; (first | lia | omega)
      · simp only [List.map_cons, List.map_nil, ne 1 (by (first | lia | omega)), ne 0 (by (first | lia | omega)), ne 3 (by (first | lia | omega)), ne 4 (by (first | lia | omega)), ne 5 (by (first | lia | omega)), List.count_cons, List.count_nil]; (first | lia | omega)
      · simp only [List.map_cons, List.map_nil, ne 1 (by (first | lia | omega)), ne 2 (by (first | lia | omega)), ne 0 (by (first | lia | omega)), ne 4 (by (first | lia | omega)), ne 5 (by (first | lia | omega)), List.count_cons, List.count_nil]; (first | lia | omega)
      · simp only [List.map_cons, List.map_nil, ne 1 (by (first | lia | omega)), ne 2 (by (first | lia | omega)), ne 3 (by (first | lia | omega)), ne 0 (by (first | lia | omega)), ne 5 (by (first | lia | omega)), List.count_cons, List.count_nil]; (first | lia | omega)
      · simp only [List.map_cons, List.map_nil, ne 1 (by (first | lia | omega)), ne 2 (by (first | lia | omega)), ne 3 (by (first | lia | omega)), ne 4 (by (first | lia | omega)), ne 0 (by (first | lia | omega)), List.count_cons, List.count_nil]; (first | lia | omega)
    refine List.perm_iff_count.mpr fun y => ?_
    have q1 := List.perm_iff_count.mp hR y
    have q2 := cnt y
    simp only [List.count_cons, List.count_nil] at q1 q2 ⊢
    (first | lia | omega)
  have hp2 := (z.2.map fun a => (tup a).key).trans hp'
  have hmin := R.ord.min (by simp [h6])
  rw [h0] at hmin
  refine ⟨j, hj, ej, ⟨fun k hk => ?_, hp2, heapK_of (by rw [siftupF_len]; simpa using h6) z.1, ?_, fun y => ?_, ?_, ?_⟩⟩
  · by_cases hkj : k = j
    · subst hkj
      rw [upC_self]
      refine ⟨by (first | lia | omega), ?_⟩
      push_cast
      have : p k * ((cn k : Int) + 1 - 1) = p k * (cn k : Int) := by rw [Int.add_sub_cancel]
      rw [this, ← eh]
      exact hle
    · rw [upC_ne hkj]
      exact R.pos k hk
  · rw [List.pairwise_append]
    refine ⟨R.sorted, by simp, fun a ha b' hb' => ?_⟩
    rw [List.mem_singleton.mp hb']
    exact R.less a ha _ hm
  · rw [List.mem_append, List.mem_singleton]
    constructor
    · rintro (hy | rfl)
      · obtain ⟨k, hk, n, n1, n2, rfl⟩ := (R.mem y).mp hy
        refine ⟨k, hk, n, n1, ?_, rfl⟩
        by_cases hkj : k = j
        · subst hkj; rw [upC_self]; (first | lia | omega)
        · rw [upC_ne hkj]; exact n2
      · exact ⟨j, hj, cn j, (R.pos j hj).1, by rw [upC_self]; (first | lia | omega), ej⟩
    · rintro ⟨k, hk, n, n1, n2, rfl⟩
      by_cases hkj : k = j
      · subst hkj
        rw [upC_self] at n2
        by_cases hn : n = cn k
        · right
          rw [hn, ej]
          rfl
        · left
          exact (R.mem _).mpr ⟨k, hk, n, n1, by (first | lia | omega), rfl⟩
      · rw [upC_ne hkj] at n2
        left
        exact (R.mem _).mpr ⟨k, hk, n, n1, n2, rfl⟩
  · intro y hy u hu
    obtain ⟨k, hk, rfl⟩ := mem_bells.mp (hp2.mem_iff.mp hu)
    have hlow : code (h, w, b) < code (bell p ws (upC cn j) k) := by
      by_cases hkj : k = j
      · subst hkj
        have := code_add h w b (p := p k) (by (first | lia | omega))
        rw [← ex, hx, eb, Int.toNat_natCast]
        rw [eb] at this
        exact this
      · have hne : bell p ws (upC cn j) k = bell p ws cn k := by unfold bell; rw [upC_ne hkj]
        rw [hne]
        have hle2 := hmin _ (R.heap.mem_iff.mpr (mem_bells.mpr ⟨k, hk, rfl⟩))
        rcases Int.lt_or_eq_of_le hle2 with h' | h'
        · exact h'
        · exfalso
          have := code_inj (by rw [ej]; exact bell_bd P hj) (bell_bd P hk) h'
          rw [ej] at this
          have q : (j : Int) = (k : Int) := congrArg (fun t : K3 => t.2.2) this
          (first | lia | omega)
    rcases List.mem_append.mp hy with hy | hy
    · exact Int.lt_trans (R.less y hy _ hm) hlow
    · rw [List.mem_singleton.mp hy]
      exact hlow
  · rw [List.length_append, List.length_singleton]
    have L := R.len
    have : j = 0 ∨ j = 1 ∨ j = 2 ∨ j = 3 ∨ j = 4 ∨ j = 5 := by (first | lia | omega)
    rcases this with rfl | rfl | rfl | rfl | rfl | rfl <;> simp only [upC] <;> simp <;> (first | lia | omega)
/-- not more than 24 rings -/
theorem RI.short {p ws : Nat → Int} (P : PW p ws) {last : Int} (hl : last ≤ 8) {told hk : List K3} {cn : Nat → Nat} (R : RI p ws last told hk cn) : told.length < 25 := by
  have c : ∀ k, k < 6 → cn k ≤ 5 := fun k hk => by
    have := R.pos k hk
    rcases P.per k hk with e | e | e | e <;> rw [e] at this <;> (first | lia | omega)
  have L := R.len
  have c0 := c 0 (by (first | lia | omega))
  have c1 := c 1 (by (first | lia | omega))
  have c2 := c 2 (by (first | lia | omega))
  have c3 := c 3 (by (first | lia | omega))
  have c4 := c 4 (by (first | lia | omega))
  have c5 := c 5 (by (first | lia | omega))
  (first | lia | omega)
/-- how often each bell rang -/
theorem RI.done {p ws : Nat → Int} (P : PW p ws) {last : Int} {told hk : List K3} {cn : Nat → Nat} (R : RI p ws last told hk cn) (hx : ¬ (hk.getD 0 (0, 0, 0)).1 ≤ last) : ∀ k, k < 6 → (cn k : Int) = last / p k + 1 := by
  intro k hk'
  have l6 : hk.length = 6 := by rw [R.heap.length_eq]; simp [bells]
  have m0 : hk.getD 0 (0, 0, 0) ∈ hk := by simp [l6]
  have hmin := R.ord.min l6 _ (R.heap.mem_iff.mpr (mem_bells.mpr ⟨k, hk', rfl⟩))
  obtain ⟨j, hj, ej⟩ := mem_bells.mp (R.heap.mem_iff.mp m0)
  have b1 := bell_bd P hj (cn := cn)
  have b2 := bell_bd P hk' (cn := cn)
  rw [← ej] at b1
  generalize hk.getD 0 (0, 0, 0) = x at *
  have hq : x.1 ≤ (bell p ws cn k).1 := by
    unfold code at hmin
    unfold Bd at b1 b2
    (first | lia | omega)
  have hq' : last < p k * (cn k : Int) := by
    have : (bell p ws cn k).1 = p k * (cn k : Int) := rfl
    (first | lia | omega)
  have := R.pos k hk'
  rcases P.per k hk' with e | e | e | e <;> rw [e] at this hq' ⊢ <;> (first | lia | omega)
/-! P3 -/
/-! the row: each ring mirrors figures -/
def FlipAt (f g h : Nat) : Prop := ∀ k, k < f * (g * h) → ∀ x y z : Bool,
  (swp f k < f * (g * h) ∧ mirI f g h x y z (swp f k) = mirI f g h (!x) y z k) ∧
  (swp (f * g) k < f * (g * h) ∧ mirI f g h x y z (swp (f * g) k) = mirI f g h (!x) (!y) z k) ∧
  (swp (f * g * h) k < f * (g * h) ∧ mirI f g h x y z (swp (f * g * h) k) = mirI f g h (!x) (!y) (!z) k) ∧ mirI f g h false false false k = k
theorem flip222 : FlipAt 2 2 2 := by unfold FlipAt; decide +kernel
theorem flip223 : FlipAt 2 2 3 := by unfold FlipAt; decide +kernel
theorem flip232 : FlipAt 2 3 2 := by unfold FlipAt; decide +kernel
theorem flip233 : FlipAt 2 3 3 := by unfold FlipAt; decide +kernel
theorem flip322 : FlipAt 3 2 2 := by unfold FlipAt; decide +kernel
theorem flip323 : FlipAt 3 2 3 := by unfold FlipAt; decide +kernel
theorem flip332 : FlipAt 3 3 2 := by unfold FlipAt; decide +kernel
theorem flip333 : FlipAt 3 3 3 := by unfold FlipAt; decide +kernel
theorem flip_all {f g h : Nat} (hf : f = 2 ∨ f = 3) (hg : g = 2 ∨ g = 3) (hh : h = 2 ∨ h = 3) : FlipAt f g h := by
  rcases hf with rfl | rfl <;> rcases hg with rfl | rfl <;> rcases hh with rfl | rfl
  · exact flip222
  · exact flip223
  · exact flip232
  · exact flip233
  · exact flip322
  · exact flip323
  · exact flip332
  · exact flip333
theorem mirL_len (d : List UInt8) (f g h : Nat) (x y z : Bool) : (mirL d f g h x y z).length = f * (g * h) := by simp [mirL]
theorem swap_mir {d : List UInt8} {f g h w : Nat} {x y z x' y' z' : Bool} (H : ∀ k, k < f * (g * h) → swp w k < f * (g * h) ∧ mirI f g h x y z (swp w k) = mirI f g h x' y' z' k) :
    swapL (mirL d f g h x y z) w = mirL d f g h x' y' z' := by
  unfold swapL
  rw [mirL_len]
  unfold mirL
  refine List.map_congr_left fun k hk => ?_
  obtain ⟨h1, h2⟩ := H k (List.mem_range.mp hk)
  rw [← h2]
  simp [h1]
theorem mir_id {d : List UInt8} {f g h : Nat} (hd : d.length = f * (g * h)) (H : FlipAt f g h) : mirL d f g h false false false = d := by
  unfold mirL
  refine List.ext_getElem (by simp [hd]) fun k h1 h2 => ?_
  have hk : k < f * (g * h) := by simpa using h1
  simp [(H k hk false false false).2.2.2, h2]
/-- how often the two bells of a width rang, and once more each -/
def par (cn : Nat → Nat) (j : Nat) : Nat := cn j + cn (j + 3)
def rowOf (d : List UInt8) (f g h : Nat) (cn : Nat → Nat) : List UInt8 := mirL d f g h (decide ((par cn 0 + par cn 1 + par cn 2) % 2 = 1)) (decide ((par cn 1 + par cn 2) % 2 = 1)) (decide (par cn 2 % 2 = 1))
theorem row_step {d : List UInt8} {f g h : Nat} (H : FlipAt f g h) {cn : Nat → Nat} {j : Nat} (hj : j < 6) :
    swapL (rowOf d f g h cn) (if j % 3 = 0 then f else if j % 3 = 1 then f * g else f * g * h) = rowOf d f g h (upC cn j) := by
  have e0 : ∀ n : Nat, decide ((n + 1) % 2 = 1) = !decide (n % 2 = 1) := fun n => by
    by_cases h : n % 2 = 1
    · rw [decide_eq_true h, decide_eq_false (by (first | lia | omega))]; rfl
    · rw [decide_eq_false h, decide_eq_true (by (first | lia | omega))]; rfl
  have hc : j = 0 ∨ j = 1 ∨ j = 2 ∨ j = 3 ∨ j = 4 ∨ j = 5 := by (first | lia | omega)
  have p0 : j % 3 = 0 → par (upC cn j) 0 = par cn 0 + 1 ∧ par (upC cn j) 1 = par cn 1 ∧ par (upC cn j) 2 = par cn 2 := fun h0 => by
    rcases hc with rfl | rfl | rfl | rfl | rfl | rfl <;> simp [par, upC] at h0 ⊢ <;> (first | lia | omega)
  have p1 : j % 3 = 1 → par (upC cn j) 0 = par cn 0 ∧ par (upC cn j) 1 = par cn 1 + 1 ∧ par (upC cn j) 2 = par cn 2 := fun h0 => by
    rcases hc with rfl | rfl | rfl | rfl | rfl | rfl <;> simp [par, upC] at h0 ⊢ <;> (first | lia | omega)
  have p2 : j % 3 = 2 → par (upC cn j) 0 = par cn 0 ∧ par (upC cn j) 1 = par cn 1 ∧ par (upC cn j) 2 = par cn 2 + 1 := fun h0 => by
    rcases hc with rfl | rfl | rfl | rfl | rfl | rfl <;> simp [par, upC] at h0 ⊢ <;> (first | lia | omega)
  unfold rowOf
  by_cases h0 : j % 3 = 0
  · rw [if_pos h0]
    obtain ⟨q0, q1, q2⟩ := p0 h0
    rw [q0, q1, q2, show par cn 0 + 1 + par cn 1 + par cn 2 = par cn 0 + par cn 1 + par cn 2 + 1 by (first | lia | omega), e0]
    exact swap_mir fun k hk => (H k hk _ _ _).1
  · rw [if_neg h0]
    by_cases h1 : j % 3 = 1
    · rw [if_pos h1]
      obtain ⟨q0, q1, q2⟩ := p1 h1
      rw [q0, q1, q2, show par cn 0 + (par cn 1 + 1) + par cn 2 = par cn 0 + par cn 1 + par cn 2 + 1 by (first | lia | omega), show par cn 1 + 1 + par cn 2 = par cn 1 + par cn 2 + 1 by (first | lia | omega), e0, e0]
      exact swap_mir fun k hk => (H k hk _ _ _).2.1
    · rw [if_neg h1]
      obtain ⟨q0, q1, q2⟩ := p2 (by (first | lia | omega))
      rw [q0, q1, q2, show par cn 0 + par cn 1 + (par cn 2 + 1) = par cn 0 + par cn 1 + par cn 2 + 1 by (first | lia | omega), show par cn 1 + (par cn 2 + 1) = par cn 1 + par cn 2 + 1 by (first | lia | omega), e0, e0, e0]
      exact swap_mir fun k hk => (H k hk _ _ _).2.2.1
/-- what the loop of _law_rung holds to -/
def LoopI (p ws : Nat → Int) (last : Int) (d : List UInt8) (f g h : Nat) (row : List UInt8) (told hk : List K3) : Prop := ∃ cn, RI p ws last told hk cn ∧ row = rowOf d f g h cn
structure Sizes (d : List UInt8) (f g h : Nat) (ws : Nat → Int) : Prop where
  hf : f = 2 ∨ f = 3
  hg : g = 2 ∨ g = 3
  hh : h = 2 ∨ h = 3
  hd : d.length = f * (g * h)
  w0 : ws 0 = f
  w1 : ws 1 = (f * g : Nat)
  w2 : ws 2 = (f * g * h : Nat)
theorem Sizes.width {d : List UInt8} {f g h : Nat} {ws : Nat → Int} (S : Sizes d f g h ws) {j : Nat} : ws (j % 3) = ((if j % 3 = 0 then f else if j % 3 = 1 then f * g else f * g * h : Nat) : Int) := by
  have : j % 3 = 0 ∨ j % 3 = 1 ∨ j % 3 = 2 := by (first | lia | omega)
  rcases this with e | e | e <;> rw [e]
  · exact S.w0
  · exact S.w1
  · exact S.w2
theorem Sizes.pw {d : List UInt8} {f g h : Nat} {ws p : Nat → Int} (S : Sizes d f g h ws) (hp : ∀ k, k < 6 → p k = 2 ∨ p k = 3 ∨ p k = 4 ∨ p k = 5) : PW p ws := by
  refine ⟨hp, fun j hj => ?_⟩
  have : j = 0 ∨ j = 1 ∨ j = 2 := by (first | lia | omega)
  rcases this with rfl | rfl | rfl
  · rw [S.w0]; rcases S.hf with rfl | rfl <;> decide
  · rw [S.w1]; rcases S.hf with rfl | rfl <;> rcases S.hg with rfl | rfl <;> decide
  · rw [S.w2]; rcases S.hf with rfl | rfl <;> rcases S.hg with rfl | rfl <;> rcases S.hh with rfl | rfl <;> decide
section
variable {p ws : Nat → Int} {last : Int} {d : List UInt8} {f g h : Nat}
theorem loop_init (S : Sizes d f g h ws) (P : PW p ws) (hl : 5 ≤ last) {as : List Addr} {tup : Addr → T3} (h6 : as.length = 6) (hk : as.map (fun a => (tup a).key) = (List.range 6).map (fun j => (p j, ws (j % 3), (j : Int)))) :
    LoopI p ws last d f g h d [] ((hfSeq (fun a b => tlt (tup a) (tup b)) as 3).map fun a => (tup a).key) := by
  refine ⟨fun _ => 1, RI.init P hl h6 ?_, ?_⟩
  · rw [hk]
    unfold bells bell
    refine List.map_congr_left fun j _ => ?_
    simp
  · exact (mir_id S.hd (flip_all S.hf S.hg S.hh)).symm
theorem loop_has (S : Sizes d f g h ws) (P : PW p ws) {row : List UInt8} {told hk : List K3} (H : LoopI p ws last d f g h row told hk) :
    0 < row.length ∧ row.length ≤ 1000 ∧ 0 < (hk.getD 0 (0, 0, 0)).2.1 ∧ (hk.getD 0 (0, 0, 0)).2.1.toNat ∣ row.length ∧ 0 ≤ (hk.getD 0 (0, 0, 0)).2.2 ∧ (hk.getD 0 (0, 0, 0)).2.2 < 6 := by
  obtain ⟨cn, R, rfl⟩ := H
  have l6 : hk.length = 6 := by rw [R.heap.length_eq]; simp [bells]
  have m0 : hk.getD 0 (0, 0, 0) ∈ hk := by simp [l6]
  obtain ⟨j, hj, ej⟩ := mem_bells.mp (R.heap.mem_iff.mp m0)
  have e2 : (hk.getD 0 (0, 0, 0)).2.1 = ws (j % 3) := congrArg (fun t : K3 => t.2.1) ej
  have e3 : (hk.getD 0 (0, 0, 0)).2.2 = (j : Int) := congrArg (fun t : K3 => t.2.2) ej
  have hw := P.wid (j % 3) (by (first | lia | omega))
  have hlen : (rowOf d f g h cn).length = f * (g * h) := mirL_len _ _ _ _ _ _ _
  rw [hlen, e2, e3]
  have hb : 0 < f * (g * h) ∧ f * (g * h) ≤ 1000 := by
    rcases S.hf with rfl | rfl <;> rcases S.hg with rfl | rfl <;> rcases S.hh with rfl | rfl <;> decide
  refine ⟨hb.1, hb.2, hw.1, ?_, by (first | lia | omega), by (first | lia | omega)⟩
  rw [S.width, Int.toNat_natCast]
  split
  · exact ⟨g * h, rfl⟩
  · split
    · exact ⟨h, by rw [Nat.mul_assoc]⟩
    · exact ⟨1, by rw [Nat.mul_one, Nat.mul_assoc]⟩
theorem loop_step (S : Sizes d f g h ws) (P : PW p ws) {row : List UInt8} {told : List K3} {as : List Addr} {tup : Addr → T3} {x : Addr} {hr w b : Int} (h6 : as.length = 6) (H : LoopI p ws last d f g h row told (as.map fun a => (tup a).key))
    (ht : (tup (as.getD 0 0)).key = (hr, w, b)) (hle : hr ≤ last) (hx : (tup x).key = (hr + p b.toNat, w, b)) :
    LoopI p ws last d f g h (swapL row w.toNat) (told ++ [(hr, w, b)]) ((siftupF (fun a b => tlt (tup a) (tup b)) (as.set 0 x) 0).map fun a => (tup a).key) := by
  obtain ⟨cn, R, rfl⟩ := H
  obtain ⟨j, hj, ej, R'⟩ := RI.step P h6 R ht hle hx
  refine ⟨upC cn j, R', ?_⟩
  have ew : w = ws (j % 3) := congrArg (fun t : K3 => t.2.1) ej
  rw [ew, S.width, Int.toNat_natCast]
  exact row_step (flip_all S.hf S.hg S.hh) hj
end
/-! S1 -/
/-! the sort's questions, answered by numbers that are all different -/
noncomputable def KOk {α : Type} (c : Nat → Int) (N : Nat) : KasT α → (α → Prop) → Prop
  | .ret a, Q => Q a
  | .ask i j k, Q => i < N ∧ j < N ∧ KOk c N (k (decide (c i < c j))) Q
theorem KOk.bind {α β : Type} {c : Nat → Int} {N : Nat} {f : α → KasT β} {Q : β → Prop} : ∀ {t : KasT α}, KOk c N t (fun a => KOk c N (f a) Q) → KOk c N (t.bind f) Q
  | .ret _, h => h
  | .ask _ _ k, h => ⟨h.1, h.2.1, KOk.bind (t := k _) h.2.2⟩
theorem KOk.mono {α : Type} {c : Nat → Int} {N : Nat} {Q Q' : α → Prop} (hq : ∀ a, Q a → Q' a) : ∀ {t : KasT α}, KOk c N t Q → KOk c N t Q'
  | .ret a, h => hq a h
  | .ask _ _ k, h => ⟨h.1, h.2.1, KOk.mono hq (t := k _) h.2.2⟩
theorem KOk.wp {α : Type} {c : Nat → Int} {N : Nat} {Q : α → Prop} {G : α → Shared → Prop} {cmp : Nat → Nat → (Bool → Shared → Prop) → Shared → Prop} {s : Shared}
    (hc : ∀ i j C, i < N → j < N → C (decide (c i < c j)) s → cmp i j C s) (hG : ∀ a, Q a → G a s) : ∀ {t : KasT α}, KOk c N t Q → t.kasWp cmp G s
  | .ret a, h => hG a h
  | .ask i j k, h => hc i j _ h.1 h.2.1 (KOk.wp hc hG (t := k _) h.2.2)
section
variable {c : Nat → Int} {N : Nat}
structure PP (N : Nat) (p : Array Nat) : Prop where
  size : p.size = N
  perm : p.toList.Perm (List.range N)
def V (c : Nat → Int) (p : Array Nat) (k : Nat) : Int := c (p.getD k 0)
theorem PP.lt {p : Array Nat} (P : PP N p) {k : Nat} (hk : k < N) : p.getD k 0 < N := by
  have h : k < p.size := by rw [P.size]; exact hk
  have e : p.getD k 0 = p[k] := by simp [h]
  have : p[k] ∈ p.toList := by simp
  rw [e]
  exact List.mem_range.mp (P.perm.mem_iff.mp this)
theorem PP.ne {p : Array Nat} (P : PP N p) (hc : ∀ i j, i < N → j < N → c i = c j → i = j) {i j : Nat} (hi : i < N) (hj : j < N) (h : i ≠ j) : V c p i ≠ V c p j := by
  intro e
  have e2 := hc _ _ (P.lt hi) (P.lt hj) e
  have nd : p.toList.Nodup := P.perm.nodup_iff.mpr List.nodup_range
  have h1 : i < p.toList.length := by simpa [P.size] using hi
  have h2 : j < p.toList.length := by simpa [P.size] using hj
  have e3 : p.toList[i] = p.toList[j] := by
    have a1 : p.getD i 0 = p.toList[i] := by simp [P.size, hi]
    have a2 : p.getD j 0 = p.toList[j] := by simp [P.size, hj]
    rw [← a1, ← a2]
    exact e2
  have nd' := List.pairwise_iff_getElem.mp nd
  rcases Nat.lt_or_gt_of_ne h with h' | h'
  · exact nd' i j h1 h2 h' e3
  · exact nd' j i h2 h1 h' e3.symm
def SortedTo (c : Nat → Int) (p : Array Nat) (m : Nat) : Prop := ∀ i j, i < j → j < m → V c p i < V c p j
def DecTo (c : Nat → Int) (p : Array Nat) (m : Nat) : Prop := ∀ i j, i < j → j < m → V c p j < V c p i
theorem V_of {p q : Array Nat} {i j : Nat} (h : p[i]? = q[j]?) : V c p i = V c q j := by
  unfold V
  rw [Array.getD_eq_getD_getElem?, Array.getD_eq_getD_getElem?, h]
theorem asc_ok {p : Array Nat} (P : PP N p) (hc : ∀ i j, i < N → j < N → c i = c j → i = j) : ∀ (f n : Nat), 1 ≤ n → n + f ≤ N → SortedTo c p n → KOk c N (kas_asc p f n) (fun m => n ≤ m ∧ m ≤ n + f ∧ SortedTo c p m ∧ (m = n + f ∨ V c p m < V c p (m - 1)))
  | 0, n, _, _, hs => ⟨Nat.le_refl _, Nat.le_refl _, hs, .inl rfl⟩
  | f + 1, n, h1, h2, hs => by
    refine ⟨P.lt (by (first | lia | omega)), P.lt (by (first | lia | omega)), ?_⟩
    by_cases h : c (p.getD n 0) < c (p.getD (n - 1) 0)
    · rw [decide_eq_true h]; show KOk c N (if true = true then _ else _) _; rw [if_pos rfl]
      exact ⟨Nat.le_refl _, by (first | lia | omega), hs, .inr h⟩
    · rw [decide_eq_false h]; show KOk c N (if false = true then _ else _) _; rw [if_neg (by simp)]
      have hne := P.ne hc (i := n) (j := n - 1) (by (first | lia | omega)) (by (first | lia | omega)) (by (first | lia | omega))
      have hlt : V c p (n - 1) < V c p n := by unfold V at hne ⊢; (first | lia | omega)
      refine KOk.mono (fun m hm => ⟨by (first | lia | omega), by (first | lia | omega), hm.2.2.1, ?_⟩) (asc_ok P hc f (n + 1) (by (first | lia | omega)) (by (first | lia | omega)) fun i j hij hj => ?_)
      · rcases hm.2.2.2 with e | e
        · exact .inl (by (first | lia | omega))
        · exact .inr e
      · by_cases hjn : j < n
        · exact hs i j hij hjn
        · have : j = n := by (first | lia | omega)
          subst this
          by_cases hi : i = j - 1
          · rw [hi]; exact hlt
          · exact Int.lt_trans (hs i (j - 1) (by (first | lia | omega)) (by (first | lia | omega))) hlt
theorem desc_ok {p : Array Nat} (P : PP N p) (hc : ∀ i j, i < N → j < N → c i = c j → i = j) : ∀ (f n : Nat), 1 ≤ n → n + f ≤ N → DecTo c p n → KOk c N (kas_desc f p n 0) (fun r => r.1 = p ∧ r.2.2 = 0 ∧ n ≤ r.2.1 ∧ r.2.1 ≤ n + f ∧ DecTo c p r.2.1)
  | 0, n, _, _, hs => ⟨rfl, rfl, Nat.le_refl _, Nat.le_refl _, hs⟩
  | f + 1, n, h1, h2, hs => by
    refine ⟨P.lt (by (first | lia | omega)), P.lt (by (first | lia | omega)), ?_⟩
    by_cases h : c (p.getD n 0) < c (p.getD (n - 1) 0)
    · rw [decide_eq_true h]; show KOk c N (if true = true then _ else _) _; rw [if_pos rfl, if_neg (by (first | lia | omega))]
      refine KOk.mono (fun r hr => ⟨hr.1, hr.2.1, by (first | lia | omega), by (first | lia | omega), hr.2.2.2.2⟩) (desc_ok P hc f (n + 1) (by (first | lia | omega)) (by (first | lia | omega)) fun i j hij hj => ?_)
      by_cases hjn : j < n
      · exact hs i j hij hjn
      · have : j = n := by (first | lia | omega)
        subst this
        by_cases hi : i = j - 1
        · rw [hi]; exact h
        · exact Int.lt_trans h (hs i (j - 1) (by (first | lia | omega)) (by (first | lia | omega)))
    · rw [decide_eq_false h]; show KOk c N (if false = true then _ else _) _; rw [if_neg (by simp)]
      have hne := P.ne hc (i := n) (j := n - 1) (by (first | lia | omega)) (by (first | lia | omega)) (by (first | lia | omega))
      have hlt : c (p.getD (n - 1) 0) < c (p.getD n 0) := by unfold V at hne; (first | lia | omega)
      refine ⟨P.lt (by (first | lia | omega)), P.lt (by (first | lia | omega)), ?_⟩
      rw [decide_eq_true hlt]; show KOk c N (if true = true then _ else _) _; rw [if_pos rfl]
      exact ⟨rfl, rfl, Nat.le_refl _, by show n ≤ n + (f + 1); (first | lia | omega), hs⟩
theorem PP.rev {p : Array Nat} (P : PP N p) (i j : Nat) : PP N (kas_rev p i j) := ⟨(mirror_size _ _ _ _).trans P.size, (Array.perm_iff_toList_perm.mp (mirror_perm p i j _)).trans P.perm⟩
theorem PP.bub {p : Array Nat} (P : PP N p) (i j : Nat) : PP N (bubble p i j) := ⟨(bubble_size _ _ _).trans P.size, (Array.perm_iff_toList_perm.mp (bubble_perm p i j)).trans P.perm⟩
theorem tail3_ok {p : Array Nat} (P : PP N p) (hc : ∀ i j, i < N → j < N → c i = c j → i = j) {n : Nat} (h1 : 1 ≤ n) (h2 : n ≤ N) (hs : DecTo c p n) : KOk c N (kas_tail3 n N p) (fun r => PP N r.2 ∧ 1 ≤ r.1 ∧ r.1 ≤ N ∧ SortedTo c r.2 r.1) := by
  unfold kas_tail3
  refine KOk.bind (KOk.mono (fun m hm => ⟨P.rev 0 n, by (first | lia | omega), by (first | lia | omega), hm.2.2.1⟩) (asc_ok (P.rev 0 n) hc (N - n) n h1 (by (first | lia | omega)) fun i j hij hj => ?_))
  have g : ∀ k, k < n → V c (kas_rev p 0 n) k = V c p (n - 1 - k) := fun k hk => V_of (by
    unfold kas_rev
    rw [getElem?_mirror_all (by rw [P.size]; exact h2), if_pos ⟨Nat.zero_le _, hk⟩, Nat.zero_add])
  rw [g i (by (first | lia | omega)), g j hj]
  exact hs _ _ (by (first | lia | omega)) (by (first | lia | omega))
theorem descPart_ok {p : Array Nat} (P : PP N p) (hc : ∀ i j, i < N → j < N → c i = c j → i = j) {n : Nat} (h2 : n + 1 ≤ N) (hs : DecTo c p (n + 1)) : KOk c N (kas_descPart n N p) (fun r => PP N r.2 ∧ 1 ≤ r.1 ∧ r.1 ≤ N ∧ SortedTo c r.2 r.1) := by
  unfold kas_descPart
  refine KOk.bind (KOk.mono ?_ (desc_ok P hc (N - (n + 1)) (n + 1) (by (first | lia | omega)) (by (first | lia | omega)) hs))
  rintro ⟨p', m, q⟩ ⟨e1, e2, h3, h4, h5⟩
  dsimp only at e1 e2 h3 h4 h5 ⊢
  subst e1 e2
  rw [if_neg (by (first | lia | omega))]
  exact tail3_ok P hc (by (first | lia | omega)) (by (first | lia | omega)) h5
theorem count_ok {p : Array Nat} (P : PP N p) (hc : ∀ i j, i < N → j < N → c i = c j → i = j) (hN : 2 ≤ N) : KOk c N (kas_count N p) (fun r => PP N r.2 ∧ 1 ≤ r.1 ∧ r.1 ≤ N ∧ SortedTo c r.2 r.1) := by
  unfold kas_count
  refine KOk.bind (KOk.mono (fun n hn => ?_) (asc_ok P hc (N - 1) 1 (Nat.le_refl _) (by (first | lia | omega)) fun i j hij hj => by (first | lia | omega)))
  obtain ⟨h1, h2, h3, h4⟩ := hn
  by_cases e : n = N
  · rw [if_pos (by simpa using e)]
    exact ⟨P, h1, by (first | lia | omega), h3⟩
  · rw [if_neg (by simpa using e)]
    have h5 : V c p n < V c p (n - 1) := by
      rcases h4 with h4 | h4
      · (first | lia | omega)
      · exact h4
    by_cases hn1 : n > 1
    · rw [if_pos hn1]
      refine ⟨P.lt (by (first | lia | omega)), P.lt (by (first | lia | omega)), ?_⟩
      have := h3 0 (n - 1) (by (first | lia | omega)) (by (first | lia | omega))
      rw [decide_eq_true (show c (p.getD 0 0) < c (p.getD (n - 1) 0) from this)]; show KOk c N (if true = true then _ else _) _; rw [if_pos rfl]
      exact ⟨P, h1, by (first | lia | omega), h3⟩
    · rw [if_neg hn1]
      have : n = 1 := by (first | lia | omega)
      subst this
      refine descPart_ok P hc (by (first | lia | omega)) fun i j hij hj => ?_
      have : j = 1 ∧ i = 0 := by (first | lia | omega)
      rw [this.1, this.2]
      exact h5
theorem place_ok {p : Array Nat} (P : PP N p) (hc : ∀ i j, i < N → j < N → c i = c j → i = j) {k : Nat} (hk : k < N) (hs : SortedTo c p k) : ∀ (f l r : Nat), r - l ≤ f → l ≤ r → r ≤ k → (∀ i, i < l → V c p i < V c p k) → (∀ i, r ≤ i → i < k → V c p k < V c p i) →
    KOk c N (kas_place p k f l r) (fun m => m ≤ k ∧ (∀ i, i < m → V c p i < V c p k) ∧ ∀ i, m ≤ i → i < k → V c p k < V c p i)
  | 0, l, r, hf, hlr, hrk, h1, h2 => by
    have : l = r := by (first | lia | omega)
    subst this
    exact ⟨hrk, h1, h2⟩
  | f + 1, l, r, hf, hlr, hrk, h1, h2 => by
    unfold kas_place
    by_cases hge : l ≥ r
    · rw [if_pos hge]
      have : l = r := by (first | lia | omega)
      subst this
      exact ⟨hrk, h1, h2⟩
    · rw [if_neg hge]
      refine ⟨P.lt hk, P.lt (by (first | lia | omega)), ?_⟩
      by_cases h : c (p.getD k 0) < c (p.getD ((l + r) / 2) 0)
      · rw [decide_eq_true h]; show KOk c N (if true = true then _ else _) _; rw [if_pos rfl]
        refine place_ok P hc hk hs f l ((l + r) / 2) (by (first | lia | omega)) (by (first | lia | omega)) (by (first | lia | omega)) h1 fun i hi1 hi2 => ?_
        by_cases e : i = (l + r) / 2
        · rw [e]; exact h
        · exact Int.lt_trans h (hs _ i (by (first | lia | omega)) hi2)
      · rw [decide_eq_false h]; show KOk c N (if false = true then _ else _) _; rw [if_neg (by simp)]
        have hne := P.ne hc (i := k) (j := (l + r) / 2) hk (by (first | lia | omega)) (by (first | lia | omega))
        have hlt : V c p ((l + r) / 2) < V c p k := by unfold V at hne ⊢; (first | lia | omega)
        refine place_ok P hc hk hs f ((l + r) / 2 + 1) r (by (first | lia | omega)) (by (first | lia | omega)) hrk (fun i hi => ?_) h2
        by_cases e : i = (l + r) / 2
        · rw [e]; exact hlt
        · exact Int.lt_trans (hs i _ (by (first | lia | omega)) (by (first | lia | omega))) hlt
theorem bin_ok (hc : ∀ i j, i < N → j < N → c i = c j → i = j) : ∀ (f : Nat) (p : Array Nat) (k : Nat), PP N p → k + f = N → SortedTo c p k → KOk c N (kas_bin f p k) (fun q => PP N q ∧ SortedTo c q N)
  | 0, p, k, P, hk, hs => ⟨P, by rw [← hk]; exact hs⟩
  | f + 1, p, k, P, hk, hs => by
    unfold kas_bin
    refine KOk.bind (KOk.mono (fun l hl => ?_) (place_ok P hc (by (first | lia | omega)) hs k 0 k (by (first | lia | omega)) (by (first | lia | omega)) (Nat.le_refl _) (fun i hi => by (first | lia | omega)) fun i h1 h2 => by (first | lia | omega)))
    obtain ⟨h1, h2, h3⟩ := hl
    refine bin_ok hc f _ (k + 1) (P.bub _ _) (by (first | lia | omega)) fun i j hij hj => ?_
    have g : ∀ x, x ≤ k → V c (bubble p k (k - l)) x = if x = l then V c p k else if l < x then V c p (x - 1) else V c p x := fun x hx => by
      have z := getElem?_bubble (xs := p) (src := k) (by rw [P.size]; (first | lia | omega)) (k - l) (by (first | lia | omega)) x
      rw [show k - (k - l) = l by (first | lia | omega)] at z
      by_cases e1 : x = l
      · rw [if_pos e1] at z ⊢
        exact V_of z
      · rw [if_neg e1] at z ⊢
        by_cases e2 : l < x
        · rw [if_pos ⟨e2, hx⟩] at z
          rw [if_pos e2]
          exact V_of z
        · rw [if_neg (by (first | lia | omega))] at z
          rw [if_neg e2]
          exact V_of z
    rw [g i (by (first | lia | omega)), g j (by (first | lia | omega))]
    by_cases e1 : i = l
    · rw [if_pos e1, if_neg (by (first | lia | omega)), if_pos (by (first | lia | omega))]
      exact h3 _ (by (first | lia | omega)) (by (first | lia | omega))
    · rw [if_neg e1]
      by_cases e2 : l < i
      · rw [if_pos e2, if_neg (by (first | lia | omega)), if_pos (by (first | lia | omega))]
        exact hs _ _ (by (first | lia | omega)) (by (first | lia | omega))
      · rw [if_neg e2]
        by_cases e3 : j = l
        · rw [if_pos e3]
          exact h2 i (by (first | lia | omega))
        · rw [if_neg e3]
          by_cases e4 : l < j
          · rw [if_pos e4]
            by_cases e5 : i = j - 1
            · (first | lia | omega)
            · exact hs _ _ (by (first | lia | omega)) (by (first | lia | omega))
          · rw [if_neg e4]
            exact hs _ _ hij (by (first | lia | omega))
theorem sort_ok (hc : ∀ i j, i < N → j < N → c i = c j → i = j) (hN : 2 ≤ N) : KOk c N (kas_sort N) (fun q => PP N q ∧ SortedTo c q N) := by
  unfold kas_sort
  have P0 : PP N (List.toArray (List.range N)) := ⟨by simp, by simp⟩
  refine KOk.bind (KOk.mono ?_ (count_ok P0 hc hN))
  rintro ⟨m, q⟩ ⟨P, h1, h2, h3⟩
  dsimp only at P h1 h2 h3 ⊢
  by_cases h : m < N
  · rw [if_pos h, show max m 1 = m by (first | lia | omega)]
    exact bin_ok hc _ _ _ P (by (first | lia | omega)) h3
  · rw [if_neg h]
    have : m = N := by (first | lia | omega)
    subst this
    exact ⟨P, h3⟩
end
/-! S2 -/
theorem katTups_of {h : Heap} {tup : Addr → T3} : ∀ {as : List Addr}, (∀ a ∈ as, h.get? a = some (tupO (tup a))) → KatTups h (as.map Value.ref) (as.map fun a => .int (tup a).h (tup a).t1)
  | [], _ => KatTups.nil
  | a :: _, hh => KatTups.cons (hh a (.head _)) rfl rfl rfl (katTups_of fun b hb => hh b (.tail _ hb))
section
variable {prog : Program} {w : World} {A : Around} {E : Value → Shared → Prop} {s : Shared} {h₀ : Heap} {L : Addr} {m : Str → Option Value} {news : List (Addr × Obj)}
theorem katLex_T {x y : T3} {C : Bool → Shared → Prop} (h : C (tlt x y) s) :
    KatLex prog w A true (decide (3 < 3)) C [(Value.int x.h x.t1, Value.int y.h y.t1), (Value.int x.w x.t2, Value.int y.w y.t2), (Value.int x.b x.t3, Value.int y.b y.t3)] 0 s := by
  refine kat_cons (wpAny_eqBool_int ?_)
  by_cases e1 : x.h = y.h
  · have q1 : (x.h == y.h) = true := by simp [e1]
    rw [q1]
    refine kat_yes (kat_cons (wpAny_eqBool_int ?_))
    by_cases e2 : x.w = y.w
    · have q2 : (x.w == y.w) = true := by simp [e2]
      rw [q2]
      refine kat_yes (kat_cons (wpAny_eqBool_int ?_))
      by_cases e3 : x.b = y.b
      · have q3 : (x.b == y.b) = true := by simp [e3]
        rw [q3]
        refine kat_yes (kat_nil ?_)
        have hf : tlt x y = false := by simp [tlt, klt, T3.key, e1, e2, e3]
        rw [hf] at h
        exact h
      · have q3 : (x.b == y.b) = false := by simp [e3]
        rw [q3]
        have hf : tlt x y = decide (x.b < y.b) := by simp [tlt, klt, T3.key, e1, e2]
        rw [hf] at h
        exact kat_no (kat_one _ _ (cmp_ofLt (rl_int h)))
    · have q2 : (x.w == y.w) = false := by simp [e2]
      rw [q2]
      have hf : tlt x y = decide (x.w < y.w) := by simp [tlt, klt, T3.key, e1, e2]
      rw [hf] at h
      exact kat_no (kat_one _ _ (cmp_ofLt (rl_int h)))
  · have q1 : (x.h == y.h) = false := by simp [e1]
    rw [q1]
    have hf : tlt x y = decide (x.h < y.h) := by simp [tlt, klt, T3.key, e1]
    rw [hf] at h
    exact kat_no (oneLt_int h)
/-- sorted(l) of a list of triples that are all different -/
theorem sorted_T {l : Addr} {as : List Addr} {c : Nat} {tup : Addr → T3} {Q : Value → Shared → Prop} (F : Fr h₀ L s.heap m) (N : News h₀ L s.heap news) (hm : (l, lstR as c) ∈ news) (ht : Tups tup as news) (h2 : 2 ≤ as.length) (h64 : as.length < 64)
    (hb : ∀ a ∈ as, Bd (tup a).key) (hinj : ∀ i j, i < as.length → j < as.length → code (tup (as.getD i 0)).key = code (tup (as.getD j 0)).key → i = j)
    (h : ∀ D bs c' h', Fr h₀ L h' m → News h₀ L h' ((D, lstR bs c') :: news) → (∀ q ∈ news, q.1 < D) → bs.Perm as → bs.Pairwise (fun a b => code (tup a).key < code (tup b).key) → Q (.ref D) { s with heap := h' }) :
    wpAny (model prog w) A (call (.builtin "sorted") [.ref l]) Q E s := by
  refine kat_sorted (vs := as.map Value.ref) F N (PySem.IsL.isList (n := c) (N _ hm).1) (by simpa using h2) (by simpa using h64) fun D e1 h' F' N' hlt => ?_
  have hg : ∀ a ∈ as, h'.get? a = some (tupO (tup a)) := fun a ha => (N' _ (.tail _ (ht a ha))).1
  refine kat_kind (fs := as.map fun a => .int (tup a).h (tup a).t1) (T := .type "int") (katTups_of hg) (by simp; omega) (fun v hv => ?_) (by decide) ?_
  · obtain ⟨a, _, rfl⟩ := List.mem_map.mp hv
    exact Looks.of_pure rfl
  rw [show (Value.type "int" != Value.type "tuple") = true by decide]
  have hlen : (as.map Value.ref).length = as.length := by simp
  rw [hlen]
  refine KOk.wp (c := fun i => code (tup (as.getD i 0)).key) (N := as.length) (fun i j C hi hj hC => ?_) (fun p hp => ?_) (sort_ok hinj h2)
  · have ei : (as.map Value.ref).getD i Value.none = .ref (as.getD i 0) := by simp [hi]
    have ej : (as.map Value.ref).getD j Value.none = .ref (as.getD j 0) := by simp [hj]
    unfold kas_ask
    rw [ei, ej]
    have mi : as.getD i 0 ∈ as := by simp [hi]
    have mj : as.getD j 0 ∈ as := by simp [hj]
    refine kat_lt (hg _ mi) rfl (hg _ mj) rfl (katLex_T ?_)
    rw [show tlt (tup (as.getD i 0)) (tup (as.getD j 0)) = _ from klt_code (hb _ mi) (hb _ mj)]
    exact hC
  · obtain ⟨P, hs⟩ := hp
    refine KasFin.intro F' N' (.head fun q hq => Nat.ne_of_lt (hlt q hq)) fun h'' c'' F'' N'' => ?_
    have eo : (p.toList.map fun i => (as.map Value.ref).getD i Value.none) = (p.toList.map fun i => as.getD i 0).map Value.ref := by
      rw [List.map_map]
      refine List.map_congr_left fun i hi => ?_
      have : i < as.length := List.mem_range.mp (P.perm.mem_iff.mp hi)
      simp [this]
    rw [eo] at N''
    refine h D (p.toList.map fun i => as.getD i 0) c'' h'' F'' N'' hlt ?_ ?_
    · have e : (List.range as.length).map (fun i => as.getD i 0) = as := by
        refine List.ext_getElem (by simp) fun k h1 h2 => ?_
        simp [h2]
      have := P.perm.map (fun i => as.getD i 0)
      rwa [e] at this
    · rw [List.pairwise_map, List.pairwise_iff_getElem]
      intro i j hi hj hij
      have z := hs i j hij (by simpa [P.size] using hj)
      unfold V at z
      have a1 : p.getD i 0 = p.toList[i] := by simp at hi; simp [hi]
      have a2 : p.getD j 0 = p.toList[j] := by simp at hj; simp [hj]
      rw [a1, a2] at z
      exact z
end
/-! L0 -/
theorem fillFragL0 : True := by
  w_top off
  trivial
noncomputable def lawBody : List Stmt := match defOf Mine.hd.view_39 (Str.ofString "law") with | some (d, _) => d.body | none => []
noncomputable def lawScope : Scope := match defOf Mine.hd.view_39 (Str.ofString "law") with | some (d, _) => d.scope | none => default
abbrev lawEnv (scope : Scope) (L fa : Addr) (cdv : Value) : Env := envOfC (Str.ofString "law") scope L fa cdv
/-- the figures' sizes -/
abbrev fOf (n : Nat) : Nat := 2 + n % 2
abbrev gOf (n : Nat) : Nat := 2 + n / 2 % 2
abbrev hOf (n : Nat) : Nat := 2 + n / 4 % 2
abbrev FL (n : Nat) (a b c : Tok) : Obj := listOf #[.int (fOf n : Nat) a, .int (gOf n : Nat) b, .int (hOf n : Nat) c] 0
abbrev TL (n : Nat) (a b c : Tok) : Obj := listOf #[.int (fOf n : Nat) a, .int ((fOf n : Nat) * (gOf n : Nat) : Int) b, .int ((fOf n : Nat) * (gOf n : Nat) * (hOf n : Nat) : Int) c] 0
set_option maxHeartbeats 8000000 in
theorem seg01 {prog : Program} {w : World} {p : Program} {loose : List Str} {mean : ExcName → Option Value} {mg mb : Str → Option Value} {h₀ h : Heap} {L fa : Addr} {cdv : Value} {m0 : Str → Option Value} {s : Shared} {tk : Nat} {Q : Flow → Shared → Prop} {E : Value → Shared → Prop}
    {scope : Scope} {body : List Stmt} {sl : Addr} {sv : List Value} {ns : List Int} {o1 o2 o3 o4 o5 : Obj} (hs : scope = lawScope) (hb : body = lawBody.drop 0)
    (T : Top p loose mean mg mb h₀) (X : (Mine.hd.heap_39 w.params).In h₀) (F0 : Fr h₀ L h m0) (r1 : m0 (Str.ofString "script") = some (.ref sl)) (hsl : h₀.IsList sl sv.toArray) (hsi : IntsAre sv ns) (hnl : ns.length ≤ 63)
    (N0 : News h₀ L h [(L + 1 + 1 + 1 + 1 + 1, o5), (L + 1 + 1 + 1 + 1, o4), (L + 1 + 1 + 1, o3), (L + 1 + 1, o2), (L + 1, o1)]) (d1 : o1.data = .cell none)
    (k : ∀ h' tk' m' fl tl o1' a b c d e f, Fr h₀ L h' m' → News h₀ L h' [(tl, TL ns.length a b c), (fl, FL ns.length d e f), (L + 1 + 1 + 1 + 1 + 1, o5), (L + 1 + 1 + 1 + 1, o4), (L + 1 + 1 + 1, o3), (L + 1 + 1, o2), (L + 1, o1')] → fl < tl → L + 1 + 1 + 1 + 1 + 1 < fl → o1'.data = .cell (some (.ref tl)) →
      m' (Str.ofString "script") = some (.ref sl) → m' (Str.ofString "factors") = some (.ref fl) → wpD (model prog w) (callerA.deeper (lawEnv lawScope L fa cdv)) (execs (lawBody.drop 2) (lawEnv lawScope L fa cdv)) Q E { s with heap := h', toks := tk' }) :
    wpD (model prog w) (callerA.deeper (lawEnv scope L fa cdv)) (execs body (lawEnv scope L fa cdv)) Q E { s with heap := h, toks := tk } := by
  conv at hs => rhs; whnf
  conv at hb => rhs; whnf
  subst hs hb
  have F1 := fr_bind F0 r1
  clear F0
  refine D_execs_consA ?_
  try k_fold
  tb_start
  refine D_execs_consA ?_
  tb_start
  rename Fr _ _ _ _ => F2
  rename News _ _ _ _ => N2
  have e1 : ([2 + (ns.length : Int) % 2, 2 + (ns.length : Int) / 2 % 2, 2 + (ns.length : Int) / 4 % 2].getD (Int.toNat 0) 0) = ((fOf ns.length : Nat) : Int) := by show 2 + (ns.length : Int) % 2 = _; push_cast; rfl
  have e2 : ([2 + (ns.length : Int) % 2, 2 + (ns.length : Int) / 2 % 2, 2 + (ns.length : Int) / 4 % 2].getD (Int.toNat 1) 0) = ((gOf ns.length : Nat) : Int) := by show 2 + (ns.length : Int) / 2 % 2 = _; push_cast; rfl
  have e3 : ([2 + (ns.length : Int) % 2, 2 + (ns.length : Int) / 2 % 2, 2 + (ns.length : Int) / 4 % 2].getD (Int.toNat 2) 0) = ((hOf ns.length : Nat) : Int) := by show 2 + (ns.length : Int) / 4 % 2 = _; push_cast; rfl
  have e4 : 2 + (ns.length : Int) % 2 = ((fOf ns.length : Nat) : Int) := e1
  have e5 : 2 + (ns.length : Int) / 2 % 2 = ((gOf ns.length : Nat) : Int) := e2
  have e6 : 2 + (ns.length : Int) / 4 % 2 = ((hOf ns.length : Nat) : Int) := e3
  rw [e1, e2, e3, e4, e5, e6] at N2
  rename_i lt2 h4 o1' d1'
  refine k _ _ _ _ _ o1' _ _ _ _ _ _ F2 N2 lt2.1 ?_ d1' rfl rfl
  show @LT.lt Nat _ _ _
  omega
/-! L2 -/
theorem fillFragL2 : True := by
  w_top off
  trivial
/-- none of these is a cell of law -/
def Off5 (L : Addr) (nw : List (Addr × Obj)) : Prop := ∀ p ∈ nw, p.1 ≠ L + 1 ∧ p.1 ≠ L + 1 + 1 ∧ p.1 ≠ L + 1 + 1 + 1 ∧ p.1 ≠ L + 1 + 1 + 1 + 1 ∧ p.1 ≠ L + 1 + 1 + 1 + 1 + 1
theorem Off5.cons {L a : Addr} {o : Obj} {nw : List (Addr × Obj)} (h : Off5 L nw) (ha : L + 1 ≠ a ∧ L + 1 + 1 ≠ a ∧ L + 1 + 1 + 1 ≠ a ∧ L + 1 + 1 + 1 + 1 ≠ a ∧ L + 1 + 1 + 1 + 1 + 1 ≠ a) : Off5 L ((a, o) :: nw) := fun p hp => by
  rcases List.mem_cons.mp hp with rfl | hp
  · exact ⟨ha.1.symm, ha.2.1.symm, ha.2.2.1.symm, ha.2.2.2.1.symm, ha.2.2.2.2.symm⟩
  · exact h p hp
theorem adr_ne {a b : Nat} (h : a ≠ b) : (show Addr from a) ≠ (show Addr from b) := h
section
variable {L : Addr} {o1 o2 o3 o4 o5 : Obj} {nw : List (Addr × Obj)}
theorem upd2 (h : Off5 L nw) : UpdF (L + 1 + 1) o2 ((L + 1 + 1 + 1 + 1 + 1, o5) :: (L + 1 + 1 + 1 + 1, o4) :: (L + 1 + 1 + 1, o3) :: (L + 1 + 1, o2) :: (L + 1, o1) :: nw) (fun o => (L + 1 + 1 + 1 + 1 + 1, o5) :: (L + 1 + 1 + 1 + 1, o4) :: (L + 1 + 1 + 1, o3) :: (L + 1 + 1, o) :: (L + 1, o1) :: nw) :=
  .tail (adr_ne (by omega)) (.tail (adr_ne (by omega)) (.tail (adr_ne (by omega)) (.head fun p hp => by
    rcases List.mem_cons.mp hp with rfl | hp
    · exact adr_ne (by omega)
    · exact (h p hp).2.1)))
theorem upd3 (h : Off5 L nw) : UpdF (L + 1 + 1 + 1) o3 ((L + 1 + 1 + 1 + 1 + 1, o5) :: (L + 1 + 1 + 1 + 1, o4) :: (L + 1 + 1 + 1, o3) :: (L + 1 + 1, o2) :: (L + 1, o1) :: nw) (fun o => (L + 1 + 1 + 1 + 1 + 1, o5) :: (L + 1 + 1 + 1 + 1, o4) :: (L + 1 + 1 + 1, o) :: (L + 1 + 1, o2) :: (L + 1, o1) :: nw) :=
  .tail (adr_ne (by omega)) (.tail (adr_ne (by omega)) (.head fun p hp => by
    rcases List.mem_cons.mp hp with rfl | hp
    · exact adr_ne (by omega)
    · rcases List.mem_cons.mp hp with rfl | hp
      · exact adr_ne (by omega)
      · exact (h p hp).2.2.1))
theorem upd4 (h : Off5 L nw) : UpdF (L + 1 + 1 + 1 + 1) o4 ((L + 1 + 1 + 1 + 1 + 1, o5) :: (L + 1 + 1 + 1 + 1, o4) :: (L + 1 + 1 + 1, o3) :: (L + 1 + 1, o2) :: (L + 1, o1) :: nw) (fun o => (L + 1 + 1 + 1 + 1 + 1, o5) :: (L + 1 + 1 + 1 + 1, o) :: (L + 1 + 1 + 1, o3) :: (L + 1 + 1, o2) :: (L + 1, o1) :: nw) :=
  .tail (adr_ne (by omega)) (.head fun p hp => by
    rcases List.mem_cons.mp hp with rfl | hp
    · exact adr_ne (by omega)
    · rcases List.mem_cons.mp hp with rfl | hp
      · exact adr_ne (by omega)
      · rcases List.mem_cons.mp hp with rfl | hp
        · exact adr_ne (by omega)
        · exact (h p hp).2.2.2.1)
theorem upd5 (h : Off5 L nw) : UpdF (L + 1 + 1 + 1 + 1 + 1) o5 ((L + 1 + 1 + 1 + 1 + 1, o5) :: (L + 1 + 1 + 1 + 1, o4) :: (L + 1 + 1 + 1, o3) :: (L + 1 + 1, o2) :: (L + 1, o1) :: nw) (fun o => (L + 1 + 1 + 1 + 1 + 1, o) :: (L + 1 + 1 + 1 + 1, o4) :: (L + 1 + 1 + 1, o3) :: (L + 1 + 1, o2) :: (L + 1, o1) :: nw) :=
  .head fun p hp => by
    rcases List.mem_cons.mp hp with rfl | hp
    · exact adr_ne (by omega)
    · rcases List.mem_cons.mp hp with rfl | hp
      · exact adr_ne (by omega)
      · rcases List.mem_cons.mp hp with rfl | hp
        · exact adr_ne (by omega)
        · rcases List.mem_cons.mp hp with rfl | hp
          · exact adr_ne (by omega)
          · exact (h p hp).2.2.2.2
end
theorem off5_of1 {L D : Addr} {o1 o2 o3 o4 o5 : Obj} {nw : List (Addr × Obj)} (off : LCg.Off1 D ((L + 1 + 1 + 1 + 1 + 1, o5) :: (L + 1 + 1 + 1 + 1, o4) :: (L + 1 + 1 + 1, o3) :: (L + 1 + 1, o2) :: (L + 1, o1) :: nw)) : L + 1 ≠ D ∧ L + 1 + 1 ≠ D ∧ L + 1 + 1 + 1 ≠ D ∧ L + 1 + 1 + 1 + 1 ≠ D ∧ L + 1 + 1 + 1 + 1 + 1 ≠ D := ⟨off.2.2.2.2.1, off.2.2.2.1, off.2.2.1, off.2.1, off.1⟩
/-- the bells' periods -/
def perOf (ns : List Int) : List Int := (List.take 6 (ns ++ [2, 1, 4, 0, 3, 5])).map fun x => 2 + x % 4
theorem perOf_len (ns : List Int) : (perOf ns).length = 6 := by simp [perOf]
theorem perOf_is (ns : List Int) {k : Nat} (hk : k < 6) : (perOf ns).getD k 0 = 2 ∨ (perOf ns).getD k 0 = 3 ∨ (perOf ns).getD k 0 = 4 ∨ (perOf ns).getD k 0 = 5 := by
  have h : k < (perOf ns).length := by rw [perOf_len]; exact hk
  have e : (perOf ns).getD k 0 ∈ perOf ns := by simp [h]
  obtain ⟨x, _, q⟩ := List.mem_map.mp e
  rw [← q]
  omega
set_option maxHeartbeats 8000000 in
theorem seg2 {prog : Program} {w : World} {p : Program} {loose : List Str} {mean : ExcName → Option Value} {mg mb : Str → Option Value} {h₀ h : Heap} {L fa : Addr} {cdv : Value} {m0 : Str → Option Value} {s : Shared} {tk : Nat} {Q : Flow → Shared → Prop} {E : Value → Shared → Prop}
    {scope : Scope} {body : List Stmt} {o1 o2 o3 o4 o5 : Obj} {nw : List (Addr × Obj)} {sl fl : Addr} {sv : List Value} {ns : List Int} (hs : scope = lawScope) (hb : body = lawBody.drop 2)
    (T : Top p loose mean mg mb h₀) (X : (Mine.hd.heap_39 w.params).In h₀) (F0 : Fr h₀ L h m0) (r1 : m0 (Str.ofString "script") = some (.ref sl)) (r2 : m0 (Str.ofString "factors") = some (.ref fl)) (hsl : h₀.IsList sl sv.toArray) (hsi : IntsAre sv ns) (hnl : ns.length ≤ 63)
    (N0 : News h₀ L h ((L + 1 + 1 + 1 + 1 + 1, o5) :: (L + 1 + 1 + 1 + 1, o4) :: (L + 1 + 1 + 1, o3) :: (L + 1 + 1, o2) :: (L + 1, o1) :: nw)) (hoff : Off5 L nw) (d2 : o2.data = .cell none)
    (k : ∀ h' tk' m' rl o2' rv, Fr h₀ L h' m' → News h₀ L h' ((L + 1 + 1 + 1 + 1 + 1, o5) :: (L + 1 + 1 + 1 + 1, o4) :: (L + 1 + 1 + 1, o3) :: (L + 1 + 1, o2') :: (L + 1, o1) :: (rl, LCg.lst rv) :: nw) → Off5 L ((rl, LCg.lst rv) :: nw) → (∀ p ∈ nw, p.1 ≠ rl) → o2'.data = .cell (some (.ref rl)) → IntsAre rv (perOf ns) →
      m' (Str.ofString "script") = some (.ref sl) → m' (Str.ofString "factors") = some (.ref fl) → wpD (model prog w) (callerA.deeper (lawEnv lawScope L fa cdv)) (execs (lawBody.drop 3) (lawEnv lawScope L fa cdv)) Q E { s with heap := h', toks := tk' }) :
    wpD (model prog w) (callerA.deeper (lawEnv scope L fa cdv)) (execs body (lawEnv scope L fa cdv)) Q E { s with heap := h, toks := tk } := by
  conv at hs => rhs; whnf
  conv at hb => rhs; whnf
  subst hs hb
  have F1 := fr_bind (fr_bind F0 r1) (x := Str.ofString "factors") (v := .ref fl) (by rw [if_neg (by decide)]; exact r2)
  clear F0
  refine D_execs_cons (D_Assign_Name (wpD_of_any ?_))
  try k_fold
  refine LCg.ListComp_U (F₀ := F1) (by rfl) (by decide) (by rfl) (by decide) (by rfl) ?_
  tb_start
  rename_i ll h2 l2 D1 ws1 h3 hI1 l3 D2 ws2 h4 F4 N4 hI2 hC2 hL2 l4
  have hlen2 : ws2.length = 6 := by rw [hI2.length]; simp
  have N4' : News h₀ L h4 ((L + 1 + 1 + 1 + 1 + 1, o5) :: (L + 1 + 1 + 1 + 1, o4) :: (L + 1 + 1 + 1, o3) :: (L + 1 + 1, o2) :: (L + 1, o1) :: (D2, W.listOf ws2.toArray 0) :: nw) := fun p hp => N4 p (by
    simp only [List.mem_cons] at hp ⊢
    rcases hp with hp | hp | hp | hp | hp | hp | hp <;> simp [hp])
  clear N4
  refine LCg.CompSrc.ledger (its := ws2.toArray) (k := 0) rfl F4 N4' (.tail _ (.tail _ (.tail _ (.tail _ (.tail _ (.head _)))))) (by rw [sizeLine_eq, List.size_toArray]; omega) fun g5 => ?_
  refine compRest_ind (n := ws2.toArray.size) (fun i ys nx => nx = (L + 1 + 1 + 1 + 1 + 1, o5) :: (L + 1 + 1 + 1 + 1, o4) :: (L + 1 + 1 + 1, o3) :: (L + 1 + 1, o2) :: (L + 1, o1) :: (D2, W.listOf ws2.toArray 0) :: nw ∧ IntsAre ys ((perOf ns).take i)) ⟨rfl, .nil⟩ ?_ ?_
  · rintro i ys nx hi ⟨rfl, hys⟩ v I oI C oC D m₂ h6 tk6 E' hv hC hx F6 N6 off ne
    obtain ⟨t7, rfl⟩ := hI2.int_at i v (by simpa using hv)
    tb_start
    rename_i t8 k8 t9 k9
    refine LCg.CompEnd.intro F6 N6 _ (fun p hp => hp) off (.inr ⟨_, .tail _ (.tail _ (.tail _ (.tail _ (.tail _ (.head _))))), rfl, 0, rfl⟩) ⟨rfl, ?_⟩
    have hi6 : i < 6 := by simp [hlen2] at hi; omega
    have hpl := perOf_len ns
    rw [← List.take_append_getElem (by omega : i < (perOf ns).length)]
    refine hys.append ?_
    have e : (perOf ns)[i]'(by omega) = 2 + (List.take 6 (ns ++ [2, 1, 4, 0, 3, 5])).getD i 0 % 4 := by
      have hq : i < (List.take 6 (ns ++ [2, 1, 4, 0, 3, 5])).length := by simp; omega
      simp only [perOf, List.getElem_map]
      rw [show (List.take 6 (ns ++ [2, 1, 4, 0, 3, 5])).getD i 0 = (List.take 6 (ns ++ [2, 1, 4, 0, 3, 5]))[i] by rw [List.getD_eq_getElem?_getD, List.getElem?_eq_getElem hq]; rfl]
    rw [e]
    exact .cons _ _ .nil
  · rintro ys nx ⟨rfl, hys⟩
    unfold LCg.FinE
    intro D h7 tk7 F7 N7 off7
    have hys6 : IntsAre ys (perOf ns) := by
      have : List.take ws2.toArray.size (perOf ns) = perOf ns := List.take_of_length_le (by rw [perOf_len]; simp [hlen2])
      rw [this] at hys
      exact hys
    have hD := off5_of1 off7
    have hof : ∀ p ∈ nw, p.1 ≠ D := fun p hp => off1_mem off7 p (.tail _ (.tail _ (.tail _ (.tail _ (.tail _ (.tail _ hp))))))
    have N8 : News h₀ L h7 ((L + 1 + 1 + 1 + 1 + 1, o5) :: (L + 1 + 1 + 1 + 1, o4) :: (L + 1 + 1 + 1, o3) :: (L + 1 + 1, o2) :: (L + 1, o1) :: (D, LCg.lst ys) :: nw) := fun p hp => N7 p (by
      simp only [List.mem_cons] at hp ⊢
      rcases hp with hp | hp | hp | hp | hp | hp | hp <;> simp [hp])
    have ho8 : Off5 L ((D, LCg.lst ys) :: nw) := hoff.cons hD
    refine storeX_C F7 N8 rfl (upd2 ho8) d2 (fun h9 o9 F9 N9 d9 => ?_) rfl rfl
    exact k _ _ _ D o9 ys F9 N9 ho8 hof d9 hys6 rfl rfl
/-! L3 -/
theorem fillFragL3 : True := by
  w_top off
  trivial
set_option maxHeartbeats 8000000 in
theorem seg3 {prog : Program} {w : World} {p : Program} {loose : List Str} {mean : ExcName → Option Value} {mg mb : Str → Option Value} {h₀ h : Heap} {L fa : Addr} {cdv : Value} {m0 : Str → Option Value} {s : Shared} {tk : Nat} {Q : Flow → Shared → Prop} {E : Value → Shared → Prop}
    {scope : Scope} {body : List Stmt} {o1 o2 o3 o4 o5 : Obj} {nw : List (Addr × Obj)} {sl fl tl : Addr} {sv : List Value} {ns : List Int} {tv : List Value} {ct f g hq : Nat} (hs : scope = lawScope) (hb : body = lawBody.drop 3)
    (T : Top p loose mean mg mb h₀) (X : (Mine.hd.heap_39 w.params).In h₀) (F0 : Fr h₀ L h m0) (r1 : m0 (Str.ofString "script") = some (.ref sl)) (r2 : m0 (Str.ofString "factors") = some (.ref fl)) (hsl : h₀.IsList sl sv.toArray) (hsi : IntsAre sv ns) (hnl : ns.length ≤ 63)
    (N0 : News h₀ L h ((L + 1 + 1 + 1 + 1 + 1, o5) :: (L + 1 + 1 + 1 + 1, o4) :: (L + 1 + 1 + 1, o3) :: (L + 1 + 1, o2) :: (L + 1, o1) :: nw)) (hoff : Off5 L nw) (d1 : o1.data = .cell (some (.ref tl))) (d3 : o3.data = .cell none) (kt : (tl, listOf tv.toArray ct) ∈ nw) (hti : IntsAre tv [(f : Int), ((f * g : Nat) : Int), ((f * g * hq : Nat) : Int)]) (h8 : 8 ≤ f * g * hq) (h27 : f * g * hq ≤ 27)
    (k : ∀ h' tk' m' dl o3' dv ds, Fr h₀ L h' m' → News h₀ L h' ((L + 1 + 1 + 1 + 1 + 1, o5) :: (L + 1 + 1 + 1 + 1, o4) :: (L + 1 + 1 + 1, o3') :: (L + 1 + 1, o2) :: (L + 1, o1) :: (dl, listOf dv.toArray 0) :: nw) → Off5 L ((dl, listOf dv.toArray 0) :: nw) → o3'.data = .cell (some (.ref dl)) → IntsAre dv ds → dv.length = f * g * hq →
      m' (Str.ofString "script") = some (.ref sl) → m' (Str.ofString "factors") = some (.ref fl) → wpD (model prog w) (callerA.deeper (lawEnv lawScope L fa cdv)) (execs (lawBody.drop 4) (lawEnv lawScope L fa cdv)) Q E { s with heap := h', toks := tk' }) :
    wpD (model prog w) (callerA.deeper (lawEnv scope L fa cdv)) (execs body (lawEnv scope L fa cdv)) Q E { s with heap := h, toks := tk } := by
  conv at hs => rhs; whnf
  conv at hb => rhs; whnf
  subst hs hb
  have F1 := fr_bind (fr_bind F0 r1) (x := Str.ofString "factors") (v := .ref fl) (by rw [if_neg (by decide)]; exact r2)
  clear F0
  have k1 : (L + 1, o1) ∈ (L + 1 + 1 + 1 + 1 + 1, o5) :: (L + 1 + 1 + 1 + 1, o4) :: (L + 1 + 1 + 1, o3) :: (L + 1 + 1, o2) :: (L + 1, o1) :: nw := .tail _ (.tail _ (.tail _ (.tail _ (.head _))))
  have k2 : (tl, listOf tv.toArray ct) ∈ (L + 1 + 1 + 1 + 1 + 1, o5) :: (L + 1 + 1 + 1 + 1, o4) :: (L + 1 + 1 + 1, o3) :: (L + 1 + 1, o2) :: (L + 1, o1) :: nw := .tail _ (.tail _ (.tail _ (.tail _ (.tail _ kt))))
  refine D_execs_cons (D_Assign_Name (wpD_of_any ?_))
  try k_fold
  tb_start
  refine range2_rows F1 N0 ?_
  intro h2 tk2 ra2 rb2 rc2 R2 F2 N2 _
  tb_start
  rename CarriedAll _ _ => hc3
  rename Fr _ _ _ _ => F3
  rename News _ _ _ _ => N3
  rename_i ys3 nm3 kp3 nn3 x3 pl3 mk3
  dsimp only at nn3 x3 pl3
  generalize h2.objs.size = D3 at *
  clear mk3
  have hI3 := IntsAre.ofCarried hc3
  clear hc3
  have hr27 : (rangeInts 100 1 (127 - 100 : Int).toNat).length = 27 := by decide +kernel
  generalize rangeInts 100 1 (127 - 100 : Int).toNat = r27 at *
  have hsg : (0 : Int) ≤ [(f : Int), ((f * g : Nat) : Int), ((f * g * hq : Nat) : Int)].getD (Int.toNat 2) 0 := Int.natCast_nonneg (f * g * hq)
  have hsl3 : ∀ {hh : Heap}, (∀ b o, h₀.get? b = some o → hh.get? b = some o) → hh.IsList sl sv.toArray := fun kk => by
    obtain ⟨ob, e, q⟩ := hsl
    exact ⟨ob, kk _ _ e, q⟩
  refine kmk_add_ints F3 N3 (hsl3 F3.keep) x3 hsi hI3 ?_ (by rw [sizeLine_eq]; omega)
  intro D4 ws4 h4 F4 N4 l4 hI4
  have k1 : (L + 1, o1) ∈ (D4, listOf ws4.toArray 0) :: (L + 1 + 1 + 1 + 1 + 1, o5) :: (L + 1 + 1 + 1 + 1, o4) :: (L + 1 + 1 + 1, o3) :: (L + 1 + 1, o2) :: (L + 1, o1) :: nw := .tail _ (.tail _ (.tail _ (.tail _ (.tail _ (.head _)))))
  have k2 : (tl, listOf tv.toArray ct) ∈ (D4, listOf ws4.toArray 0) :: (L + 1 + 1 + 1 + 1 + 1, o5) :: (L + 1 + 1 + 1 + 1, o4) :: (L + 1 + 1 + 1, o3) :: (L + 1 + 1, o2) :: (L + 1, o1) :: nw := .tail _ (.tail _ (.tail _ (.tail _ (.tail _ (.tail _ kt)))))
  tb_start
  rename_i t5 D5 ws5 h5 F5 N5 hI5 hC5 hL5 l5
  have e5 : ([(f : Int), ((f * g : Nat) : Int), ((f * g * hq : Nat) : Int)].getD 2 0).toNat = f * g * hq := Int.toNat_natCast _
  rw [e5] at hI5
  have hl5 : ws5.length = f * g * hq := by rw [hI5.length, List.length_take, List.length_append]; omega
  have ho5 : Off5 L ((D5, listOf ws5.toArray 0) :: nw) := hoff.cons ⟨Nat.ne_of_lt l5.2.2.2.2.2.1, Nat.ne_of_lt l5.2.2.2.2.1, Nat.ne_of_lt l5.2.2.2.1, Nat.ne_of_lt l5.2.2.1, Nat.ne_of_lt l5.2.1⟩
  have N6 : News h₀ L h5 ((L + 1 + 1 + 1 + 1 + 1, o5) :: (L + 1 + 1 + 1 + 1, o4) :: (L + 1 + 1 + 1, o3) :: (L + 1 + 1, o2) :: (L + 1, o1) :: (D5, listOf ws5.toArray 0) :: nw) := fun p hp => N5 p (by
    simp only [List.mem_cons] at hp ⊢
    rcases hp with hp | hp | hp | hp | hp | hp | hp <;> simp [hp])
  refine storeX_C F5 N6 rfl (upd3 ho5) d3 (fun h9 o9 F9 N9 d9 => ?_) rfl rfl
  exact k _ _ _ D5 o9 ws5 _ F9 N9 ho5 d9 hI5 hl5 rfl rfl
/-! L4 -/
theorem fillFragL4 : True := by
  w_top off
  trivial
set_option maxHeartbeats 8000000 in
theorem seg4 {prog : Program} {w : World} {p : Program} {loose : List Str} {mean : ExcName → Option Value} {mg mb : Str → Option Value} {h₀ h : Heap} {L fa : Addr} {cdv : Value} {m0 : Str → Option Value} {s : Shared} {tk : Nat} {Q : Flow → Shared → Prop} {E : Value → Shared → Prop}
    {scope : Scope} {body : List Stmt} {o1 o2 o3 o4 o5 : Obj} {nw : List (Addr × Obj)} {sl fl tl dl : Addr} {tv dv : List Value} {ds : List Int} {ct f g hq : Nat} (hs : scope = lawScope) (hb : body = lawBody.drop 4)
    (T : Top p loose mean mg mb h₀) (X : (Mine.hd.heap_39 w.params).In h₀) (F0 : Fr h₀ L h m0) (r1 : m0 (Str.ofString "script") = some (.ref sl)) (r2 : m0 (Str.ofString "factors") = some (.ref fl))
    (N0 : News h₀ L h ((L + 1 + 1 + 1 + 1 + 1, o5) :: (L + 1 + 1 + 1 + 1, o4) :: (L + 1 + 1 + 1, o3) :: (L + 1 + 1, o2) :: (L + 1, o1) :: nw)) (d1 : o1.data = .cell (some (.ref tl))) (d3 : o3.data = .cell (some (.ref dl))) (kt : (tl, listOf tv.toArray ct) ∈ nw) (hti : IntsAre tv [(f : Int), ((f * g : Nat) : Int), ((f * g * hq : Nat) : Int)]) (h27 : f * g * hq ≤ 27)
    (kd : (dl, listOf dv.toArray 0) ∈ nw) (hdi : IntsAre dv ds) (hdl : dv.length = f * g * hq)
    (k : ∀ h' tk' m' (d : List UInt8) t', Fr h₀ L h' m' → News h₀ L h' ((L + 1 + 1 + 1 + 1 + 1, o5) :: (L + 1 + 1 + 1 + 1, o4) :: (L + 1 + 1 + 1, o3) :: (L + 1 + 1, o2) :: (L + 1, o1) :: nw) → d.length = f * g * hq → m' (Str.ofString "octets") = some (.bytes d.toArray t') →
      m' (Str.ofString "script") = some (.ref sl) → m' (Str.ofString "factors") = some (.ref fl) → wpD (model prog w) (callerA.deeper (lawEnv lawScope L fa cdv)) (execs (lawBody.drop 5) (lawEnv lawScope L fa cdv)) Q E { s with heap := h', toks := tk' }) :
    wpD (model prog w) (callerA.deeper (lawEnv scope L fa cdv)) (execs body (lawEnv scope L fa cdv)) Q E { s with heap := h, toks := tk } := by
  conv at hs => rhs; whnf
  conv at hb => rhs; whnf
  subst hs hb
  have F1 := fr_bind (fr_bind F0 r1) (x := Str.ofString "factors") (v := .ref fl) (by rw [if_neg (by decide)]; exact r2)
  clear F0
  have k1 : (L + 1, o1) ∈ (L + 1 + 1 + 1 + 1 + 1, o5) :: (L + 1 + 1 + 1 + 1, o4) :: (L + 1 + 1 + 1, o3) :: (L + 1 + 1, o2) :: (L + 1, o1) :: nw := .tail _ (.tail _ (.tail _ (.tail _ (.head _))))
  have k2 : (tl, listOf tv.toArray ct) ∈ (L + 1 + 1 + 1 + 1 + 1, o5) :: (L + 1 + 1 + 1 + 1, o4) :: (L + 1 + 1 + 1, o3) :: (L + 1 + 1, o2) :: (L + 1, o1) :: nw := .tail _ (.tail _ (.tail _ (.tail _ (.tail _ kt))))
  refine D_execs_cons (D_Assign_Name (wpD_of_any ?_))
  try k_fold
  tb_start
  refine LCg.ListComp_U (F₀ := F1) (by rfl) (by decide) (by rfl) (by decide) (by rfl) ?_
  tb_start
  have e3 : [(f : Int), ((f * g : Nat) : Int), ((f * g * hq : Nat) : Int)].getD (Int.toNat 2) 0 = ((f * g * hq : Nat) : Int) := rfl
  rw [e3]
  generalize f * g * hq = n3 at *
  refine range1_rows F1 N0 ?_
  intro h2 tk2 ra2 rb2 rc2 R2 F2 N2 _
  tb_start
  clear F1 N0
  refine LCg.CompSrc.range (n := n3) rfl F2 N2 R2 (small_one (by omega) (by omega) (by omega) (by omega)) (by rw [rangeSize_nat]; simp) (by rw [sizeLine_eq]; omega) fun g3 => ?_
  have hds : ds.length = n3 := by rw [← hdi.length]; exact hdl
  refine compRest_ind (fun i ys nx => nx = (L + 1 + 1 + 1 + 1 + 1, o5) :: (L + 1 + 1 + 1 + 1, o4) :: (L + 1 + 1 + 1, o3) :: (L + 1 + 1, o2) :: (L + 1, o1) :: nw ∧ ∃ zs : List Int, IntsAre ys zs ∧ ys.length = i ∧ ∀ z ∈ zs, 0 ≤ z ∧ z < 256) ⟨rfl, [], .nil, rfl, fun z hz => nomatch hz⟩ ?_ ?_
  · rintro i ys nx hi ⟨rfl, zs, hz, hyl, hr⟩ v I oI C oC D m₂ h6 tk6 E' ⟨t7, rfl⟩ hC hx F6 N6 off ne
    have k3 : (L + 1 + 1 + 1, o3) ∈ (I, oI) :: (C, oC) :: (D, LCg.lst ys) :: (L + 1 + 1 + 1 + 1 + 1, o5) :: (L + 1 + 1 + 1 + 1, o4) :: (L + 1 + 1 + 1, o3) :: (L + 1 + 1, o2) :: (L + 1, o1) :: nw := .tail _ (.tail _ (.tail _ (.tail _ (.tail _ (.head _)))))
    have k4 : (dl, listOf dv.toArray 0) ∈ (I, oI) :: (C, oC) :: (D, LCg.lst ys) :: (L + 1 + 1 + 1 + 1 + 1, o5) :: (L + 1 + 1 + 1 + 1, o4) :: (L + 1 + 1 + 1, o3) :: (L + 1 + 1, o2) :: (L + 1, o1) :: nw := .tail _ (.tail _ (.tail _ (.tail _ (.tail _ (.tail _ (.tail _ (.tail _ kd)))))))
    tb_start
    refine LCg.CompEnd.intro F6 N6 _ (fun p hp => hp) off trivial ⟨rfl, zs ++ [_], hz.append (.cons _ _ .nil), by simp [hyl], fun z hz' => ?_⟩
    rcases List.mem_append.mp hz' with hz' | hz'
    · exact hr z hz'
    · rw [List.mem_singleton.mp hz']
      omega
  · rintro ys nx ⟨rfl, zs, hz, hyl, hr⟩
    unfold LCg.FinE
    intro D h7 tk7 F7 N7 off7
    tb_start
    rename Fr _ _ _ _ => F8
    rename News _ _ _ _ => N8
    dsimp only
    exact k _ _ _ (zs.map fun n => n.toNat.toUInt8) _ F8 (fun p hp => N8 p (.tail _ hp)) (by rw [List.length_map, ← hz.length]; exact hyl) rfl rfl rfl
/-! L5 -/
theorem fillFragL5 : True := by
  w_top off
  trivial
set_option maxHeartbeats 8000000 in
theorem seg5 {prog : Program} {w : World} {p : Program} {loose : List Str} {mean : ExcName → Option Value} {mg mb : Str → Option Value} {h₀ h : Heap} {L fa : Addr} {cdv : Value} {m0 : Str → Option Value} {s : Shared} {tk : Nat} {Q : Flow → Shared → Prop} {E : Value → Shared → Prop}
    {scope : Scope} {body : List Stmt} {o1 o2 o3 o4 o5 : Obj} {nw : List (Addr × Obj)} {sl fl : Addr} {sv : List Value} {ns : List Int} {d : List UInt8} {td : Tok} (hs : scope = lawScope) (hb : body = lawBody.drop 5)
    (T : Top p loose mean mg mb h₀) (X : (Mine.hd.heap_39 w.params).In h₀) (F0 : Fr h₀ L h m0) (r1 : m0 (Str.ofString "script") = some (.ref sl)) (r2 : m0 (Str.ofString "factors") = some (.ref fl)) (r3 : m0 (Str.ofString "octets") = some (.bytes d.toArray td)) (hsl : h₀.IsList sl sv.toArray) (hsi : IntsAre sv ns) (hnl : ns.length ≤ 63)
    (N0 : News h₀ L h ((L + 1 + 1 + 1 + 1 + 1, o5) :: (L + 1 + 1 + 1 + 1, o4) :: (L + 1 + 1 + 1, o3) :: (L + 1 + 1, o2) :: (L + 1, o1) :: nw)) (hoff : Off5 L nw) (d4 : o4.data = .cell none)
    (k : ∀ h' tk' m' o4' last t', Fr h₀ L h' m' → News h₀ L h' ((L + 1 + 1 + 1 + 1 + 1, o5) :: (L + 1 + 1 + 1 + 1, o4') :: (L + 1 + 1 + 1, o3) :: (L + 1 + 1, o2) :: (L + 1, o1) :: nw) → 5 ≤ last → last ≤ 8 → o4'.data = .cell (some (.int last t')) → m' (Str.ofString "octets") = some (.bytes d.toArray td) →
      m' (Str.ofString "factors") = some (.ref fl) → wpD (model prog w) (callerA.deeper (lawEnv lawScope L fa cdv)) (execs (lawBody.drop 6) (lawEnv lawScope L fa cdv)) Q E { s with heap := h', toks := tk' }) :
    wpD (model prog w) (callerA.deeper (lawEnv scope L fa cdv)) (execs body (lawEnv scope L fa cdv)) Q E { s with heap := h, toks := tk } := by
  conv at hs => rhs; whnf
  conv at hb => rhs; whnf
  subst hs hb
  have F1 := fr_bind (fr_bind (fr_bind F0 r1) (x := Str.ofString "factors") (v := .ref fl) (by rw [if_neg (by decide)]; exact r2)) (x := Str.ofString "octets") (v := .bytes d.toArray td) (by rw [if_neg (by decide), if_neg (by decide)]; exact r3)
  clear F0
  refine D_execs_cons (D_Assign_Name (wpD_of_any ?_))
  try k_fold
  tb_start
  rename Fr _ _ _ _ => F2
  rename News _ _ _ _ => N2
  refine storeX_C F2 N2 rfl (upd4 hoff) d4 (fun h9 o9 F9 N9 d9 => ?_) rfl rfl
  exact k _ _ _ o9 _ _ F9 N9 (by omega) (by omega) d9 rfl rfl
/-! L6 -/
theorem fillFragL6 : True := by
  w_top off
  trivial
section
variable {M : Model} {A : Around} {E : Value → Shared → Prop} {s : Shared} {env : Env}
theorem D_Assign_Tuple {elts k tpos value pos} {Q : Flow → Shared → Prop}
    (h : wpD M A (eval value env) (fun v s₁ => wpAny M A (assign (.Tuple elts k tpos) env v) (fun _ => Q .next) E s₁) E s)
    (hs : swapsWithSole [.Tuple elts k tpos] value pos.line env = pure false := by rfl)
    (hw : swappedStores [.Tuple elts k tpos] value env = pure none := by rfl) :
    wpD M A (exec (.Assign [.Tuple elts k tpos] value pos) env) Q E s := by
  rw [PyProof.Rows.exec_Assign]
  refine wpD_bindA (wpAny_standAt ?_)
  rw [hs]
  refine wpD_bind (wpD_pure ?_)
  rw [if_neg (by decide)]
  refine wpD_bind (wpD_mono h (fun v s₁ h₁ => ?_) fun _ _ x => x)
  rw [hw]
  refine wpD_bind (wpD_pure ?_)
  show wpD M A (do assignAll v [assign (.Tuple elts k tpos) env]; pure .next) Q E s₁
  exact wpD_of_any (wpAny_bind (wpAny_mono h₁ (fun _ _ x => wpAny_pure x) fun _ _ x => x))
end
/-- the ledger without law's cells -/
def sans (L : Addr) (nw : List (Addr × Obj)) : List (Addr × Obj) := nw.filter fun p => decide (p.1 ≠ L + 1 ∧ p.1 ≠ L + 1 + 1 ∧ p.1 ≠ L + 1 + 1 + 1 ∧ p.1 ≠ L + 1 + 1 + 1 + 1 ∧ p.1 ≠ L + 1 + 1 + 1 + 1 + 1)
theorem sans_off (L : Addr) (nw : List (Addr × Obj)) : Off5 L (sans L nw) := fun p hp => of_decide_eq_true (List.mem_filter.mp hp).2
theorem sans_sub {L : Addr} {nw : List (Addr × Obj)} : ∀ p ∈ sans L nw, p ∈ nw := fun p hp => (List.mem_filter.mp hp).1
theorem sans_old {L : Addr} {nw nx : List (Addr × Obj)} (h : Off5 L nw) (hx : ∀ p ∈ nw, p ∈ nx) : ∀ p ∈ nw, p ∈ sans L nx := fun p hp => List.mem_filter.mpr ⟨hx p hp, decide_eq_true (h p hp)⟩
theorem sans_seq {h₀ h : Heap} {L a : Addr} {nx : List (Addr × Obj)} {o1 o2 o3 o4 o5 o : Obj} {v1 v2 v3 v4 v5 : Option Value} {xs : Array Value} {n : Nat} (N : News h₀ L h nx) (c1 : (L + 1, o1) ∈ nx) (c2 : (L + 1 + 1, o2) ∈ nx) (c3 : (L + 1 + 1 + 1, o3) ∈ nx) (c4 : (L + 1 + 1 + 1 + 1, o4) ∈ nx) (c5 : (L + 1 + 1 + 1 + 1 + 1, o5) ∈ nx)
    (d1 : o1.data = .cell v1) (d2 : o2.data = .cell v2) (d3 : o3.data = .cell v3) (d4 : o4.data = .cell v4) (d5 : o5.data = .cell v5) (hm : (a, o) ∈ nx) (hd : o.data = .seq xs n) : (a, o) ∈ sans L nx := by
  have no : ∀ {c : Addr} {oc : Obj} {v : Option Value}, (c, oc) ∈ nx → oc.data = .cell v → a ≠ c := fun {c oc v} hc hv e => by
    subst e
    have h1 := (N _ hm).1
    have h2 := (N _ hc).1
    dsimp only at h1 h2
    rw [h1] at h2
    cases h2
    rw [hd] at hv
    cases hv
  exact List.mem_filter.mpr ⟨hm, decide_eq_true ⟨no c1 d1, no c2 d2, no c3 d3, no c4 d4, no c5 d5⟩⟩
set_option maxHeartbeats 8000000 in
theorem seg6 {prog : Program} {w : World} {p : Program} {loose : List Str} {mean : ExcName → Option Value} {mg mb : Str → Option Value} {h₀ h : Heap} {L fa : Addr} {cdv : Value} {m0 : Str → Option Value} {s : Shared} {tk : Nat} {Q : Flow → Shared → Prop} {E : Value → Shared → Prop}
    {scope : Scope} {body : List Stmt} {o1 o2 o3 o4 o5 : Obj} {nw : List (Addr × Obj)} {fl tl rl dl : Addr} {d : List UInt8} {td tla : Tok} {tv rv : List Value} {ct f g hq : Nat} {ns : List Int} {last : Int} (hs : scope = lawScope) (hb : body = lawBody.drop 6)
    (T : Top p loose mean mg mb h₀) (X : (Mine.hd.heap_39 w.params).In h₀) (F0 : Fr h₀ L h m0) (r2 : m0 (Str.ofString "factors") = some (.ref fl)) (r3 : m0 (Str.ofString "octets") = some (.bytes d.toArray td))
    (N0 : News h₀ L h ((L + 1 + 1 + 1 + 1 + 1, o5) :: (L + 1 + 1 + 1 + 1, o4) :: (L + 1 + 1 + 1, o3) :: (L + 1 + 1, o2) :: (L + 1, o1) :: nw)) (hoff : Off5 L nw) (d1 : o1.data = .cell (some (.ref tl))) (d2 : o2.data = .cell (some (.ref rl))) (d3 : o3.data = .cell (some (.ref dl))) (d4 : o4.data = .cell (some (.int last tla))) (d5 : o5.data = .cell none)
    (kt : (tl, listOf tv.toArray ct) ∈ nw) (hti : IntsAre tv [(f : Int), ((f * g : Nat) : Int), ((f * g * hq : Nat) : Int)]) (kr : (rl, LCg.lst rv) ∈ nw) (hri : IntsAre rv (perOf ns)) (hf : f = 2 ∨ f = 3) (hg : g = 2 ∨ g = 3) (hh : hq = 2 ∨ hq = 3) (hd : d.length = f * g * hq) (hl5 : 5 ≤ last) (hl8 : last ≤ 8)
    (k : ∀ h' tk' m' o5' nx hl rg (as told : List Addr) (tup : Addr → T3) c' row t' cn, Fr h₀ L h' m' → News h₀ L h' ((L + 1 + 1 + 1 + 1 + 1, o5') :: (L + 1 + 1 + 1 + 1, o4) :: (L + 1 + 1 + 1, o3) :: (L + 1 + 1, o2) :: (L + 1, o1) :: nx) → Off5 L nx → (∀ p ∈ nw, p ∈ nx) → (rg, lstR told c') ∈ nx → (hl, lstR as 6) ∈ nx → Tups tup as nx → Tups tup told nx → as.length = 6 →
      RI (fun k => (perOf ns).getD k 0) (fun j => [(f : Int), ((f * g : Nat) : Int), ((f * g * hq : Nat) : Int)].getD j 0) last (told.map fun a => (tup a).key) (as.map fun a => (tup a).key) cn → row = rowOf d f g hq cn → (∀ k, k < 6 → (cn k : Int) = last / (perOf ns).getD k 0 + 1) → o5'.data = .cell (some (.ref hl)) →
      m' (Str.ofString "octets") = some (.bytes d.toArray td) → m' (Str.ofString "factors") = some (.ref fl) → m' (Str.ofString "text") = some (.bytes row.toArray t') → m' (Str.ofString "rings") = some (.ref rg) → wpD (model prog w) (callerA.deeper (lawEnv lawScope L fa cdv)) (execs (lawBody.drop 7) (lawEnv lawScope L fa cdv)) Q E { s with heap := h', toks := tk' }) :
    wpD (model prog w) (callerA.deeper (lawEnv scope L fa cdv)) (execs body (lawEnv scope L fa cdv)) Q E { s with heap := h, toks := tk } := by
  conv at hs => rhs; whnf
  conv at hb => rhs; whnf
  subst hs hb
  have F1 := fr_bind (fr_bind F0 r2) (x := Str.ofString "octets") (v := .bytes d.toArray td) (by rw [if_neg (by decide)]; exact r3)
  clear F0
  have k1 : (L + 1, o1) ∈ (L + 1 + 1 + 1 + 1 + 1, o5) :: (L + 1 + 1 + 1 + 1, o4) :: (L + 1 + 1 + 1, o3) :: (L + 1 + 1, o2) :: (L + 1, o1) :: nw := .tail _ (.tail _ (.tail _ (.tail _ (.head _))))
  have k2 : (L + 1 + 1, o2) ∈ (L + 1 + 1 + 1 + 1 + 1, o5) :: (L + 1 + 1 + 1 + 1, o4) :: (L + 1 + 1 + 1, o3) :: (L + 1 + 1, o2) :: (L + 1, o1) :: nw := .tail _ (.tail _ (.tail _ (.head _)))
  have k3 : (L + 1 + 1 + 1, o3) ∈ (L + 1 + 1 + 1 + 1 + 1, o5) :: (L + 1 + 1 + 1 + 1, o4) :: (L + 1 + 1 + 1, o3) :: (L + 1 + 1, o2) :: (L + 1, o1) :: nw := .tail _ (.tail _ (.head _))
  have k4 : (L + 1 + 1 + 1 + 1, o4) ∈ (L + 1 + 1 + 1 + 1 + 1, o5) :: (L + 1 + 1 + 1 + 1, o4) :: (L + 1 + 1 + 1, o3) :: (L + 1 + 1, o2) :: (L + 1, o1) :: nw := .tail _ (.head _)
  have k5 : (L + 1 + 1 + 1 + 1 + 1, o5) ∈ (L + 1 + 1 + 1 + 1 + 1, o5) :: (L + 1 + 1 + 1 + 1, o4) :: (L + 1 + 1 + 1, o3) :: (L + 1 + 1, o2) :: (L + 1, o1) :: nw := .head _
  have S : Sizes d f g hq (fun j => [(f : Int), ((f * g : Nat) : Int), ((f * g * hq : Nat) : Int)].getD j 0) := ⟨hf, hg, hh, by rw [hd, Nat.mul_assoc], rfl, rfl, rfl⟩
  have P := S.pw (p := fun k => (perOf ns).getD k 0) (fun k hk => perOf_is ns hk)
  refine D_execs_cons (D_Assign_Tuple (D_Call_K (K := Mine.hd.heap_39 w.params) (f := .ref 54) ?_ ?_))
  · k_is
  try k_fold
  tb_start
  refine rung_c (ws := [(f : Int), ((f * g : Nat) : Int), ((f * g * hq : Nat) : Int)]) (ps := perOf ns) (wl := tl) (pl := rl) (c1 := ct) (c2 := rv.length) (below_caller h₀) F1 X N0 T (deeper_frames rfl) rfl rfl rfl rfl (by simp only [depth_deeper]; decide) (by simp only [units_deeper]; decide)
    (.tail _ (.tail _ (.tail _ (.tail _ (.tail _ kt))))) hti rfl (show (rl, listOf rv.toArray rv.length) ∈ _ from .tail _ (.tail _ (.tail _ (.tail _ (.tail _ kr))))) hri (perOf_len ns) (LoopI (fun k => (perOf ns).getD k 0) (fun j => [(f : Int), ((f * g : Nat) : Int), ((f * g * hq : Nat) : Int)].getD j 0) last d f g hq)
    (fun as tup h6 hk => loop_init S P hl5 h6 hk) (fun row told hk H => loop_has S P H) (fun row told as tup x hr w b h6 H ht hle _ hx => loop_step S P h6 H ht hle hx) ?_
  intro h2 tk2 row t2 as told tup r hl rg c' nx F2 N2 m1 m2 m3 m4 m5 m6 m7 m8 m9 m10
  obtain ⟨cn, R, hrow⟩ := m9
  have hsh := R.short P hl8
  rw [List.length_map] at hsh
  have hdn := R.done P (fun x => m10 ⟨x, hsh⟩)
  have j1 := m6 _ k1
  have j2 := m6 _ k2
  have j3 := m6 _ k3
  have j4 := m6 _ k4
  have j5 := m6 _ k5
  have sq : ∀ {a : Addr} {o : Obj} {xs : Array Value} {n : Nat}, (a, o) ∈ nx → o.data = .seq xs n → (a, o) ∈ sans L nx := fun hm hd => sans_seq N2 j1 j2 j3 j4 j5 d1 d2 d3 d4 d5 hm hd
  have N3 : News h₀ L h2 ((L + 1 + 1 + 1 + 1 + 1, o5) :: (L + 1 + 1 + 1 + 1, o4) :: (L + 1 + 1 + 1, o3) :: (L + 1 + 1, o2) :: (L + 1, o1) :: sans L nx) := fun p hp => by
    simp only [List.mem_cons] at hp
    rcases hp with rfl | rfl | rfl | rfl | rfl | hp
    · exact N2 _ j5
    · exact N2 _ j4
    · exact N2 _ j3
    · exact N2 _ j2
    · exact N2 _ j1
    · exact N2 _ (sans_sub p hp)
  refine unpackN_ F2 N3 (News.isTup (items := #[.bytes row.toArray t2, .ref rg, .ref hl]) N2 m1) rfl rfl rfl ?_
  intro h4 F4 N4
  tb_start
  rename Fr _ _ _ _ => F5
  rename News _ _ _ _ => N5
  refine storeX_C F5 N5 rfl (upd5 (sans_off L nx)) d5 (fun h9 o9 F9 N9 d9 => ?_) rfl rfl
  tb_start
  dsimp only
  exact k _ _ _ o9 (sans L nx) hl rg as told tup c' row t2 cn F9 N9 (sans_off L nx) (sans_old hoff fun p hp => m6 p (.tail _ (.tail _ (.tail _ (.tail _ (.tail _ hp)))))) (sq m2 rfl) (sq m3 rfl) (fun a ha => sq (m4 a ha) rfl) (fun a ha => sq (m5 a ha) rfl) m7 R hrow hdn d9 rfl rfl rfl rfl
/-! S3 -/
abbrev Inc (l : List K3) : Prop := l.Pairwise (fun x y => code x < code y)
theorem inc_eq : ∀ {l l' : List K3}, Inc l → Inc l' → (∀ x, x ∈ l ↔ x ∈ l') → l = l'
  | [], [], _, _, _ => rfl
  | [], b :: _, _, _, h => absurd ((h b).mpr (.head _)) (by simp)
  | a :: _, [], _, _, h => absurd ((h a).mp (.head _)) (by simp)
  | a :: t, b :: t', h1, h2, h => by
    obtain ⟨a1, a2⟩ := List.pairwise_cons.mp h1
    obtain ⟨b1, b2⟩ := List.pairwise_cons.mp h2
    have e : a = b := by
      rcases List.mem_cons.mp ((h a).mp (.head _)) with e | e
      · exact e
      · rcases List.mem_cons.mp ((h b).mpr (.head _)) with e' | e'
        · exact e'.symm
        · have := b1 a e
          have := a1 b e'
          omega
    subst e
    congr 1
    refine inc_eq a2 b2 fun x => ⟨fun hx => ?_, fun hx => ?_⟩
    · rcases List.mem_cons.mp ((h x).mp (.tail _ hx)) with e | e
      · subst e
        have := a1 x hx
        omega
      · exact e
    · rcases List.mem_cons.mp ((h x).mpr (.tail _ hx)) with e | e
      · subst e
        have := b1 x hx
        omega
      · exact e
theorem inj_of {as : List Addr} {tup : Addr → T3} (hb : ∀ a ∈ as, Bd (tup a).key) (hn : (as.map fun a => (tup a).key).Nodup) : ∀ i j, i < as.length → j < as.length → code (tup (as.getD i 0)).key = code (tup (as.getD j 0)).key → i = j := by
  intro i j hi hj e
  have ei : as.getD i 0 = as[i] := by simp [hi]
  have ej : as.getD j 0 = as[j] := by simp [hj]
  rw [ei, ej] at e
  have e2 := code_inj (hb _ (List.getElem_mem hi)) (hb _ (List.getElem_mem hj)) e
  have nd := List.pairwise_iff_getElem.mp hn
  have li : i < (as.map fun a => (tup a).key).length := by simpa using hi
  have lj : j < (as.map fun a => (tup a).key).length := by simpa using hj
  rcases Nat.lt_trichotomy i j with h | h | h
  · exact absurd (by simpa using e2) (nd i j li lj h)
  · exact h
  · exact absurd (by simpa using e2.symm) (nd j i lj li h)
theorem nodup_map_of {α β : Type} {f : α → β} {l : List α} (hl : l.Nodup) (hf : ∀ a ∈ l, ∀ b ∈ l, f a = f b → a = b) : (l.map f).Nodup := by
  unfold List.Nodup
  rw [List.pairwise_map]
  exact List.Pairwise.imp_of_mem (fun ha hb h e => h (hf _ ha _ hb e)) hl
theorem bells_nodup (p ws : Nat → Int) (cn : Nat → Nat) : (bells p ws cn).Nodup := by
  refine nodup_map_of List.nodup_range fun a _ b _ e => ?_
  have : (a : Int) = (b : Int) := congrArg (fun t : K3 => t.2.2) e
  omega
theorem inc_map {as : List Addr} {tup : Addr → T3} (h : as.Pairwise (fun a b => code (tup a).key < code (tup b).key)) : Inc (as.map fun a => (tup a).key) := by
  unfold Inc
  rw [List.pairwise_map]
  exact h
/-! C2 -/
/-! a list comprehension of two clauses -/
abbrev lc2 (elt : PySem.Expr) (t1 i1 t2 i2 : PySem.Expr) (scope : Scope) (pos : Pos) : PySem.Expr := .ListComp elt [⟨t1, i1, [], 0⟩, ⟨t2, i2, [], 0⟩] scope pos
section
variable {prog : Program} {w : World} {A : Around} {R : Result → Shared → Prop} {s : Shared} {elt t1 i1 t2 i2 : PySem.Expr} {scope : Scope} {pos : Pos} {it acc : Value} {env : Env}
theorem loop1_lc2 (I : Nat → Shared → Prop)
    (turn : ∀ n s, I n s → wpAny (model prog w) A (pyNext it) (fun r s₁ => match r with
      | none => R (.ok .next) s₁
      | some v => wpAny (model prog w) A (assign t2 env v) (fun _ s₂ => wpAny (model prog w) A (eval elt env) (fun x s₄ =>
          wpAny (model prog w) A (call (.builtin "list.append") [acc, x]) (fun _ s₅ => ∃ m, m < n ∧ I m s₅) (notedBy (model prog w) A env fun e s' => R (.error e) s') s₄) (notedBy (model prog w) A env fun e s' => R (.error e) s') s₂) (notedBy (model prog w) A env fun e s' => R (.error e) s') s₁) (notedBy (model prog w) A env fun e s' => R (.error e) s') s)
    (n : Nat) (h : I n s) (ht : ∀ v, letOwnedTupleGo t2 it v = pure () := by intro _; rfl) :
    codeAny (model prog w) A (.compLoop (lc2 elt t1 i1 t2 i2 scope pos) 1 it acc env) R s := by
  refine codeAny_loop rfl I (fun n s hI => ?_) n h
  show wpAny _ A ((compTurn (lc2 elt t1 i1 t2 i2 scope pos) 1 it acc env).onRaise (fun x => do noteFrame x env; theTreesLotGoes x)) _ _ s
  refine wpAny_noted ?_
  unfold compTurn
  refine wpAny_bind (wpAny_standAt (wpAny_bind (wpAny_mono (turn n s hI) (fun r s₁ h₁ => ?_) fun _ _ h' => h')))
  cases r with
  | none => exact wpAny_pure h₁
  | some v =>
    refine wpAny_bind (wpAny_of_eq (ht v) ?_)
    refine wpAny_bind (wpAny_mono h₁ (fun _ s₂ h₂ => wpAny_bind (wpAny_tests_nil ?_)) fun _ _ h' => h')
    exact wpAny_bind (wpAny_bind (wpAny_mono h₂ (fun x s₄ h₄ => wpAny_bind (wpAny_mono h₄ (fun _ s₅ h₅ => wpAny_pure (wpAny_pure ⟨rfl, h₅⟩)) fun _ _ h' => h')) fun _ _ h' => h'))
theorem loop0_lc2 (I : Nat → Shared → Prop)
    (turn : ∀ n s, I n s → wpAny (model prog w) A (pyNext it) (fun r s₁ => match r with
      | none => R (.ok .next) s₁
      | some v => wpAny (model prog w) A (assign t1 env v) (fun _ s₂ => wpAny (model prog w) A (eval i2 env) (fun x s₃ => wpAny (model prog w) A (pyIter x) (fun it2 s₄ =>
          codeAny (model prog w) A (.compStart (lc2 elt t1 i1 t2 i2 scope pos) 1 it2 acc env) (fun r' s' => match r' with | .ok _ => ∃ m, m < n ∧ I m s' | .error e => cameBackBy (model prog w) A env (notedBy (model prog w) A env fun e s' => R (.error e) s') e s') s₄)
          (notedBy (model prog w) A env fun e s' => R (.error e) s') s₃) (notedBy (model prog w) A env fun e s' => R (.error e) s') s₂) (notedBy (model prog w) A env fun e s' => R (.error e) s') s₁) (notedBy (model prog w) A env fun e s' => R (.error e) s') s)
    (n : Nat) (h : I n s) (hs : ∀ x, foldedSetIterable i2 env x = pure x) (ht : ∀ v, letOwnedTupleGo t1 it v = pure () := by intro _; rfl) :
    codeAny (model prog w) A (.compLoop (lc2 elt t1 i1 t2 i2 scope pos) 0 it acc env) R s := by
  refine codeAny_loop rfl I (fun n s hI => ?_) n h
  show wpAny _ A ((compTurn (lc2 elt t1 i1 t2 i2 scope pos) 0 it acc env).onRaise (fun x => do noteFrame x env; theTreesLotGoes x)) _ _ s
  refine wpAny_noted ?_
  unfold compTurn
  refine wpAny_bind (wpAny_standAt (wpAny_bind (wpAny_mono (turn n s hI) (fun r s₁ h₁ => ?_) fun _ _ h' => h')))
  cases r with
  | none => exact wpAny_pure h₁
  | some v =>
    refine wpAny_bind (wpAny_of_eq (ht v) ?_)
    refine wpAny_bind (wpAny_mono h₁ (fun _ s₂ h₂ => wpAny_bind (wpAny_tests_nil ?_)) fun _ _ h' => h')
    refine wpAny_bind (wpAny_mono h₂ (fun x s₃ h₃ => wpAny_bind (wpAny_standAt (wpAny_bind (wpAny_of_eq (hs x) (wpAny_bind (wpAny_holding (wpAny_mono h₃ (fun it2 s₄ h₄ => ?_) fun _ _ h' => h'))))))) fun _ _ h' => h')
    refine wpAny_bind (wpAny_runOwn (h := none) (codeAny_mono h₄ fun r' s' q => ?_))
    cases r' with
    | ok f => exact wpAny_pure ⟨rfl, q⟩
    | error e => exact q
theorem start1_lc2
    (h0 : codeAny (model prog w) A (.compLoop (lc2 elt t1 i1 t2 i2 scope pos) 1 it acc env) R s)
    (h : wpAny (model prog w) A (pyIter it) (fun it' s' => codeAny (model prog w) A (.compLoop (lc2 elt t1 i1 t2 i2 scope pos) 1 it' acc env) R s')
      (notedBy (model prog w) A env fun x s' => R (.error x) s') s) :
    codeAny (model prog w) A (.compStart (lc2 elt t1 i1 t2 i2 scope pos) 1 it acc env) R s := by
  refine codeAny_of_tree ?_
  show wpAny _ _ ((compStart (lc2 elt t1 i1 t2 i2 scope pos) 1 it acc env).onRaise (fun x => do noteFrame x env; standAt theWindowsPlace)) _ _ s
  refine wpAny_notedAt ?_
  unfold compStart
  show wpAny _ _ (ask >>= _) _ _ s
  refine wpAny_bind (wpAny_askSetting (wpAny_ite ?_))
  split
  · first
      | exact wpAny_bind (wpAny_pure (wpAny_pure (And.intro rfl h0)))
      | exact wpAny_pure (And.intro rfl h0)
  · first
      | exact wpAny_bind (wpAny_rule (wpAny_bind (wpAny_standAt (wpAny_bind (wpAny_mono h (fun it' s' h' => wpAny_pure (And.intro rfl h')) fun _ _ x => x)))))
      | (refine wpAny_bind (wpAny_rule ?_); show wpAny _ _ (standAt i2.pos >>= _) _ _ s; exact wpAny_bind (wpAny_standAt (wpAny_bind (wpAny_mono h (fun it' s' h' => wpAny_pure (And.intro rfl h')) fun _ _ x => x))))
end
/-! C3 -/
section
variable {prog : Program} {w : World} {A : Around} {R : Result → Shared → Prop} {h₀ : Heap} {L : Addr} {m : Str → Option Value} {env : Env} {elt i1 i2 : PySem.Expr} {x1 x2 : Str} {p1 p2 : Pos} {scope : Scope} {cl : List (Str × Addr)} {pos : Pos} {s₂ : Shared}
/-- the inner clause's turns -/
theorem inner_lc2 {I C D : Addr} {a : Int} {n : Nat} {v1 : Value} (S : List (Addr × Obj) → Prop) (Inv : Nat → List Value → List (Addr × Obj) → Prop) (hh : A.handled = none) (hkind : scope.kind = .function) (hx : scope.names.lookup x2 = some .local) (hx12 : x1 ≠ x2)
    (hIL : L ≠ I) (hI₀ : h₀.get? I = none) (hCL : C ≠ L) (hC₀ : h₀.get? C = none) (hDL : D ≠ L) (hD₀ : h₀.get? D = none) (hIC : I ≠ C) (hID : I ≠ D) (hCD : C ≠ D)
    (hsz : ∀ j ys nw, Inv j ys nw → ys.length ≤ 1000)
    (elem : ∀ j ys nw, j < n → Inv j ys nw → S nw → ∀ v oI oC m₂ h tk (E' : Value → Shared → Prop), (∃ t, v = .int (a + (j : Int)) t) → LCg.NsObj oC m₂ → m₂ x1 = some v1 → m₂ x2 = some v → Fr h₀ L h m → News h₀ L h ((I, oI) :: (C, oC) :: (D, LCg.lst ys) :: nw) → LCg.Off3 I C D nw →
      wpAny (model prog w) A (eval elt (compEnvC scope cl C env)) (LCg.CompEnd h₀ L m { s₂ with heap := h, toks := tk } I oI C oC D (LCg.lst ys) S (fun y nw' => Inv (j + 1) (ys ++ [y]) nw')) E' { s₂ with heap := h, toks := tk })
    (fin : ∀ h tk m' ys nw, Fr h₀ L h m → h.Ns C m' → News h₀ L h ((D, LCg.lst ys) :: nw) → LCg.Off3 I C D nw → S nw → Inv n ys nw → R (.ok .next) { s₂ with heap := h, toks := tk })
    {h : Heap} {tk : Nat} {m' : Str → Option Value} {ys : List Value} {nw : List (Addr × Obj)} (hst : IsRangeIter h I (a + (0 : Nat) * 1) ((n : Int) - (0 : Nat)) 1) (F : Fr h₀ L h m) (hN : h.Ns C m') (hm : m' x1 = some v1) (N : News h₀ L h ((D, LCg.lst ys) :: nw)) (off : LCg.Off3 I C D nw) (hS : S nw) (hI : Inv 0 ys nw) :
    codeAny (model prog w) A (.compLoop (lc2 elt (.Name x1 p1) i1 (.Name x2 p2) i2 scope pos) 1 (.ref I) (.ref D) (compEnvC scope cl C env)) R { s₂ with heap := h, toks := tk } := by
  have W := LCg.range_walks (prog := prog) (w := w) (I := I) hh a n
  refine loop1_lc2 (fun k s' => ∃ h' tk j ys m' nw, s' = { s₂ with heap := h', toks := tk } ∧ j ≤ n ∧ k = n + 1 - j ∧ IsRangeIter h' I (a + (j : Nat) * 1) ((n : Int) - (j : Nat)) 1 ∧ Fr h₀ L h' m ∧ h'.Ns C m' ∧ m' x1 = some v1 ∧ News h₀ L h' ((D, LCg.lst ys) :: nw) ∧ LCg.Off3 I C D nw ∧ S nw ∧ Inv j ys nw) ?_ (n + 1)
    ⟨h, tk, 0, ys, m', nw, rfl, Nat.zero_le _, rfl, hst, F, hN, hm, N, off, hS, hI⟩
  rintro k s' ⟨h', tk, j, ys, m', nw, rfl, hj, rfl, hst', F', hn', hm', N', off', hS', hI'⟩
  by_cases hlt : j < n
  · refine W.item j _ _ _ hlt hst' fun v h₂ tk₂ hPv hst₂ hk₂ => ?_
    refine wpAny_assign_Name (wpAny_storeName_local (lookup_relabel_local hx) (hn'.at' fun o e => hk₂ _ o (by simpa using Ne.symm hIC) e) (fun h₃ hn₃ hs₃ => ?_) (by simp [compEnvC, relabel, hkind]))
    have hst₃ : IsRangeIter h₃ I (a + ((j + 1 : Nat) : Nat) * 1) ((n : Int) - ((j + 1 : Nat) : Nat)) 1 := W.frame _ _ _ hst₂ fun b hb o e => hs₃.extBut b o (fun q => hIC (by have q' : b = C := q; rw [← q']; exact (List.mem_singleton.mp hb).symm)) e
    obtain ⟨oI, heI⟩ : ∃ o, h₃.get? I = some o := ⟨_, hst₃⟩
    obtain ⟨oC, heC, hoC⟩ := LCg.ns_obj hn₃
    have F₃ : Fr h₀ L h₃ m := (LCg.fr_but F' hk₂ hIL hI₀).change hs₃ hCL hC₀
    have off3 := off'.mem
    have N₂ : News h₀ L h₂ ((D, LCg.lst ys) :: nw) := LCg.news_but N' hk₂ fun p hp => by
      rcases List.mem_cons.mp hp with rfl | hp
      · exact Ne.symm hID
      · exact (off3 p hp).1
    have N₃ : News h₀ L h₃ ((I, oI) :: (C, oC) :: (D, LCg.lst ys) :: nw) := fun p hp => by
      rcases List.mem_cons.mp hp with rfl | hp
      · exact ⟨heI, Ne.symm hIL, hI₀⟩
      · rcases List.mem_cons.mp hp with rfl | hp
        · exact ⟨heC, hCL, hC₀⟩
        · have z := N₂ p hp
          refine ⟨hs₃.extBut _ _ ?_ z.1, z.2⟩
          rcases List.mem_cons.mp hp with rfl | hp
          · exact Ne.symm hCD
          · exact (off3 p hp).2.1
    refine wpAny_mono (elem j ys nw hlt hI' hS' v oI oC _ h₃ _ _ hPv hoC (by simp [hx12]; exact hm') (by simp) F₃ N₃ off') (fun y s₄ h₄ => ?_) fun _ _ e => e
    obtain ⟨h₄, tk₄, nw₄, rfl, F₄, N₄, off₄, hS₄, hI₄⟩ := h₄
    have zI := (N₄ (I, oI) List.mem_cons_self).1
    have zC := (N₄ (C, oC) (List.mem_cons_of_mem _ List.mem_cons_self)).1
    have zD := (N₄ (D, LCg.lst ys) (List.mem_cons_of_mem _ (List.mem_cons_of_mem _ List.mem_cons_self))).1
    have N₄' : News h₀ L h₄ nw₄ := fun p hp => N₄ p (List.mem_cons_of_mem _ (List.mem_cons_of_mem _ (List.mem_cons_of_mem _ hp)))
    have hst₄ : IsRangeIter h₄ I (a + ((j + 1 : Nat) : Nat) * 1) ((n : Int) - ((j + 1 : Nat) : Nat)) 1 := LCg.range_st (h₀ := h₀) (L := L) _ _ _ oI nw₄ hst₃ heI zI F₄.keep N₄' trivial
    refine append_at (hsz := by show ys.toArray.size ≤ sizeLine; rw [List.size_toArray, sizeLine_eq]; have := hsz _ _ _ hI'; omega) zD fun h₅ hs₅ hD₅ => ?_
    have off4 := off₄.mem
    refine ⟨n + 1 - (j + 1), by omega, h₅, tk₄, j + 1, ys ++ [y], _, nw₄, rfl, hlt, rfl, W.frame _ _ _ hst₄ fun b hb o e => hs₅.extBut b o (fun q => hID (by have q' : b = D := q; rw [← q']; exact (List.mem_singleton.mp hb).symm)) e, F₄.change hs₅ hDL hD₀,
      (hoC.ns zC).sameBut hs₅ hCD, (by simp [hx12]; exact hm'), fun p hp => ?_, off₄, hS₄, hI₄⟩
    rcases List.mem_cons.mp hp with rfl | hp
    · exact ⟨hD₅.trans (congrArg some (LCg.lst_snoc ys y)), hDL, hD₀⟩
    · exact ⟨hs₅.extBut _ _ (off4 p hp).2.2 (N₄' p hp).1, (N₄' p hp).2⟩
  · obtain rfl : j = n := Nat.le_antisymm hj (Nat.not_lt.mp hlt)
    refine W.done _ _ _ hst' fun h₂ tk₂ hk₂ => ?_
    have off3 := off'.mem
    exact fin h₂ tk₂ _ ys nw (LCg.fr_but F' hk₂ hIL hI₀) (hn'.at' fun o e => hk₂ _ o (by simpa using Ne.symm hIC) e) (LCg.news_but N' hk₂ fun p hp => by
      rcases List.mem_cons.mp hp with rfl | hp
      · exact Ne.symm hID
      · exact (off3 p hp).1) off' hS' hI'
end
/-! C4 -/
/-- what the outer turn leaves behind once the inner clause's source is told -/
def Src2 (prog : Program) (w : World) (A : Around) (h₀ : Heap) (L : Addr) (m : Str → Option Value) (env : Env) (elt : PySem.Expr) (x1 x2 : Str) (scope : Scope) (cl : List (Str × Addr)) (s₂ : Shared) (Inv : List Value → List (Addr × Obj) → Prop) (v1 : Value) (I : Addr) (oI : Obj) (C : Addr) (oC : Obj) (D : Addr) (ys : List Value) (nw : List (Addr × Obj)) (xv : Value) (s' : Shared) : Prop :=
  ∃ r h' tk' a b t u v n, ∃ Inv2 : Nat → List Value → List (Addr × Obj) → Prop, xv = .ref r ∧ s' = { s₂ with heap := h', toks := tk' } ∧ Fr h₀ L h' m ∧ News h₀ L h' ((I, oI) :: (C, oC) :: (D, LCg.lst ys) :: nw) ∧ IsRange h' r a b 1 t u v ∧ Builtin.Range.small a b 1 = true ∧ Builtin.Range.rangeSize a b 1 = ((n : Nat) : Int) ∧
    Inv2 0 ys nw ∧ (∀ j ys nw, Inv2 j ys nw → ys.length ≤ 1000) ∧ (∀ ys nw, Inv2 n ys nw → Inv ys nw) ∧
    ∀ j ys nw, j < n → Inv2 j ys nw → (∀ p ∈ nw, p.1 ≠ I) → ∀ v I2 oI2 oC m₂ h tk (E' : Value → Shared → Prop), (∃ t, v = .int (a + (j : Int)) t) → LCg.NsObj oC m₂ → m₂ x1 = some v1 → m₂ x2 = some v → Fr h₀ L h m → News h₀ L h ((I2, oI2) :: (C, oC) :: (D, LCg.lst ys) :: (I, oI) :: nw) → LCg.Off3 I2 C D ((I, oI) :: nw) →
      wpAny (model prog w) A (eval elt (compEnvC scope cl C env)) (LCg.CompEnd h₀ L m { s₂ with heap := h, toks := tk } I2 oI2 C oC D (LCg.lst ys) (fun _ => True) (fun y nws => ∃ nw', nws = (I, oI) :: nw' ∧ (∀ p ∈ nw', p.1 ≠ I) ∧ Inv2 (j + 1) (ys ++ [y]) nw')) E' { s₂ with heap := h, toks := tk }
section
variable {prog : Program} {w : World} {A : Around} {R : Result → Shared → Prop} {h₀ : Heap} {L : Addr} {m : Str → Option Value} {env : Env} {elt i1 i2 : PySem.Expr} {x1 x2 : Str} {p1 p2 : Pos} {scope : Scope} {cl : List (Str × Addr)} {pos : Pos} {s₂ : Shared}
/-- the outer clause's turns -/
theorem outer_lc2 {I C D : Addr} {a : Int} {n : Nat} (Inv : Nat → List Value → List (Addr × Obj) → Prop) (hh : A.handled = none) (hkind : scope.kind = .function) (hx1 : scope.names.lookup x1 = some .local) (hx2 : scope.names.lookup x2 = some .local) (hx12 : x1 ≠ x2)
    (hs2 : ∀ x, foldedSetIterable i2 (compEnvC scope cl C env) x = pure x)
    (hIL : L ≠ I) (hI₀ : h₀.get? I = none) (hCL : C ≠ L) (hC₀ : h₀.get? C = none) (hDL : D ≠ L) (hD₀ : h₀.get? D = none) (hIC : I ≠ C) (hID : I ≠ D) (hCD : C ≠ D)
    (turn : ∀ i ys nw, i < n → Inv i ys nw → ∀ v1 oI oC m₂ h tk (E' : Value → Shared → Prop), (∃ t, v1 = .int (a + (i : Int)) t) → LCg.NsObj oC m₂ → m₂ x1 = some v1 → Fr h₀ L h m → News h₀ L h ((I, oI) :: (C, oC) :: (D, LCg.lst ys) :: nw) → LCg.Off3 I C D nw →
      wpAny (model prog w) A (eval i2 (compEnvC scope cl C env)) (Src2 prog w A h₀ L m env elt x1 x2 scope cl s₂ (Inv (i + 1)) v1 I oI C oC D ys nw) E' { s₂ with heap := h, toks := tk })
    (fin : ∀ h tk m' ys nw, Fr h₀ L h m → h.Ns C m' → News h₀ L h ((D, LCg.lst ys) :: nw) → LCg.Off3 I C D nw → Inv n ys nw → R (.ok .next) { s₂ with heap := h, toks := tk })
    {h : Heap} {tk : Nat} {m' : Str → Option Value} {ys : List Value} {nw : List (Addr × Obj)} (hst : IsRangeIter h I (a + (0 : Nat) * 1) ((n : Int) - (0 : Nat)) 1) (F : Fr h₀ L h m) (hN : h.Ns C m') (N : News h₀ L h ((D, LCg.lst ys) :: nw)) (off : LCg.Off3 I C D nw) (hI : Inv 0 ys nw) :
    codeAny (model prog w) A (.compLoop (lc2 elt (.Name x1 p1) i1 (.Name x2 p2) i2 scope pos) 0 (.ref I) (.ref D) (compEnvC scope cl C env)) R { s₂ with heap := h, toks := tk } := by
  have W := LCg.range_walks (prog := prog) (w := w) (I := I) hh a n
  refine loop0_lc2 (fun k s' => ∃ h' tk j ys m' nw, s' = { s₂ with heap := h', toks := tk } ∧ j ≤ n ∧ k = n + 1 - j ∧ IsRangeIter h' I (a + (j : Nat) * 1) ((n : Int) - (j : Nat)) 1 ∧ Fr h₀ L h' m ∧ h'.Ns C m' ∧ News h₀ L h' ((D, LCg.lst ys) :: nw) ∧ LCg.Off3 I C D nw ∧ Inv j ys nw) ?_ (n + 1)
    ⟨h, tk, 0, ys, m', nw, rfl, Nat.zero_le _, rfl, hst, F, hN, N, off, hI⟩ hs2
  rintro k s' ⟨h', tk, j, ys, m', nw, rfl, hj, rfl, hst', F', hn', N', off', hI'⟩
  by_cases hlt : j < n
  · refine W.item j _ _ _ hlt hst' fun v h₂ tk₂ hPv hst₂ hk₂ => ?_
    refine wpAny_assign_Name (wpAny_storeName_local (lookup_relabel_local hx1) (hn'.at' fun o e => hk₂ _ o (by simpa using Ne.symm hIC) e) (fun h₃ hn₃ hs₃ => ?_) (by simp [compEnvC, relabel, hkind]))
    have hst₃ : IsRangeIter h₃ I (a + ((j + 1 : Nat) : Nat) * 1) ((n : Int) - ((j + 1 : Nat) : Nat)) 1 := W.frame _ _ _ hst₂ fun b hb o e => hs₃.extBut b o (fun q => hIC (by have q' : b = C := q; rw [← q']; exact (List.mem_singleton.mp hb).symm)) e
    obtain ⟨oI, heI⟩ : ∃ o, h₃.get? I = some o := ⟨_, hst₃⟩
    obtain ⟨oC, heC, hoC⟩ := LCg.ns_obj hn₃
    have F₃ : Fr h₀ L h₃ m := (LCg.fr_but F' hk₂ hIL hI₀).change hs₃ hCL hC₀
    have off3 := off'.mem
    have N₂ : News h₀ L h₂ ((D, LCg.lst ys) :: nw) := LCg.news_but N' hk₂ fun p hp => by
      rcases List.mem_cons.mp hp with rfl | hp
      · exact Ne.symm hID
      · exact (off3 p hp).1
    have N₃ : News h₀ L h₃ ((I, oI) :: (C, oC) :: (D, LCg.lst ys) :: nw) := fun p hp => by
      rcases List.mem_cons.mp hp with rfl | hp
      · exact ⟨heI, Ne.symm hIL, hI₀⟩
      · rcases List.mem_cons.mp hp with rfl | hp
        · exact ⟨heC, hCL, hC₀⟩
        · have z := N₂ p hp
          refine ⟨hs₃.extBut _ _ ?_ z.1, z.2⟩
          rcases List.mem_cons.mp hp with rfl | hp
          · exact Ne.symm hCD
          · exact (off3 p hp).2.1
    refine wpAny_mono (turn j ys nw hlt hI' v oI oC _ h₃ _ _ hPv hoC (by simp) F₃ N₃ off') (fun xv s₄ h₄ => ?_) fun _ _ e => e
    obtain ⟨r, h₄, tk₄, a2, b2, t, u, v', n2, Inv2, rfl, rfl, F₄, N₄, hr, hsm, hrs, h0, hlen, hout, elem⟩ := h₄
    refine wpAny_pyIter_range hr hsm ?_
    have up : ∀ b o, h₄.get? b = some o → (h₄.push { cls := .type "range_iterator", data := .fields #[rawInt a2, rawInt (Builtin.Range.rangeSize a2 b2 1), rawInt 1] }).get? b = some o := fun b o e => Heap.get?_push_of_some _ e
    have lt4 : ∀ p ∈ (I, oI) :: (C, oC) :: (D, LCg.lst ys) :: nw, p.1 ≠ h₄.objs.size := fun p hp => Nat.ne_of_lt (Heap.lt_size (N₄ p hp).1)
    have hst5 : IsRangeIter (h₄.push { cls := .type "range_iterator", data := .fields #[rawInt a2, rawInt (Builtin.Range.rangeSize a2 b2 1), rawInt 1] }) h₄.objs.size (a2 + (0 : Nat) * 1) ((n2 : Int) - (0 : Nat)) 1 := by
      show IsRangeIter _ _ _ _ _
      rw [hrs]
      simpa using Heap.get?_push_size _ rfl
    have hC4 := (N₄ (C, oC) (.tail _ (.head _))).1
    have W2 := LCg.range_walks (prog := prog) (w := w) (I := h₄.objs.size) hh a2 n2
    have N5' : News h₀ L (h₄.push { cls := .type "range_iterator", data := .fields #[rawInt a2, rawInt (Builtin.Range.rangeSize a2 b2 1), rawInt 1] }) ((D, LCg.lst ys) :: (I, oI) :: nw) := fun p hp => by
      have hm : p ∈ (I, oI) :: (C, oC) :: (D, LCg.lst ys) :: nw := by
        rcases List.mem_cons.mp hp with rfl | hp
        · exact .tail _ (.tail _ (.head _))
        · rcases List.mem_cons.mp hp with rfl | hp
          · exact .head _
          · exact .tail _ (.tail _ (.tail _ hp))
      exact ⟨up _ _ (N₄ p hm).1, (N₄ p hm).2⟩
    have off5 : LCg.Off3 h₄.objs.size C D ((I, oI) :: nw) := LCg.Off3.of fun p hp => by
      rcases List.mem_cons.mp hp with rfl | hp
      · exact ⟨lt4 _ (.head _), hIC, hID⟩
      · exact ⟨lt4 _ (.tail _ (.tail _ (.tail _ hp))), (off3 p hp).2.1, (off3 p hp).2.2⟩
    refine start1_lc2 ?loop (W2.self 0 _ _ _ hst5 ?loop)
    refine inner_lc2 (h₀ := h₀) (L := L) (m := m) (s₂ := s₂) (a := a2) (n := n2) (v1 := v) (fun _ => True) (fun jj ys nws => ∃ nw', nws = (I, oI) :: nw' ∧ (∀ p ∈ nw', p.1 ≠ I) ∧ Inv2 jj ys nw') hh hkind hx2 hx12
      (Nat.ne_of_lt F₄.ns.lt) (next_is_new F₄) hCL hC₀ hDL hD₀ (Ne.symm (lt4 _ (.tail _ (.head _)))) (Ne.symm (lt4 _ (.tail _ (.tail _ (.head _))))) hCD
      (fun jj ys nws q => by obtain ⟨nw', _, _, q⟩ := q; exact hlen _ _ _ q)
      (fun jj ys nws hjj q _ v2 oI2 oC2 m₂ h5 tk5 E' hv hC5 hm1 hm2 F5 N5 off5 => by
        obtain ⟨nw', rfl, hne, q⟩ := q
        exact elem jj ys nw' hjj q hne v2 _ oI2 oC2 m₂ h5 tk5 E' hv hC5 hm1 hm2 F5 N5 off5)
      (fun h5 tk5 m5 ys5 nws F5 hN5 N5 off6 _ q => ?_)
      hst5 (F₄.keeps up) ((hoC.ns hC4).at' fun o e => up _ _ e) (by simp) N5' off5 trivial ⟨nw, rfl, fun p hp => (off3 p hp).1, h0⟩
    obtain ⟨nw', rfl, hne, q⟩ := q
    have off7 := off6.mem
    refine ⟨n + 1 - (j + 1), by omega, h5, tk5, j + 1, ys5, m5, nw', rfl, hlt, rfl, LCg.range_st (h₀ := h₀) (L := L) _ _ _ oI [] hst₃ heI (N5 (I, oI) (.tail _ (.head _))).1 F5.keep (fun p hp => nomatch hp) trivial, F5, hN5, fun p hp => N5 p ?_, LCg.Off3.of fun p hp => ⟨hne p hp, (off7 p (.tail _ hp)).2.1, (off7 p (.tail _ hp)).2.2⟩, hout _ _ q⟩
    rcases List.mem_cons.mp hp with rfl | hp
    · exact .head _
    · exact .tail _ (.tail _ hp)
  · obtain rfl : j = n := Nat.le_antisymm hj (Nat.not_lt.mp hlt)
    refine W.done _ _ _ hst' fun h₂ tk₂ hk₂ => ?_
    have off3 := off'.mem
    exact fin h₂ tk₂ _ ys nw (LCg.fr_but F' hk₂ hIL hI₀) (hn'.at' fun o e => hk₂ _ o (by simpa using Ne.symm hIC) e) (LCg.news_but N' hk₂ fun p hp => by
      rcases List.mem_cons.mp hp with rfl | hp
      · exact Ne.symm hID
      · exact (off3 p hp).1) off' hI'
end
/-! C5 -/
section
variable {prog : Program} {w : World} {A : Around} {E : Value → Shared → Prop} {h₀ : Heap} {L : Addr} {m : Str → Option Value} {env : Env} {elt i1 i2 : PySem.Expr} {x1 x2 : Str} {p1 p2 : Pos} {scope : Scope} {cl : List (Str × Addr)} {pos : Pos} {s : Shared}
/-- [elt for x1 in range(..) for x2 in range(..)] -/
theorem ListComp_2 {Q : Value → Shared → Prop} (Inv : Nat → List Value → List (Addr × Obj) → Prop) {a : Int} {n : Nat} (_F₀ : Fr h₀ L s.heap m) (hh : A.handled = none)
    (hclos : closureFor scope env = pure cl) (hcell : ∀ y ∈ scope.names, y.2 ≠ .cell) (hkind : scope.kind = .function)
    (hnames : ∀ y ∈ scope.names, y.2 = .local → scope.names.lookup y.1 = some .local) (hx1 : scope.names.lookup x1 = some .local) (hx2 : scope.names.lookup x2 = some .local) (hx12 : x1 ≠ x2)
    (hs1 : ∀ x, foldedSetIterable i1 env x = pure x) (hs2 : ∀ C x, foldedSetIterable i2 (compEnvC scope cl C env) x = pure x)
    (h : wpAny (model prog w) A (eval i1 env) (fun xv s₁ => ∃ r b t u v news, xv = .ref r ∧ Fr h₀ L s₁.heap m ∧ News h₀ L s₁.heap news ∧ IsRange s₁.heap r a b 1 t u v ∧ Builtin.Range.small a b 1 = true ∧ Builtin.Range.rangeSize a b 1 = ((n : Nat) : Int) ∧ Inv 0 [] news ∧
      ∀ g, let s₂ : Shared := { s₁ with heap := g }
        (∀ i ys nw, i < n → Inv i ys nw → ∀ v1 I oI C oC D m₂ h tk (E' : Value → Shared → Prop), (∃ t, v1 = .int (a + (i : Int)) t) → LCg.NsObj oC m₂ → m₂ x1 = some v1 → Fr h₀ L h m → News h₀ L h ((I, oI) :: (C, oC) :: (D, LCg.lst ys) :: nw) → LCg.Off3 I C D nw →
          wpAny (model prog w) A (eval i2 (compEnvC scope cl C env)) (Src2 prog w A h₀ L m env elt x1 x2 scope cl s₂ (Inv (i + 1)) v1 I oI C oC D ys nw) E' { s₂ with heap := h, toks := tk }) ∧
        ∀ ys nw, Inv n ys nw → LCg.FinE h₀ L m s₂ Q ys nw) E s) :
    wpAny (model prog w) A (eval (lc2 elt (.Name x1 p1) i1 (.Name x2 p2) i2 scope pos) env) Q E s := by
  rw [eval_ListComp]
  refine wpAny_comprehension_free (use := none) rfl hs1 hclos hkind hnames (wpAny_mono h (fun xv s₁ h₁ => ?_) fun _ _ e => e)
  obtain ⟨r, b, t, u, v, news, rfl, F, N, hr, hsm, hn, hI, rest⟩ := h₁
  refine wpAny_pyIter_range hr hsm ?_
  have up : ∀ b' o, s₁.heap.get? b' = some o → (s₁.heap.push { cls := .type "range_iterator", data := .fields #[rawInt a, rawInt (Builtin.Range.rangeSize a b 1), rawInt 1] }).get? b' = some o := fun b' o e => Heap.get?_push_of_some _ e
  have hst : IsRangeIter (s₁.heap.push { cls := .type "range_iterator", data := .fields #[rawInt a, rawInt (Builtin.Range.rangeSize a b 1), rawInt 1] }) s₁.heap.objs.size (a + (0 : Nat) * 1) ((n : Int) - (0 : Nat)) 1 := by
    show IsRangeIter _ _ _ _ _
    rw [hn]
    simpa using Heap.get?_push_size _ rfl
  have FI := F.keeps up
  have NI : News h₀ L _ news := N.grown up
  have hIL : L ≠ s₁.heap.objs.size := Nat.ne_of_lt F.ns.lt
  have hI₀ : h₀.get? s₁.heap.objs.size = none := next_is_new F
  have offI : ∀ p ∈ news, p.1 ≠ s₁.heap.objs.size := fun p hp => Nat.ne_of_lt (Heap.lt_size (N p hp).1)
  have hIlt : s₁.heap.objs.size < (s₁.heap.push { cls := .type "range_iterator", data := .fields #[rawInt a, rawInt (Builtin.Range.rangeSize a b 1), rawInt 1] }).objs.size := by rw [Heap.size_push]; exact Nat.lt_succ_self _
  obtain ⟨turn, fin⟩ := rest (s₁.heap.push { cls := .type "range_iterator", data := .fields #[rawInt a, rawInt (Builtin.Range.rangeSize a b 1), rawInt 1] })
  generalize s₁.heap.push { cls := .type "range_iterator", data := .fields #[rawInt a, rawInt (Builtin.Range.rangeSize a b 1), rawInt 1] } = H1 at *
  generalize s₁.heap.objs.size = I at *
  refine wpAny_newObj_type (wpAny_newFunctionEnv hcell (by intro y hy; simp at hy) (fun h₁ hns₁ hsb₁ => ?_) hkind)
  dsimp only at hns₁ hsb₁ ⊢
  generalize hH2 : H1.push { cls := .type "list", dict := none, data := .seq ([] : List Value).toArray } = H2 at hns₁ hsb₁ ⊢
  have hC : H2.objs.size = H1.objs.size + 1 := by rw [← hH2, Heap.size_push]
  have below : ∀ x, x < H1.objs.size → x ≠ H2.objs.size ∧ x ≠ H1.objs.size := fun x hx => ⟨by rw [hC]; exact Nat.ne_of_lt (Nat.lt_succ_of_lt hx), Nat.ne_of_lt hx⟩
  have hDC : H1.objs.size ≠ H2.objs.size := by rw [hC]; exact Nat.ne_of_lt (Nat.lt_succ_self _)
  have old : ∀ x o, H1.get? x = some o → h₁.get? x = some o := fun x o e => hsb₁.extBut x o (below x (Heap.lt_size e)).1 (Heap.get?_push_of_some _ (hH2 ▸ Heap.get?_push_of_some _ e))
  have hacc : h₁.get? H1.objs.size = some (LCg.lst []) := hsb₁.extBut _ _ hDC (Heap.get?_push_of_some _ (hH2 ▸ Heap.get?_push_size _ rfl))
  have fresh₀ : ∀ x, H1.objs.size ≤ x → h₀.get? x = none := fun x hx => by
    cases e : h₀.get? x with
    | none => rfl
    | some o' => exact absurd (Heap.lt_size (FI.keep x o' e)) (Nat.not_lt.mpr hx)
  have hLlt : L < H1.objs.size := FI.ns.lt
  have W := LCg.range_walks (prog := prog) (w := w) (I := I) hh a n
  have hst₁ : IsRangeIter h₁ I (a + (0 : Nat) * 1) ((n : Int) - (0 : Nat)) 1 := W.frame _ _ _ hst fun x _ o e => old x o e
  refine codeAny_compStart_list ?loop (W.self 0 _ _ _ hst₁ ?loop)
  refine outer_lc2 (s₂ := { s₁ with heap := H1 }) (h₀ := h₀) (L := L) (m := m) (a := a) (n := n) (cl := cl) Inv hh hkind hx1 hx2 hx12 (hs2 _) hIL hI₀ (Ne.symm (below L hLlt).1) (fresh₀ _ (by rw [hC]; exact Nat.le_succ _)) (Ne.symm (below L hLlt).2) (fresh₀ _ (Nat.le_refl _)) (below I hIlt).1 (below I hIlt).2 (Ne.symm hDC)
    (fun i ys nw hi hI' v1 oI oC m₂ h tk E' hv hN hm F' N' o' => turn i ys nw hi hI' v1 I oI _ oC _ m₂ h tk E' hv hN hm F' N' o')
    (fun h tk m' ys nw F' hN' N' o' hI' => ?_)
    hst₁ (FI.keeps old) hns₁ (fun p hp => ?_) (LCg.Off3.of fun p hp => ⟨offI p hp, (below _ (Heap.lt_size (NI p hp).1)).1, (below _ (Heap.lt_size (NI p hp).1)).2⟩) hI
  · refine ⟨m', hN', fun h'' hs'' => fin ys nw hI' _ h'' tk (F'.change hs'' (Ne.symm (below L hLlt).1) (fresh₀ _ (by rw [hC]; exact Nat.le_succ _))) (fun p hp => ?_) o'.one⟩
    refine ⟨hs''.extBut _ _ ?_ (N' p hp).1, (N' p hp).2⟩
    rcases List.mem_cons.mp hp with rfl | hp
    · exact hDC
    · exact (o'.mem p hp).2.1
  · rcases List.mem_cons.mp hp with rfl | hp
    · exact ⟨hacc, Ne.symm (below L hLlt).2, fresh₀ _ (Nat.le_refl _)⟩
    · exact ⟨old _ _ (NI p hp).1, (NI p hp).2⟩
end
/-! S5 -/
/-- the first hours of a bell -/
def hours (p ws : Nat → Int) (k c : Nat) : List K3 := (List.range c).map fun j : Nat => (p k * (1 + (j : Int)), ws (k % 3), (k : Int))
def allHours (p ws : Nat → Int) (cn : Nat → Nat) (i : Nat) : List K3 := (List.range i).flatMap fun k => hours p ws k (cn k - 1)
theorem hours_succ (p ws : Nat → Int) (k c : Nat) : hours p ws k (c + 1) = hours p ws k c ++ [(p k * (1 + (c : Int)), ws (k % 3), (k : Int))] := by
  unfold hours
  rw [List.range_succ, List.map_append, List.map_singleton]
theorem hours_len (p ws : Nat → Int) (k c : Nat) : (hours p ws k c).length = c := by simp [hours]
theorem allHours_succ (p ws : Nat → Int) (cn : Nat → Nat) (i : Nat) : allHours p ws cn (i + 1) = allHours p ws cn i ++ hours p ws i (cn i - 1) := by
  unfold allHours
  rw [List.range_succ, List.flatMap_append, List.flatMap_singleton]
theorem mem_hours {p ws : Nat → Int} {k c : Nat} {x : K3} : x ∈ hours p ws k c ↔ ∃ n : Nat, 1 ≤ n ∧ n < c + 1 ∧ x = (p k * (n : Int), ws (k % 3), (k : Int)) := by
  unfold hours
  rw [List.mem_map]
  constructor
  · rintro ⟨j, hj, rfl⟩
    refine ⟨j + 1, by omega, by have := List.mem_range.mp hj; omega, ?_⟩
    push_cast
    rw [Int.add_comm]
  · rintro ⟨n, h1, h2, rfl⟩
    refine ⟨n - 1, List.mem_range.mpr (by omega), ?_⟩
    have : (1 : Int) + ((n - 1 : Nat) : Int) = (n : Int) := by omega
    rw [this]
theorem mem_allHours {p ws : Nat → Int} {cn : Nat → Nat} (h1 : ∀ k, k < 6 → 1 ≤ cn k) {x : K3} : x ∈ allHours p ws cn 6 ↔ ∃ k, k < 6 ∧ ∃ n : Nat, 1 ≤ n ∧ n < cn k ∧ x = (p k * (n : Int), ws (k % 3), (k : Int)) := by
  unfold allHours
  rw [List.mem_flatMap]
  constructor
  · rintro ⟨k, hk, hx⟩
    have hk := List.mem_range.mp hk
    obtain ⟨n, a, b, e⟩ := mem_hours.mp hx
    have := h1 k hk
    exact ⟨k, hk, n, a, by omega, e⟩
  · rintro ⟨k, hk, n, a, b, e⟩
    exact ⟨k, List.mem_range.mpr hk, mem_hours.mpr ⟨n, a, by omega, e⟩⟩
theorem hours_nodup {p ws : Nat → Int} {k c : Nat} (hp : 0 < p k) : (hours p ws k c).Nodup := by
  refine nodup_map_of List.nodup_range fun a _ b _ e => ?_
  have h : p k * (1 + (a : Int)) = p k * (1 + (b : Int)) := congrArg (fun t : K3 => t.1) e
  have := Int.eq_of_mul_eq_mul_left (by omega) h
  omega
theorem allHours_nodup {p ws : Nat → Int} {cn : Nat → Nat} : ∀ {i : Nat}, (∀ k, k < i → 0 < p k) → (allHours p ws cn i).Nodup
  | 0, _ => by simp [allHours]
  | i + 1, hp => by
    rw [allHours_succ, List.nodup_append]
    refine ⟨allHours_nodup fun k hk => hp k (by omega), hours_nodup (hp i (by omega)), fun a ha b hb e => ?_⟩
    subst e
    unfold allHours at ha
    obtain ⟨k, hk, hx⟩ := List.mem_flatMap.mp ha
    have hk := List.mem_range.mp hk
    obtain ⟨_, _, _, e1⟩ := mem_hours.mp hx
    obtain ⟨_, _, _, e2⟩ := mem_hours.mp hb
    have : (k : Int) = (i : Int) := by
      have q : a.2.2 = (k : Int) := by rw [e1]
      have q' : a.2.2 = (i : Int) := by rw [e2]
      rw [← q, q']
    omega
theorem allHours_bd {p ws : Nat → Int} (P : PW p ws) {cn : Nat → Nat} {x : K3} (hx : x ∈ allHours p ws cn 6) : Bd x := by
  unfold allHours at hx
  obtain ⟨k, hk, hx⟩ := List.mem_flatMap.mp hx
  obtain ⟨n, _, _, e⟩ := mem_hours.mp hx
  rw [e]
  exact bell_bd P (cn := fun _ => n) (List.mem_range.mp hk)
theorem allHours_len {p ws : Nat → Int} {cn : Nat → Nat} : ∀ {i : Nat}, (∀ k, k < i → 2 ≤ cn k ∧ cn k ≤ 5) → i ≤ (allHours p ws cn i).length ∧ (allHours p ws cn i).length ≤ 4 * i
  | 0, _ => by simp [allHours]
  | i + 1, h => by
    rw [allHours_succ, List.length_append, hours_len]
    have a := allHours_len (p := p) (ws := ws) (cn := cn) (i := i) fun k hk => h k (by omega)
    have b := h i (by omega)
    omega
/-! L8 -/
theorem fillFragL8 : True := by
  w_top off
  trivial
theorem sans_news {h₀ h : Heap} {L : Addr} {nx : List (Addr × Obj)} {o1 o2 o3 o4 o5 : Obj} (N : News h₀ L h nx) (c1 : (L + 1, o1) ∈ nx) (c2 : (L + 1 + 1, o2) ∈ nx) (c3 : (L + 1 + 1 + 1, o3) ∈ nx) (c4 : (L + 1 + 1 + 1 + 1, o4) ∈ nx) (c5 : (L + 1 + 1 + 1 + 1 + 1, o5) ∈ nx) :
    News h₀ L h ((L + 1 + 1 + 1 + 1 + 1, o5) :: (L + 1 + 1 + 1 + 1, o4) :: (L + 1 + 1 + 1, o3) :: (L + 1 + 1, o2) :: (L + 1, o1) :: sans L nx) := fun p hp => by
  simp only [List.mem_cons] at hp
  rcases hp with rfl | rfl | rfl | rfl | rfl | hp
  · exact N _ c5
  · exact N _ c4
  · exact N _ c3
  · exact N _ c2
  · exact N _ c1
  · exact N _ (sans_sub p hp)
theorem per_bits (ns : List Int) {k : Nat} (hk : k < 6) : Builtin.Int.intBits ((perOf ns).getD k 0) ≤ 64 := by
  rcases perOf_is ns hk with e | e | e | e <;> rw [e] <;> decide
/-- how often a bell rings, and once more -/
def cnOf (ns : List Int) (last : Int) (k : Nat) : Nat := (last / (perOf ns).getD k 0 + 1).toNat
theorem cnOf_is {ns : List Int} {last : Int} (h5 : 5 ≤ last) {k : Nat} (hk : k < 6) : (cnOf ns last k : Int) = last / (perOf ns).getD k 0 + 1 := by
  unfold cnOf
  rcases perOf_is ns hk with e | e | e | e <;> rw [e] <;> omega
set_option maxHeartbeats 8000000 in
theorem seg8 {prog : Program} {w : World} {p : Program} {loose : List Str} {mean : ExcName → Option Value} {mg mb : Str → Option Value} {h₀ h : Heap} {L fa : Addr} {cdv : Value} {m0 : Str → Option Value} {s : Shared} {tk : Nat} {Q : Flow → Shared → Prop} {E : Value → Shared → Prop}
    {scope : Scope} {body : List Stmt} {o1 o2 o3 o4 o5 : Obj} {nw : List (Addr × Obj)} {fl tl rl dl hl rg : Addr} {d row : List UInt8} {td tla tr : Tok} {tv rv : List Value} {ct c' f g hq : Nat} {ns : List Int} {last : Int} {as told : List Addr} {tup : Addr → T3} {cn : Nat → Nat} {du : Addr} (hs : scope = lawScope) (hb : body = lawBody.drop 8)
    (T : Top p loose mean mg mb h₀) (X : (Mine.hd.heap_39 w.params).In h₀) (F0 : Fr h₀ L h m0) (r2 : m0 (Str.ofString "factors") = some (.ref fl)) (r3 : m0 (Str.ofString "octets") = some (.bytes d.toArray td)) (r4 : m0 (Str.ofString "text") = some (.bytes row.toArray tr)) (r5 : m0 (Str.ofString "rings") = some (.ref rg))
    (N0 : News h₀ L h ((L + 1 + 1 + 1 + 1 + 1, o5) :: (L + 1 + 1 + 1 + 1, o4) :: (L + 1 + 1 + 1, o3) :: (L + 1 + 1, o2) :: (L + 1, o1) :: nw)) (hoff : Off5 L nw) (d1 : o1.data = .cell (some (.ref tl))) (d2 : o2.data = .cell (some (.ref rl))) (d3 : o3.data = .cell (some (.ref dl))) (d4 : o4.data = .cell (some (.int last tla))) (d5 : o5.data = .cell (some (.ref hl)))
    (kt : (tl, listOf tv.toArray ct) ∈ nw) (hti : IntsAre tv [(f : Int), ((f * g : Nat) : Int), ((f * g * hq : Nat) : Int)]) (kr : (rl, LCg.lst rv) ∈ nw) (hri : IntsAre rv (perOf ns)) (hf : f = 2 ∨ f = 3) (hg : g = 2 ∨ g = 3) (hh : hq = 2 ∨ hq = 3) (hd : d.length = f * g * hq) (hl5 : 5 ≤ last) (hl8 : last ≤ 8) (r6 : m0 (Str.ofString "due") = some (.ref du))
    (k : ∀ h' tk' m' nx ah bs cb (tupB : Addr → T3), Fr h₀ L h' m' → News h₀ L h' ((L + 1 + 1 + 1 + 1 + 1, o5) :: (L + 1 + 1 + 1 + 1, o4) :: (L + 1 + 1 + 1, o3) :: (L + 1 + 1, o2) :: (L + 1, o1) :: nx) → Off5 L nx → (∀ p ∈ nw, p ∈ nx) → (ah, lstR bs cb) ∈ nx → Tups tupB bs nx → (bs.map fun a => (tupB a).key).Perm (bells (fun k => (perOf ns).getD k 0) (fun j => [(f : Int), ((f * g : Nat) : Int), ((f * g * hq : Nat) : Int)].getD j 0) (cnOf ns last)) → Inc (bs.map fun a => (tupB a).key) →
      m' (Str.ofString "octets") = some (.bytes d.toArray td) → m' (Str.ofString "factors") = some (.ref fl) → m' (Str.ofString "text") = some (.bytes row.toArray tr) → m' (Str.ofString "rings") = some (.ref rg) → m' (Str.ofString "due") = some (.ref du) → m' (Str.ofString "ahead") = some (.ref ah) → wpD (model prog w) (callerA.deeper (lawEnv lawScope L fa cdv)) (execs (lawBody.drop 9) (lawEnv lawScope L fa cdv)) Q E { s with heap := h', toks := tk' }) :
    wpD (model prog w) (callerA.deeper (lawEnv scope L fa cdv)) (execs body (lawEnv scope L fa cdv)) Q E { s with heap := h, toks := tk } := by
  conv at hs => rhs; whnf
  conv at hb => rhs; whnf
  subst hs hb
  have F1 := (fr_bind (fr_bind (fr_bind (fr_bind (fr_bind F0 r2) (x := Str.ofString "octets") (v := .bytes d.toArray td) (by rw [if_neg (by decide)]; exact r3)) (x := Str.ofString "text") (v := .bytes row.toArray tr) (by rw [if_neg (by decide), if_neg (by decide)]; exact r4)) (x := Str.ofString "rings") (v := .ref rg) (by rw [if_neg (by decide), if_neg (by decide), if_neg (by decide)]; exact r5)) (x := Str.ofString "due") (v := .ref du) (by rw [if_neg (by decide), if_neg (by decide), if_neg (by decide), if_neg (by decide)]; exact r6))
  clear F0
  have k1 : (L + 1, o1) ∈ (L + 1 + 1 + 1 + 1 + 1, o5) :: (L + 1 + 1 + 1 + 1, o4) :: (L + 1 + 1 + 1, o3) :: (L + 1 + 1, o2) :: (L + 1, o1) :: nw := .tail _ (.tail _ (.tail _ (.tail _ (.head _))))
  have k2 : (L + 1 + 1, o2) ∈ (L + 1 + 1 + 1 + 1 + 1, o5) :: (L + 1 + 1 + 1 + 1, o4) :: (L + 1 + 1 + 1, o3) :: (L + 1 + 1, o2) :: (L + 1, o1) :: nw := .tail _ (.tail _ (.tail _ (.head _)))
  have k3 : (L + 1 + 1 + 1, o3) ∈ (L + 1 + 1 + 1 + 1 + 1, o5) :: (L + 1 + 1 + 1 + 1, o4) :: (L + 1 + 1 + 1, o3) :: (L + 1 + 1, o2) :: (L + 1, o1) :: nw := .tail _ (.tail _ (.head _))
  have k4 : (L + 1 + 1 + 1 + 1, o4) ∈ (L + 1 + 1 + 1 + 1 + 1, o5) :: (L + 1 + 1 + 1 + 1, o4) :: (L + 1 + 1 + 1, o3) :: (L + 1 + 1, o2) :: (L + 1, o1) :: nw := .tail _ (.head _)
  have k5 : (L + 1 + 1 + 1 + 1 + 1, o5) ∈ (L + 1 + 1 + 1 + 1 + 1, o5) :: (L + 1 + 1 + 1 + 1, o4) :: (L + 1 + 1 + 1, o3) :: (L + 1 + 1, o2) :: (L + 1, o1) :: nw := .head _
  have S : Sizes d f g hq (fun j => [(f : Int), ((f * g : Nat) : Int), ((f * g * hq : Nat) : Int)].getD j 0) := ⟨hf, hg, hh, by rw [hd, Nat.mul_assoc], rfl, rfl, rfl⟩
  have P := S.pw (p := (fun k => (perOf ns).getD k 0)) (fun k hk => perOf_is ns hk)
  refine D_execs_consA ?_
  try k_fold
  tb_start
  refine LCg.ListComp_U (F₀ := F1) (by rfl) (by decide) (by rfl) (by decide) (by rfl) ?_
  tb_start
  refine range1_rows F1 N0 ?_
  intro h2 tk2 ra2 rb2 rc2 R2 F2 N2 _
  tb_start
  clear F1 N0
  refine LCg.CompSrc.range (n := 6) rfl F2 N2 R2 (by decide) (by decide) (by decide) fun g3 => ?_
  refine compRest_ind (fun i ys nx => ∃ (as : List Addr) (tup : Addr → T3), ys = as.map Value.ref ∧ as.length = i ∧ Tups tup as nx ∧ as.map (fun a => (tup a).key) = (List.range i).map (bell (fun k => (perOf ns).getD k 0) (fun j => [(f : Int), ((f * g : Nat) : Int), ((f * g * hq : Nat) : Int)].getD j 0) (cnOf ns last)) ∧ ∀ p ∈ (L + 1 + 1 + 1 + 1 + 1, o5) :: (L + 1 + 1 + 1 + 1, o4) :: (L + 1 + 1 + 1, o3) :: (L + 1 + 1, o2) :: (L + 1, o1) :: nw, p ∈ nx)
    ⟨[], fun _ => ⟨0, 0, 0, 0, 0, 0⟩, rfl, rfl, (fun a ha => by cases ha), rfl, fun p hp => hp⟩ ?_ ?_
  · rintro i ys nx hi ⟨as, tup, rfl, hlen, ht, hkey, hbase⟩ v I oI C oC D m₂ h3 tk3 E' ⟨t3, rfl⟩ hC hx F3 N3 off ne
    have q1 : (L + 1, o1) ∈ (I, oI) :: (C, oC) :: (D, LCg.lst (as.map Value.ref)) :: nx := .tail _ (.tail _ (.tail _ (hbase _ k1)))
    have q2 : (L + 1 + 1, o2) ∈ (I, oI) :: (C, oC) :: (D, LCg.lst (as.map Value.ref)) :: nx := .tail _ (.tail _ (.tail _ (hbase _ k2)))
    have q4 : (L + 1 + 1 + 1 + 1, o4) ∈ (I, oI) :: (C, oC) :: (D, LCg.lst (as.map Value.ref)) :: nx := .tail _ (.tail _ (.tail _ (hbase _ k4)))
    have qt : (tl, listOf tv.toArray ct) ∈ (I, oI) :: (C, oC) :: (D, LCg.lst (as.map Value.ref)) :: nx := .tail _ (.tail _ (.tail _ (hbase _ (.tail _ (.tail _ (.tail _ (.tail _ (.tail _ kt))))))))
    have qr : (rl, LCg.lst rv) ∈ (I, oI) :: (C, oC) :: (D, LCg.lst (as.map Value.ref)) :: nx := .tail _ (.tail _ (.tail _ (hbase _ (.tail _ (.tail _ (.tail _ (.tail _ (.tail _ kr))))))))
    have hpl := perOf_len ns
    have e0 : ((0 : Int) + (i : Int)).toNat = i := by omega
    have hpi : (perOf ns).getD ((0 : Int) + (i : Int)).toNat 0 = 2 ∨ (perOf ns).getD ((0 : Int) + (i : Int)).toNat 0 = 3 ∨ (perOf ns).getD ((0 : Int) + (i : Int)).toNat 0 = 4 ∨ (perOf ns).getD ((0 : Int) + (i : Int)).toNat 0 = 5 := by rw [e0]; exact perOf_is ns hi
    have hpb : Builtin.Int.intBits ((perOf ns).getD ((0 : Int) + (i : Int)).toNat 0) ≤ 64 := by rw [e0]; exact per_bits ns hi
    tb_start
    rename_i ta ka tb kb tc kc td2 q h4 F4 N4 hlt
    have hne : ∀ a ∈ as, a ≠ q := fun a ha => Nat.ne_of_lt (kst_ltOf hlt.2.2.2 _ (ht a ha))
    have e2 : (((0 : Int) + (i : Int)) % 3).toNat = i % 3 := by omega
    rw [e0, e2] at N4
    have hcn := cnOf_is (ns := ns) hl5 hi
    refine LCg.CompEnd.intro F4 N4 ((q, tupO ⟨(perOf ns).getD i 0 * (last / (perOf ns).getD i 0 + 1), [(f : Int), ((f * g : Nat) : Int), ((f * g * hq : Nat) : Int)].getD (i % 3) 0, 0 + (i : Int), tb, td2, t3⟩) :: nx) (fun p hp => ?_) ?_ trivial ⟨as ++ [q], updT tup q ⟨(perOf ns).getD i 0 * (last / (perOf ns).getD i 0 + 1), [(f : Int), ((f * g : Nat) : Int), ((f * g * hq : Nat) : Int)].getD (i % 3) 0, 0 + (i : Int), tb, td2, t3⟩, by simp, by simp [hlen], fun a ha => ?_, ?_, fun p hp => .tail _ (hbase p hp)⟩
    · simp only [List.mem_cons] at hp
      rcases hp with rfl | rfl | rfl | rfl | hp
      · exact .tail _ (.head _)
      · exact .tail _ (.tail _ (.head _))
      · exact .tail _ (.tail _ (.tail _ (.head _)))
      · exact .head _
      · exact .tail _ (.tail _ (.tail _ (.tail _ hp)))
    · exact ⟨⟨Nat.ne_of_gt hlt.1, Nat.ne_of_gt hlt.2.1, Nat.ne_of_gt hlt.2.2.1⟩, off⟩
    · rcases List.mem_append.mp ha with ha | ha
      · exact .tail _ ((ht.upd hne) a ha)
      · rw [List.mem_singleton.mp ha, updT_self]
        exact .head _
    · rw [List.map_append, map_upd hne, hkey, List.range_succ, List.map_append, List.map_singleton, List.map_singleton, updT_self]
      unfold bell
      rw [hcn]
      simp [T3.key]
  · rintro ys nx ⟨as, tup, rfl, hlen, ht, hkey, hbase⟩
    unfold LCg.FinE
    intro D h7 tk7 F7 N7 off7
    tb_start
    have eL : LCg.lst (as.map Value.ref) = lstR as 6 := by simp [LCg.lst, lstR, W.listOf, hlen]
    rw [eL] at N7
    have hkb : as.map (fun a => (tup a).key) = bells (fun k => (perOf ns).getD k 0) (fun j => [(f : Int), ((f * g : Nat) : Int), ((f * g * hq : Nat) : Int)].getD j 0) (cnOf ns last) := hkey
    have hbd : ∀ a ∈ as, Bd (tup a).key := fun a ha => by
      have : (tup a).key ∈ bells (fun k => (perOf ns).getD k 0) (fun j => [(f : Int), ((f * g : Nat) : Int), ((f * g * hq : Nat) : Int)].getD j 0) (cnOf ns last) := hkb ▸ List.mem_map.mpr ⟨a, ha, rfl⟩
      obtain ⟨j, hj, e⟩ := mem_bells.mp this
      rw [e]
      exact bell_bd P hj
    refine sorted_T (tup := tup) F7 N7 (.head _) (ht.mono fun p hp => .tail _ hp) (by omega) (by omega) hbd (inj_of hbd (hkb ▸ bells_nodup _ _ _)) ?_
    intro D2 bs cb h8 F8 N8 lt8 hperm hinc
    tb_start
    rename Fr _ _ _ _ => F9
    rename News _ _ _ _ => N9
    try dsimp only
    have j1 := hbase _ k1
    have j2 := hbase _ k2
    have j3 := hbase _ k3
    have j4 := hbase _ k4
    have j5 := hbase _ k5
    have sq : ∀ {a : Addr} {o : Obj} {xs : Array Value} {n : Nat}, (a, o) ∈ (D2, lstR bs cb) :: (D, lstR as 6) :: nx → o.data = .seq xs n → (a, o) ∈ sans L ((D2, lstR bs cb) :: (D, lstR as 6) :: nx) := fun hm hd => sans_seq N9 (.tail _ (.tail _ j1)) (.tail _ (.tail _ j2)) (.tail _ (.tail _ j3)) (.tail _ (.tail _ j4)) (.tail _ (.tail _ j5)) d1 d2 d3 d4 d5 hm hd
    refine k _ _ _ (sans L ((D2, lstR bs cb) :: (D, lstR as 6) :: nx)) D2 bs cb tup F9 (sans_news N9 (.tail _ (.tail _ j1)) (.tail _ (.tail _ j2)) (.tail _ (.tail _ j3)) (.tail _ (.tail _ j4)) (.tail _ (.tail _ j5))) (sans_off _ _) (sans_old hoff fun p hp => .tail _ (.tail _ (hbase p (.tail _ (.tail _ (.tail _ (.tail _ (.tail _ hp)))))))) (sq (.head _) rfl) (fun a ha => sq (.tail _ (.tail _ (ht a (hperm.mem_iff.mp ha)))) rfl) ?_ (inc_map hinc) rfl rfl rfl rfl rfl rfl
    rw [← hkb]
    exact hperm.map _
/-! L7 -/
theorem fillFragL7 : True := by
  w_top off
  trivial
set_option maxHeartbeats 8000000 in
theorem seg7 {prog : Program} {w : World} {p : Program} {loose : List Str} {mean : ExcName → Option Value} {mg mb : Str → Option Value} {h₀ h : Heap} {L fa : Addr} {cdv : Value} {m0 : Str → Option Value} {s : Shared} {tk : Nat} {Q : Flow → Shared → Prop} {E : Value → Shared → Prop}
    {scope : Scope} {body : List Stmt} {o1 o2 o3 o4 o5 : Obj} {nw : List (Addr × Obj)} {fl tl rl dl hl rg : Addr} {d row : List UInt8} {td tla tr : Tok} {tv rv : List Value} {ct c' f g hq : Nat} {ns : List Int} {last : Int} {as told : List Addr} {tup : Addr → T3} {cn : Nat → Nat} (hs : scope = lawScope) (hb : body = lawBody.drop 7)
    (T : Top p loose mean mg mb h₀) (X : (Mine.hd.heap_39 w.params).In h₀) (F0 : Fr h₀ L h m0) (r2 : m0 (Str.ofString "factors") = some (.ref fl)) (r3 : m0 (Str.ofString "octets") = some (.bytes d.toArray td)) (r4 : m0 (Str.ofString "text") = some (.bytes row.toArray tr)) (r5 : m0 (Str.ofString "rings") = some (.ref rg))
    (N0 : News h₀ L h ((L + 1 + 1 + 1 + 1 + 1, o5) :: (L + 1 + 1 + 1 + 1, o4) :: (L + 1 + 1 + 1, o3) :: (L + 1 + 1, o2) :: (L + 1, o1) :: nw)) (hoff : Off5 L nw) (d1 : o1.data = .cell (some (.ref tl))) (d2 : o2.data = .cell (some (.ref rl))) (d3 : o3.data = .cell (some (.ref dl))) (d4 : o4.data = .cell (some (.int last tla))) (d5 : o5.data = .cell (some (.ref hl)))
    (kt : (tl, listOf tv.toArray ct) ∈ nw) (hti : IntsAre tv [(f : Int), ((f * g : Nat) : Int), ((f * g * hq : Nat) : Int)]) (kr : (rl, LCg.lst rv) ∈ nw) (hri : IntsAre rv (perOf ns)) (hf : f = 2 ∨ f = 3) (hg : g = 2 ∨ g = 3) (hh : hq = 2 ∨ hq = 3) (hd : d.length = f * g * hq) (hl5 : 5 ≤ last) (hl8 : last ≤ 8)
    (R : RI (fun k => (perOf ns).getD k 0) (fun j => [(f : Int), ((f * g : Nat) : Int), ((f * g * hq : Nat) : Int)].getD j 0) last (told.map fun a => (tup a).key) (as.map fun a => (tup a).key) cn) (hcn : ∀ k, k < 6 → (cn k : Int) = last / (perOf ns).getD k 0 + 1)
    (k : ∀ h' tk' m' nx du us cu (tupU : Addr → T3), Fr h₀ L h' m' → News h₀ L h' ((L + 1 + 1 + 1 + 1 + 1, o5) :: (L + 1 + 1 + 1 + 1, o4) :: (L + 1 + 1 + 1, o3) :: (L + 1 + 1, o2) :: (L + 1, o1) :: nx) → Off5 L nx → (∀ p ∈ nw, p ∈ nx) → (du, lstR us cu) ∈ nx → Tups tupU us nx → (told.map fun a => (tup a).key) = (us.map fun a => (tupU a).key) →
      m' (Str.ofString "octets") = some (.bytes d.toArray td) → m' (Str.ofString "factors") = some (.ref fl) → m' (Str.ofString "text") = some (.bytes row.toArray tr) → m' (Str.ofString "rings") = some (.ref rg) → m' (Str.ofString "due") = some (.ref du) → wpD (model prog w) (callerA.deeper (lawEnv lawScope L fa cdv)) (execs (lawBody.drop 8) (lawEnv lawScope L fa cdv)) Q E { s with heap := h', toks := tk' }) :
    wpD (model prog w) (callerA.deeper (lawEnv scope L fa cdv)) (execs body (lawEnv scope L fa cdv)) Q E { s with heap := h, toks := tk } := by
  conv at hs => rhs; whnf
  conv at hb => rhs; whnf
  subst hs hb
  have F1 := (fr_bind (fr_bind (fr_bind (fr_bind F0 r2) (x := Str.ofString "octets") (v := .bytes d.toArray td) (by rw [if_neg (by decide)]; exact r3)) (x := Str.ofString "text") (v := .bytes row.toArray tr) (by rw [if_neg (by decide), if_neg (by decide)]; exact r4)) (x := Str.ofString "rings") (v := .ref rg) (by rw [if_neg (by decide), if_neg (by decide), if_neg (by decide)]; exact r5))
  clear F0
  have k1 : (L + 1, o1) ∈ (L + 1 + 1 + 1 + 1 + 1, o5) :: (L + 1 + 1 + 1 + 1, o4) :: (L + 1 + 1 + 1, o3) :: (L + 1 + 1, o2) :: (L + 1, o1) :: nw := .tail _ (.tail _ (.tail _ (.tail _ (.head _))))
  have k2 : (L + 1 + 1, o2) ∈ (L + 1 + 1 + 1 + 1 + 1, o5) :: (L + 1 + 1 + 1 + 1, o4) :: (L + 1 + 1 + 1, o3) :: (L + 1 + 1, o2) :: (L + 1, o1) :: nw := .tail _ (.tail _ (.tail _ (.head _)))
  have k3 : (L + 1 + 1 + 1, o3) ∈ (L + 1 + 1 + 1 + 1 + 1, o5) :: (L + 1 + 1 + 1 + 1, o4) :: (L + 1 + 1 + 1, o3) :: (L + 1 + 1, o2) :: (L + 1, o1) :: nw := .tail _ (.tail _ (.head _))
  have k4 : (L + 1 + 1 + 1 + 1, o4) ∈ (L + 1 + 1 + 1 + 1 + 1, o5) :: (L + 1 + 1 + 1 + 1, o4) :: (L + 1 + 1 + 1, o3) :: (L + 1 + 1, o2) :: (L + 1, o1) :: nw := .tail _ (.head _)
  have k5 : (L + 1 + 1 + 1 + 1 + 1, o5) ∈ (L + 1 + 1 + 1 + 1 + 1, o5) :: (L + 1 + 1 + 1 + 1, o4) :: (L + 1 + 1 + 1, o3) :: (L + 1 + 1, o2) :: (L + 1, o1) :: nw := .head _
  have S : Sizes d f g hq (fun j => [(f : Int), ((f * g : Nat) : Int), ((f * g * hq : Nat) : Int)].getD j 0) := ⟨hf, hg, hh, by rw [hd, Nat.mul_assoc], rfl, rfl, rfl⟩
  have P := S.pw (p := (fun k => (perOf ns).getD k 0)) (fun k hk => perOf_is ns hk)
  refine D_execs_consA ?_
  try k_fold
  tb_start
  refine ListComp_2 (a := 0) (n := 6) (h₀ := h₀) (L := L) (fun i ys nx => ∃ (as : List Addr) (tup : Addr → T3), ys = as.map Value.ref ∧ as.length ≤ 4 * i ∧ Tups tup as nx ∧ as.map (fun a => (tup a).key) = allHours (fun k => (perOf ns).getD k 0) (fun j => [(f : Int), ((f * g : Nat) : Int), ((f * g * hq : Nat) : Int)].getD j 0) (cnOf ns last) i ∧ ∀ p ∈ (L + 1 + 1 + 1 + 1 + 1, o5) :: (L + 1 + 1 + 1 + 1, o4) :: (L + 1 + 1 + 1, o3) :: (L + 1 + 1, o2) :: (L + 1, o1) :: nw, p ∈ nx) F1 rfl (by rfl) (by decide) (by rfl) (by decide) (by rfl) (by rfl) (by decide) (by intro _; rfl) (by intro _ _; rfl) ?_
  tb_start
  refine range1_rows F1 N0 ?_
  intro h2 tk2 ra2 rb2 rc2 R2 F2 N2 _
  clear F1 N0
  dsimp only
  refine ⟨_, 6, _, _, _, _, rfl, F2, N2, R2, by decide, by decide, ⟨[], fun _ => ⟨0, 0, 0, 0, 0, 0⟩, rfl, Nat.le_refl _, (fun a ha => by cases ha), rfl, fun p hp => hp⟩, fun g3 => ⟨?_, ?_⟩⟩
  · rintro i ys nx hi ⟨as1, tup1, rfl, hlen, ht, hkey, hbase⟩ v1 I oI C oC D m₂ h3 tk3 E' ⟨t3, rfl⟩ hC hx F3 N3 off
    have q2 : (L + 1 + 1, o2) ∈ (I, oI) :: (C, oC) :: (D, LCg.lst (as1.map Value.ref)) :: nx := .tail _ (.tail _ (.tail _ (hbase _ k2)))
    have q4 : (L + 1 + 1 + 1 + 1, o4) ∈ (I, oI) :: (C, oC) :: (D, LCg.lst (as1.map Value.ref)) :: nx := .tail _ (.tail _ (.tail _ (hbase _ k4)))
    have qr : (rl, LCg.lst rv) ∈ (I, oI) :: (C, oC) :: (D, LCg.lst (as1.map Value.ref)) :: nx := .tail _ (.tail _ (.tail _ (hbase _ (.tail _ (.tail _ (.tail _ (.tail _ (.tail _ kr))))))))
    have hpl := perOf_len ns
    have e0 : ((0 : Int) + (i : Int)).toNat = i := by (first | lia | omega)
    have hpi : (perOf ns).getD ((0 : Int) + (i : Int)).toNat 0 = 2 ∨ (perOf ns).getD ((0 : Int) + (i : Int)).toNat 0 = 3 ∨ (perOf ns).getD ((0 : Int) + (i : Int)).toNat 0 = 4 ∨ (perOf ns).getD ((0 : Int) + (i : Int)).toNat 0 = 5 := by rw [e0]; exact perOf_is ns hi
    have hpb : Builtin.Int.intBits ((perOf ns).getD ((0 : Int) + (i : Int)).toNat 0) ≤ 64 := by rw [e0]; exact per_bits ns hi
    tb_start
    refine range2_rows F3 N3 ?_
    intro h4 tk4 ra4 rb4 rc4 R4 F4 N4 _
    rw [e0] at R4
    have hcni := cnOf_is (ns := ns) hl5 hi
    have hq14 : last / (perOf ns).getD i 0 = 1 ∨ last / (perOf ns).getD i 0 = 2 ∨ last / (perOf ns).getD i 0 = 3 ∨ last / (perOf ns).getD i 0 = 4 := by
      rcases perOf_is ns hi with e | e | e | e <;> rw [e] <;> (first | lia | omega)
    have hn4 : cnOf ns last i - 1 ≤ 4 := by (first | lia | omega)
    refine ⟨_, h4, tk4, 1, last / (perOf ns).getD i 0 + 1, ra4, rb4, rc4, cnOf ns last i - 1, fun j ys nx' => ∃ (as2 : List Addr) (tup2 : Addr → T3), ys = as2.map Value.ref ∧ as2.length ≤ 4 * i + j ∧ j ≤ 4 ∧ Tups tup2 as2 nx' ∧ as2.map (fun a => (tup2 a).key) = allHours (fun k => (perOf ns).getD k 0) (fun j => [(f : Int), ((f * g : Nat) : Int), ((f * g * hq : Nat) : Int)].getD j 0) (cnOf ns last) i ++ hours (fun k => (perOf ns).getD k 0) (fun j => [(f : Int), ((f * g : Nat) : Int), ((f * g * hq : Nat) : Int)].getD j 0) i j ∧ ∀ p ∈ (L + 1 + 1 + 1 + 1 + 1, o5) :: (L + 1 + 1 + 1 + 1, o4) :: (L + 1 + 1 + 1, o3) :: (L + 1 + 1, o2) :: (L + 1, o1) :: nw, p ∈ nx',
      rfl, rfl, F4, N4, R4, ?_, ?_, ⟨as1, tup1, rfl, by (first | lia | omega), by (first | lia | omega), ht, by rw [hkey]; simp [hours], hbase⟩, ?_, ?_, ?_⟩
    · rcases hq14 with e | e | e | e <;> rw [e] <;> decide
    · have e9 : ((cnOf ns last i - 1 : Nat) : Int) = last / (perOf ns).getD i 0 := by (first | lia | omega)
      rw [e9]
      rcases hq14 with e | e | e | e <;> rw [e] <;> decide
    · rintro j ys nx2 ⟨as2, tup2, rfl, hlen2, hj4, _⟩
      rw [List.length_map]
      (first | lia | omega)
    · rintro ys nx2 ⟨as2, tup2, rfl, hlen2, hj4, ht2, hkey2, hbase2⟩
      exact ⟨as2, tup2, rfl, by (first | lia | omega), ht2, by rw [hkey2, allHours_succ], hbase2⟩
    · rintro j ys nx2 hj ⟨as2, tup2, rfl, hlen2, hj4, ht2, hkey2, hbase2⟩ hnI v I2 oI2 oC2 m3 h5 tk5 E'' ⟨t5, rfl⟩ hC2 hx1 hx2 F5 N5 off5
      clear F3 N3 F4 N4 hC hx q2 q4 qr
      have q1 : (L + 1, o1) ∈ (I2, oI2) :: (C, oC2) :: (D, LCg.lst (as2.map Value.ref)) :: (I, oI) :: nx2 := .tail _ (.tail _ (.tail _ (.tail _ (hbase2 _ k1))))
      have q2 : (L + 1 + 1, o2) ∈ (I2, oI2) :: (C, oC2) :: (D, LCg.lst (as2.map Value.ref)) :: (I, oI) :: nx2 := .tail _ (.tail _ (.tail _ (.tail _ (hbase2 _ k2))))
      have qt : (tl, listOf tv.toArray ct) ∈ (I2, oI2) :: (C, oC2) :: (D, LCg.lst (as2.map Value.ref)) :: (I, oI) :: nx2 := .tail _ (.tail _ (.tail _ (.tail _ (hbase2 _ (.tail _ (.tail _ (.tail _ (.tail _ (.tail _ kt)))))))))
      have qr : (rl, LCg.lst rv) ∈ (I2, oI2) :: (C, oC2) :: (D, LCg.lst (as2.map Value.ref)) :: (I, oI) :: nx2 := .tail _ (.tail _ (.tail _ (.tail _ (hbase2 _ (.tail _ (.tail _ (.tail _ (.tail _ (.tail _ kr)))))))))
      have hjb : Builtin.Int.intBits (1 + (j : Int)) ≤ 64 := by
        have : j = 0 ∨ j = 1 ∨ j = 2 ∨ j = 3 := by (first | lia | omega)
        rcases this with rfl | rfl | rfl | rfl <;> decide
      tb_start
      rename_i ta tb kb tc kc td2 q h6 F6 N6 hlt
      have hne : ∀ a ∈ as2, a ≠ q := fun a ha => Nat.ne_of_lt (kst_ltOf hlt.2.2.2.2 _ (ht2 a ha))
      have e2 : (((0 : Int) + (i : Int)) % 3).toNat = i % 3 := by (first | lia | omega)
      rw [e0, e2] at N6
      refine LCg.CompEnd.intro F6 N6 ((I, oI) :: (q, tupO ⟨(perOf ns).getD i 0 * (1 + (j : Int)), [(f : Int), ((f * g : Nat) : Int), ((f * g * hq : Nat) : Int)].getD (i % 3) 0, 0 + (i : Int), tb, td2, t3⟩) :: nx2) (fun p hp => ?_) ?_ trivial ⟨(q, tupO ⟨(perOf ns).getD i 0 * (1 + (j : Int)), [(f : Int), ((f * g : Nat) : Int), ((f * g * hq : Nat) : Int)].getD (i % 3) 0, 0 + (i : Int), tb, td2, t3⟩) :: nx2, rfl, fun p hp => ?_, as2 ++ [q], updT tup2 q ⟨(perOf ns).getD i 0 * (1 + (j : Int)), [(f : Int), ((f * g : Nat) : Int), ((f * g * hq : Nat) : Int)].getD (i % 3) 0, 0 + (i : Int), tb, td2, t3⟩, by simp, by simp; (first | lia | omega), by (first | lia | omega), fun a ha => ?_, ?_, fun p hp => .tail _ (hbase2 p hp)⟩
      · simp only [List.mem_cons] at hp
        rcases hp with rfl | rfl | rfl | rfl | rfl | hp
        · exact .tail _ (.head _)
        · exact .tail _ (.tail _ (.head _))
        · exact .tail _ (.tail _ (.tail _ (.head _)))
        · exact .tail _ (.tail _ (.tail _ (.tail _ (.head _))))
        · exact .head _
        · exact .tail _ (.tail _ (.tail _ (.tail _ (.tail _ hp))))
      · exact ⟨off5.1, ⟨Nat.ne_of_gt hlt.1, Nat.ne_of_gt hlt.2.1, Nat.ne_of_gt hlt.2.2.1⟩, off5.2⟩
      · rcases List.mem_cons.mp hp with rfl | hp
        · exact Nat.ne_of_gt hlt.2.2.2.1
        · exact hnI p hp
      · rcases List.mem_append.mp ha with ha | ha
        · exact .tail _ ((ht2.upd hne) a ha)
        · rw [List.mem_singleton.mp ha, updT_self]
          exact .head _
      · rw [List.map_append, map_upd hne, hkey2, hours_succ, List.map_singleton, updT_self, List.append_assoc]
        simp [T3.key]
  · rintro ys nx ⟨as1, tup1, rfl, hlen, ht, hkey, hbase⟩
    unfold LCg.FinE
    intro D h7 tk7 F7 N7 off7
    have hcl : ∀ k, k < 6 → 2 ≤ cnOf ns last k ∧ cnOf ns last k ≤ 5 := fun k hk => by
      have e1 := cnOf_is (ns := ns) hl5 hk
      have e2 : 1 ≤ last / (perOf ns).getD k 0 ∧ last / (perOf ns).getD k 0 ≤ 4 := by
        rcases perOf_is ns hk with e | e | e | e <;> rw [e] <;> (first | lia | omega)
      (first | lia | omega)
    have hlk := allHours_len (p := (fun k => (perOf ns).getD k 0)) (ws := (fun j => [(f : Int), ((f * g : Nat) : Int), ((f * g * hq : Nat) : Int)].getD j 0)) hcl
    rw [← hkey, List.length_map] at hlk
    have hbd : ∀ a ∈ as1, Bd (tup1 a).key := fun a ha => allHours_bd P (cn := cnOf ns last) (hkey ▸ List.mem_map.mpr ⟨a, ha, rfl⟩)
    have hnd : (as1.map fun a => (tup1 a).key).Nodup := by
      rw [hkey]
      exact allHours_nodup fun k hk => by rcases perOf_is ns hk with e | e | e | e <;> rw [e] <;> decide
    have eL : LCg.lst (as1.map Value.ref) = lstR as1 as1.length := by simp [LCg.lst, lstR, W.listOf]
    rw [eL] at N7
    tb_start
    refine sorted_T (tup := tup1) F7 N7 (.head _) (ht.mono fun p hp => .tail _ hp) (by (first | lia | omega)) (by (first | lia | omega)) hbd (inj_of hbd hnd) ?_
    intro D2 us cu h8 F8 N8 lt8 hperm hinc
    tb_start
    rename Fr _ _ _ _ => F9
    rename News _ _ _ _ => N9
    try dsimp only
    have j1 := hbase _ k1
    have j2 := hbase _ k2
    have j3 := hbase _ k3
    have j4 := hbase _ k4
    have j5 := hbase _ k5
    have sq : ∀ {a : Addr} {o : Obj} {xs : Array Value} {n : Nat}, (a, o) ∈ (D2, lstR us cu) :: (D, lstR as1 as1.length) :: nx → o.data = .seq xs n → (a, o) ∈ sans L ((D2, lstR us cu) :: (D, lstR as1 as1.length) :: nx) := fun hm hd => sans_seq N9 (.tail _ (.tail _ j1)) (.tail _ (.tail _ j2)) (.tail _ (.tail _ j3)) (.tail _ (.tail _ j4)) (.tail _ (.tail _ j5)) d1 d2 d3 d4 d5 hm hd
    refine k _ _ _ (sans L ((D2, lstR us cu) :: (D, lstR as1 as1.length) :: nx)) D2 us cu tup1 F9 (sans_news N9 (.tail _ (.tail _ j1)) (.tail _ (.tail _ j2)) (.tail _ (.tail _ j3)) (.tail _ (.tail _ j4)) (.tail _ (.tail _ j5))) (sans_off _ _) (sans_old hoff fun p hp => .tail _ (.tail _ (hbase p (.tail _ (.tail _ (.tail _ (.tail _ (.tail _ hp)))))))) (sq (.head _) rfl) (fun a ha => sq (.tail _ (.tail _ (ht a (hperm.mem_iff.mp ha)))) rfl) ?_ rfl rfl rfl rfl rfl
    refine inc_eq R.sorted (inc_map hinc) fun x => ?_
    rw [R.mem x, (hperm.map fun a => (tup1 a).key).mem_iff, hkey, mem_allHours fun k hk => by have := hcl k hk; (first | lia | omega)]
    have hcc : ∀ k, k < 6 → cnOf ns last k = cn k := fun k hk => by
      have e1 := cnOf_is (ns := ns) hl5 hk
      have e2 := hcn k hk
      (first | lia | omega)
    constructor
    · rintro ⟨k, hk, n, n1, n2, e⟩
      exact ⟨k, hk, n, n1, by rw [hcc k hk]; exact n2, e⟩
    · rintro ⟨k, hk, n, n1, n2, e⟩
      exact ⟨k, hk, n, n1, by rw [← hcc k hk]; exact n2, e⟩
/-! S4 -/
def keyD (k : K3) : PyData := .tuple [.int k.1, .int k.2.1, .int k.2.2]
theorem reads_tup {h : Heap} {a : Addr} {x : T3} (ha : h.get? a = some (tupO x)) : Reads h (.ref a) (keyD x.key) [] :=
  Reads.tuple ha rfl rfl (ReadsAll.cons (Reads.int _ _) (ReadsAll.cons (Reads.int _ _) (ReadsAll.cons (Reads.int _ _) .nil)))
theorem reads_tups {h : Heap} {tup : Addr → T3} : ∀ {as : List Addr}, (∀ a ∈ as, h.get? a = some (tupO (tup a))) → ReadsAll h (as.map Value.ref) (as.map fun a => keyD (tup a).key) []
  | [], _ => .nil
  | a :: _, hh => ReadsAll.cons (as := []) (bs := []) (reads_tup (hh a (.head _))) (reads_tups fun b hb => hh b (.tail _ hb))
theorem reads_lst {h₀ h : Heap} {L l : Addr} {as : List Addr} {c : Nat} {tup : Addr → T3} {nx : List (Addr × Obj)} (N : News h₀ L h nx) (hm : (l, lstR as c) ∈ nx) (ht : Tups tup as nx) : Reads h (.ref l) (.list ((as.map fun a => (tup a).key).map keyD)) [l] := by
  rw [List.map_map]
  exact Reads.list (N _ hm).1 rfl rfl (reads_tups fun a ha => (N _ (ht a ha)).1)
theorem can_keys : ∀ ks : List K3, PyData.canLayAll0 (ks.map keyD) = true
  | [] => by simp [PyData.canLayAll0]
  | k :: ks => by simp [PyData.canLayAll0, PyData.canLay0, keyD, can_keys ks]
theorem depth_keys : ∀ ks : List K3, PyData.depthAll (ks.map keyD) ≤ 1
  | [] => by simp [PyData.depthAll]
  | k :: ks => by
    have := depth_keys ks
    simp only [List.map_cons, PyData.depthAll, keyD, PyData.depth]
    omega
theorem shaped_keys (ks : List K3) : SeqAt.shaped (.list (ks.map keyD)) = true := by
  unfold SeqAt.shaped
  rw [PyData.canLay0, can_keys, PyData.depth]
  have := depth_keys ks
  simp
  omega
theorem eqvAll_keys : ∀ ks : List K3, PyData.eqvAll (ks.map keyD) (ks.map keyD) = true
  | [] => by simp [PyData.eqvAll]
  | k :: ks => by simp [PyData.eqvAll, keyD, PyData.eqv, eqvAll_keys ks]
section
variable {prog : Program} {w : World} {A : Around} {E : Value → Shared → Prop} {s : Shared} {h₀ : Heap} {L a b : Addr} {as bs : List Addr} {ca cb : Nat} {tup tup' : Addr → T3} {nx : List (Addr × Obj)} {Q : Value → Shared → Prop}
/-- «a != b» of two lists with the same triples -/
theorem ne_T (N : News h₀ L s.heap nx) (ha : (a, lstR as ca) ∈ nx) (hta : Tups tup as nx) (hb : (b, lstR bs cb) ∈ nx) (htb : Tups tup' bs nx) (he : (as.map fun a => (tup a).key) = bs.map fun a => (tup' a).key) (hu : A.units + 64 < cLine)
    (h : Q (.bool false) s) : wpAny (model prog w) A (compareOp .NotEq (.ref a) (.ref b)) Q E s := by
  refine ne_dataH (reads_lst N ha hta) (reads_lst N hb htb) (shaped_keys _) (shaped_keys _) hu ?_
  rw [he]
  show Q (.bool (!PyData.eqvAll _ _)) s
  rw [eqvAll_keys]
  exact h
end
/-! L9 -/
theorem fillFragL9 : True := by
  w_top off
  trivial
/-- the walk, which also stops at a comparison of two lists -/
local macro_rules | `(tactic| tb_start) => `(tactic| repeat' ((fail_if_success (with_reducible show wpAny _ _ (exec (Stmt.While _ _ _ _) _) _ _ _)); (fail_if_success (with_reducible show wpAny _ _ (exec (Stmt.For _ _ _ _ _) _) _ _ _)); (fail_if_success (with_reducible show wpAny _ _ (exec (Stmt.Assign _ (Expr.ListComp _ _ _ _) _) _) _ _ _)); (fail_if_success (with_reducible show wpAny _ _ (eval (Expr.ListComp _ _ _ _) _) _ _ _)); (fail_if_success (with_reducible show wpAny _ _ (call (Value.ref _) _) _ _ _)); (fail_if_success (with_reducible show wpAny _ _ (call (Value.builtin "sorted") _) _ _ _)); (fail_if_success (with_reducible show wpAny _ _ (compareOp _ (Value.ref _) (Value.ref _)) _ _ _)); (fail_if_success (with_reducible show wpAny _ _ (compareOp _ (Value.bytes _ _) (Value.bytes _ _)) _ _ _)); (fail_if_success (with_reducible show wpAny _ _ (call (Value.type "range") _) _ _ _)); (fail_if_success (with_reducible show KswEnd _ _ _ _ _ _ _ _ _ _ _ _)); (fail_if_success (with_reducible show LeaveK _ _ _ _ _ _ _)); (fail_if_success (with_reducible show LCg.CompEnd _ _ _ _ _ _ _ _ _ _ _ _ _ _)); (fail_if_success (with_reducible show LCg.CompSrc _ _ _ _ _ _ _ _ _ _ _ _ _ _)); first | (k_unfold; (try dsimp only)) | walk1 | (dsimp only; walk1) | (leave1; walk_say "STEP leave1"; try dsimp only)))
set_option maxHeartbeats 8000000 in
theorem seg9 {prog : Program} {w : World} {p : Program} {loose : List Str} {mean : ExcName → Option Value} {mg mb : Str → Option Value} {h₀ h : Heap} {L fa : Addr} {cdv : Value} {m0 : Str → Option Value} {s : Shared} {tk : Nat} {Q : Flow → Shared → Prop} {E : Value → Shared → Prop}
    {scope : Scope} {body : List Stmt} {o1 o2 o3 o4 o5 : Obj} {nw : List (Addr × Obj)} {fl tl rl dl hl rg : Addr} {d row : List UInt8} {td tla tr : Tok} {tv rv : List Value} {ct c' f g hq : Nat} {ns : List Int} {last : Int} {as told : List Addr} {tup : Addr → T3} {cn : Nat → Nat} {du ah : Addr} {us bs : List Addr} {cu cb : Nat} {tupU tupB : Addr → T3} (hs : scope = lawScope) (hb : body = lawBody.drop 9)
    (T : Top p loose mean mg mb h₀) (X : (Mine.hd.heap_39 w.params).In h₀) (F0 : Fr h₀ L h m0) (r2 : m0 (Str.ofString "factors") = some (.ref fl)) (r3 : m0 (Str.ofString "octets") = some (.bytes d.toArray td)) (r4 : m0 (Str.ofString "text") = some (.bytes row.toArray tr)) (r5 : m0 (Str.ofString "rings") = some (.ref rg))
    (N0 : News h₀ L h ((L + 1 + 1 + 1 + 1 + 1, o5) :: (L + 1 + 1 + 1 + 1, o4) :: (L + 1 + 1 + 1, o3) :: (L + 1 + 1, o2) :: (L + 1, o1) :: nw)) (hoff : Off5 L nw) (d1 : o1.data = .cell (some (.ref tl))) (d2 : o2.data = .cell (some (.ref rl))) (d3 : o3.data = .cell (some (.ref dl))) (d4 : o4.data = .cell (some (.int last tla))) (d5 : o5.data = .cell (some (.ref hl)))
    (kt : (tl, listOf tv.toArray ct) ∈ nw) (hti : IntsAre tv [(f : Int), ((f * g : Nat) : Int), ((f * g * hq : Nat) : Int)]) (kr : (rl, LCg.lst rv) ∈ nw) (hri : IntsAre rv (perOf ns)) (hf : f = 2 ∨ f = 3) (hg : g = 2 ∨ g = 3) (hh : hq = 2 ∨ hq = 3) (hd : d.length = f * g * hq) (hl5 : 5 ≤ last) (hl8 : last ≤ 8) (r6 : m0 (Str.ofString "due") = some (.ref du)) (r7 : m0 (Str.ofString "ahead") = some (.ref ah))
    (krg : (rg, lstR told c') ∈ nw) (khl : (hl, lstR as 6) ∈ nw) (hta : Tups tup as nw) (htt : Tups tup told nw) (h6 : as.length = 6) (kdu : (du, lstR us cu) ∈ nw) (htu : Tups tupU us nw) (heq : (told.map fun a => (tup a).key) = us.map fun a => (tupU a).key)
    (kah : (ah, lstR bs cb) ∈ nw) (htb : Tups tupB bs nw) (hbp : (bs.map fun a => (tupB a).key).Perm (bells (fun k => (perOf ns).getD k 0) (fun j => [(f : Int), ((f * g : Nat) : Int), ((f * g * hq : Nat) : Int)].getD j 0) cn)) (hbi : Inc (bs.map fun a => (tupB a).key)) (hap : (as.map fun a => (tup a).key).Perm (bells (fun k => (perOf ns).getD k 0) (fun j => [(f : Int), ((f * g : Nat) : Int), ((f * g * hq : Nat) : Int)].getD j 0) cn))
    (k : ∀ h' tk' m', Fr h₀ L h' m' → News h₀ L h' ((L + 1 + 1 + 1 + 1 + 1, o5) :: (L + 1 + 1 + 1 + 1, o4) :: (L + 1 + 1 + 1, o3) :: (L + 1 + 1, o2) :: (L + 1, o1) :: nw) →
      m' (Str.ofString "octets") = some (.bytes d.toArray td) → m' (Str.ofString "factors") = some (.ref fl) → m' (Str.ofString "text") = some (.bytes row.toArray tr) → wpD (model prog w) (callerA.deeper (lawEnv lawScope L fa cdv)) (execs (lawBody.drop 10) (lawEnv lawScope L fa cdv)) Q E { s with heap := h', toks := tk' }) :
    wpD (model prog w) (callerA.deeper (lawEnv scope L fa cdv)) (execs body (lawEnv scope L fa cdv)) Q E { s with heap := h, toks := tk } := by
  conv at hs => rhs; whnf
  conv at hb => rhs; whnf
  subst hs hb
  have F1 := (fr_bind (fr_bind (fr_bind (fr_bind (fr_bind (fr_bind F0 r2) (x := Str.ofString "octets") (v := .bytes d.toArray td) (by rw [if_neg (by decide)]; exact r3)) (x := Str.ofString "text") (v := .bytes row.toArray tr) (by rw [if_neg (by decide), if_neg (by decide)]; exact r4)) (x := Str.ofString "rings") (v := .ref rg) (by rw [if_neg (by decide), if_neg (by decide), if_neg (by decide)]; exact r5)) (x := Str.ofString "due") (v := .ref du) (by rw [if_neg (by decide), if_neg (by decide), if_neg (by decide), if_neg (by decide)]; exact r6)) (x := Str.ofString "ahead") (v := .ref ah) (by rw [if_neg (by decide), if_neg (by decide), if_neg (by decide), if_neg (by decide), if_neg (by decide)]; exact r7))
  clear F0
  have k1 : (L + 1, o1) ∈ (L + 1 + 1 + 1 + 1 + 1, o5) :: (L + 1 + 1 + 1 + 1, o4) :: (L + 1 + 1 + 1, o3) :: (L + 1 + 1, o2) :: (L + 1, o1) :: nw := .tail _ (.tail _ (.tail _ (.tail _ (.head _))))
  have k2 : (L + 1 + 1, o2) ∈ (L + 1 + 1 + 1 + 1 + 1, o5) :: (L + 1 + 1 + 1 + 1, o4) :: (L + 1 + 1 + 1, o3) :: (L + 1 + 1, o2) :: (L + 1, o1) :: nw := .tail _ (.tail _ (.tail _ (.head _)))
  have k3 : (L + 1 + 1 + 1, o3) ∈ (L + 1 + 1 + 1 + 1 + 1, o5) :: (L + 1 + 1 + 1 + 1, o4) :: (L + 1 + 1 + 1, o3) :: (L + 1 + 1, o2) :: (L + 1, o1) :: nw := .tail _ (.tail _ (.head _))
  have k4 : (L + 1 + 1 + 1 + 1, o4) ∈ (L + 1 + 1 + 1 + 1 + 1, o5) :: (L + 1 + 1 + 1 + 1, o4) :: (L + 1 + 1 + 1, o3) :: (L + 1 + 1, o2) :: (L + 1, o1) :: nw := .tail _ (.head _)
  have k5 : (L + 1 + 1 + 1 + 1 + 1, o5) ∈ (L + 1 + 1 + 1 + 1 + 1, o5) :: (L + 1 + 1 + 1 + 1, o4) :: (L + 1 + 1 + 1, o3) :: (L + 1 + 1, o2) :: (L + 1, o1) :: nw := .head _
  have S : Sizes d f g hq (fun j => [(f : Int), ((f * g : Nat) : Int), ((f * g * hq : Nat) : Int)].getD j 0) := ⟨hf, hg, hh, by rw [hd, Nat.mul_assoc], rfl, rfl, rfl⟩
  have P := S.pw (p := (fun k => (perOf ns).getD k 0)) (fun k hk => perOf_is ns hk)
  refine D_execs_consA ?_
  try k_fold
  tb_start
  refine ne_T N0 (.tail _ (.tail _ (.tail _ (.tail _ (.tail _ krg))))) (htt.mono fun p hp => .tail _ (.tail _ (.tail _ (.tail _ (.tail _ hp))))) (.tail _ (.tail _ (.tail _ (.tail _ (.tail _ kdu))))) (htu.mono fun p hp => .tail _ (.tail _ (.tail _ (.tail _ (.tail _ hp))))) heq (by simp only [units_deeper]; decide) ?_
  tb_start
  have hbd : ∀ a ∈ as, Bd (tup a).key := fun a ha => by
    obtain ⟨j, hj, e⟩ := mem_bells.mp (hap.mem_iff.mp (List.mem_map.mpr ⟨a, ha, rfl⟩))
    rw [e]
    exact bell_bd P hj
  refine sorted_T (tup := tup) F1 N0 (.tail _ (.tail _ (.tail _ (.tail _ (.tail _ khl))))) (hta.mono fun p hp => .tail _ (.tail _ (.tail _ (.tail _ (.tail _ hp))))) (by omega) (by omega) hbd (inj_of hbd (hap.nodup_iff.mpr (bells_nodup _ _ _))) ?_
  intro D2 ss cs h8 F8 N8 lt8 hperm hinc
  tb_start
  have he2 : (ss.map fun a => (tup a).key) = bs.map fun a => (tupB a).key := inc_eq (inc_map hinc) hbi fun x => by rw [hbp.mem_iff, ← hap.mem_iff, (hperm.map fun a => (tup a).key).mem_iff]
  refine ne_T N8 (.head _) (fun a ha => .tail _ (.tail _ (.tail _ (.tail _ (.tail _ (.tail _ (hta a (hperm.mem_iff.mp ha)))))))) (.tail _ (.tail _ (.tail _ (.tail _ (.tail _ (.tail _ kah)))))) (htb.mono fun p hp => .tail _ (.tail _ (.tail _ (.tail _ (.tail _ (.tail _ hp)))))) he2 (by simp only [units_deeper]; decide) ?_
  tb_start
  exact k _ _ _ F8 (fun p hp => N8 p (.tail _ hp)) rfl rfl rfl
/-! L10 -/
theorem fillFragL10 : True := by
  w_top off
  trivial
section
variable {prog : Program} {w : World} {A : Around} {h₀ : Heap} {L : Addr} {m : Str → Option Value} {env : Env} {ct elt : PySem.Expr} {x : Str} {scope : Scope} {cl : List (Str × Addr)} {s : Shared} {S : List (Addr × Obj) → Prop} {P : Nat → Value → Prop} {Fin : List Value → List (Addr × Obj) → Prop} {news : List (Addr × Obj)}
theorem memD {as : List Addr} {j : Nat} (h : j < as.length) : as.getD j 0 ∈ as := by simp [h]
/-- a comprehension whose test never holds -/
theorem restT_false {n : Nat} (hS : S news) (fin : Fin [] news)
    (step : ∀ i, i < n → ∀ v I oI C oC D m₂ h tk (E' : Value → Shared → Prop), P i v → LCg.NsObj oC m₂ → m₂ x = some v → Fr h₀ L h m → News h₀ L h ((I, oI) :: (C, oC) :: (D, LCg.lst []) :: news) → LCg.Off3 I C D news → ((@Ne Nat I C) ∧ (@Ne Nat I D) ∧ (@Ne Nat C D)) →
      wpAny (model prog w) A (isTrue ct (compEnvC scope cl C env) (eval ct (compEnvC scope cl C env))) (fun ok s' => ok = false ∧ ∃ tk', s' = { s with heap := h, toks := tk' }) E' { s with heap := h, toks := tk }) :
    LCt.CompRestT prog w A h₀ L m env ct elt x scope cl s S P Fin n 0 [] news := by
  have go : ∀ k i, k + i = n → LCt.CompRestT prog w A h₀ L m env ct elt x scope cl s S P Fin k i [] news := by
    intro k
    induction k with
    | zero => intro i _; exact LCt.CompRestT.zero fin
    | succ k ih =>
      intro i hi
      refine LCt.CompRestT.succ fun v I oI C oC D m₂ h tk E' hP hN hm F N o ne => ?_
      refine wpAny_mono (step i (by omega) v I oI C oC D m₂ h tk E' hP hN hm F N o ne) (fun ok s' e => ?_) fun _ _ e => e
      obtain ⟨rfl, tk', rfl⟩ := e
      rw [if_neg (by simp)]
      exact LCg.CompEnd.intro F N news (fun p hp => hp) o hS (ih (i + 1) (by omega))
  exact go n 0 (by omega)
end
local macro_rules | `(tactic| walk_at "subscriptTail") => `(tactic| (k_here; (with_reducible show wpAny _ _ (subscriptTail _ _ (Value.ref _) (Value.int _ _)) _ _ _); k_dflt (refine' itemM ?k1 ?k2 ?k3 ?k4 ?k5 ?_ ?k6; (case k1 => assumption); (case k2 => with_reducible assumption); (case k3 => omega); (case k4 => omega); (case k5 => omega); (case k6 => with_unfolding_all rfl); k_whole)))
set_option maxHeartbeats 8000000 in
theorem seg10 {prog : Program} {w : World} {p : Program} {loose : List Str} {mean : ExcName → Option Value} {mg mb : Str → Option Value} {h₀ h : Heap} {L fa : Addr} {cdv : Value} {m0 : Str → Option Value} {s : Shared} {tk : Nat} {Q : Flow → Shared → Prop} {E : Value → Shared → Prop}
    {scope : Scope} {body : List Stmt} {o1 o2 o3 o4 o5 : Obj} {nw : List (Addr × Obj)} {fl tl rl dl hl rg : Addr} {d row : List UInt8} {td tla tr : Tok} {tv rv : List Value} {ct c' f g hq : Nat} {ns : List Int} {last : Int} {as told : List Addr} {tup : Addr → T3} {cn : Nat → Nat} (hs : scope = lawScope) (hb : body = lawBody.drop 10)
    (T : Top p loose mean mg mb h₀) (X : (Mine.hd.heap_39 w.params).In h₀) (F0 : Fr h₀ L h m0) (r2 : m0 (Str.ofString "factors") = some (.ref fl)) (r3 : m0 (Str.ofString "octets") = some (.bytes d.toArray td)) (r4 : m0 (Str.ofString "text") = some (.bytes row.toArray tr))
    (N0 : News h₀ L h ((L + 1 + 1 + 1 + 1 + 1, o5) :: (L + 1 + 1 + 1 + 1, o4) :: (L + 1 + 1 + 1, o3) :: (L + 1 + 1, o2) :: (L + 1, o1) :: nw)) (hoff : Off5 L nw) (d1 : o1.data = .cell (some (.ref tl))) (d2 : o2.data = .cell (some (.ref rl))) (d3 : o3.data = .cell (some (.ref dl))) (d4 : o4.data = .cell (some (.int last tla))) (d5 : o5.data = .cell (some (.ref hl)))
    (kt : (tl, listOf tv.toArray ct) ∈ nw) (hti : IntsAre tv [(f : Int), ((f * g : Nat) : Int), ((f * g * hq : Nat) : Int)]) (kr : (rl, LCg.lst rv) ∈ nw) (hri : IntsAre rv (perOf ns)) (hf : f = 2 ∨ f = 3) (hg : g = 2 ∨ g = 3) (hh : hq = 2 ∨ hq = 3) (hd : d.length = f * g * hq) (hl5 : 5 ≤ last) (hl8 : last ≤ 8)
    (khl : (hl, lstR as 6) ∈ nw) (hta : Tups tup as nw) (h6 : as.length = 6) (hap : (as.map fun a => (tup a).key).Perm (bells (fun k => (perOf ns).getD k 0) (fun j => [(f : Int), ((f * g : Nat) : Int), ((f * g * hq : Nat) : Int)].getD j 0) cn)) (hpk : HeapK (as.map fun a => (tup a).key))
    (k : ∀ h' tk' m', Fr h₀ L h' m' → News h₀ L h' ((L + 1 + 1 + 1 + 1 + 1, o5) :: (L + 1 + 1 + 1 + 1, o4) :: (L + 1 + 1 + 1, o3) :: (L + 1 + 1, o2) :: (L + 1, o1) :: nw) →
      m' (Str.ofString "octets") = some (.bytes d.toArray td) → m' (Str.ofString "factors") = some (.ref fl) → m' (Str.ofString "text") = some (.bytes row.toArray tr) → wpD (model prog w) (callerA.deeper (lawEnv lawScope L fa cdv)) (execs (lawBody.drop 11) (lawEnv lawScope L fa cdv)) Q E { s with heap := h', toks := tk' }) :
    wpD (model prog w) (callerA.deeper (lawEnv scope L fa cdv)) (execs body (lawEnv scope L fa cdv)) Q E { s with heap := h, toks := tk } := by
  conv at hs => rhs; whnf
  conv at hb => rhs; whnf
  subst hs hb
  have F1 := (fr_bind (fr_bind (fr_bind F0 r2) (x := Str.ofString "octets") (v := .bytes d.toArray td) (by rw [if_neg (by decide)]; exact r3)) (x := Str.ofString "text") (v := .bytes row.toArray tr) (by rw [if_neg (by decide), if_neg (by decide)]; exact r4))
  clear F0
  have k1 : (L + 1, o1) ∈ (L + 1 + 1 + 1 + 1 + 1, o5) :: (L + 1 + 1 + 1 + 1, o4) :: (L + 1 + 1 + 1, o3) :: (L + 1 + 1, o2) :: (L + 1, o1) :: nw := .tail _ (.tail _ (.tail _ (.tail _ (.head _))))
  have k2 : (L + 1 + 1, o2) ∈ (L + 1 + 1 + 1 + 1 + 1, o5) :: (L + 1 + 1 + 1 + 1, o4) :: (L + 1 + 1 + 1, o3) :: (L + 1 + 1, o2) :: (L + 1, o1) :: nw := .tail _ (.tail _ (.tail _ (.head _)))
  have k3 : (L + 1 + 1 + 1, o3) ∈ (L + 1 + 1 + 1 + 1 + 1, o5) :: (L + 1 + 1 + 1 + 1, o4) :: (L + 1 + 1 + 1, o3) :: (L + 1 + 1, o2) :: (L + 1, o1) :: nw := .tail _ (.tail _ (.head _))
  have k4 : (L + 1 + 1 + 1 + 1, o4) ∈ (L + 1 + 1 + 1 + 1 + 1, o5) :: (L + 1 + 1 + 1 + 1, o4) :: (L + 1 + 1 + 1, o3) :: (L + 1 + 1, o2) :: (L + 1, o1) :: nw := .tail _ (.head _)
  have k5 : (L + 1 + 1 + 1 + 1 + 1, o5) ∈ (L + 1 + 1 + 1 + 1 + 1, o5) :: (L + 1 + 1 + 1 + 1, o4) :: (L + 1 + 1 + 1, o3) :: (L + 1 + 1, o2) :: (L + 1, o1) :: nw := .head _
  have S : Sizes d f g hq (fun j => [(f : Int), ((f * g : Nat) : Int), ((f * g * hq : Nat) : Int)].getD j 0) := ⟨hf, hg, hh, by rw [hd, Nat.mul_assoc], rfl, rfl, rfl⟩
  have P := S.pw (p := (fun k => (perOf ns).getD k 0)) (fun k hk => perOf_is ns hk)
  have hbd : ∀ a ∈ as, Bd (tup a).key := fun a ha => by
    obtain ⟨j, hj, e⟩ := mem_bells.mp (hap.mem_iff.mp (List.mem_map.mpr ⟨a, ha, rfl⟩))
    rw [e]
    exact bell_bd P hj
  have hkg : ∀ j, j < 6 → (as.map fun a => (tup a).key).getD j (0, 0, 0) = (tup (as.getD j 0)).key := fun j hj => getD_key (by omega)
  have hno : ∀ i : Nat, i < 5 → tlt (tup (as.getD (i + 1) 0)) (tup (as.getD (i / 2) 0)) = false := fun i hi => by
    have z := hpk i hi
    rw [hkg _ (by omega), hkg _ (by omega)] at z
    rw [show tlt (tup (as.getD (i + 1) 0)) (tup (as.getD (i / 2) 0)) = _ from klt_code (hbd _ (memD (by omega))) (hbd _ (memD (by omega)))]
    exact decide_eq_false (by omega)
  refine D_execs_consA ?_
  try k_fold
  tb_start
  refine LCt.ListComp_T (F₀ := F1) (by rfl) (by decide) (by rfl) (by decide) (by rfl) ?_
  tb_start
  refine range2_rows F1 N0 ?_
  intro h2 tk2 ra2 rb2 rc2 R2 F2 N2 _
  tb_start
  clear F1 N0
  refine LCt.CompSrcT.range (n := 5) rfl F2 N2 R2 (by decide) (by decide) (by decide) fun g3 => ?_
  refine restT_false trivial ?_ ?_
  · unfold LCg.FinE
    intro D h7 tk7 F7 N7 off7
    tb_start
    rename Fr _ _ _ _ => F8
    rename News _ _ _ _ => N8
    refine ne_T (as := []) (bs := []) (ca := 0) (cb := 0) (tup := fun _ => ⟨0, 0, 0, 0, 0, 0⟩) (tup' := fun _ => ⟨0, 0, 0, 0, 0, 0⟩) N8 (.tail _ (.head _)) (fun a ha => by cases ha) (.head _) (fun a ha => by cases ha) rfl (by simp only [units_deeper]; decide) ?_
    tb_start
    exact k _ _ _ F8 (fun p hp => N8 p (.tail _ (.tail _ hp))) rfl rfl rfl
  · rintro i hi v I oI C oC D m₂ h3 tk3 E' ⟨t3, rfl⟩ hC hx F3 N3 off ne
    have q5 : (L + 1 + 1 + 1 + 1 + 1, o5) ∈ (I, oI) :: (C, oC) :: (D, LCg.lst []) :: (L + 1 + 1 + 1 + 1 + 1, o5) :: (L + 1 + 1 + 1 + 1, o4) :: (L + 1 + 1 + 1, o3) :: (L + 1 + 1, o2) :: (L + 1, o1) :: nw := .tail _ (.tail _ (.tail _ k5))
    have qh : (hl, lstR as 6) ∈ (I, oI) :: (C, oC) :: (D, LCg.lst []) :: (L + 1 + 1 + 1 + 1 + 1, o5) :: (L + 1 + 1 + 1 + 1, o4) :: (L + 1 + 1 + 1, o3) :: (L + 1 + 1, o2) :: (L + 1, o1) :: nw := .tail _ (.tail _ (.tail _ (.tail _ (.tail _ (.tail _ (.tail _ (.tail _ khl)))))))
    tb_start
    have e1 : ((1 : Int) + (i : Int)).toNat = i + 1 := by omega
    have e2 : (((1 : Int) + (i : Int) - 1) / 2).toNat = i / 2 := by omega
    rw [e1, e2]
    refine lt_tup (x := tup (as.getD (i + 1) 0)) (y := tup (as.getD (i / 2) 0)) (N3 _ (.tail _ (.tail _ (.tail _ (.tail _ (.tail _ (.tail _ (.tail _ (.tail _ (hta _ (memD (by omega)))))))))))).1 (N3 _ (.tail _ (.tail _ (.tail _ (.tail _ (.tail _ (.tail _ (.tail _ (.tail _ (hta _ (memD (by omega)))))))))))).1 (by simp only [units_deeper]; decide) ?_
    rw [hno i hi]
    tb_start
/-! L11 -/
theorem fillFragL11 : True := by
  w_top off
  trivial
set_option maxHeartbeats 8000000 in
theorem seg11 {prog : Program} {w : World} {p : Program} {loose : List Str} {mean : ExcName → Option Value} {mg mb : Str → Option Value} {h₀ h : Heap} {L fa : Addr} {cdv : Value} {m0 : Str → Option Value} {s : Shared} {tk : Nat} {Q : Flow → Shared → Prop} {E : Value → Shared → Prop}
    {scope : Scope} {body : List Stmt} {o1 o2 o3 o4 o5 : Obj} {nw : List (Addr × Obj)} {fl tl rl dl hl rg : Addr} {d row : List UInt8} {td tla tr : Tok} {tv rv : List Value} {ct c' f g hq : Nat} {ns : List Int} {last : Int} {as told : List Addr} {tup : Addr → T3} {cn : Nat → Nat} (hs : scope = lawScope) (hb : body = lawBody.drop 11)
    (T : Top p loose mean mg mb h₀) (X : (Mine.hd.heap_39 w.params).In h₀) (F0 : Fr h₀ L h m0) (r2 : m0 (Str.ofString "factors") = some (.ref fl)) (r3 : m0 (Str.ofString "octets") = some (.bytes d.toArray td)) (r4 : m0 (Str.ofString "text") = some (.bytes row.toArray tr))
    (N0 : News h₀ L h ((L + 1 + 1 + 1 + 1 + 1, o5) :: (L + 1 + 1 + 1 + 1, o4) :: (L + 1 + 1 + 1, o3) :: (L + 1 + 1, o2) :: (L + 1, o1) :: nw)) (hoff : Off5 L nw) (d1 : o1.data = .cell (some (.ref tl))) (d2 : o2.data = .cell (some (.ref rl))) (d3 : o3.data = .cell (some (.ref dl))) (d4 : o4.data = .cell (some (.int last tla))) (d5 : o5.data = .cell (some (.ref hl)))
    (kt : (tl, listOf tv.toArray ct) ∈ nw) (hti : IntsAre tv [(f : Int), ((f * g : Nat) : Int), ((f * g * hq : Nat) : Int)]) (kr : (rl, LCg.lst rv) ∈ nw) (hri : IntsAre rv (perOf ns)) (hf : f = 2 ∨ f = 3) (hg : g = 2 ∨ g = 3) (hh : hq = 2 ∨ hq = 3) (hd : d.length = f * g * hq) (hl5 : 5 ≤ last) (hl8 : last ≤ 8)
    (k : ∀ h' tk' m' ol ov, Fr h₀ L h' m' → News h₀ L h' ((ol, LCg.lst ov) :: (L + 1 + 1 + 1 + 1 + 1, o5) :: (L + 1 + 1 + 1 + 1, o4) :: (L + 1 + 1 + 1, o3) :: (L + 1 + 1, o2) :: (L + 1, o1) :: nw) → IntsAre ov [last / (perOf ns).getD 0 0 + last / (perOf ns).getD 3 0, last / (perOf ns).getD 1 0 + last / (perOf ns).getD 4 0, last / (perOf ns).getD 2 0 + last / (perOf ns).getD 5 0] →
      m' (Str.ofString "octets") = some (.bytes d.toArray td) → m' (Str.ofString "factors") = some (.ref fl) → m' (Str.ofString "text") = some (.bytes row.toArray tr) → m' (Str.ofString "often") = some (.ref ol) → wpD (model prog w) (callerA.deeper (lawEnv lawScope L fa cdv)) (execs (lawBody.drop 12) (lawEnv lawScope L fa cdv)) Q E { s with heap := h', toks := tk' }) :
    wpD (model prog w) (callerA.deeper (lawEnv scope L fa cdv)) (execs body (lawEnv scope L fa cdv)) Q E { s with heap := h, toks := tk } := by
  conv at hs => rhs; whnf
  conv at hb => rhs; whnf
  subst hs hb
  have F1 := (fr_bind (fr_bind (fr_bind F0 r2) (x := Str.ofString "octets") (v := .bytes d.toArray td) (by rw [if_neg (by decide)]; exact r3)) (x := Str.ofString "text") (v := .bytes row.toArray tr) (by rw [if_neg (by decide), if_neg (by decide)]; exact r4))
  clear F0
  have k1 : (L + 1, o1) ∈ (L + 1 + 1 + 1 + 1 + 1, o5) :: (L + 1 + 1 + 1 + 1, o4) :: (L + 1 + 1 + 1, o3) :: (L + 1 + 1, o2) :: (L + 1, o1) :: nw := .tail _ (.tail _ (.tail _ (.tail _ (.head _))))
  have k2 : (L + 1 + 1, o2) ∈ (L + 1 + 1 + 1 + 1 + 1, o5) :: (L + 1 + 1 + 1 + 1, o4) :: (L + 1 + 1 + 1, o3) :: (L + 1 + 1, o2) :: (L + 1, o1) :: nw := .tail _ (.tail _ (.tail _ (.head _)))
  have k3 : (L + 1 + 1 + 1, o3) ∈ (L + 1 + 1 + 1 + 1 + 1, o5) :: (L + 1 + 1 + 1 + 1, o4) :: (L + 1 + 1 + 1, o3) :: (L + 1 + 1, o2) :: (L + 1, o1) :: nw := .tail _ (.tail _ (.head _))
  have k4 : (L + 1 + 1 + 1 + 1, o4) ∈ (L + 1 + 1 + 1 + 1 + 1, o5) :: (L + 1 + 1 + 1 + 1, o4) :: (L + 1 + 1 + 1, o3) :: (L + 1 + 1, o2) :: (L + 1, o1) :: nw := .tail _ (.head _)
  have k5 : (L + 1 + 1 + 1 + 1 + 1, o5) ∈ (L + 1 + 1 + 1 + 1 + 1, o5) :: (L + 1 + 1 + 1 + 1, o4) :: (L + 1 + 1 + 1, o3) :: (L + 1 + 1, o2) :: (L + 1, o1) :: nw := .head _
  refine D_execs_consA ?_
  try k_fold
  refine LCg.Assign_ListComp_U (F₀ := F1) (by rfl) (by with_unfolding_all rfl) (by with_unfolding_all rfl) (by decide) (by rfl) (by decide) (by rfl) (by rfl) (by rfl) ?_
  tb_start
  refine range1_rows F1 N0 ?_
  intro h2 tk2 ra2 rb2 rc2 R2 F2 N2 _
  tb_start
  clear F1 N0
  refine LCg.CompSrc.range (n := 3) rfl F2 N2 R2 (by decide) (by decide) (by decide) fun g3 => ?_
  refine compRest_ind (fun i ys nx => nx = (L + 1 + 1 + 1 + 1 + 1, o5) :: (L + 1 + 1 + 1 + 1, o4) :: (L + 1 + 1 + 1, o3) :: (L + 1 + 1, o2) :: (L + 1, o1) :: nw ∧ IntsAre ys ((List.range i).map fun j => last / (perOf ns).getD j 0 + last / (perOf ns).getD (j + 3) 0)) ⟨rfl, .nil⟩ ?_ ?_
  · rintro i ys nx hi ⟨rfl, hys⟩ v I oI C oC D m₂ h6 tk6 E' ⟨t7, rfl⟩ hC hx F6 N6 off ne
    have q2 : (L + 1 + 1, o2) ∈ (I, oI) :: (C, oC) :: (D, LCg.lst ys) :: (L + 1 + 1 + 1 + 1 + 1, o5) :: (L + 1 + 1 + 1 + 1, o4) :: (L + 1 + 1 + 1, o3) :: (L + 1 + 1, o2) :: (L + 1, o1) :: nw := .tail _ (.tail _ (.tail _ k2))
    have q4 : (L + 1 + 1 + 1 + 1, o4) ∈ (I, oI) :: (C, oC) :: (D, LCg.lst ys) :: (L + 1 + 1 + 1 + 1 + 1, o5) :: (L + 1 + 1 + 1 + 1, o4) :: (L + 1 + 1 + 1, o3) :: (L + 1 + 1, o2) :: (L + 1, o1) :: nw := .tail _ (.tail _ (.tail _ k4))
    have qr : (rl, LCg.lst rv) ∈ (I, oI) :: (C, oC) :: (D, LCg.lst ys) :: (L + 1 + 1 + 1 + 1 + 1, o5) :: (L + 1 + 1 + 1 + 1, o4) :: (L + 1 + 1 + 1, o3) :: (L + 1 + 1, o2) :: (L + 1, o1) :: nw := .tail _ (.tail _ (.tail _ (.tail _ (.tail _ (.tail _ (.tail _ (.tail _ kr)))))))
    have hpl := perOf_len ns
    have e0 : ((0 : Int) + (i : Int)).toNat = i := by omega
    have e3 : ((0 : Int) + (i : Int) + 3).toNat = i + 3 := by omega
    have hpi : (perOf ns).getD ((0 : Int) + (i : Int)).toNat 0 = 2 ∨ (perOf ns).getD ((0 : Int) + (i : Int)).toNat 0 = 3 ∨ (perOf ns).getD ((0 : Int) + (i : Int)).toNat 0 = 4 ∨ (perOf ns).getD ((0 : Int) + (i : Int)).toNat 0 = 5 := by rw [e0]; exact perOf_is ns (by omega)
    have hp3 : (perOf ns).getD ((0 : Int) + (i : Int) + 3).toNat 0 = 2 ∨ (perOf ns).getD ((0 : Int) + (i : Int) + 3).toNat 0 = 3 ∨ (perOf ns).getD ((0 : Int) + (i : Int) + 3).toNat 0 = 4 ∨ (perOf ns).getD ((0 : Int) + (i : Int) + 3).toNat 0 = 5 := by rw [e3]; exact perOf_is ns (by omega)
    tb_start
    refine LCg.CompEnd.intro F6 N6 _ (fun p hp => hp) off trivial ⟨rfl, ?_⟩
    rw [List.range_succ, List.map_append, e0, e3]
    exact hys.append (.cons _ _ .nil)
  · rintro ys nx ⟨rfl, hys⟩
    unfold LCg.FinA
    intro D h7 tk7 F7 N7 off7
    exact k _ _ _ D ys F7 N7 hys rfl rfl rfl rfl
/-! L12 -/
theorem fillFragL12 : True := by
  w_top off
  trivial
theorem row_is {d : List UInt8} {f g h : Nat} {cn : Nat → Nat} {last : Int} {ns : List Int} (hcn : ∀ k, k < 6 → (cn k : Int) = last / (perOf ns).getD k 0 + 1) :
    rowOf d f g h cn = mirL d f g h (decide ((last / (perOf ns).getD 0 0 + last / (perOf ns).getD 3 0 + (last / (perOf ns).getD 1 0 + last / (perOf ns).getD 4 0) + (last / (perOf ns).getD 2 0 + last / (perOf ns).getD 5 0)) % 2 = 1)) (decide ((last / (perOf ns).getD 1 0 + last / (perOf ns).getD 4 0 + (last / (perOf ns).getD 2 0 + last / (perOf ns).getD 5 0)) % 2 = 1)) (decide ((last / (perOf ns).getD 2 0 + last / (perOf ns).getD 5 0) % 2 = 1)) := by
  have c0 := hcn 0 (by (first | lia | omega))
  have c1 := hcn 1 (by (first | lia | omega))
  have c2 := hcn 2 (by (first | lia | omega))
  have c3 := hcn 3 (by (first | lia | omega))
  have c4 := hcn 4 (by (first | lia | omega))
  have c5 := hcn 5 (by (first | lia | omega))
  generalize last / (perOf ns).getD 0 0 = a0 at *
  generalize last / (perOf ns).getD 1 0 = a1 at *
  generalize last / (perOf ns).getD 2 0 = a2 at *
  generalize last / (perOf ns).getD 3 0 = a3 at *
  generalize last / (perOf ns).getD 4 0 = a4 at *
  generalize last / (perOf ns).getD 5 0 = a5 at *
  unfold rowOf par
  simp only [Nat.reduceAdd]
  congr 1
  · rw [decide_eq_decide]; (first | lia | omega)
  · rw [decide_eq_decide]; (first | lia | omega)
  · rw [decide_eq_decide]; (first | lia | omega)
set_option maxHeartbeats 8000000 in
theorem seg12 {prog : Program} {w : World} {p : Program} {loose : List Str} {mean : ExcName → Option Value} {mg mb : Str → Option Value} {h₀ h : Heap} {L fa : Addr} {cdv : Value} {m0 : Str → Option Value} {s : Shared} {tk : Nat} {Q : Flow → Shared → Prop} {E : Value → Shared → Prop}
    {scope : Scope} {body : List Stmt} {o1 o2 o3 o4 o5 : Obj} {nw : List (Addr × Obj)} {fl ol : Addr} {d row : List UInt8} {td tr u1 u2 u3 : Tok} {ov : List Value} {cf f g hq : Nat} {ns : List Int} {last : Int} {cn : Nat → Nat} (hs : scope = lawScope) (hb : body = lawBody.drop 12)
    (T : Top p loose mean mg mb h₀) (X : (Mine.hd.heap_39 w.params).In h₀) (F0 : Fr h₀ L h m0) (r2 : m0 (Str.ofString "factors") = some (.ref fl)) (r3 : m0 (Str.ofString "octets") = some (.bytes d.toArray td)) (r4 : m0 (Str.ofString "text") = some (.bytes row.toArray tr)) (r8 : m0 (Str.ofString "often") = some (.ref ol))
    (N0 : News h₀ L h nw) (kf : (fl, listOf #[.int (f : Nat) u1, .int (g : Nat) u2, .int (hq : Nat) u3] cf) ∈ nw) (ko : (ol, LCg.lst ov) ∈ nw) (hoi : IntsAre ov [last / (perOf ns).getD 0 0 + last / (perOf ns).getD 3 0, last / (perOf ns).getD 1 0 + last / (perOf ns).getD 4 0, last / (perOf ns).getD 2 0 + last / (perOf ns).getD 5 0])
    (hf : f = 2 ∨ f = 3) (hg : g = 2 ∨ g = 3) (hh : hq = 2 ∨ hq = 3) (hd : d.length = f * g * hq) (hcn : ∀ k, k < 6 → (cn k : Int) = last / (perOf ns).getD k 0 + 1) (hrow : row = rowOf d f g hq cn)
    (k : ∀ h' tk' m' nx, Fr h₀ L h' m' → News h₀ L h' nx → Q (.ret (.bool true)) { s with heap := h', toks := tk' }) :
    wpD (model prog w) (callerA.deeper (lawEnv scope L fa cdv)) (execs body (lawEnv scope L fa cdv)) Q E { s with heap := h, toks := tk } := by
  conv at hs => rhs; whnf
  conv at hb => rhs; whnf
  subst hs hb
  have F1 := (fr_bind (fr_bind (fr_bind (fr_bind F0 r2) (x := Str.ofString "octets") (v := .bytes d.toArray td) (by rw [if_neg (by decide)]; exact r3)) (x := Str.ofString "text") (v := .bytes row.toArray tr) (by rw [if_neg (by decide), if_neg (by decide)]; exact r4)) (x := Str.ofString "often") (v := .ref ol) (by rw [if_neg (by decide), if_neg (by decide), if_neg (by decide)]; exact r8))
  clear F0
  refine D_execs_consA ?_
  try k_fold
  tb_start
  refine mirrored_c (f := f) (g := g) (h := hq) (c1 := cf) (c2 := ov.length) (below_caller h₀) F1 X N0 T (deeper_frames rfl) rfl rfl rfl (by simp only [depth_deeper]; decide) (by simp only [units_deeper]; decide) kf (show (ol, listOf ov.toArray ov.length) ∈ nw from ko) hoi (by (first | lia | omega)) (by (first | lia | omega)) (by (first | lia | omega)) (by (first | lia | omega)) (by (first | lia | omega)) (by (first | lia | omega)) (by rw [hd, Nat.mul_assoc]) ?_
  intro h5 tk5 t5 F5 N5
  rw [← row_is hcn, ← hrow]
  refine eq_bytes ?_
  rw [show (row.toArray.toList == row.toArray.toList) = true from beq_self_eq_true _]
  exact k _ _ _ _ F5 N5
/-! L13 -/
theorem f_is (n : Nat) : fOf n = 2 ∨ fOf n = 3 := by unfold fOf; (first | lia | omega)
theorem g_is (n : Nat) : gOf n = 2 ∨ gOf n = 3 := by unfold gOf; (first | lia | omega)
theorem h_is (n : Nat) : hOf n = 2 ∨ hOf n = 3 := by unfold hOf; (first | lia | omega)
theorem fgh_bd {f g h : Nat} (hf : f = 2 ∨ f = 3) (hg : g = 2 ∨ g = 3) (hh : h = 2 ∨ h = 3) : 8 ≤ f * g * h ∧ f * g * h ≤ 27 := by
  rcases hf with rfl | rfl <;> rcases hg with rfl | rfl <;> rcases hh with rfl | rfl <;> decide
theorem turns_are (f g h : Nat) (a b c : Tok) : IntsAre [.int (f : Nat) a, .int ((f : Nat) * (g : Nat) : Int) b, .int ((f : Nat) * (g : Nat) * (h : Nat) : Int) c] [(f : Int), ((f * g : Nat) : Int), ((f * g * h : Nat) : Int)] := by
  rw [Int.natCast_mul, Int.natCast_mul, Int.natCast_mul]
  exact .cons _ _ (.cons _ _ (.cons _ _ .nil))
theorem bells_congr {p ws : Nat → Int} {c c' : Nat → Nat} (h : ∀ k, k < 6 → c k = c' k) : bells p ws c = bells p ws c' := by
  unfold bells
  refine List.map_congr_left fun k hk => ?_
  unfold bell
  rw [h k (List.mem_range.mp hk)]
set_option maxHeartbeats 8000000 in
/-- law's body, from its five empty cells to the answer -/
theorem law_body {prog : Program} {w : World} {p : Program} {loose : List Str} {mean : ExcName → Option Value} {mg mb : Str → Option Value} {h₀ h : Heap} {L fa : Addr} {cdv : Value} {m0 : Str → Option Value} {s : Shared} {tk : Nat} {Q : Flow → Shared → Prop} {E : Value → Shared → Prop}
    {scope : Scope} {body : List Stmt} {sl : Addr} {sv : List Value} {ns : List Int} {o1 o2 o3 o4 o5 : Obj} (hs : scope = lawScope) (hb : body = lawBody.drop 0)
    (T : Top p loose mean mg mb h₀) (X : (Mine.hd.heap_39 w.params).In h₀) (F0 : Fr h₀ L h m0) (r1 : m0 (Str.ofString "script") = some (.ref sl)) (hsl : h₀.IsList sl sv.toArray) (hsi : IntsAre sv ns) (hnl : ns.length ≤ 63)
    (N0 : News h₀ L h [(L + 1 + 1 + 1 + 1 + 1, o5), (L + 1 + 1 + 1 + 1, o4), (L + 1 + 1 + 1, o3), (L + 1 + 1, o2), (L + 1, o1)]) (d1 : o1.data = .cell none) (d2 : o2.data = .cell none) (d3 : o3.data = .cell none) (d4 : o4.data = .cell none) (d5 : o5.data = .cell none)
    (k : ∀ h' tk' m' nx, Fr h₀ L h' m' → News h₀ L h' nx → Q (.ret (.bool true)) { s with heap := h', toks := tk' }) :
    wpD (model prog w) (callerA.deeper (lawEnv scope L fa cdv)) (execs body (lawEnv scope L fa cdv)) Q E { s with heap := h, toks := tk } := by
  refine seg01 hs hb T X F0 r1 hsl hsi hnl N0 d1 ?_
  clear F0 N0 r1 d1
  intro h1 tk1 m1 fl tl o1' a b c d e f F1 N1 lt1 lt2 d1 r1 r2
  have hf := f_is ns.length
  have hg := g_is ns.length
  have hh := h_is ns.length
  have hti := turns_are (fOf ns.length) (gOf ns.length) (hOf ns.length) a b c
  have N1' : News h₀ L h1 ((L + 1 + 1 + 1 + 1 + 1, o5) :: (L + 1 + 1 + 1 + 1, o4) :: (L + 1 + 1 + 1, o3) :: (L + 1 + 1, o2) :: (L + 1, o1') :: [(tl, TL ns.length a b c), (fl, FL ns.length d e f)]) := fun p hp => N1 p (by
    simp only [List.mem_cons, List.not_mem_nil, or_false] at hp ⊢
    rcases hp with hp | hp | hp | hp | hp | hp | hp <;> simp [hp])
  have off1 : Off5 L [(tl, TL ns.length a b c), (fl, FL ns.length d e f)] := by
    have z1 : @LT.lt Nat _ fl tl := lt1
    have z2 : @LT.lt Nat _ (L + 1 + 1 + 1 + 1 + 1) fl := lt2
    refine Off5.cons (Off5.cons (fun p hp => nomatch hp) ⟨?_, ?_, ?_, ?_, ?_⟩) ⟨?_, ?_, ?_, ?_, ?_⟩ <;> exact adr_ne (by (first | lia | omega))
  have kt1 : (tl, listOf [Value.int (fOf ns.length : Nat) a, .int ((fOf ns.length : Nat) * (gOf ns.length : Nat) : Int) b, .int ((fOf ns.length : Nat) * (gOf ns.length : Nat) * (hOf ns.length : Nat) : Int) c].toArray 0) ∈ [(tl, TL ns.length a b c), (fl, FL ns.length d e f)] := .head _
  have kf1 : (fl, listOf #[.int (fOf ns.length : Nat) d, .int (gOf ns.length : Nat) e, .int (hOf ns.length : Nat) f] 0) ∈ [(tl, TL ns.length a b c), (fl, FL ns.length d e f)] := .tail _ (.head _)
  clear N1 lt1 lt2
  generalize [(tl, TL ns.length a b c), (fl, FL ns.length d e f)] = nw1 at *
  generalize [Value.int (fOf ns.length : Nat) a, .int ((fOf ns.length : Nat) * (gOf ns.length : Nat) : Int) b, .int ((fOf ns.length : Nat) * (gOf ns.length : Nat) * (hOf ns.length : Nat) : Int) c] = tv at *
  generalize fOf ns.length = ff at *
  generalize gOf ns.length = gg at *
  generalize hOf ns.length = hh3 at *
  have h827 := fgh_bd hf hg hh
  refine seg2 rfl rfl T X F1 r1 r2 hsl hsi hnl N1' off1 d2 ?_
  clear F1 N1' r1 r2 d2
  intro h2 tk2 m2 rl o2' rv F2 N2 off2 _ d2 hri r1 r2
  refine seg3 rfl rfl T X F2 r1 r2 hsl hsi hnl N2 off2 d1 d3 (.tail _ kt1) hti h827.1 h827.2 ?_
  clear F2 N2 r1 r2 d3
  intro h3 tk3 m3 dl o3' dv ds F3 N3 off3 d3 hdi hdl r1 r2
  refine seg4 rfl rfl T X F3 r1 r2 N3 d1 d3 (.tail _ (.tail _ kt1)) hti h827.2 (.head _) hdi hdl ?_
  clear F3 N3 r1 r2
  intro h4 tk4 m4 d8 td F4 N4 hd r3 r1 r2
  refine seg5 rfl rfl T X F4 r1 r2 r3 hsl hsi hnl N4 off3 d4 ?_
  clear F4 N4 r1 r2 r3 d4
  intro h5 tk5 m5 o4' last tla F5 N5 hl5 hl8 d4 r3 r2
  refine seg6 rfl rfl T X F5 r2 r3 N5 off3 d1 d2 d3 d4 d5 (.tail _ (.tail _ kt1)) hti (.tail _ (.head _)) hri hf hg hh hd hl5 hl8 ?_
  clear F5 N5 r2 r3 d5
  intro h6 tk6 m6 o5' nx6 hl rg as told tup c' row tr cn F6 N6 off6 sub6 krg khl hta htt has6 R hrow hcn d5 r3 r2 r4 r5
  have kt6 := sub6 _ (.tail _ (.tail _ kt1))
  have kf6 := sub6 _ (.tail _ (.tail _ kf1))
  have kr6 := sub6 _ (.tail _ (.head _))
  refine seg7 (c' := c') rfl rfl T X F6 r2 r3 r4 r5 N6 off6 d1 d2 d3 d4 d5 kt6 hti kr6 hri hf hg hh hd hl5 hl8 R hcn ?_
  clear F6 N6 r2 r3 r4 r5
  intro h7 tk7 m7 nx7 du us cu tupU F7 N7 off7 sub7 kdu htu heq r3 r2 r4 r5 r6
  refine seg8 (as := as) (told := told) (tup := tup) (cn := cn) (c' := c') rfl rfl T X F7 r2 r3 r4 r5 N7 off7 d1 d2 d3 d4 d5 (sub7 _ kt6) hti (sub7 _ kr6) hri hf hg hh hd hl5 hl8 r6 ?_
  clear F7 N7 r2 r3 r4 r5 r6
  intro h8 tk8 m8 nx8 ah bs cb tupB F8 N8 off8 sub8 kah htb hbp hbi r3 r2 r4 r5 r6 r7
  have hcc : ∀ k, k < 6 → cnOf ns last k = cn k := fun k hk => by
    have e1 := cnOf_is (ns := ns) hl5 hk
    have e2 := hcn k hk
    (first | lia | omega)
  rw [bells_congr hcc] at hbp
  have sub68 : ∀ p ∈ nx6, p ∈ nx8 := fun p hp => sub8 p (sub7 p hp)
  refine seg9 rfl rfl T X F8 r2 r3 r4 r5 N8 off8 d1 d2 d3 d4 d5 (sub68 _ kt6) hti (sub68 _ kr6) hri hf hg hh hd hl5 hl8 r6 r7 (sub68 _ krg) (sub68 _ khl) (hta.mono sub68) (htt.mono sub68) has6 (sub8 _ kdu) (htu.mono sub8) heq kah htb hbp hbi R.heap ?_
  clear F8 N8 r2 r3 r4 r5 r6 r7
  intro h9 tk9 m9 F9 N9 r3 r2 r4
  refine seg10 (rg := rg) (told := told) (c' := c') rfl rfl T X F9 r2 r3 r4 N9 off8 d1 d2 d3 d4 d5 (sub68 _ kt6) hti (sub68 _ kr6) hri hf hg hh hd hl5 hl8 (sub68 _ khl) (hta.mono sub68) has6 R.heap R.ord ?_
  clear F9 N9 r2 r3 r4
  intro h10 tk10 m10 F10 N10 r3 r2 r4
  refine seg11 (rg := rg) (told := told) (as := as) (tup := tup) (cn := cn) (c' := c') rfl rfl T X F10 r2 r3 r4 N10 off8 d1 d2 d3 d4 d5 (sub68 _ kt6) hti (sub68 _ kr6) hri hf hg hh hd hl5 hl8 ?_
  clear F10 N10 r2 r3 r4
  intro h11 tk11 m11 ol ov F11 N11 hoi r3 r2 r4 r8
  exact seg12 (o1 := o1') (o2 := o2') (o3 := o3') (o4 := o4') (o5 := o5') rfl rfl T X F11 r2 r3 r4 r8 N11 (.tail _ (.tail _ (.tail _ (.tail _ (.tail _ (.tail _ (sub68 _ kf6))))))) (.head _) hoi hf hg hh hd hcn hrow k
/-! L14 -/
theorem fillFragL14 : True := by
  w_top off
  trivial
/-- into a def with cells, from the claim's caller -/
theorem call_cellsD {prog : Program} {w : World} {A : Around} {R : Result → Shared → Prop} {s : Shared} {name : Str} {params : Arguments} {body : List Stmt} {scope : Scope}
    {pm cd doc : Value} {a : Addr} {o : Obj} {args : List Value} {binds : List (Str × Value)}
    (hroom : A.depth < recursionLimit) (ho : s.heap.get? a = some o) (hdata : o.data = .func (Calls.docDef name params body scope pm cd doc)) (hlim : s.heap.NoLimit) (hcd : s.heap.CodeRec cd name)
    (hbind : bindArgs (Calls.docDef name params body scope pm cd doc) ⟨args, []⟩ = pure binds)
    (hkind : ∀ x ∈ binds, scope.names.lookup x.1 = some .local ∨ (scope.names.lookup x.1 = some .cell ∧ ((cellsFrom (s.heap.objs.size + 1) scope.names []).lookup x.1).isSome = true))
    (hnd : ((cellsFrom 0 scope.names []).map (·.1)).Nodup)
    (h : ∀ h₁ tk cells, Fr s.heap s.heap.objs.size h₁ (bindL (envOfC name scope s.heap.objs.size a cd).kindOf binds fun _ => none) → News s.heap s.heap.objs.size h₁ cells →
      CellsAre (bindC (envOfC name scope s.heap.objs.size a cd).kindOf binds fun _ => none) (cellsFrom (s.heap.objs.size + 1) scope.names []) cells →
      wpD (model prog w) (A.deeper (envOfC name scope s.heap.objs.size a cd)) (execs body (envOfC name scope s.heap.objs.size a cd))
        (fun f s' => R (.ok (.ret (match f with | .ret v => v | _ => .none))) s')
        (fun e s' => wpAny (model prog w) (A.deeper (envOfC name scope s.heap.objs.size a cd)) (leaving (envOfC name scope s.heap.objs.size a cd) e)
          (fun _ s'' => R (.error e) s'') (fun e' s'' => R (.error e') s'') s')
        { s with heap := h₁, toks := tk })
    (hco : scope.isCoroutine = false := by rfl) (hgen : scope.isGenerator = false := by rfl) (hk : scope.kind = .function := by rfl) :
    codeD (model prog w) A (.call (.ref a) ⟨args, []⟩) R s := by
  refine codeD_call_function (fd := Calls.docDef name params body scope pm cd doc) hroom ho hdata hco hgen rfl hcd (wpAny_of_eq hbind ?_)
  refine wpAny_newFunctionEnv_cells hk hkind fun env' he s' x => ?_
  subst he
  refine ⟨hlim.keeps x.toInCall.keep, codeD_func ?_⟩
  obtain ⟨h₁, tk, rfl, _⟩ := x.done
  obtain ⟨cells, NC, Y⟩ := Cl.news (h₀ := s.heap) (Nat.le_refl _) fun n c hm => ⟨x.cell n c (lookup_of_mem_nodup (cellsFrom_names scope.names 0 (s.heap.objs.size + 1) [] [] rfl ▸ hnd) hm), x.above n c hm⟩
  exact h h₁ tk cells ⟨x.toInCall.ns, x.toInCall.keep, Nat.le_refl _⟩ NC Y
set_option maxHeartbeats 8000000 in
theorem law_holds : PySem.Challenge.rw_ny0054_01.Holds := by
  refine Mine.hd ?_
  intro w s₀ s₁ mg mb G Y fa o pm cd doc dV kV ho hd hcd hD hmg hg args vals as hpre hlay hrd hwl hlo
  have KX := kIn_of Y
  have X := (Ground.X G).1
  have V := (Ground.X G).2
  refine Ground.open G ?_
  intro T B D TE TW
  try (refine guard_noD D (by decide +kernel) ?_; clear D)
  clear hmg
  wrow_args hpre hlay hrd hwl hlo
  rename_i ns _ _ _ _ _ _ _ sl sv _ hsl _ _ _ hsi _ hlen _
  have he := Dflts.none hD rfl
  subst he
  have he := Dflts.noKw hD
  subst he
  have hnl : ns.length ≤ 63 := by omega
  refine wpD_call ?_
  refine call_cellsD (by decide) ho (fd_plain hd) (Top.nolimit T) hcd rfl (kinds_of (by kinds_ok)) (by decide) fun h₁ tk₁ cells F N0 X0 => ?_
  clear hd hD hcd
  cells_open X0
  dsimp only at F N0 ⊢
  have K0 := below_caller (Top.heap T)
  clear G Y V
  refine law_body (sl := sl) (sv := sv) (ns := ns) (by rfl) (by rfl) T KX F rfl hsl hsi hnl N0 (by assumption) (by assumption) (by assumption) (by assumption) (by assumption) ?_
  intro h' tk' m' nx F' N'
  refine GoodW.toG (goodW_bool F' hg (raisesW_false ?_) ?_)
  · wrow_none_raised
  · wrow_post
end Mine
theorem PySem.Challenge.cw_ny0054_01_holds : PySem.Challenge.rw_ny0054_01.Holds :=
  Mine.law_holds
